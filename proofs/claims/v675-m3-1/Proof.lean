import JvmDerived
import JvmDerived.Pilot.@@N@@Statement
import JvmDerived.Pilot.@@N@@Code
set_option linter.unusedVariables false
set_option linter.unusedSimpArgs false
namespace Jvm.Pilot.@@N@@
open Jvm Jvm.ClassFile Sem Op Lib Jvm.Free Jvm.Stand Jvm.LawKit Jvm.RoadKit Bundle Jvm.Pilot.@@N@@.Jvm.D
section OwnKit
variable {p : Program} {l : Launch} {e : Env} {R : Room} {s : State} {m : MethodId} {args : Array Value} {below : List Frame} {meth : Method} {c : Code} {T : State} {locs : List Loc} {cells slots : Nat} {Z : State} {h h' : Heap} {a b : Addr} {ty : FieldType} {n : Nat} {f f' : Nat → Value} {sl : Nat} {v : Value} {ws : List Addr}
theorem own_dia {t : State} {B F : JFrame} (hh : Steps p.tables e below (T.setTop F) t → Steps p.tables e below (T.setTop B) t) (k : Steps p.tables e below (T.setTop F) t) : Steps p.tables e below (T.setTop B) t := hh k
/-- the place j lies in an array of n places -/
abbrev own_in (j : Int32) (n : Nat) : Prop := 0 ≤ j.toInt ∧ j.toInt < n
theorem own_in_nat {j : Int32} (hj : own_in j n) : j.toNatClampNeg < n := by simp only [Int32.toNatClampNeg]; omega
theorem own_in_arr {cl : Cell} {j : Int32} (hs : cl.slots.size = n) (hj : own_in j n) : ¬ (j < 0 ∨ cl.slots.size ≤ j.toNatClampNeg) := by
  have := own_in_nat hj
  have k0 : (0 : Int32).toInt = 0 := by decide
  rw [Int32.lt_iff_toInt_lt, hs, k0]; omega
/-- an array: its kind, its length, and what each place holds -/
def AF (Z : State) (h : Heap) (a : Addr) (ty : FieldType) (n : Nat) (f : Nat → Value) : Prop := ∃ c : Cell, Arr Z h a c ty ∧ c.slots.size = n ∧ n < 2147483648 ∧ ∀ j, j < n → c.slots[j]? = some (f j)
theorem AF.lt (F : AF Z h a ty n f) : a < h.size := by obtain ⟨c, A, -⟩ := F; exact A.lt
theorem AF.small (F : AF Z h a ty n f) : n < 2147483648 := by obtain ⟨c, -, -, q, -⟩ := F; exact q
theorem AF.ext (F : AF Z h a ty n f) (E : Ext h h') : AF Z h' a ty n f := by obtain ⟨c, A, r⟩ := F; exact ⟨c, A.ext E, r⟩
theorem AF.other (F : AF Z h b ty n f) (W : Wr h h' a sl v) (q : b ≠ a) : AF Z h' b ty n f := by obtain ⟨c, A, r⟩ := F; exact ⟨c, A.other W q, r⟩
theorem AF.keep (F : AF Z h a ty n f) (K : Keep h h' ws) (q : a ∉ ws) : AF Z h' a ty n f := by obtain ⟨c, A, r⟩ := F; exact ⟨c, ⟨K.2.1 a c A.1 q, A.2⟩, r⟩
theorem AF.cong (F : AF Z h a ty n f) (q : ∀ j, j < n → f j = f' j) : AF Z h a ty n f' := by obtain ⟨c, A, r1, r2, r3⟩ := F; exact ⟨c, A, r1, r2, fun j hj => by rw [← q j hj]; exact r3 j hj⟩
theorem AF.new {k : ClassId} {z : Int32} (A : Arr Z h a (newA k ty z) ty) (q : ¬ z < 0) : AF Z h a ty z.toNatClampNeg (fun _ => defaultValue ty) := ⟨_, A, sz_new _ _ _, (back32 q).2, fun j hj => by simp [newA, hj]⟩
theorem AF.set (F : AF Z h a ty n f) {k : Nat} (W : Wr h h' a k v) : AF Z h' a ty n (fun i => if i = k then v else f i) := by
  obtain ⟨c, A, r1, r2, r3⟩ := F
  refine ⟨_, Arr.same W A, by rw [sz_set]; exact r1, r2, fun j hj => ?_⟩
  obtain ⟨cell, h1, -, h3, -⟩ := W
  cases h1.symm.trans A.1
  by_cases q : j = k
  · subst q; simp [Cell.setSlot, h3]
  · have q' : ¬ k = j := fun z => q z.symm
    simp only [Cell.setSlot, Array.getElem?_setIfInBounds, if_neg q, if_neg q']; exact r3 j hj
theorem own_updI {g fN : Nat → Int32} {x : Int32} {J k : Nat} (hk : k = J) (hf : fN = fun i => if i = J then x else g i) : ∀ j, j < n → (if j = k then Value.int x else Value.int (g j)) = Value.int (fN j) := by
  subst hk hf; intro j _; by_cases q : j = k <;> simp [q]
theorem own_updJ {g fN : Nat → Int64} {x : Int64} {J k : Nat} (hk : k = J) (hf : fN = fun i => if i = J then x else g i) : ∀ j, j < n → (if j = k then Value.long x else Value.long (g j)) = Value.long (fN j) := by
  subst hk hf; intro j _; by_cases q : j = k <;> simp [q]
theorem AF.ldI (X : Stand p l e R s m args below meth c T locs cells slots) (hx : p.tables.exec = Jvm.exec) (hZ : Z.Warmed39 s.vm) (eT : T.heap = h) {f : Nat → Int32} (A : AF Z h a .int n (fun j => .int (f j))) {j : Int32} (hj : own_in j n) {g : JFrame} (hg : g.method = m) {rest : List Value} (hs : g.stack = .int j :: .ref a :: rest) (hd : decode c.code g.pc = .ok (.iaload, 1)) (target : State)
    (k : Steps p.tables e below (T.setTop { g with pc := g.pc + 1, stack := .int (f j.toNatClampNeg) :: rest }) target) : Steps p.tables e below (T.setTop g) target := by
  obtain ⟨cl, A, r1, r2, r3⟩ := A
  exact X.iaload hx (j := j) (v := .int (f j.toNatClampNeg)) (by rw [eT]; exact A.1) (State.isArrayOf_alike hZ.alike A.2.1) A.2.2 (own_in_arr r1 hj) (r3 _ (own_in_nat hj)) hg hs hd _ k
theorem AF.ldJ (X : Stand p l e R s m args below meth c T locs cells slots) (hx : p.tables.exec = Jvm.exec) (hZ : Z.Warmed39 s.vm) (eT : T.heap = h) {f : Nat → Int64} (A : AF Z h a .long n (fun j => .long (f j))) {j : Int32} (hj : own_in j n) {g : JFrame} (hg : g.method = m) {rest : List Value} (hs : g.stack = .int j :: .ref a :: rest) (hd : decode c.code g.pc = .ok (.laload, 1)) (target : State)
    (k : Steps p.tables e below (T.setTop { g with pc := g.pc + 1, stack := .long (f j.toNatClampNeg) :: rest }) target) : Steps p.tables e below (T.setTop g) target := by
  obtain ⟨cl, A, r1, r2, r3⟩ := A
  exact X.laload hx (j := j) (v := .long (f j.toNatClampNeg)) (by rw [eT]; exact A.1) (State.isArrayOf_alike hZ.alike A.2.1) A.2.2 (own_in_arr r1 hj) (r3 _ (own_in_nat hj)) hg hs hd _ k
theorem AF.ldB (X : Stand p l e R s m args below meth c T locs cells slots) (hx : p.tables.exec = Jvm.exec) (hZ : Z.Warmed39 s.vm) (eT : T.heap = h) {f : Nat → Int32} (A : AF Z h a .byte n (fun j => .int (f j))) {j : Int32} (hj : own_in j n) {g : JFrame} (hg : g.method = m) {rest : List Value} (hs : g.stack = .int j :: .ref a :: rest) (hd : decode c.code g.pc = .ok (.baload, 1)) (target : State)
    (k : Steps p.tables e below (T.setTop { g with pc := g.pc + 1, stack := .int (f j.toNatClampNeg) :: rest }) target) : Steps p.tables e below (T.setTop g) target := by
  obtain ⟨cl, A, r1, r2, r3⟩ := A
  exact X.baloadBytes hx (j := j) (v := .int (f j.toNatClampNeg)) (by rw [eT]; exact A.1) (State.isArrayOf_alike hZ.alike A.2.1) A.2.2 (own_in_arr r1 hj) (r3 _ (own_in_nat hj)) hg hs hd _ k
theorem AF.len (X : Stand p l e R s m args below meth c T locs cells slots) (hx : p.tables.exec = Jvm.exec) (hZ : Z.Warmed39 s.vm) (eT : T.heap = h) (A : AF Z h a ty n f) {g : JFrame} (hg : g.method = m) {rest : List Value} (hs : g.stack = .ref a :: rest) (hd : decode c.code g.pc = .ok (.arraylength, 1)) (target : State)
    (k : Steps p.tables e below (T.setTop { g with pc := g.pc + 1, stack := .int (Int32.ofNat n) :: rest }) target) : Steps p.tables e below (T.setTop g) target := by
  obtain ⟨cl, A, r1, r2, r3⟩ := A
  subst r1
  exact X.arraylength hx (by rw [eT]; exact A.1) (State.isArrayOf_alike hZ.alike A.2.1) hg hs hd _ k
theorem AF.stI (X : Stand p l e R s m args below meth c T locs cells slots) (hx : p.tables.exec = Jvm.exec) (hZ : Z.Warmed39 s.vm) (eT : T.heap = h) (A : AF Z h a .int n f) {j x : Int32} (hj : own_in j n) {g : JFrame} (hg : g.method = m) {rest : List Value} (hs : g.stack = .int x :: .int j :: .ref a :: rest) (hd : decode c.code g.pc = .ok (.iastore, 1)) :
    ∃ T' h', Stand p l e R s m args below meth c T' (locs ++ [⟨a, j.toNatClampNeg⟩]) cells slots ∧ T'.heap = h' ∧ Wr h h' a j.toNatClampNeg (.int x) ∧ AF Z h' a .int n (fun i => if i = j.toNatClampNeg then .int x else f i) ∧ ∀ target, Steps p.tables e below (T'.setTop { g with pc := g.pc + 1, stack := rest }) target → Steps p.tables e below (T.setTop g) target := by
  have A0 := A
  obtain ⟨cl, A, r1, r2, r3⟩ := A
  obtain ⟨T', h', X', e', W, st⟩ := Jvm.RoadKit.stI X hx hZ eT A (j := j) (own_in_arr r1 hj) hg hs hd
  exact ⟨T', h', X', e', W, A0.set W, st⟩
theorem AF.stJ (X : Stand p l e R s m args below meth c T locs cells slots) (hx : p.tables.exec = Jvm.exec) (hZ : Z.Warmed39 s.vm) (eT : T.heap = h) (A : AF Z h a .long n f) {j : Int32} {x : Int64} (hj : own_in j n) {g : JFrame} (hg : g.method = m) {rest : List Value} (hs : g.stack = .long x :: .int j :: .ref a :: rest) (hd : decode c.code g.pc = .ok (.lastore, 1)) :
    ∃ T' h', Stand p l e R s m args below meth c T' (locs ++ [⟨a, j.toNatClampNeg⟩]) cells slots ∧ T'.heap = h' ∧ Wr h h' a j.toNatClampNeg (.long x) ∧ AF Z h' a .long n (fun i => if i = j.toNatClampNeg then .long x else f i) ∧ ∀ target, Steps p.tables e below (T'.setTop { g with pc := g.pc + 1, stack := rest }) target → Steps p.tables e below (T.setTop g) target := by
  have A0 := A
  obtain ⟨cl, A, r1, r2, r3⟩ := A
  obtain ⟨T', h', X', e', W, st⟩ := Jvm.RoadKit.stJ X hx hZ eT A (j := j) (own_in_arr r1 hj) hg hs hd
  exact ⟨T', h', X', e', W, A0.set W, st⟩
theorem AF.stB (X : Stand p l e R s m args below meth c T locs cells slots) (hx : p.tables.exec = Jvm.exec) (hZ : Z.Warmed39 s.vm) (eT : T.heap = h) (A : AF Z h a .byte n f) {j x : Int32} (hj : own_in j n) {g : JFrame} (hg : g.method = m) {rest : List Value} (hs : g.stack = .int x :: .int j :: .ref a :: rest) (hd : decode c.code g.pc = .ok (.bastore, 1)) :
    ∃ T' h', Stand p l e R s m args below meth c T' (locs ++ [⟨a, j.toNatClampNeg⟩]) cells slots ∧ T'.heap = h' ∧ Wr h h' a j.toNatClampNeg (.int x.toInt8.toInt32) ∧ AF Z h' a .byte n (fun i => if i = j.toNatClampNeg then .int x.toInt8.toInt32 else f i) ∧ ∀ target, Steps p.tables e below (T'.setTop { g with pc := g.pc + 1, stack := rest }) target → Steps p.tables e below (T.setTop g) target := by
  have A0 := A
  obtain ⟨cl, A, r1, r2, r3⟩ := A
  obtain ⟨T', h', X', e', W, st⟩ := Jvm.RoadKit.stB X hx hZ eT A (j := j) (own_in_arr r1 hj) hg hs hd
  exact ⟨T', h', X', e', W, A0.set W, st⟩
theorem own_cpyI {f g fN : Nat → Int32} {k : Nat} (hf : fN = fun j => if j < k then f j else g j) : ∀ j, j < n → (if j < k then Value.int (f j) else Value.int (g j)) = Value.int (fN j) := by
  subst hf; intro j _; by_cases q : j < k <;> simp [q]
theorem own_cpyJ {f g fN : Nat → Int64} {k : Nat} (hf : fN = fun j => if j < k then f j else g j) : ∀ j, j < n → (if j < k then Value.long (f j) else Value.long (g j)) = Value.long (fN j) := by
  subst hf; intro j _; by_cases q : j < k <;> simp [q]
theorem own_acW {own : String} {index : Nat} (h1 : (Jvm.Cond.methodLink own index Jvm.Stand.acN).before args s = true) (h2 : (Jvm.Cond.native Jvm.Stand.acN).before args s = true) (h3 : (Jvm.Cond.static Jvm.Stand.acN).before args s = true) (h4 : (Jvm.Cond.initialized "java/lang/System").before args s = true) : ∀ w ∈ Jvm.Free.XT.acW own index, w.before args s = true := by
  intro w hw
  change w ∈ [Jvm.Cond.methodLink own index Jvm.Stand.acN, Jvm.Cond.native Jvm.Stand.acN, Jvm.Cond.static Jvm.Stand.acN, Jvm.Cond.initialized "java/lang/System"] at hw
  simp only [List.mem_cons, List.not_mem_nil, or_false] at hw
  rcases hw with rfl | rfl | rfl | rfl
  · exact h1
  · exact h2
  · exact h3
  · exact h4
theorem own_isArr {c c' : Cell} (q : Z.isArrayOf c ty) (h1 : c'.cls = c.cls) (h2 : c'.vm = c.vm) : Z.isArrayOf c' ty := by
  obtain ⟨q1, k, q2, q3⟩ := q
  exact ⟨by rw [h2]; exact q1, k, by rw [h1]; exact q2, q3⟩
theorem AF.copy (X : Stand p l e R s m args below meth c T locs cells slots) (hx : p.tables.exec = Jvm.exec) (hZ : Z.Warmed39 s.vm) {own : String} {index : Nat} (hown : s.vm.findClass own = some m.cls) (hw : ∀ w ∈ Jvm.Free.XT.acW own index, w.before args s = true)
    (eT : T.heap = h) {k : Nat} {f' : Nat → Value} (A : AF Z h a ty n f) (B : AF Z h b ty k f') (hp : ty.isReference = false) {cnt : Nat} (hfit : ∀ j, j < cnt → fits ty (f j) = true) (h1 : cnt ≤ n) (h2 : cnt ≤ k) {jn : Int32} (hn : jn = Int32.ofNat cnt)
    {g : JFrame} (hg : g.method = m) (hsize : g.locals.size = c.maxLocals) {rest : List Value} (hs : g.stack = .int jn :: .int 0 :: .ref b :: .int 0 :: .ref a :: rest) (hd : decode c.code g.pc = .ok (.invokestatic index, 3))
    {W : Nat} (hW : 2 * g.monitorRoom + (rest.map fun v => v.category).sum ≤ W) (hfr : 1 ≤ R.frames) (hlo : W + 40 ≤ R.locals) :
    ∃ (T' : State) (h' : Heap) (L' : List Loc), Stand p l e R s m args below meth c T' (locs ++ L') cells slots ∧ T'.heap = h' ∧ (∀ y ∈ L', y.base = b) ∧ Keep h h' [b] ∧ AF Z h' b ty k (fun j => if j < cnt then f j else f' j) ∧
      ∀ target, Steps p.tables e below (T'.setTop { g with pc := g.pc + 3, stack := rest }) target → Steps p.tables e below (T.setTop g) target := by
  obtain ⟨ca, A, a1, a2, a3⟩ := A
  obtain ⟨cb, B, b1, b2, b3⟩ := B
  have tA : Jvm.Free.XT.Arr ty a ca T := ⟨by rw [eT]; exact A.1, State.isArrayOf_alike X.warmed.alike (State.isArrayOf_alike hZ.alike A.2.1), A.2.2, by omega⟩
  have tB : Jvm.Free.XT.Arr ty b cb T := ⟨by rw [eT]; exact B.1, State.isArrayOf_alike X.warmed.alike (State.isArrayOf_alike hZ.alike B.2.1), B.2.2, by omega⟩
  have ga : ∀ j, j < n → ca.slots.getD j .null = f j := fun j hj => by
    have q := a3 j hj
    rw [Array.getD_eq_getD_getElem?, q]; rfl
  obtain ⟨T', B', X', P, q1, q2, q3, q4, st⟩ := X.acopy hx (o := 0) (q := 0) (n := cnt) (jo := 0) (jq := 0) hown hw tA tB (by simp) rfl rfl hn (by omega) (by omega)
    (fun i hi => ⟨by rw [Nat.zero_add, ga i (by omega)]; exact hfit i hi, fun z => by rw [hp] at z; cases z⟩) hg hsize hs hd hW hfr hlo
  refine ⟨T', _, _, X', rfl, fun y hy => ?_, ⟨by rw [P.2.2, eT]; exact Nat.le_refl _, fun x cx hx' hn' => ?_, fun x cx hx' => ?_⟩, ⟨B', ⟨P.1, own_isArr B.2.1 q1 q2, by rw [q2]; exact B.2.2⟩, q3.trans b1, b2, fun j hj => ?_⟩, st⟩
  · simp only [copyLocs, List.mem_map] at hy
    obtain ⟨i, -, rfl⟩ := hy
    rfl
  · rw [P.2.1 x (fun z => hn' (by simp [z])), eT]; exact hx'
  · by_cases z : x = b
    · subst z
      cases hx'.symm.trans B.1
      exact ⟨B', P.1, q1, q2, q3⟩
    · exact ⟨cx, by rw [P.2.1 x z, eT]; exact hx', rfl, rfl, rfl⟩
  · show _ = some (if j < cnt then f j else f' j)
    rw [q4 j]
    by_cases z : j < cnt
    · rw [if_pos (by omega), if_pos z]
      have : 0 + (j - 0) = j := by omega
      rw [this, ga j (by omega)]
    · rw [if_neg (by omega), if_neg z]; exact b3 j hj
theorem own_nb (x : Int32) : nar .boolean x = x &&& 1 := rfl
theorem own_nar1 : nar .boolean 1 = 1 := rfl
theorem own_nar0 : nar .boolean 0 = 0 := rfl
theorem own_nbyte (x : Int32) : nar .byte x = x.toInt8.toInt32 := rfl
theorem own_nar_ite (q : Prop) [Decidable q] (x y : Int32) : nar .boolean (if q then x else y) = if q then nar .boolean x else nar .boolean y := by split <;> rfl
theorem own_pos_ne {x : Int64} (q : 0 < x) : x ≠ 0 := fun z => by subst z; exact absurd q (by decide)
theorem own_cat {w : Value} (q : w.isRef = true) : w.category = 1 := by cases w <;> first | rfl | (simp [Value.isRef] at q)
theorem own_fits_ref {ty : FieldType} {w : Value} (q : w.isRef = true) (ht : ty.isReference = true := by rfl) : fits ty w = true := by
  cases w <;> cases ty <;> first | rfl | (exact absurd q (by decide)) | (exact absurd ht (by decide)) | (cases q) | (cases ht)
/-- a static field that holds v, in a heap that keeps all that was old at the start -/
def SO (Z : State) (n0 : Nat) (h : Heap) (C n d : String) (v : Value) : Prop := Sta Z Z.heap C n d v ∧ Old Z n0 h
theorem SO.ext {n0 : Nat} {C nm d : String} (F : SO Z n0 h C nm d v) (E : Ext h h') : SO Z n0 h' C nm d v := ⟨F.1, F.2.ext E⟩
theorem SO.wr {n0 : Nat} {C nm d : String} {w : Value} (F : SO Z n0 h C nm d v) (W : Wr h h' a sl w) (q : n0 ≤ a) : SO Z n0 h' C nm d v := ⟨F.1, F.2.wr W q⟩
theorem SO.keep {n0 : Nat} {C nm d : String} (F : SO Z n0 h C nm d v) (K : Keep h h' ws) (q : ∀ x ∈ ws, n0 ≤ x) : SO Z n0 h' C nm d v := ⟨F.1, F.2.keep K q⟩
theorem SO.sta {n0 : Nat} {C nm d : String} (F : SO Z n0 h C nm d v) : Sta Z h C nm d v := F.1.ext F.2.2
theorem own_selp {y : MethodName} {n : Nat} (wi : (Jvm.Cond.instantiable y.cls n).before args s = true) (hpriv : s.PrivateAt y) (hinst : (Jvm.Cond.instanceMethod y).before args s = true) (hy : y.cls ≠ "java/lang/invoke/MethodHandle" ∧ y.cls ≠ "java/lang/invoke/VarHandle") : (Jvm.Cond.selects y.cls y y).before args s = true := by
  obtain ⟨c, k, h1, h2, -, h4, -⟩ := Cond.instantiable_spec wi
  exact Jvm.Stand.selects_self_of_private h1 h2 (by simp only [Bool.or_eq_false_iff] at h4; exact h4.1) hpriv hinst hy
end OwnKit

theorem pn_0 : plainName "com/example/uneven_ticks/uneventicks/check/OccurrencesGetPinLaw" = true := by first | (simp [plainName, overriddenIn]; done) | decide +kernel
theorem d1_0 : decode prog_24_method_3_code 0 = .ok (.aload_n 0, 1) := by decide +kernel
theorem d1_1 : decode prog_24_method_3_code 1 = .ok (.invokespecial 22, 3) := by decide +kernel
theorem d1_4 : decode prog_24_method_3_code 4 = .ok (.aload_n 0, 1) := by decide +kernel
theorem d1_5 : decode prog_24_method_3_code 5 = .ok (.aload_n 1, 1) := by decide +kernel
theorem d1_6 : decode prog_24_method_3_code 6 = .ok (.invokestatic 54, 3) := by decide +kernel
theorem d1_9 : decode prog_24_method_3_code 9 = .ok (.putfield 27, 3) := by decide +kernel
theorem d1_12 : decode prog_24_method_3_code 12 = .ok (.aload_n 0, 1) := by decide +kernel
theorem d1_13 : decode prog_24_method_3_code 13 = .ok (.aload_n 2, 1) := by decide +kernel
theorem d1_14 : decode prog_24_method_3_code 14 = .ok (.putfield 35, 3) := by decide +kernel
theorem d1_17 : decode prog_24_method_3_code 17 = .ok (.aload_n 0, 1) := by decide +kernel
theorem d1_18 : decode prog_24_method_3_code 18 = .ok (.aload_n 3, 1) := by decide +kernel
theorem d1_19 : decode prog_24_method_3_code 19 = .ok (.putfield 43, 3) := by decide +kernel
theorem d1_22 : decode prog_24_method_3_code 22 = .ok (.aload_n 0, 1) := by decide +kernel
theorem d1_23 : decode prog_24_method_3_code 23 = .ok (.aload 4, 2) := by decide +kernel
theorem d1_25 : decode prog_24_method_3_code 25 = .ok (.putfield 46, 3) := by decide +kernel
theorem d1_28 : decode prog_24_method_3_code 28 = .ok (.aload_n 0, 1) := by decide +kernel
theorem d1_29 : decode prog_24_method_3_code 29 = .ok (.iload 5, 2) := by decide +kernel
theorem d1_31 : decode prog_24_method_3_code 31 = .ok (.putfield 50, 3) := by decide +kernel
theorem d1_34 : decode prog_24_method_3_code 34 = .ok (.return_, 1) := by decide +kernel
theorem pn_1 : plainName "com/example/uneven_ticks/uneventicks/check/TraceEvent" = true := by first | (simp [plainName, overriddenIn]; done) | decide +kernel
theorem d3_0 : decode prog_9_method_2_code 0 = .ok (.aload_n 0, 1) := by decide +kernel
theorem d3_1 : decode prog_9_method_2_code 1 = .ok (.ldc 42, 2) := by decide +kernel
theorem d3_3 : decode prog_9_method_2_code 3 = .ok (.invokevirtual 44, 3) := by decide +kernel
theorem d3_6 : decode prog_9_method_2_code 6 = .ok (.ifCond .eq 7, 3) := by decide +kernel
theorem d3_13 : decode prog_9_method_2_code 13 = .ok (.iconst 0, 1) := by decide +kernel
theorem d3_14 : decode prog_9_method_2_code 14 = .ok (.istore_n 1, 1) := by decide +kernel
theorem d3_15 : decode prog_9_method_2_code 15 = .ok (.aload_n 0, 1) := by decide +kernel
theorem d3_16 : decode prog_9_method_2_code 16 = .ok (.iload_n 1, 1) := by decide +kernel
theorem d3_17 : decode prog_9_method_2_code 17 = .ok (.invokestatic 48, 3) := by decide +kernel
theorem d3_20 : decode prog_9_method_2_code 20 = .ok (.istore_n 2, 1) := by decide +kernel
theorem d3_21 : decode prog_9_method_2_code 21 = .ok (.iload_n 2, 1) := by decide +kernel
theorem d3_22 : decode prog_9_method_2_code 22 = .ok (.iload_n 1, 1) := by decide +kernel
theorem d3_23 : decode prog_9_method_2_code 23 = .ok (.if_icmp .le 7, 3) := by decide +kernel
theorem d3_26 : decode prog_9_method_2_code 26 = .ok (.iconst 1, 1) := by decide +kernel
theorem d3_27 : decode prog_9_method_2_code 27 = .ok (.goto 4, 3) := by decide +kernel
theorem d3_31 : decode prog_9_method_2_code 31 = .ok (.istore_n 3, 1) := by decide +kernel
theorem d3_32 : decode prog_9_method_2_code 32 = .ok (.iload_n 3, 1) := by decide +kernel
theorem d3_33 : decode prog_9_method_2_code 33 = .ok (.ifCond .eq 51, 3) := by decide +kernel
theorem d3_36 : decode prog_9_method_2_code 36 = .ok (.iload_n 2, 1) := by decide +kernel
theorem d3_37 : decode prog_9_method_2_code 37 = .ok (.aload_n 0, 1) := by decide +kernel
theorem d3_38 : decode prog_9_method_2_code 38 = .ok (.invokevirtual 26, 3) := by decide +kernel
theorem d3_41 : decode prog_9_method_2_code 41 = .ok (.if_icmp .ge 43, 3) := by decide +kernel
theorem d3_84 : decode prog_9_method_2_code 84 = .ok (.iload_n 3, 1) := by decide +kernel
theorem d3_85 : decode prog_9_method_2_code 85 = .ok (.ifCond .eq 16, 3) := by decide +kernel
theorem d3_88 : decode prog_9_method_2_code 88 = .ok (.new 8, 3) := by decide +kernel
theorem d3_91 : decode prog_9_method_2_code 91 = .ok (.dup, 1) := by decide +kernel
theorem d3_92 : decode prog_9_method_2_code 92 = .ok (.aload_n 0, 1) := by decide +kernel
theorem d3_93 : decode prog_9_method_2_code 93 = .ok (.iload_n 1, 1) := by decide +kernel
theorem d3_94 : decode prog_9_method_2_code 94 = .ok (.iload_n 2, 1) := by decide +kernel
theorem d3_95 : decode prog_9_method_2_code 95 = .ok (.invokespecial 52, 3) := by decide +kernel
theorem d3_98 : decode prog_9_method_2_code 98 = .ok (.goto 4, 3) := by decide +kernel
theorem d3_102 : decode prog_9_method_2_code 102 = .ok (.areturn, 1) := by decide +kernel
theorem pn_3 : plainName "com/example/uneven_ticks/uneventicks/check/DecimalText" = true := by first | (simp [plainName, overriddenIn]; done) | decide +kernel
theorem d4_0 : decode jdk_42_method_76_code 0 = .ok (.aload_n 0, 1) := by decide +kernel
theorem d4_1 : decode jdk_42_method_76_code 1 = .ok (.aload_n 1, 1) := by decide +kernel
theorem d4_2 : decode jdk_42_method_76_code 2 = .ok (.iconst 0, 1) := by decide +kernel
theorem d4_3 : decode jdk_42_method_76_code 3 = .ok (.invokevirtual 624, 3) := by decide +kernel
theorem d4_6 : decode jdk_42_method_76_code 6 = .ok (.ireturn, 1) := by decide +kernel
theorem pn_4 : plainName "java/lang/String" = true := by first | (simp [plainName, overriddenIn]; done) | decide +kernel
theorem d5_0 : decode jdk_42_method_75_code 0 = .ok (.iload_n 2, 1) := by decide +kernel
theorem d5_1 : decode jdk_42_method_75_code 1 = .ok (.ifCond .lt 16, 3) := by decide +kernel
theorem d5_4 : decode jdk_42_method_75_code 4 = .ok (.iload_n 2, 1) := by decide +kernel
theorem d5_5 : decode jdk_42_method_75_code 5 = .ok (.aload_n 0, 1) := by decide +kernel
theorem d5_6 : decode jdk_42_method_75_code 6 = .ok (.invokevirtual 505, 3) := by decide +kernel
theorem d5_9 : decode jdk_42_method_75_code 9 = .ok (.aload_n 1, 1) := by decide +kernel
theorem d5_10 : decode jdk_42_method_75_code 10 = .ok (.invokevirtual 505, 3) := by decide +kernel
theorem d5_13 : decode jdk_42_method_75_code 13 = .ok (.isub, 1) := by decide +kernel
theorem d5_14 : decode jdk_42_method_75_code 14 = .ok (.if_icmp .le 5, 3) := by decide +kernel
theorem d5_19 : decode jdk_42_method_75_code 19 = .ok (.aload_n 0, 1) := by decide +kernel
theorem d5_20 : decode jdk_42_method_75_code 20 = .ok (.getfield 9, 3) := by decide +kernel
theorem d5_23 : decode jdk_42_method_75_code 23 = .ok (.astore_n 3, 1) := by decide +kernel
theorem d5_24 : decode jdk_42_method_75_code 24 = .ok (.aload_n 1, 1) := by decide +kernel
theorem d5_25 : decode jdk_42_method_75_code 25 = .ok (.getfield 9, 3) := by decide +kernel
theorem d5_28 : decode jdk_42_method_75_code 28 = .ok (.astore 4, 2) := by decide +kernel
theorem d5_30 : decode jdk_42_method_75_code 30 = .ok (.iconst 0, 1) := by decide +kernel
theorem d5_31 : decode jdk_42_method_75_code 31 = .ok (.istore 5, 2) := by decide +kernel
theorem d5_33 : decode jdk_42_method_75_code 33 = .ok (.aload 4, 2) := by decide +kernel
theorem d5_35 : decode jdk_42_method_75_code 35 = .ok (.arraylength, 1) := by decide +kernel
theorem d5_36 : decode jdk_42_method_75_code 36 = .ok (.istore 6, 2) := by decide +kernel
theorem d5_38 : decode jdk_42_method_75_code 38 = .ok (.aload_n 0, 1) := by decide +kernel
theorem d5_39 : decode jdk_42_method_75_code 39 = .ok (.invokevirtual 335, 3) := by decide +kernel
theorem d5_42 : decode jdk_42_method_75_code 42 = .ok (.istore 7, 2) := by decide +kernel
theorem d5_44 : decode jdk_42_method_75_code 44 = .ok (.iload 7, 2) := by decide +kernel
theorem d5_46 : decode jdk_42_method_75_code 46 = .ok (.aload_n 1, 1) := by decide +kernel
theorem d5_47 : decode jdk_42_method_75_code 47 = .ok (.invokevirtual 335, 3) := by decide +kernel
theorem d5_50 : decode jdk_42_method_75_code 50 = .ok (.if_icmp .ne 32, 3) := by decide +kernel
theorem d5_53 : decode jdk_42_method_75_code 53 = .ok (.iload 7, 2) := by decide +kernel
theorem d5_55 : decode jdk_42_method_75_code 55 = .ok (.iconst 1, 1) := by decide +kernel
theorem d5_56 : decode jdk_42_method_75_code 56 = .ok (.if_icmp .ne 7, 3) := by decide +kernel
theorem d5_63 : decode jdk_42_method_75_code 63 = .ok (.aload_n 3, 1) := by decide +kernel
theorem d5_64 : decode jdk_42_method_75_code 64 = .ok (.iload_n 2, 1) := by decide +kernel
theorem d5_65 : decode jdk_42_method_75_code 65 = .ok (.aload 4, 2) := by decide +kernel
theorem d5_67 : decode jdk_42_method_75_code 67 = .ok (.iconst 0, 1) := by decide +kernel
theorem d5_68 : decode jdk_42_method_75_code 68 = .ok (.iload 6, 2) := by decide +kernel
theorem d5_70 : decode jdk_42_method_75_code 70 = .ok (.invokestatic 607, 3) := by decide +kernel
theorem d5_73 : decode jdk_42_method_75_code 73 = .ok (.ifCond .ge 7, 3) := by decide +kernel
theorem d5_80 : decode jdk_42_method_75_code 80 = .ok (.iconst 0, 1) := by decide +kernel
theorem d5_81 : decode jdk_42_method_75_code 81 = .ok (.ireturn, 1) := by decide +kernel
theorem pn_5 : plainName "java/lang/String" = true := by first | (simp [plainName, overriddenIn]; done) | decide +kernel
theorem d6_0 : decode jdk_42_method_54_code 0 = .ok (.aload_n 0, 1) := by decide +kernel
theorem d6_1 : decode jdk_42_method_54_code 1 = .ok (.getfield 9, 3) := by decide +kernel
theorem d6_4 : decode jdk_42_method_54_code 4 = .ok (.arraylength, 1) := by decide +kernel
theorem d6_5 : decode jdk_42_method_54_code 5 = .ok (.aload_n 0, 1) := by decide +kernel
theorem d6_6 : decode jdk_42_method_54_code 6 = .ok (.invokevirtual 335, 3) := by decide +kernel
theorem d6_9 : decode jdk_42_method_54_code 9 = .ok (.ishr, 1) := by decide +kernel
theorem d6_10 : decode jdk_42_method_54_code 10 = .ok (.ireturn, 1) := by decide +kernel
theorem pn_6 : plainName "java/lang/String" = true := by first | (simp [plainName, overriddenIn]; done) | decide +kernel
theorem d7_0 : decode jdk_42_method_152_code 0 = .ok (.getstatic 38, 3) := by decide +kernel
theorem d7_3 : decode jdk_42_method_152_code 3 = .ok (.ifCond .eq 10, 3) := by decide +kernel
theorem d7_6 : decode jdk_42_method_152_code 6 = .ok (.aload_n 0, 1) := by decide +kernel
theorem d7_7 : decode jdk_42_method_152_code 7 = .ok (.getfield 15, 3) := by decide +kernel
theorem d7_10 : decode jdk_42_method_152_code 10 = .ok (.goto 4, 3) := by decide +kernel
theorem d7_14 : decode jdk_42_method_152_code 14 = .ok (.ireturn, 1) := by decide +kernel
theorem pn_7 : plainName "java/lang/String" = true := by first | (simp [plainName, overriddenIn]; done) | decide +kernel
theorem d8_0 : decode jdk_48_method_14_code 0 = .ok (.iconst 0, 1) := by decide +kernel
theorem d8_1 : decode jdk_48_method_14_code 1 = .ok (.istore 5, 2) := by decide +kernel
theorem d8_3 : decode jdk_48_method_14_code 3 = .ok (.iload 4, 2) := by decide +kernel
theorem d8_5 : decode jdk_48_method_14_code 5 = .ok (.bipush 7, 2) := by decide +kernel
theorem d8_7 : decode jdk_48_method_14_code 7 = .ok (.if_icmp .le 63, 3) := by decide +kernel
theorem d8_70 : decode jdk_48_method_14_code 70 = .ok (.iload 5, 2) := by decide +kernel
theorem d8_72 : decode jdk_48_method_14_code 72 = .ok (.iload 4, 2) := by decide +kernel
theorem d8_74 : decode jdk_48_method_14_code 74 = .ok (.if_icmp .ge 27, 3) := by decide +kernel
theorem d8_77 : decode jdk_48_method_14_code 77 = .ok (.aload_n 0, 1) := by decide +kernel
theorem d8_78 : decode jdk_48_method_14_code 78 = .ok (.iload_n 1, 1) := by decide +kernel
theorem d8_79 : decode jdk_48_method_14_code 79 = .ok (.iload 5, 2) := by decide +kernel
theorem d8_81 : decode jdk_48_method_14_code 81 = .ok (.iadd, 1) := by decide +kernel
theorem d8_82 : decode jdk_48_method_14_code 82 = .ok (.baload, 1) := by decide +kernel
theorem d8_83 : decode jdk_48_method_14_code 83 = .ok (.aload_n 2, 1) := by decide +kernel
theorem d8_84 : decode jdk_48_method_14_code 84 = .ok (.iload_n 3, 1) := by decide +kernel
theorem d8_85 : decode jdk_48_method_14_code 85 = .ok (.iload 5, 2) := by decide +kernel
theorem d8_87 : decode jdk_48_method_14_code 87 = .ok (.iadd, 1) := by decide +kernel
theorem d8_88 : decode jdk_48_method_14_code 88 = .ok (.baload, 1) := by decide +kernel
theorem d8_89 : decode jdk_48_method_14_code 89 = .ok (.if_icmp .eq 6, 3) := by decide +kernel
theorem d8_92 : decode jdk_48_method_14_code 92 = .ok (.iload 5, 2) := by decide +kernel
theorem d8_94 : decode jdk_48_method_14_code 94 = .ok (.ireturn, 1) := by decide +kernel
theorem pn_8 : plainName "jdk/internal/util/ArraysSupport" = true := by first | (simp [plainName, overriddenIn]; done) | decide +kernel
theorem d9_0 : decode prog_9_method_14_code 0 = .ok (.iload_n 1, 1) := by decide +kernel
theorem d9_1 : decode prog_9_method_14_code 1 = .ok (.istore_n 2, 1) := by decide +kernel
theorem d9_2 : decode prog_9_method_14_code 2 = .ok (.iload_n 2, 1) := by decide +kernel
theorem d9_3 : decode prog_9_method_14_code 3 = .ok (.aload_n 0, 1) := by decide +kernel
theorem d9_4 : decode prog_9_method_14_code 4 = .ok (.invokevirtual 26, 3) := by decide +kernel
theorem d9_7 : decode prog_9_method_14_code 7 = .ok (.if_icmp .ge 29, 3) := by decide +kernel
theorem d9_10 : decode prog_9_method_14_code 10 = .ok (.aload_n 0, 1) := by decide +kernel
theorem d9_11 : decode prog_9_method_14_code 11 = .ok (.iload_n 2, 1) := by decide +kernel
theorem d9_12 : decode prog_9_method_14_code 12 = .ok (.invokevirtual 17, 3) := by decide +kernel
theorem d9_15 : decode prog_9_method_14_code 15 = .ok (.bipush 48, 2) := by decide +kernel
theorem d9_17 : decode prog_9_method_14_code 17 = .ok (.if_icmp .lt 19, 3) := by decide +kernel
theorem d9_20 : decode prog_9_method_14_code 20 = .ok (.aload_n 0, 1) := by decide +kernel
theorem d9_21 : decode prog_9_method_14_code 21 = .ok (.iload_n 2, 1) := by decide +kernel
theorem d9_22 : decode prog_9_method_14_code 22 = .ok (.invokevirtual 17, 3) := by decide +kernel
theorem d9_25 : decode prog_9_method_14_code 25 = .ok (.bipush 57, 2) := by decide +kernel
theorem d9_27 : decode prog_9_method_14_code 27 = .ok (.if_icmp .gt 9, 3) := by decide +kernel
theorem d9_30 : decode prog_9_method_14_code 30 = .ok (.iinc 2 1, 3) := by decide +kernel
theorem d9_33 : decode prog_9_method_14_code 33 = .ok (.goto (-31), 3) := by decide +kernel
theorem d9_36 : decode prog_9_method_14_code 36 = .ok (.iload_n 2, 1) := by decide +kernel
theorem d9_37 : decode prog_9_method_14_code 37 = .ok (.ireturn, 1) := by decide +kernel
theorem pn_9 : plainName "com/example/uneven_ticks/uneventicks/check/DecimalText" = true := by first | (simp [plainName, overriddenIn]; done) | decide +kernel
theorem d10_0 : decode jdk_42_method_56_code 0 = .ok (.aload_n 0, 1) := by decide +kernel
theorem d10_1 : decode jdk_42_method_56_code 1 = .ok (.invokevirtual 492, 3) := by decide +kernel
theorem d10_4 : decode jdk_42_method_56_code 4 = .ok (.ifCond .eq 12, 3) := by decide +kernel
theorem d10_7 : decode jdk_42_method_56_code 7 = .ok (.aload_n 0, 1) := by decide +kernel
theorem d10_8 : decode jdk_42_method_56_code 8 = .ok (.getfield 9, 3) := by decide +kernel
theorem d10_11 : decode jdk_42_method_56_code 11 = .ok (.iload_n 1, 1) := by decide +kernel
theorem d10_12 : decode jdk_42_method_56_code 12 = .ok (.invokestatic 495, 3) := by decide +kernel
theorem d10_15 : decode jdk_42_method_56_code 15 = .ok (.ireturn, 1) := by decide +kernel
theorem pn_10 : plainName "java/lang/String" = true := by first | (simp [plainName, overriddenIn]; done) | decide +kernel
theorem d11_0 : decode jdk_42_method_154_code 0 = .ok (.getstatic 38, 3) := by decide +kernel
theorem d11_3 : decode jdk_42_method_154_code 3 = .ok (.ifCond .eq 14, 3) := by decide +kernel
theorem d11_6 : decode jdk_42_method_154_code 6 = .ok (.aload_n 0, 1) := by decide +kernel
theorem d11_7 : decode jdk_42_method_154_code 7 = .ok (.getfield 15, 3) := by decide +kernel
theorem d11_10 : decode jdk_42_method_154_code 10 = .ok (.ifCond .ne 7, 3) := by decide +kernel
theorem d11_13 : decode jdk_42_method_154_code 13 = .ok (.iconst 1, 1) := by decide +kernel
theorem d11_14 : decode jdk_42_method_154_code 14 = .ok (.goto 4, 3) := by decide +kernel
theorem d11_18 : decode jdk_42_method_154_code 18 = .ok (.ireturn, 1) := by decide +kernel
theorem pn_11 : plainName "java/lang/String" = true := by first | (simp [plainName, overriddenIn]; done) | decide +kernel
theorem d12_0 : decode jdk_43_method_2_code 0 = .ok (.iload_n 1, 1) := by decide +kernel
theorem d12_1 : decode jdk_43_method_2_code 1 = .ok (.aload_n 0, 1) := by decide +kernel
theorem d12_2 : decode jdk_43_method_2_code 2 = .ok (.arraylength, 1) := by decide +kernel
theorem d12_3 : decode jdk_43_method_2_code 3 = .ok (.invokestatic 9, 3) := by decide +kernel
theorem d12_6 : decode jdk_43_method_2_code 6 = .ok (.aload_n 0, 1) := by decide +kernel
theorem d12_7 : decode jdk_43_method_2_code 7 = .ok (.iload_n 1, 1) := by decide +kernel
theorem d12_8 : decode jdk_43_method_2_code 8 = .ok (.baload, 1) := by decide +kernel
theorem d12_9 : decode jdk_43_method_2_code 9 = .ok (.sipush 255, 3) := by decide +kernel
theorem d12_12 : decode jdk_43_method_2_code 12 = .ok (.iand, 1) := by decide +kernel
theorem d12_13 : decode jdk_43_method_2_code 13 = .ok (.i2c, 1) := by decide +kernel
theorem d12_14 : decode jdk_43_method_2_code 14 = .ok (.ireturn, 1) := by decide +kernel
theorem pn_12 : plainName "java/lang/StringLatin1" = true := by first | (simp [plainName, overriddenIn]; done) | decide +kernel
theorem d13_0 : decode jdk_42_method_155_code 0 = .ok (.iload_n 0, 1) := by decide +kernel
theorem d13_1 : decode jdk_42_method_155_code 1 = .ok (.iload_n 1, 1) := by decide +kernel
theorem d13_2 : decode jdk_42_method_155_code 2 = .ok (.getstatic 1053, 3) := by decide +kernel
theorem d13_5 : decode jdk_42_method_155_code 5 = .ok (.invokestatic 1059, 3) := by decide +kernel
theorem d13_8 : decode jdk_42_method_155_code 8 = .ok (.pop, 1) := by decide +kernel
theorem d13_9 : decode jdk_42_method_155_code 9 = .ok (.return_, 1) := by decide +kernel
theorem pn_13 : plainName "java/lang/String" = true := by first | (simp [plainName, overriddenIn]; done) | decide +kernel
theorem d14_0 : decode jdk_41_method_11_code 0 = .ok (.iload_n 0, 1) := by decide +kernel
theorem d14_1 : decode jdk_41_method_11_code 1 = .ok (.ifCond .lt 8, 3) := by decide +kernel
theorem d14_4 : decode jdk_41_method_11_code 4 = .ok (.iload_n 0, 1) := by decide +kernel
theorem d14_5 : decode jdk_41_method_11_code 5 = .ok (.iload_n 1, 1) := by decide +kernel
theorem d14_6 : decode jdk_41_method_11_code 6 = .ok (.if_icmp .lt 10, 3) := by decide +kernel
theorem d14_16 : decode jdk_41_method_11_code 16 = .ok (.iload_n 0, 1) := by decide +kernel
theorem d14_17 : decode jdk_41_method_11_code 17 = .ok (.ireturn, 1) := by decide +kernel
theorem pn_14 : plainName "jdk/internal/util/Preconditions" = true := by first | (simp [plainName, overriddenIn]; done) | decide +kernel
theorem d15_0 : decode prog_9_method_1_code 0 = .ok (.aload_n 0, 1) := by decide +kernel
theorem d15_1 : decode prog_9_method_1_code 1 = .ok (.invokespecial 1, 3) := by decide +kernel
theorem d15_4 : decode prog_9_method_1_code 4 = .ok (.aload_n 0, 1) := by decide +kernel
theorem d15_5 : decode prog_9_method_1_code 5 = .ok (.aload_n 1, 1) := by decide +kernel
theorem d15_6 : decode prog_9_method_1_code 6 = .ok (.putfield 7, 3) := by decide +kernel
theorem d15_9 : decode prog_9_method_1_code 9 = .ok (.aload_n 0, 1) := by decide +kernel
theorem d15_10 : decode prog_9_method_1_code 10 = .ok (.iload_n 3, 1) := by decide +kernel
theorem d15_11 : decode prog_9_method_1_code 11 = .ok (.putfield 13, 3) := by decide +kernel
theorem d15_14 : decode prog_9_method_1_code 14 = .ok (.iload_n 2, 1) := by decide +kernel
theorem d15_15 : decode prog_9_method_1_code 15 = .ok (.istore 4, 2) := by decide +kernel
theorem d15_17 : decode prog_9_method_1_code 17 = .ok (.iload 4, 2) := by decide +kernel
theorem d15_19 : decode prog_9_method_1_code 19 = .ok (.iload_n 3, 1) := by decide +kernel
theorem d15_20 : decode prog_9_method_1_code 20 = .ok (.if_icmp .ge 20, 3) := by decide +kernel
theorem d15_23 : decode prog_9_method_1_code 23 = .ok (.aload_n 1, 1) := by decide +kernel
theorem d15_24 : decode prog_9_method_1_code 24 = .ok (.iload 4, 2) := by decide +kernel
theorem d15_26 : decode prog_9_method_1_code 26 = .ok (.invokevirtual 17, 3) := by decide +kernel
theorem d15_29 : decode prog_9_method_1_code 29 = .ok (.bipush 48, 2) := by decide +kernel
theorem d15_31 : decode prog_9_method_1_code 31 = .ok (.if_icmp .ne 9, 3) := by decide +kernel
theorem d15_40 : decode prog_9_method_1_code 40 = .ok (.aload_n 0, 1) := by decide +kernel
theorem d15_41 : decode prog_9_method_1_code 41 = .ok (.iload 4, 2) := by decide +kernel
theorem d15_43 : decode prog_9_method_1_code 43 = .ok (.putfield 23, 3) := by decide +kernel
theorem d15_46 : decode prog_9_method_1_code 46 = .ok (.aload_n 1, 1) := by decide +kernel
theorem d15_47 : decode prog_9_method_1_code 47 = .ok (.invokevirtual 26, 3) := by decide +kernel
theorem d15_50 : decode prog_9_method_1_code 50 = .ok (.istore 5, 2) := by decide +kernel
theorem d15_52 : decode prog_9_method_1_code 52 = .ok (.iload 5, 2) := by decide +kernel
theorem d15_54 : decode prog_9_method_1_code 54 = .ok (.aload_n 0, 1) := by decide +kernel
theorem d15_55 : decode prog_9_method_1_code 55 = .ok (.invokevirtual 30, 3) := by decide +kernel
theorem d15_58 : decode prog_9_method_1_code 58 = .ok (.if_icmp .le 22, 3) := by decide +kernel
theorem d15_80 : decode prog_9_method_1_code 80 = .ok (.aload_n 0, 1) := by decide +kernel
theorem d15_81 : decode prog_9_method_1_code 81 = .ok (.iload 5, 2) := by decide +kernel
theorem d15_83 : decode prog_9_method_1_code 83 = .ok (.putfield 33, 3) := by decide +kernel
theorem d15_86 : decode prog_9_method_1_code 86 = .ok (.iconst 0, 1) := by decide +kernel
theorem d15_87 : decode prog_9_method_1_code 87 = .ok (.istore 6, 2) := by decide +kernel
theorem d15_89 : decode prog_9_method_1_code 89 = .ok (.aload_n 0, 1) := by decide +kernel
theorem d15_90 : decode prog_9_method_1_code 90 = .ok (.getfield 23, 3) := by decide +kernel
theorem d15_93 : decode prog_9_method_1_code 93 = .ok (.iload_n 3, 1) := by decide +kernel
theorem d15_94 : decode prog_9_method_1_code 94 = .ok (.if_icmp .ne 39, 3) := by decide +kernel
theorem d15_133 : decode prog_9_method_1_code 133 = .ok (.aload_n 0, 1) := by decide +kernel
theorem d15_134 : decode prog_9_method_1_code 134 = .ok (.iload 6, 2) := by decide +kernel
theorem d15_136 : decode prog_9_method_1_code 136 = .ok (.putfield 36, 3) := by decide +kernel
theorem d15_139 : decode prog_9_method_1_code 139 = .ok (.aload_n 0, 1) := by decide +kernel
theorem d15_140 : decode prog_9_method_1_code 140 = .ok (.getfield 23, 3) := by decide +kernel
theorem d15_143 : decode prog_9_method_1_code 143 = .ok (.iload_n 3, 1) := by decide +kernel
theorem d15_144 : decode prog_9_method_1_code 144 = .ok (.if_icmp .ne 22, 3) := by decide +kernel
theorem d15_166 : decode prog_9_method_1_code 166 = .ok (.iload_n 2, 1) := by decide +kernel
theorem d15_167 : decode prog_9_method_1_code 167 = .ok (.ifCond .le 11, 3) := by decide +kernel
theorem d15_178 : decode prog_9_method_1_code 178 = .ok (.aload_n 0, 1) := by decide +kernel
theorem d15_179 : decode prog_9_method_1_code 179 = .ok (.iconst 1, 1) := by decide +kernel
theorem d15_180 : decode prog_9_method_1_code 180 = .ok (.putfield 39, 3) := by decide +kernel
theorem d15_183 : decode prog_9_method_1_code 183 = .ok (.return_, 1) := by decide +kernel
theorem pn_15 : plainName "com/example/uneven_ticks/uneventicks/check/DecimalText" = true := by first | (simp [plainName, overriddenIn]; done) | decide +kernel
theorem d16_0 : decode prog_9_method_12_code 0 = .ok (.aload_n 0, 1) := by decide +kernel
theorem d16_1 : decode prog_9_method_12_code 1 = .ok (.getfield 13, 3) := by decide +kernel
theorem d16_4 : decode prog_9_method_12_code 4 = .ok (.iconst 1, 1) := by decide +kernel
theorem d16_5 : decode prog_9_method_12_code 5 = .ok (.iadd, 1) := by decide +kernel
theorem d16_6 : decode prog_9_method_12_code 6 = .ok (.aload_n 0, 1) := by decide +kernel
theorem d16_7 : decode prog_9_method_12_code 7 = .ok (.getfield 7, 3) := by decide +kernel
theorem d16_10 : decode prog_9_method_12_code 10 = .ok (.invokevirtual 26, 3) := by decide +kernel
theorem d16_13 : decode prog_9_method_12_code 13 = .ok (.invokestatic 113, 3) := by decide +kernel
theorem d16_16 : decode prog_9_method_12_code 16 = .ok (.ireturn, 1) := by decide +kernel
theorem pn_16 : plainName "com/example/uneven_ticks/uneventicks/check/DecimalText" = true := by first | (simp [plainName, overriddenIn]; done) | decide +kernel
theorem d17_0 : decode jdk_29_method_69_code 0 = .ok (.iload_n 0, 1) := by decide +kernel
theorem d17_1 : decode jdk_29_method_69_code 1 = .ok (.iload_n 1, 1) := by decide +kernel
theorem d17_2 : decode jdk_29_method_69_code 2 = .ok (.if_icmp .gt 7, 3) := by decide +kernel
theorem d17_5 : decode jdk_29_method_69_code 5 = .ok (.iload_n 0, 1) := by decide +kernel
theorem d17_6 : decode jdk_29_method_69_code 6 = .ok (.goto 4, 3) := by decide +kernel
theorem d17_9 : decode jdk_29_method_69_code 9 = .ok (.iload_n 1, 1) := by decide +kernel
theorem d17_10 : decode jdk_29_method_69_code 10 = .ok (.ireturn, 1) := by decide +kernel
theorem d18_0 : decode prog_18_method_1_code 0 = .ok (.aload_n 0, 1) := by decide +kernel
theorem d18_1 : decode prog_18_method_1_code 1 = .ok (.invokespecial 1, 3) := by decide +kernel
theorem d18_4 : decode prog_18_method_1_code 4 = .ok (.aload_n 0, 1) := by decide +kernel
theorem d18_5 : decode prog_18_method_1_code 5 = .ok (.iconst (-1), 1) := by decide +kernel
theorem d18_6 : decode prog_18_method_1_code 6 = .ok (.putfield 7, 3) := by decide +kernel
theorem d18_9 : decode prog_18_method_1_code 9 = .ok (.aload_n 0, 1) := by decide +kernel
theorem d18_10 : decode prog_18_method_1_code 10 = .ok (.iload_n 1, 1) := by decide +kernel
theorem d18_11 : decode prog_18_method_1_code 11 = .ok (.anewarray 13, 3) := by decide +kernel
theorem d18_14 : decode prog_18_method_1_code 14 = .ok (.putfield 15, 3) := by decide +kernel
theorem d18_17 : decode prog_18_method_1_code 17 = .ok (.aload_n 0, 1) := by decide +kernel
theorem d18_18 : decode prog_18_method_1_code 18 = .ok (.iload_n 1, 1) := by decide +kernel
theorem d18_19 : decode prog_18_method_1_code 19 = .ok (.anewarray 13, 3) := by decide +kernel
theorem d18_22 : decode prog_18_method_1_code 22 = .ok (.putfield 19, 3) := by decide +kernel
theorem d18_25 : decode prog_18_method_1_code 25 = .ok (.return_, 1) := by decide +kernel
theorem pn_18 : plainName "com/example/uneven_ticks/uneventicks/check/Occurrences" = true := by first | (simp [plainName, overriddenIn]; done) | decide +kernel
theorem d19_0 : decode prog_18_method_2_code 0 = .ok (.aload_n 0, 1) := by decide +kernel
theorem d19_1 : decode prog_18_method_2_code 1 = .ok (.getfield 19, 3) := by decide +kernel
theorem d19_4 : decode prog_18_method_2_code 4 = .ok (.iload_n 1, 1) := by decide +kernel
theorem d19_5 : decode prog_18_method_2_code 5 = .ok (.aload_n 0, 1) := by decide +kernel
theorem d19_6 : decode prog_18_method_2_code 6 = .ok (.getfield 15, 3) := by decide +kernel
theorem d19_9 : decode prog_18_method_2_code 9 = .ok (.iload_n 1, 1) := by decide +kernel
theorem d19_10 : decode prog_18_method_2_code 10 = .ok (.aaload, 1) := by decide +kernel
theorem d19_11 : decode prog_18_method_2_code 11 = .ok (.aastore, 1) := by decide +kernel
theorem d19_12 : decode prog_18_method_2_code 12 = .ok (.aload_n 0, 1) := by decide +kernel
theorem d19_13 : decode prog_18_method_2_code 13 = .ok (.getfield 15, 3) := by decide +kernel
theorem d19_16 : decode prog_18_method_2_code 16 = .ok (.iload_n 1, 1) := by decide +kernel
theorem d19_17 : decode prog_18_method_2_code 17 = .ok (.aload_n 2, 1) := by decide +kernel
theorem d19_18 : decode prog_18_method_2_code 18 = .ok (.aastore, 1) := by decide +kernel
theorem d19_19 : decode prog_18_method_2_code 19 = .ok (.return_, 1) := by decide +kernel
theorem pn_19 : plainName "com/example/uneven_ticks/uneventicks/check/Occurrences" = true := by first | (simp [plainName, overriddenIn]; done) | decide +kernel
theorem d20_0 : decode prog_18_method_3_code 0 = .ok (.iload_n 2, 1) := by decide +kernel
theorem d20_1 : decode prog_18_method_3_code 1 = .ok (.ifCond .eq 13, 3) := by decide +kernel
theorem d20_4 : decode prog_18_method_3_code 4 = .ok (.aload_n 0, 1) := by decide +kernel
theorem d20_5 : decode prog_18_method_3_code 5 = .ok (.getfield 19, 3) := by decide +kernel
theorem d20_8 : decode prog_18_method_3_code 8 = .ok (.iload_n 1, 1) := by decide +kernel
theorem d20_9 : decode prog_18_method_3_code 9 = .ok (.aaload, 1) := by decide +kernel
theorem d20_10 : decode prog_18_method_3_code 10 = .ok (.astore_n 3, 1) := by decide +kernel
theorem d20_11 : decode prog_18_method_3_code 11 = .ok (.goto 26, 3) := by decide +kernel
theorem d20_14 : decode prog_18_method_3_code 14 = .ok (.iload_n 1, 1) := by decide +kernel
theorem d20_15 : decode prog_18_method_3_code 15 = .ok (.aload_n 0, 1) := by decide +kernel
theorem d20_16 : decode prog_18_method_3_code 16 = .ok (.getfield 7, 3) := by decide +kernel
theorem d20_19 : decode prog_18_method_3_code 19 = .ok (.if_icmp .ne 11, 3) := by decide +kernel
theorem d20_22 : decode prog_18_method_3_code 22 = .ok (.aload_n 0, 1) := by decide +kernel
theorem d20_23 : decode prog_18_method_3_code 23 = .ok (.getfield 22, 3) := by decide +kernel
theorem d20_26 : decode prog_18_method_3_code 26 = .ok (.astore_n 3, 1) := by decide +kernel
theorem d20_27 : decode prog_18_method_3_code 27 = .ok (.goto 10, 3) := by decide +kernel
theorem d20_30 : decode prog_18_method_3_code 30 = .ok (.aload_n 0, 1) := by decide +kernel
theorem d20_31 : decode prog_18_method_3_code 31 = .ok (.getfield 15, 3) := by decide +kernel
theorem d20_34 : decode prog_18_method_3_code 34 = .ok (.iload_n 1, 1) := by decide +kernel
theorem d20_35 : decode prog_18_method_3_code 35 = .ok (.aaload, 1) := by decide +kernel
theorem d20_36 : decode prog_18_method_3_code 36 = .ok (.astore_n 3, 1) := by decide +kernel
theorem d20_37 : decode prog_18_method_3_code 37 = .ok (.aload_n 3, 1) := by decide +kernel
theorem d20_38 : decode prog_18_method_3_code 38 = .ok (.areturn, 1) := by decide +kernel
theorem pn_20 : plainName "com/example/uneven_ticks/uneventicks/check/Occurrences" = true := by first | (simp [plainName, overriddenIn]; done) | decide +kernel
theorem d21_0 : decode prog_18_method_4_code 0 = .ok (.aload_n 0, 1) := by decide +kernel
theorem d21_1 : decode prog_18_method_4_code 1 = .ok (.iload_n 1, 1) := by decide +kernel
theorem d21_2 : decode prog_18_method_4_code 2 = .ok (.putfield 7, 3) := by decide +kernel
theorem d21_5 : decode prog_18_method_4_code 5 = .ok (.aload_n 0, 1) := by decide +kernel
theorem d21_6 : decode prog_18_method_4_code 6 = .ok (.aload_n 2, 1) := by decide +kernel
theorem d21_7 : decode prog_18_method_4_code 7 = .ok (.putfield 22, 3) := by decide +kernel
theorem d21_10 : decode prog_18_method_4_code 10 = .ok (.return_, 1) := by decide +kernel
theorem pn_21 : plainName "com/example/uneven_ticks/uneventicks/check/Occurrences" = true := by first | (simp [plainName, overriddenIn]; done) | decide +kernel
theorem d22_0 : decode prog_18_method_5_code 0 = .ok (.aload_n 0, 1) := by decide +kernel
theorem d22_1 : decode prog_18_method_5_code 1 = .ok (.iconst (-1), 1) := by decide +kernel
theorem d22_2 : decode prog_18_method_5_code 2 = .ok (.putfield 7, 3) := by decide +kernel
theorem d22_5 : decode prog_18_method_5_code 5 = .ok (.aload_n 0, 1) := by decide +kernel
theorem d22_6 : decode prog_18_method_5_code 6 = .ok (.aconst_null, 1) := by decide +kernel
theorem d22_7 : decode prog_18_method_5_code 7 = .ok (.putfield 22, 3) := by decide +kernel
theorem d22_10 : decode prog_18_method_5_code 10 = .ok (.return_, 1) := by decide +kernel
theorem pn_22 : plainName "com/example/uneven_ticks/uneventicks/check/Occurrences" = true := by first | (simp [plainName, overriddenIn]; done) | decide +kernel
theorem pd_6 : parseMethodDescriptor "()B" = some ⟨[], some .byte⟩ := by decide +kernel
theorem pd_13 : parseMethodDescriptor "(IILjava/util/function/BiFunction;)I" = some ⟨[.int, .int, (.object "java/util/function/BiFunction")], some .int⟩ := by decide +kernel
theorem pd_12 : parseMethodDescriptor "(II)V" = some ⟨[.int, .int], none⟩ := by decide +kernel
theorem pd_10 : parseMethodDescriptor "()Z" = some ⟨[], some .boolean⟩ := by decide +kernel
theorem pd_11 : parseMethodDescriptor "([BI)C" = some ⟨[(.array .byte), .int], some .char⟩ := by decide +kernel
theorem pd_5 : parseMethodDescriptor "()I" = some ⟨[], some .int⟩ := by decide +kernel
theorem pd_7 : parseMethodDescriptor "([BI[BII)I" = some ⟨[(.array .byte), .int, (.array .byte), .int, .int], some .int⟩ := by decide +kernel
theorem pd_4 : parseMethodDescriptor "(Ljava/lang/String;I)Z" = some ⟨[(.object "java/lang/String"), .int], some .boolean⟩ := by decide +kernel
theorem pd_9 : parseMethodDescriptor "(I)C" = some ⟨[.int], some .char⟩ := by decide +kernel
theorem pd_15 : parseMethodDescriptor "(II)I" = some ⟨[.int, .int], some .int⟩ := by decide +kernel
theorem pd_3 : parseMethodDescriptor "(Ljava/lang/String;)Z" = some ⟨[(.object "java/lang/String")], some .boolean⟩ := by decide +kernel
theorem pd_8 : parseMethodDescriptor "(Ljava/lang/String;I)I" = some ⟨[(.object "java/lang/String"), .int], some .int⟩ := by decide +kernel
theorem pd_14 : parseMethodDescriptor "(Ljava/lang/String;II)V" = some ⟨[(.object "java/lang/String"), .int, .int], none⟩ := by decide +kernel
theorem pd_2 : parseMethodDescriptor "(Ljava/lang/String;)Lcom/example/uneven_ticks/uneventicks/check/DecimalText;" = some ⟨[(.object "java/lang/String")], some (.object "com/example/uneven_ticks/uneventicks/check/DecimalText")⟩ := by decide +kernel
theorem pd_0 : parseMethodDescriptor "(Ljava/lang/String;Ljava/lang/String;Ljava/lang/String;[II)V" = some ⟨[(.object "java/lang/String"), (.object "java/lang/String"), (.object "java/lang/String"), (.array .int), .int], none⟩ := by decide +kernel
theorem pd_16 : parseMethodDescriptor "(I)V" = some ⟨[.int], none⟩ := by decide +kernel
theorem pd_17 : parseMethodDescriptor "(ILcom/example/uneven_ticks/uneventicks/check/TraceEvent;)V" = some ⟨[.int, (.object "com/example/uneven_ticks/uneventicks/check/TraceEvent")], none⟩ := by decide +kernel
theorem pd_1 : parseMethodDescriptor "()V" = some ⟨[], none⟩ := by decide +kernel
theorem pd_18 : parseMethodDescriptor "(IZ)Lcom/example/uneven_ticks/uneventicks/check/TraceEvent;" = some ⟨[.int, .boolean], some (.object "com/example/uneven_ticks/uneventicks/check/TraceEvent")⟩ := by decide +kernel


theorem own_arv1 {Z : State} {h : Heap} {b : Addr} {k : ClassId} {x : Int32} {z : Int32} (A : Arv Z h b k .byte z [.int x] (.int 0)) (hz : z = 1 := by rfl) : AF Z h b .byte 1 (fun j => .int ((fun _ => x) j)) := by
  subst hz
  obtain ⟨c, A, -, r1, -, H, -⟩ := A
  have e : c.slots.size = 1 := r1
  refine ⟨c, A, e, by decide, fun j hj => ?_⟩
  have q := H j (by omega)
  have : j = 0 := by omega
  subst this
  exact q
theorem own_safeA {Z : State} {EL : List (String × Nat)} {vm : Vm} {h : Heap} {x : Addr} {ty : FieldType} {n : Nat} {f : Nat → Value} (hal : Z.vm.Alike vm) (F : AF Z h x ty n f) (ht : ty ≠ .byte) : Safe Z EL vm h x := by
  obtain ⟨c, A, -⟩ := F
  exact Safe.arr hal A ht
theorem own_aeqT {a b : Addr} (q : a = b) : if_acmp.holds .eq (some a) (some b) = true := (acV_eq .eq (x := .ref a) (y := .ref b) rfl rfl).trans (by rw [decide_eq_true (by rw [q])]; rfl)
theorem own_aneF {a b : Addr} (q : a = b) : if_acmp.holds .ne (some a) (some b) = false := (acV_eq .ne (x := .ref a) (y := .ref b) rfl rfl).trans (by rw [decide_eq_true (by rw [q])]; rfl)
theorem own_aeqF {a b : Addr} (q : a ≠ b) : if_acmp.holds .eq (some a) (some b) = false := (acV_eq .eq (x := .ref a) (y := .ref b) rfl rfl).trans (by rw [decide_eq_false (fun z => q (Value.ref.inj z))]; rfl)
theorem own_aneT {a b : Addr} (q : a ≠ b) : if_acmp.holds .ne (some a) (some b) = true := (acV_eq .ne (x := .ref a) (y := .ref b) rfl rfl).trans (by rw [decide_eq_false (fun z => q (Value.ref.inj z))]; rfl)

theorem ef_7 (m : MethodId) (a0 : Addr) : entryFrame m #[(.ref a0)] 1 = mkF m 0 #[.val (.ref a0)] [] := by first | (simp [entryFrame, mkF, argsToLocals, Value.category]; done) | rfl
def Q7 (Z : State) (a0 : Addr) (w_value_a0 : Addr) (s_COMPACT_STRINGS : Int32) (h0 : Heap) (n0 : Nat) (v : Option Value) (h : Heap) (L : List Loc) : Prop := v = some (.int (0 : Int32)) ∧ Fr n0 L ∧ h = h0
set_option maxRecDepth 65536 in
set_option maxHeartbeats 40000000 in
theorem rm7 (l : Launch) (Z : State) (A0 : Array Value) (hw : ∀ d ∈ tables_1, d.before A0 Z = true) (ws : List Jvm.Cond) (a0 : Addr) (w_value_a0 : Addr) (s_COMPACT_STRINGS : Int32) (h0 : Heap) (n0 : Nat) (Z0 : n0 ≤ h0.size) (E_a0 : Exa Z h0 a0 "java/lang/String") (F_value_a0 : Fld Z h0 a0 "java/lang/String" "value" "[B" (.ref w_value_a0)) (F_coder_a0 : Fld Z h0 a0 "java/lang/String" "coder" "B" (.int (0 : Int32))) (S_COMPACT_STRINGS : SO Z n0 h0 "java/lang/String" "COMPACT_STRINGS" "Z" (.int s_COMPACT_STRINGS)) (hc3 : ¬ (s_COMPACT_STRINGS = (0 : Int32))) :
    MetFree l (⟨"java/lang/String", "coder", "()B"⟩ : MethodName) (head1 (Jvm.Cond.code (⟨"java/lang/String", "coder", "()B"⟩ : MethodName) jdk_42_method_152_code 1 (some .byte) :: ws) ({ frames := 0, cells := 0, slots := 0, locals := 0 } : Room)) (fun a U => a = #[(.ref a0)] ∧ Z.Warmed39 U.vm ∧ U.heap = h0) (fun _ _ _ _ _ => True) (fun _ U o U' => ∃ v L, o = .returned v ∧ Q7 Z a0 w_value_a0 s_COMPACT_STRINGS h0 n0 v U'.heap L ∧ FrameEnd U o U' L ({ frames := 0, cells := 0, slots := 0, locals := 0 } : Room).cells ({ frames := 0, cells := 0, slots := 0, locals := 0 } : Room).slots) := by
  refine MetFree.of_bodySF (plainFor_of_name pn_7) hisR ?_
  intro p e s m args below meth c s₁ Bd hml0 hP hK
  obtain ⟨rfl, hZ, hh⟩ := hP
  have hx := Bd.exec
  have hby := Bd.bytes
  have hml : c.maxLocals = 1 := hml0
  have hown : s.vm.findClass "java/lang/String" = some m.cls := findClass_of_methodNamed Bd.named
  have hnm := (name_of_methodNamed Bd.named Bd.method).1
  have X0 : Stand p l e ({ frames := 0, cells := 0, slots := 0, locals := 0 } : Room) s m #[(.ref a0)] below meth c s₁ [] 0 0 := Stand.of_body Bd
  have e0 : s₁.heap = h0 := by rw [← hh, Bd.state]; rfl
  have N0 := Fr.nil n0
  have pre0 : ∀ t, Steps p.tables e below (s₁.setTop (mkF m 0 #[.val (.ref a0)] [])) t → Steps p.tables e below (s₁.setTop (entryFrame m #[(.ref a0)] 1)) t := fun t k => castTop (ef_7 m a0) k
  obtain ⟨T1, X1, e1, st1⟩ := getS2 X0 hx hZ hown (host := "") (Or.inl (hw _ (List.mem_of_getElem? (i := 45) rfl))) Via.refl e0 S_COMPACT_STRINGS.sta (g := (mkF m 0 #[.val (.ref a0)] [])) rfl (hb hby d7_0)
  obtain ⟨T2, X2, e2, st2⟩ := getF X1 hx hZ hown (host := "") (Or.inl (hw _ (List.mem_of_getElem? (i := 46) rfl))) Via.refl e1 F_coder_a0 (g := (mkF m 7 #[.val (.ref a0)] [(.ref a0)])) rfl rfl (hb hby d7_7)
  obtain ⟨fs, hr, hrun, hended, hW, hsame⟩ := X2.leave (v := some (.int (0 : Int32))) (fun h => by rw [Bd.returns] at h; cases h)
  refine ⟨_, _, pre0 _ ?_, hrun, hended, _, _, rfl, ?_, ⟨_, rfl⟩, hW, hsame.mono (by decide) (by decide)⟩
  · show Steps p.tables e below (s₁.setTop (mkF m 0 #[.val (.ref a0)] [])) _
    refine st1 _ ?_
    show Steps p.tables e below (T1.setTop (mkF m 3 #[.val (.ref a0)] [(.int s_COMPACT_STRINGS)])) _
    refine XS.ifNo X1.here hx rfl (hb hby d7_3) rfl ((if0 _ _).trans (feq hc3).1) ?_
    show Steps p.tables e below (T1.setTop (mkF m 6 #[.val (.ref a0)] [])) _
    refine XS.aloadN X1.here hx rfl (hb hby d7_6) rfl rfl ?_
    show Steps p.tables e below (T1.setTop (mkF m 7 #[.val (.ref a0)] [(.ref a0)])) _
    refine st2 _ ?_
    show Steps p.tables e below (T2.setTop (mkF m 10 #[.val (.ref a0)] [(.int (0 : Int32))])) _
    refine XS.goto X2.here hx rfl (pc0 := 10) (pc' := 14) rfl (hb hby d7_10) (by decide) (by decide) ?_
    show Steps p.tables e below (T2.setTop (mkF m 14 #[.val (.ref a0)] [(.int (0 : Int32))])) _
    exact retN X2 hx (t := .byte) Bd.returns (by simp) (hb hby d7_14) hr
  · show Q7 Z a0 w_value_a0 s_COMPACT_STRINGS h0 n0 _ T2.heap _
    exact ⟨rfl, N0, e2⟩
theorem ef_6 (m : MethodId) (a0 : Addr) : entryFrame m #[(.ref a0)] 1 = mkF m 0 #[.val (.ref a0)] [] := by first | (simp [entryFrame, mkF, argsToLocals, Value.category]; done) | rfl
def Q6 (Z : State) (a0 : Addr) (w_value_a0 : Addr) (g_w_value_a0 : Nat → Int32) (s_COMPACT_STRINGS : Int32) (h0 : Heap) (n0 : Nat) (v : Option Value) (h : Heap) (L : List Loc) : Prop := v = some (.int ((1 : Int32) >>> ((0 : Int32) &&& 31))) ∧ Fr n0 L ∧ h = h0
set_option maxRecDepth 65536 in
set_option maxHeartbeats 40000000 in
theorem rm6 (l : Launch) (Z : State) (A0 : Array Value) (hw : ∀ d ∈ tables_1, d.before A0 Z = true) (ws : List Jvm.Cond) (a0 : Addr) (w_value_a0 : Addr) (g_w_value_a0 : Nat → Int32) (s_COMPACT_STRINGS : Int32) (h0 : Heap) (n0 : Nat) (Z0 : n0 ≤ h0.size) (E_a0 : Exa Z h0 a0 "java/lang/String") (F_value_a0 : Fld Z h0 a0 "java/lang/String" "value" "[B" (.ref w_value_a0)) (F_coder_a0 : Fld Z h0 a0 "java/lang/String" "coder" "B" (.int (0 : Int32))) (A_w_value_a0 : AF Z h0 w_value_a0 .byte 1 (fun j => .int (g_w_value_a0 j))) (S_COMPACT_STRINGS : SO Z n0 h0 "java/lang/String" "COMPACT_STRINGS" "Z" (.int s_COMPACT_STRINGS)) (hc3_6 : ¬ (s_COMPACT_STRINGS = (0 : Int32))) :
    MetFree l (⟨"java/lang/String", "length", "()I"⟩ : MethodName) (head1 (Jvm.Cond.code (⟨"java/lang/String", "length", "()I"⟩ : MethodName) jdk_42_method_54_code 1 (some .int) :: ws) ({ frames := 1, cells := 0, slots := 0, locals := 13 } : Room)) (fun a U => a = #[(.ref a0)] ∧ Z.Warmed39 U.vm ∧ U.heap = h0) (fun _ _ _ _ _ => True) (fun _ U o U' => ∃ v L, o = .returned v ∧ Q6 Z a0 w_value_a0 g_w_value_a0 s_COMPACT_STRINGS h0 n0 v U'.heap L ∧ FrameEnd U o U' L ({ frames := 1, cells := 0, slots := 0, locals := 13 } : Room).cells ({ frames := 1, cells := 0, slots := 0, locals := 13 } : Room).slots) := by
  refine MetFree.of_bodySF (plainFor_of_name pn_6) hisR ?_
  intro p e s m args below meth c s₁ Bd hml0 hP hK
  obtain ⟨rfl, hZ, hh⟩ := hP
  have hx := Bd.exec
  have hby := Bd.bytes
  have hml : c.maxLocals = 1 := hml0
  have hown : s.vm.findClass "java/lang/String" = some m.cls := findClass_of_methodNamed Bd.named
  have hnm := (name_of_methodNamed Bd.named Bd.method).1
  have X0 : Stand p l e ({ frames := 1, cells := 0, slots := 0, locals := 13 } : Room) s m #[(.ref a0)] below meth c s₁ [] 0 0 := Stand.of_body Bd
  have e0 : s₁.heap = h0 := by rw [← hh, Bd.state]; rfl
  have N0 := Fr.nil n0
  have pre0 : ∀ t, Steps p.tables e below (s₁.setTop (mkF m 0 #[.val (.ref a0)] [])) t → Steps p.tables e below (s₁.setTop (entryFrame m #[(.ref a0)] 1)) t := fun t k => castTop (ef_6 m a0) k
  obtain ⟨T1, X1, e1, st1⟩ := getF X0 hx hZ hown (host := "") (Or.inl (hw _ (List.mem_of_getElem? (i := 39) rfl))) Via.refl e0 F_value_a0 (g := (mkF m 1 #[.val (.ref a0)] [(.ref a0)])) rfl rfl (hb hby d6_1)
  obtain ⟨cq2, kq2, q2a, q2b, q2c⟩ := isOf hZ e1 E_a0
  obtain ⟨_, _, ⟨T2, L2, k2, n2⟩, -, X2, ⟨Lc2, hQ2, l2, y2, z2⟩, st2⟩ := X1.virtualBack hx (y := (⟨"java/lang/String", "coder", "()B"⟩ : MethodName)) (z := (⟨"java/lang/String", "coder", "()B"⟩ : MethodName)) hown (mvT hZ (hw _ (List.mem_of_getElem? (i := 40) rfl))) (mvT hZ (hw _ (List.mem_of_getElem? (i := 41) rfl))) (notFace_of_selects (args := #[]) (mvT hZ (hw _ (List.mem_of_getElem? (i := 43) rfl)))) (mvT hZ (hw _ (List.mem_of_getElem? (i := 43) rfl))) (mvT hZ (hw _ (List.mem_of_getElem? (i := 42) rfl))) (by decide) (backOf (W := 1) (rm7 l Z A0 hw [] a0 w_value_a0 s_COMPACT_STRINGS h0 n0 (Nat.le_trans Z0 (Keep.refl h0 []).1) E_a0 F_value_a0 F_coder_a0 S_COMPACT_STRINGS hc3_6) hZ (hw _ (List.mem_of_getElem? (i := 44) rfl)) (hw _ (List.mem_of_getElem? (i := 5) rfl)) (by decide) (by decide)) q2a q2c (g := (mkF m 6 #[.val (.ref a0)] [(.ref a0), (.int (1 : Int32))])) rfl (by rw [hml]; rfl) (Steps.refl _) (argsL := []) (rest := [(.int (1 : Int32))]) (lenOf pd_6 rfl) rfl (by show 2 * 0 + _ ≤ _; exact Nat.le_of_eq rfl) (hb hby d6_6) (fun _ _ => ⟨rfl, e1, (by decide : 0 + 0 ≤ _), (by decide : 0 + 0 ≤ _)⟩)
  dsimp only [Pt.U, Pt.locs, Pt.cells, Pt.slots] at X2 l2 y2 z2 st2 hQ2
  subst l2 y2 z2
  obtain ⟨rfl, N2q, e2⟩ := hQ2
  have N2 := Fr.app N0 N2q
  obtain ⟨fs, hr, hrun, hended, hW, hsame⟩ := X2.leave (v := some (.int ((1 : Int32) >>> ((0 : Int32) &&& 31)))) (fun h => by rw [Bd.returns] at h; cases h)
  refine ⟨_, _, pre0 _ ?_, hrun, hended, _, _, rfl, ?_, ⟨_, rfl⟩, hW, hsame.mono (by decide) (by decide)⟩
  · show Steps p.tables e below (s₁.setTop (mkF m 0 #[.val (.ref a0)] [])) _
    refine XS.aloadN X0.here hx rfl (hb hby d6_0) rfl rfl ?_
    show Steps p.tables e below (s₁.setTop (mkF m 1 #[.val (.ref a0)] [(.ref a0)])) _
    refine st1 _ ?_
    show Steps p.tables e below (T1.setTop (mkF m 4 #[.val (.ref a0)] [(.ref w_value_a0)])) _
    refine AF.len X1 hx hZ e1 A_w_value_a0 (g := (mkF m 4 #[.val (.ref a0)] [(.ref w_value_a0)])) rfl rfl (hb hby d6_4) _ ?_
    show Steps p.tables e below (T1.setTop (mkF m 5 #[.val (.ref a0)] [(.int (1 : Int32))])) _
    refine XS.aloadN X1.here hx rfl (hb hby d6_5) rfl rfl ?_
    show Steps p.tables e below (T1.setTop (mkF m 6 #[.val (.ref a0)] [(.ref a0), (.int (1 : Int32))])) _
    refine st2.trans ?_
    show Steps p.tables e below (T2.setTop (mkF m 9 #[.val (.ref a0)] [(.int (0 : Int32)), (.int (1 : Int32))])) _
    refine XS.ishr X2.here hx rfl (hb hby d6_9) rfl ?_
    show Steps p.tables e below (T2.setTop (mkF m 10 #[.val (.ref a0)] [(.int ((1 : Int32) >>> ((0 : Int32) &&& 31)))])) _
    exact retOut X2 hx Bd.returns rfl (Or.inl ⟨rfl, Or.inl rfl, _, rfl⟩) (hb hby d6_10) hr
  · show Q6 Z a0 w_value_a0 g_w_value_a0 s_COMPACT_STRINGS h0 n0 _ T2.heap _
    exact ⟨rfl, N2, e2⟩
theorem ef_11 (m : MethodId) (a0 : Addr) : entryFrame m #[(.ref a0)] 1 = mkF m 0 #[.val (.ref a0)] [] := by first | (simp [entryFrame, mkF, argsToLocals, Value.category]; done) | rfl
def Q11 (Z : State) (a0 : Addr) (w_value_a0 : Addr) (s_COMPACT_STRINGS : Int32) (h0 : Heap) (n0 : Nat) (v : Option Value) (h : Heap) (L : List Loc) : Prop := v = some (.int (1 : Int32)) ∧ Fr n0 L ∧ h = h0
set_option maxRecDepth 65536 in
set_option maxHeartbeats 40000000 in
theorem rm11 (l : Launch) (Z : State) (A0 : Array Value) (hw : ∀ d ∈ tables_1, d.before A0 Z = true) (ws : List Jvm.Cond) (a0 : Addr) (w_value_a0 : Addr) (s_COMPACT_STRINGS : Int32) (h0 : Heap) (n0 : Nat) (Z0 : n0 ≤ h0.size) (E_a0 : Exa Z h0 a0 "java/lang/String") (F_value_a0 : Fld Z h0 a0 "java/lang/String" "value" "[B" (.ref w_value_a0)) (F_coder_a0 : Fld Z h0 a0 "java/lang/String" "coder" "B" (.int (0 : Int32))) (S_COMPACT_STRINGS : SO Z n0 h0 "java/lang/String" "COMPACT_STRINGS" "Z" (.int s_COMPACT_STRINGS)) (hc3 : ¬ (s_COMPACT_STRINGS = (0 : Int32))) :
    MetFree l (⟨"java/lang/String", "isLatin1", "()Z"⟩ : MethodName) (head1 (Jvm.Cond.code (⟨"java/lang/String", "isLatin1", "()Z"⟩ : MethodName) jdk_42_method_154_code 1 (some .boolean) :: ws) ({ frames := 0, cells := 0, slots := 0, locals := 0 } : Room)) (fun a U => a = #[(.ref a0)] ∧ Z.Warmed39 U.vm ∧ U.heap = h0) (fun _ _ _ _ _ => True) (fun _ U o U' => ∃ v L, o = .returned v ∧ Q11 Z a0 w_value_a0 s_COMPACT_STRINGS h0 n0 v U'.heap L ∧ FrameEnd U o U' L ({ frames := 0, cells := 0, slots := 0, locals := 0 } : Room).cells ({ frames := 0, cells := 0, slots := 0, locals := 0 } : Room).slots) := by
  refine MetFree.of_bodySF (plainFor_of_name pn_11) hisR ?_
  intro p e s m args below meth c s₁ Bd hml0 hP hK
  obtain ⟨rfl, hZ, hh⟩ := hP
  have hx := Bd.exec
  have hby := Bd.bytes
  have hml : c.maxLocals = 1 := hml0
  have hown : s.vm.findClass "java/lang/String" = some m.cls := findClass_of_methodNamed Bd.named
  have hnm := (name_of_methodNamed Bd.named Bd.method).1
  have X0 : Stand p l e ({ frames := 0, cells := 0, slots := 0, locals := 0 } : Room) s m #[(.ref a0)] below meth c s₁ [] 0 0 := Stand.of_body Bd
  have e0 : s₁.heap = h0 := by rw [← hh, Bd.state]; rfl
  have N0 := Fr.nil n0
  have pre0 : ∀ t, Steps p.tables e below (s₁.setTop (mkF m 0 #[.val (.ref a0)] [])) t → Steps p.tables e below (s₁.setTop (entryFrame m #[(.ref a0)] 1)) t := fun t k => castTop (ef_11 m a0) k
  obtain ⟨T1, X1, e1, st1⟩ := getS2 X0 hx hZ hown (host := "") (Or.inl (hw _ (List.mem_of_getElem? (i := 45) rfl))) Via.refl e0 S_COMPACT_STRINGS.sta (g := (mkF m 0 #[.val (.ref a0)] [])) rfl (hb hby d11_0)
  obtain ⟨T2, X2, e2, st2⟩ := getF X1 hx hZ hown (host := "") (Or.inl (hw _ (List.mem_of_getElem? (i := 46) rfl))) Via.refl e1 F_coder_a0 (g := (mkF m 7 #[.val (.ref a0)] [(.ref a0)])) rfl rfl (hb hby d11_7)
  obtain ⟨fs, hr, hrun, hended, hW, hsame⟩ := X2.leave (v := some (.int (1 : Int32))) (fun h => by rw [Bd.returns] at h; cases h)
  refine ⟨_, _, pre0 _ ?_, hrun, hended, _, _, rfl, ?_, ⟨_, rfl⟩, hW, hsame.mono (by decide) (by decide)⟩
  · show Steps p.tables e below (s₁.setTop (mkF m 0 #[.val (.ref a0)] [])) _
    refine st1 _ ?_
    show Steps p.tables e below (T1.setTop (mkF m 3 #[.val (.ref a0)] [(.int s_COMPACT_STRINGS)])) _
    refine XS.ifNo X1.here hx rfl (hb hby d11_3) rfl ((if0 _ _).trans (feq hc3).1) ?_
    show Steps p.tables e below (T1.setTop (mkF m 6 #[.val (.ref a0)] [])) _
    refine XS.aloadN X1.here hx rfl (hb hby d11_6) rfl rfl ?_
    show Steps p.tables e below (T1.setTop (mkF m 7 #[.val (.ref a0)] [(.ref a0)])) _
    refine st2 _ ?_
    show Steps p.tables e below (T2.setTop (mkF m 10 #[.val (.ref a0)] [(.int (0 : Int32))])) _
    refine XS.ifNo X2.here hx rfl (hb hby d11_10) rfl ((if0 _ _).trans (teq (by decide)).2) ?_
    show Steps p.tables e below (T2.setTop (mkF m 13 #[.val (.ref a0)] [])) _
    refine XS.iconst X2.here hx rfl (hb hby d11_13) ?_
    show Steps p.tables e below (T2.setTop (mkF m 14 #[.val (.ref a0)] [(.int (1 : Int32))])) _
    refine XS.goto X2.here hx rfl (pc0 := 14) (pc' := 18) rfl (hb hby d11_14) (by decide) (by decide) ?_
    show Steps p.tables e below (T2.setTop (mkF m 18 #[.val (.ref a0)] [(.int (1 : Int32))])) _
    exact retN X2 hx (t := .boolean) Bd.returns (by simp) (hb hby d11_18) hr
  · show Q11 Z a0 w_value_a0 s_COMPACT_STRINGS h0 n0 _ T2.heap _
    exact ⟨rfl, N0, e2⟩
theorem ef_14 (m : MethodId) (a2 : Value) (rf_a2 : a2.isRef = true) : entryFrame m #[(.int (0 : Int32)), (.int (1 : Int32)), a2] 3 = mkF m 0 #[.val (.int (0 : Int32)), .val (.int (1 : Int32)), .val a2] [] := by rcases ref_cases rf_a2 with rfl | ⟨z, rfl⟩ <;> first | (simp [entryFrame, mkF, argsToLocals, Value.category]; done) | rfl
def Q14 (Z : State) (a2 : Value) (h0 : Heap) (n0 : Nat) (v : Option Value) (h : Heap) (L : List Loc) : Prop := v = some (.int (0 : Int32)) ∧ Fr n0 L ∧ h = h0
set_option maxRecDepth 65536 in
set_option maxHeartbeats 40000000 in
theorem rm14 (l : Launch) (Z : State) (A0 : Array Value) (hw : ∀ d ∈ tables_1, d.before A0 Z = true) (ws : List Jvm.Cond) (a2 : Value) (h0 : Heap) (n0 : Nat) (Z0 : n0 ≤ h0.size) (rf_a2 : a2.isRef = true) :
    MetFree l (⟨"jdk/internal/util/Preconditions", "checkIndex", "(IILjava/util/function/BiFunction;)I"⟩ : MethodName) (head1 (Jvm.Cond.code (⟨"jdk/internal/util/Preconditions", "checkIndex", "(IILjava/util/function/BiFunction;)I"⟩ : MethodName) jdk_41_method_11_code 3 (some .int) :: ws) ({ frames := 0, cells := 0, slots := 0, locals := 0 } : Room)) (fun a U => a = #[(.int (0 : Int32)), (.int (1 : Int32)), a2] ∧ Z.Warmed39 U.vm ∧ U.heap = h0) (fun _ _ _ _ _ => True) (fun _ U o U' => ∃ v L, o = .returned v ∧ Q14 Z a2 h0 n0 v U'.heap L ∧ FrameEnd U o U' L ({ frames := 0, cells := 0, slots := 0, locals := 0 } : Room).cells ({ frames := 0, cells := 0, slots := 0, locals := 0 } : Room).slots) := by
  refine MetFree.of_bodySF (plainFor_of_name pn_14) hisR ?_
  intro p e s m args below meth c s₁ Bd hml0 hP hK
  obtain ⟨rfl, hZ, hh⟩ := hP
  have hx := Bd.exec
  have hby := Bd.bytes
  have hml : c.maxLocals = 3 := hml0
  have hown : s.vm.findClass "jdk/internal/util/Preconditions" = some m.cls := findClass_of_methodNamed Bd.named
  have hnm := (name_of_methodNamed Bd.named Bd.method).1
  have X0 : Stand p l e ({ frames := 0, cells := 0, slots := 0, locals := 0 } : Room) s m #[(.int (0 : Int32)), (.int (1 : Int32)), a2] below meth c s₁ [] 0 0 := Stand.of_body Bd
  have e0 : s₁.heap = h0 := by rw [← hh, Bd.state]; rfl
  have N0 := Fr.nil n0
  have pre0 : ∀ t, Steps p.tables e below (s₁.setTop (mkF m 0 #[.val (.int (0 : Int32)), .val (.int (1 : Int32)), .val a2] [])) t → Steps p.tables e below (s₁.setTop (entryFrame m #[(.int (0 : Int32)), (.int (1 : Int32)), a2] 3)) t := fun t k => castTop (ef_14 m a2 rf_a2) k
  obtain ⟨fs, hr, hrun, hended, hW, hsame⟩ := X0.leave (v := some (.int (0 : Int32))) (fun h => by rw [Bd.returns] at h; cases h)
  refine ⟨_, _, pre0 _ ?_, hrun, hended, _, _, rfl, ?_, ⟨_, rfl⟩, hW, hsame.mono (by decide) (by decide)⟩
  · show Steps p.tables e below (s₁.setTop (mkF m 0 #[.val (.int (0 : Int32)), .val (.int (1 : Int32)), .val a2] [])) _
    refine XS.iloadN X0.here hx rfl (hb hby d14_0) rfl ?_
    show Steps p.tables e below (s₁.setTop (mkF m 1 #[.val (.int (0 : Int32)), .val (.int (1 : Int32)), .val a2] [(.int (0 : Int32))])) _
    refine XS.ifNo X0.here hx rfl (hb hby d14_1) rfl ((if0 _ _).trans (flt (by decide)).1) ?_
    show Steps p.tables e below (s₁.setTop (mkF m 4 #[.val (.int (0 : Int32)), .val (.int (1 : Int32)), .val a2] [])) _
    refine XS.iloadN X0.here hx rfl (hb hby d14_4) rfl ?_
    show Steps p.tables e below (s₁.setTop (mkF m 5 #[.val (.int (0 : Int32)), .val (.int (1 : Int32)), .val a2] [(.int (0 : Int32))])) _
    refine XS.iloadN X0.here hx rfl (hb hby d14_5) rfl ?_
    show Steps p.tables e below (s₁.setTop (mkF m 6 #[.val (.int (0 : Int32)), .val (.int (1 : Int32)), .val a2] [(.int (1 : Int32)), (.int (0 : Int32))])) _
    refine XS.icmpYes X0.here hx rfl (pc0 := 6) (pc' := 16) rfl (hb hby d14_6) rfl (tlt (by decide)).1 (by decide) (by decide) ?_
    show Steps p.tables e below (s₁.setTop (mkF m 16 #[.val (.int (0 : Int32)), .val (.int (1 : Int32)), .val a2] [])) _
    refine XS.iloadN X0.here hx rfl (hb hby d14_16) rfl ?_
    show Steps p.tables e below (s₁.setTop (mkF m 17 #[.val (.int (0 : Int32)), .val (.int (1 : Int32)), .val a2] [(.int (0 : Int32))])) _
    exact retOut X0 hx Bd.returns rfl (Or.inl ⟨rfl, Or.inl rfl, _, rfl⟩) (hb hby d14_17) hr
  · show Q14 Z a2 h0 n0 _ s₁.heap _
    exact ⟨rfl, N0, e0⟩
theorem ef_13 (m : MethodId)  : entryFrame m #[(.int (0 : Int32)), (.int (1 : Int32))] 2 = mkF m 0 #[.val (.int (0 : Int32)), .val (.int (1 : Int32))] [] := by first | (simp [entryFrame, mkF, argsToLocals, Value.category]; done) | rfl
def Q13 (Z : State) (s_SIOOBE_FORMATTER : Value) (h0 : Heap) (n0 : Nat) (v : Option Value) (h : Heap) (L : List Loc) : Prop := v = none ∧ Fr n0 L ∧ h = h0
set_option maxRecDepth 65536 in
set_option maxHeartbeats 40000000 in
theorem rm13 (l : Launch) (Z : State) (A0 : Array Value) (hw : ∀ d ∈ tables_1, d.before A0 Z = true) (ws : List Jvm.Cond) (s_SIOOBE_FORMATTER : Value) (h0 : Heap) (n0 : Nat) (Z0 : n0 ≤ h0.size) (S_SIOOBE_FORMATTER : SO Z n0 h0 "jdk/internal/util/Preconditions" "SIOOBE_FORMATTER" "Ljava/util/function/BiFunction;" s_SIOOBE_FORMATTER) (rf_s_SIOOBE_FORMATTER : s_SIOOBE_FORMATTER.isRef = true) :
    MetFree l (⟨"java/lang/String", "checkIndex", "(II)V"⟩ : MethodName) (head1 (Jvm.Cond.code (⟨"java/lang/String", "checkIndex", "(II)V"⟩ : MethodName) jdk_42_method_155_code 2 none :: ws) ({ frames := 1, cells := 0, slots := 0, locals := 14 } : Room)) (fun a U => a = #[(.int (0 : Int32)), (.int (1 : Int32))] ∧ Z.Warmed39 U.vm ∧ U.heap = h0) (fun _ _ _ _ _ => True) (fun _ U o U' => ∃ v L, o = .returned v ∧ Q13 Z s_SIOOBE_FORMATTER h0 n0 v U'.heap L ∧ FrameEnd U o U' L ({ frames := 1, cells := 0, slots := 0, locals := 14 } : Room).cells ({ frames := 1, cells := 0, slots := 0, locals := 14 } : Room).slots) := by
  refine MetFree.of_bodySF (plainFor_of_name pn_13) hisR ?_
  intro p e s m args below meth c s₁ Bd hml0 hP hK
  obtain ⟨rfl, hZ, hh⟩ := hP
  have hx := Bd.exec
  have hby := Bd.bytes
  have hml : c.maxLocals = 2 := hml0
  have hown : s.vm.findClass "java/lang/String" = some m.cls := findClass_of_methodNamed Bd.named
  have hnm := (name_of_methodNamed Bd.named Bd.method).1
  have X0 : Stand p l e ({ frames := 1, cells := 0, slots := 0, locals := 14 } : Room) s m #[(.int (0 : Int32)), (.int (1 : Int32))] below meth c s₁ [] 0 0 := Stand.of_body Bd
  have e0 : s₁.heap = h0 := by rw [← hh, Bd.state]; rfl
  have N0 := Fr.nil n0
  have pre0 : ∀ t, Steps p.tables e below (s₁.setTop (mkF m 0 #[.val (.int (0 : Int32)), .val (.int (1 : Int32))] [])) t → Steps p.tables e below (s₁.setTop (entryFrame m #[(.int (0 : Int32)), (.int (1 : Int32))] 2)) t := fun t k => castTop (ef_13 m ) k
  obtain ⟨T1, X1, e1, st1⟩ := getS2 X0 hx hZ hown (host := "") (Or.inl (hw _ (List.mem_of_getElem? (i := 72) rfl))) Via.refl e0 S_SIOOBE_FORMATTER.sta (g := (mkF m 2 #[.val (.int (0 : Int32)), .val (.int (1 : Int32))] [(.int (1 : Int32)), (.int (0 : Int32))])) rfl (hb hby d13_2)
  have hp2 : s_SIOOBE_FORMATTER.isRef = true := rf_s_SIOOBE_FORMATTER
  obtain ⟨_, _, ⟨T3, L3, k3, n3⟩, -, X3, ⟨Lc3, hQ3, l3, y3, z3⟩, st3⟩ := Jvm.LawKit.callS X1 hx (y := (⟨"jdk/internal/util/Preconditions", "checkIndex", "(IILjava/util/function/BiFunction;)I"⟩ : MethodName)) hown (mvT hZ (hw _ (List.mem_of_getElem? (i := 74) rfl))) (mvT hZ (hw _ (List.mem_of_getElem? (i := 75) rfl))) (mvT hZ (hw _ (List.mem_of_getElem? (i := 73) rfl))) (mvT hZ (hw _ (List.mem_of_getElem? (i := 76) rfl))) (by decide) (backOf (W := 0) (rm14 l Z A0 hw [] s_SIOOBE_FORMATTER h0 n0 (Nat.le_trans Z0 (Keep.refl h0 []).1) hp2) hZ (hw _ (List.mem_of_getElem? (i := 76) rfl)) (hw _ (List.mem_of_getElem? (i := 73) rfl)) (by decide) (by decide)) (g := (mkF m 5 #[.val (.int (0 : Int32)), .val (.int (1 : Int32))] [s_SIOOBE_FORMATTER, (.int (1 : Int32)), (.int (0 : Int32))])) rfl (by rw [hml]; rfl) (argsL := [(.int (0 : Int32)), (.int (1 : Int32)), s_SIOOBE_FORMATTER]) (rest := []) (lenOf pd_13 rfl) rfl (by show 2 * 0 + _ ≤ _; exact Nat.le_of_eq rfl) (hb hby d13_5) (fun _ _ => ⟨rfl, e1, (by decide : 0 + 0 ≤ _), (by decide : 0 + 0 ≤ _)⟩)
  dsimp only [Pt.U, Pt.locs, Pt.cells, Pt.slots] at X3 l3 y3 z3 st3 hQ3
  subst l3 y3 z3
  obtain ⟨rfl, N3q, e3⟩ := hQ3
  have N3 := Fr.app N0 N3q
  obtain ⟨fs, hr, hrun, hended, hW, hsame⟩ := X3.leave (v := none) (fun _ => rfl)
  refine ⟨_, _, pre0 _ ?_, hrun, hended, _, _, rfl, ?_, ⟨_, rfl⟩, hW, hsame.mono (by decide) (by decide)⟩
  · show Steps p.tables e below (s₁.setTop (mkF m 0 #[.val (.int (0 : Int32)), .val (.int (1 : Int32))] [])) _
    refine XS.iloadN X0.here hx rfl (hb hby d13_0) rfl ?_
    show Steps p.tables e below (s₁.setTop (mkF m 1 #[.val (.int (0 : Int32)), .val (.int (1 : Int32))] [(.int (0 : Int32))])) _
    refine XS.iloadN X0.here hx rfl (hb hby d13_1) rfl ?_
    show Steps p.tables e below (s₁.setTop (mkF m 2 #[.val (.int (0 : Int32)), .val (.int (1 : Int32))] [(.int (1 : Int32)), (.int (0 : Int32))])) _
    refine st1 _ ?_
    show Steps p.tables e below (T1.setTop (mkF m 5 #[.val (.int (0 : Int32)), .val (.int (1 : Int32))] [s_SIOOBE_FORMATTER, (.int (1 : Int32)), (.int (0 : Int32))])) _
    refine st3 _ ?_
    show Steps p.tables e below (T3.setTop (mkF m 8 #[.val (.int (0 : Int32)), .val (.int (1 : Int32))] [(.int (0 : Int32))])) _
    refine XS.pop X3.here hx rfl (hb hby d13_8) rfl rfl ?_
    show Steps p.tables e below (T3.setTop (mkF m 9 #[.val (.int (0 : Int32)), .val (.int (1 : Int32))] [])) _
    exact X3.returnOut hx Bd.returns (hb hby d13_9) hr
  · show Q13 Z s_SIOOBE_FORMATTER h0 n0 _ T3.heap _
    exact ⟨rfl, N3, e3⟩
theorem ef_12 (m : MethodId) (a0 : Addr) : entryFrame m #[(.ref a0), (.int (0 : Int32))] 2 = mkF m 0 #[.val (.ref a0), .val (.int (0 : Int32))] [] := by first | (simp [entryFrame, mkF, argsToLocals, Value.category]; done) | rfl
def Q12 (Z : State) (a0 : Addr) (g_a0 : Nat → Int32) (s_SIOOBE_FORMATTER : Value) (h0 : Heap) (n0 : Nat) (v : Option Value) (h : Heap) (L : List Loc) : Prop := v = some (.int (nar .char (((g_a0 0) &&& (255 : Int32)).toUInt32.toUInt16.toUInt32.toInt32))) ∧ Fr n0 L ∧ h = h0
set_option maxRecDepth 65536 in
set_option maxHeartbeats 40000000 in
theorem rm12 (l : Launch) (Z : State) (A0 : Array Value) (hw : ∀ d ∈ tables_1, d.before A0 Z = true) (ws : List Jvm.Cond) (a0 : Addr) (g_a0 : Nat → Int32) (s_SIOOBE_FORMATTER : Value) (h0 : Heap) (n0 : Nat) (Z0 : n0 ≤ h0.size) (A_a0 : AF Z h0 a0 .byte 1 (fun j => .int (g_a0 j))) (S_SIOOBE_FORMATTER : SO Z n0 h0 "jdk/internal/util/Preconditions" "SIOOBE_FORMATTER" "Ljava/util/function/BiFunction;" s_SIOOBE_FORMATTER) (rf_s_SIOOBE_FORMATTER : s_SIOOBE_FORMATTER.isRef = true) :
    MetFree l (⟨"java/lang/StringLatin1", "charAt", "([BI)C"⟩ : MethodName) (head1 (Jvm.Cond.code (⟨"java/lang/StringLatin1", "charAt", "([BI)C"⟩ : MethodName) jdk_43_method_2_code 2 (some .char) :: ws) ({ frames := 2, cells := 0, slots := 0, locals := 27 } : Room)) (fun a U => a = #[(.ref a0), (.int (0 : Int32))] ∧ Z.Warmed39 U.vm ∧ U.heap = h0) (fun _ _ _ _ _ => True) (fun _ U o U' => ∃ v L, o = .returned v ∧ Q12 Z a0 g_a0 s_SIOOBE_FORMATTER h0 n0 v U'.heap L ∧ FrameEnd U o U' L ({ frames := 2, cells := 0, slots := 0, locals := 27 } : Room).cells ({ frames := 2, cells := 0, slots := 0, locals := 27 } : Room).slots) := by
  refine MetFree.of_bodySF (plainFor_of_name pn_12) hisR ?_
  intro p e s m args below meth c s₁ Bd hml0 hP hK
  obtain ⟨rfl, hZ, hh⟩ := hP
  have hx := Bd.exec
  have hby := Bd.bytes
  have hml : c.maxLocals = 2 := hml0
  have hown : s.vm.findClass "java/lang/StringLatin1" = some m.cls := findClass_of_methodNamed Bd.named
  have hnm := (name_of_methodNamed Bd.named Bd.method).1
  have X0 : Stand p l e ({ frames := 2, cells := 0, slots := 0, locals := 27 } : Room) s m #[(.ref a0), (.int (0 : Int32))] below meth c s₁ [] 0 0 := Stand.of_body Bd
  have e0 : s₁.heap = h0 := by rw [← hh, Bd.state]; rfl
  have N0 := Fr.nil n0
  have pre0 : ∀ t, Steps p.tables e below (s₁.setTop (mkF m 0 #[.val (.ref a0), .val (.int (0 : Int32))] [])) t → Steps p.tables e below (s₁.setTop (entryFrame m #[(.ref a0), (.int (0 : Int32))] 2)) t := fun t k => castTop (ef_12 m a0) k
  obtain ⟨_, _, ⟨T1, L1, k1, n1⟩, -, X1, ⟨Lc1, hQ1, l1, y1, z1⟩, st1⟩ := Jvm.LawKit.callS X0 hx (y := (⟨"java/lang/String", "checkIndex", "(II)V"⟩ : MethodName)) hown (mvT hZ (hw _ (List.mem_of_getElem? (i := 69) rfl))) (mvT hZ (hw _ (List.mem_of_getElem? (i := 70) rfl))) (mvT hZ (hw _ (List.mem_of_getElem? (i := 5) rfl))) (mvT hZ (hw _ (List.mem_of_getElem? (i := 71) rfl))) (by decide) (backOf (W := 0) (rm13 l Z A0 hw [] s_SIOOBE_FORMATTER h0 n0 (Nat.le_trans Z0 (Keep.refl h0 []).1) S_SIOOBE_FORMATTER rf_s_SIOOBE_FORMATTER) hZ (hw _ (List.mem_of_getElem? (i := 71) rfl)) (hw _ (List.mem_of_getElem? (i := 5) rfl)) (by decide) (by decide)) (g := (mkF m 3 #[.val (.ref a0), .val (.int (0 : Int32))] [(.int (1 : Int32)), (.int (0 : Int32))])) rfl (by rw [hml]; rfl) (argsL := [(.int (0 : Int32)), (.int (1 : Int32))]) (rest := []) (lenOf pd_12 rfl) rfl (by show 2 * 0 + _ ≤ _; exact Nat.le_of_eq rfl) (hb hby d12_3) (fun _ _ => ⟨rfl, e0, (by decide : 0 + 0 ≤ _), (by decide : 0 + 0 ≤ _)⟩)
  dsimp only [Pt.U, Pt.locs, Pt.cells, Pt.slots] at X1 l1 y1 z1 st1 hQ1
  subst l1 y1 z1
  obtain ⟨rfl, N1q, e1⟩ := hQ1
  have N1 := Fr.app N0 N1q
  obtain ⟨fs, hr, hrun, hended, hW, hsame⟩ := X1.leave (v := some (.int (nar .char (((g_a0 0) &&& (255 : Int32)).toUInt32.toUInt16.toUInt32.toInt32)))) (fun h => by rw [Bd.returns] at h; cases h)
  refine ⟨_, _, pre0 _ ?_, hrun, hended, _, _, rfl, ?_, ⟨_, rfl⟩, hW, hsame.mono (by decide) (by decide)⟩
  · show Steps p.tables e below (s₁.setTop (mkF m 0 #[.val (.ref a0), .val (.int (0 : Int32))] [])) _
    refine XS.iloadN X0.here hx rfl (hb hby d12_0) rfl ?_
    show Steps p.tables e below (s₁.setTop (mkF m 1 #[.val (.ref a0), .val (.int (0 : Int32))] [(.int (0 : Int32))])) _
    refine XS.aloadN X0.here hx rfl (hb hby d12_1) rfl rfl ?_
    show Steps p.tables e below (s₁.setTop (mkF m 2 #[.val (.ref a0), .val (.int (0 : Int32))] [(.ref a0), (.int (0 : Int32))])) _
    refine AF.len X0 hx hZ e0 A_a0 (g := (mkF m 2 #[.val (.ref a0), .val (.int (0 : Int32))] [(.ref a0), (.int (0 : Int32))])) rfl rfl (hb hby d12_2) _ ?_
    show Steps p.tables e below (s₁.setTop (mkF m 3 #[.val (.ref a0), .val (.int (0 : Int32))] [(.int (1 : Int32)), (.int (0 : Int32))])) _
    refine st1 _ ?_
    show Steps p.tables e below (T1.setTop (mkF m 6 #[.val (.ref a0), .val (.int (0 : Int32))] [])) _
    refine XS.aloadN X1.here hx rfl (hb hby d12_6) rfl rfl ?_
    show Steps p.tables e below (T1.setTop (mkF m 7 #[.val (.ref a0), .val (.int (0 : Int32))] [(.ref a0)])) _
    refine XS.iloadN X1.here hx rfl (hb hby d12_7) rfl ?_
    show Steps p.tables e below (T1.setTop (mkF m 8 #[.val (.ref a0), .val (.int (0 : Int32))] [(.int (0 : Int32)), (.ref a0)])) _
    refine AF.ldB X1 hx hZ e1 A_a0 (by decide : own_in (0 : Int32) 1) (g := (mkF m 8 #[.val (.ref a0), .val (.int (0 : Int32))] [(.int (0 : Int32)), (.ref a0)])) rfl rfl (hb hby d12_8) _ ?_
    show Steps p.tables e below (T1.setTop (mkF m 9 #[.val (.ref a0), .val (.int (0 : Int32))] [(.int (g_a0 0))])) _
    refine XS.sipush X1.here hx rfl (hb hby d12_9) ?_
    show Steps p.tables e below (T1.setTop (mkF m 12 #[.val (.ref a0), .val (.int (0 : Int32))] [(.int (255 : Int32)), (.int (g_a0 0))])) _
    refine XS.iand X1.here hx rfl (hb hby d12_12) rfl ?_
    show Steps p.tables e below (T1.setTop (mkF m 13 #[.val (.ref a0), .val (.int (0 : Int32))] [(.int ((g_a0 0) &&& (255 : Int32)))])) _
    refine XS.i2c X1.here hx rfl (hb hby d12_13) rfl ?_
    show Steps p.tables e below (T1.setTop (mkF m 14 #[.val (.ref a0), .val (.int (0 : Int32))] [(.int (((g_a0 0) &&& (255 : Int32)).toUInt32.toUInt16.toUInt32.toInt32))])) _
    exact retN X1 hx (t := .char) Bd.returns (by simp) (hb hby d12_14) hr
  · show Q12 Z a0 g_a0 s_SIOOBE_FORMATTER h0 n0 _ T1.heap _
    exact ⟨rfl, N1, e1⟩
theorem ef_10 (m : MethodId) (a0 : Addr) : entryFrame m #[(.ref a0), (.int (0 : Int32))] 2 = mkF m 0 #[.val (.ref a0), .val (.int (0 : Int32))] [] := by first | (simp [entryFrame, mkF, argsToLocals, Value.category]; done) | rfl
def Q10 (Z : State) (a0 : Addr) (w_value_a0 : Addr) (s_COMPACT_STRINGS : Int32) (g_w_value_a0 : Nat → Int32) (s_SIOOBE_FORMATTER : Value) (h0 : Heap) (n0 : Nat) (v : Option Value) (h : Heap) (L : List Loc) : Prop := v = some (.int (nar .char (nar .char (((g_w_value_a0 0) &&& (255 : Int32)).toUInt32.toUInt16.toUInt32.toInt32)))) ∧ Fr n0 L ∧ h = h0
set_option maxRecDepth 65536 in
set_option maxHeartbeats 40000000 in
theorem rm10 (l : Launch) (Z : State) (A0 : Array Value) (hw : ∀ d ∈ tables_1, d.before A0 Z = true) (ws : List Jvm.Cond) (a0 : Addr) (w_value_a0 : Addr) (s_COMPACT_STRINGS : Int32) (g_w_value_a0 : Nat → Int32) (s_SIOOBE_FORMATTER : Value) (h0 : Heap) (n0 : Nat) (Z0 : n0 ≤ h0.size) (E_a0 : Exa Z h0 a0 "java/lang/String") (F_value_a0 : Fld Z h0 a0 "java/lang/String" "value" "[B" (.ref w_value_a0)) (F_coder_a0 : Fld Z h0 a0 "java/lang/String" "coder" "B" (.int (0 : Int32))) (S_COMPACT_STRINGS : SO Z n0 h0 "java/lang/String" "COMPACT_STRINGS" "Z" (.int s_COMPACT_STRINGS)) (A_w_value_a0 : AF Z h0 w_value_a0 .byte 1 (fun j => .int (g_w_value_a0 j))) (S_SIOOBE_FORMATTER : SO Z n0 h0 "jdk/internal/util/Preconditions" "SIOOBE_FORMATTER" "Ljava/util/function/BiFunction;" s_SIOOBE_FORMATTER) (hc3_1 : ¬ (s_COMPACT_STRINGS = (0 : Int32))) (rf_s_SIOOBE_FORMATTER : s_SIOOBE_FORMATTER.isRef = true) :
    MetFree l (⟨"java/lang/String", "charAt", "(I)C"⟩ : MethodName) (head1 (Jvm.Cond.code (⟨"java/lang/String", "charAt", "(I)C"⟩ : MethodName) jdk_42_method_56_code 2 (some .char) :: ws) ({ frames := 3, cells := 0, slots := 0, locals := 40 } : Room)) (fun a U => a = #[(.ref a0), (.int (0 : Int32))] ∧ Z.Warmed39 U.vm ∧ U.heap = h0) (fun _ _ _ _ _ => True) (fun _ U o U' => ∃ v L, o = .returned v ∧ Q10 Z a0 w_value_a0 s_COMPACT_STRINGS g_w_value_a0 s_SIOOBE_FORMATTER h0 n0 v U'.heap L ∧ FrameEnd U o U' L ({ frames := 3, cells := 0, slots := 0, locals := 40 } : Room).cells ({ frames := 3, cells := 0, slots := 0, locals := 40 } : Room).slots) := by
  refine MetFree.of_bodySF (plainFor_of_name pn_10) hisR ?_
  intro p e s m args below meth c s₁ Bd hml0 hP hK
  obtain ⟨rfl, hZ, hh⟩ := hP
  have hx := Bd.exec
  have hby := Bd.bytes
  have hml : c.maxLocals = 2 := hml0
  have hown : s.vm.findClass "java/lang/String" = some m.cls := findClass_of_methodNamed Bd.named
  have hnm := (name_of_methodNamed Bd.named Bd.method).1
  have X0 : Stand p l e ({ frames := 3, cells := 0, slots := 0, locals := 40 } : Room) s m #[(.ref a0), (.int (0 : Int32))] below meth c s₁ [] 0 0 := Stand.of_body Bd
  have e0 : s₁.heap = h0 := by rw [← hh, Bd.state]; rfl
  have N0 := Fr.nil n0
  have pre0 : ∀ t, Steps p.tables e below (s₁.setTop (mkF m 0 #[.val (.ref a0), .val (.int (0 : Int32))] [])) t → Steps p.tables e below (s₁.setTop (entryFrame m #[(.ref a0), (.int (0 : Int32))] 2)) t := fun t k => castTop (ef_10 m a0) k
  obtain ⟨cq1, kq1, q1a, q1b, q1c⟩ := isOf hZ e0 E_a0
  obtain ⟨_, _, ⟨T1, L1, k1, n1⟩, -, X1, ⟨Lc1, hQ1, l1, y1, z1⟩, st1⟩ := X0.virtualBack hx (y := (⟨"java/lang/String", "isLatin1", "()Z"⟩ : MethodName)) (z := (⟨"java/lang/String", "isLatin1", "()Z"⟩ : MethodName)) hown (mvT hZ (hw _ (List.mem_of_getElem? (i := 60) rfl))) (mvT hZ (hw _ (List.mem_of_getElem? (i := 61) rfl))) (notFace_of_selects (args := #[]) (mvT hZ (hw _ (List.mem_of_getElem? (i := 63) rfl)))) (mvT hZ (hw _ (List.mem_of_getElem? (i := 63) rfl))) (mvT hZ (hw _ (List.mem_of_getElem? (i := 62) rfl))) (by decide) (backOf (W := 0) (rm11 l Z A0 hw [] a0 w_value_a0 s_COMPACT_STRINGS h0 n0 (Nat.le_trans Z0 (Keep.refl h0 []).1) E_a0 F_value_a0 F_coder_a0 S_COMPACT_STRINGS hc3_1) hZ (hw _ (List.mem_of_getElem? (i := 64) rfl)) (hw _ (List.mem_of_getElem? (i := 5) rfl)) (by decide) (by decide)) q1a q1c (g := (mkF m 1 #[.val (.ref a0), .val (.int (0 : Int32))] [(.ref a0)])) rfl (by rw [hml]; rfl) (Steps.refl _) (argsL := []) (rest := []) (lenOf pd_10 rfl) rfl (by show 2 * 0 + _ ≤ _; exact Nat.le_of_eq rfl) (hb hby d10_1) (fun _ _ => ⟨rfl, e0, (by decide : 0 + 0 ≤ _), (by decide : 0 + 0 ≤ _)⟩)
  dsimp only [Pt.U, Pt.locs, Pt.cells, Pt.slots] at X1 l1 y1 z1 st1 hQ1
  subst l1 y1 z1
  obtain ⟨rfl, N1q, e1⟩ := hQ1
  have N1 := Fr.app N0 N1q
  obtain ⟨T2, X2, e2, st2⟩ := getF X1 hx hZ hown (host := "") (Or.inl (hw _ (List.mem_of_getElem? (i := 39) rfl))) Via.refl e1 F_value_a0 (g := (mkF m 8 #[.val (.ref a0), .val (.int (0 : Int32))] [(.ref a0)])) rfl rfl (hb hby d10_8)
  obtain ⟨_, _, ⟨T3, L3, k3, n3⟩, -, X3, ⟨Lc3, hQ3, l3, y3, z3⟩, st3⟩ := Jvm.LawKit.callS X2 hx (y := (⟨"java/lang/StringLatin1", "charAt", "([BI)C"⟩ : MethodName)) hown (mvT hZ (hw _ (List.mem_of_getElem? (i := 65) rfl))) (mvT hZ (hw _ (List.mem_of_getElem? (i := 66) rfl))) (mvT hZ (hw _ (List.mem_of_getElem? (i := 67) rfl))) (mvT hZ (hw _ (List.mem_of_getElem? (i := 68) rfl))) (by decide) (backOf (W := 0) (rm12 l Z A0 hw [] w_value_a0 g_w_value_a0 s_SIOOBE_FORMATTER h0 n0 (Nat.le_trans Z0 (Keep.refl h0 []).1) A_w_value_a0 S_SIOOBE_FORMATTER rf_s_SIOOBE_FORMATTER) hZ (hw _ (List.mem_of_getElem? (i := 68) rfl)) (hw _ (List.mem_of_getElem? (i := 67) rfl)) (by decide) (by decide)) (g := (mkF m 12 #[.val (.ref a0), .val (.int (0 : Int32))] [(.int (0 : Int32)), (.ref w_value_a0)])) rfl (by rw [hml]; rfl) (argsL := [(.ref w_value_a0), (.int (0 : Int32))]) (rest := []) (lenOf pd_11 rfl) rfl (by show 2 * 0 + _ ≤ _; exact Nat.le_of_eq rfl) (hb hby d10_12) (fun _ _ => ⟨rfl, e2, (by decide : 0 + 0 ≤ _), (by decide : 0 + 0 ≤ _)⟩)
  dsimp only [Pt.U, Pt.locs, Pt.cells, Pt.slots] at X3 l3 y3 z3 st3 hQ3
  subst l3 y3 z3
  obtain ⟨rfl, N3q, e3⟩ := hQ3
  have N3 := Fr.app N1 N3q
  obtain ⟨fs, hr, hrun, hended, hW, hsame⟩ := X3.leave (v := some (.int (nar .char (nar .char (((g_w_value_a0 0) &&& (255 : Int32)).toUInt32.toUInt16.toUInt32.toInt32))))) (fun h => by rw [Bd.returns] at h; cases h)
  refine ⟨_, _, pre0 _ ?_, hrun, hended, _, _, rfl, ?_, ⟨_, rfl⟩, hW, hsame.mono (by decide) (by decide)⟩
  · show Steps p.tables e below (s₁.setTop (mkF m 0 #[.val (.ref a0), .val (.int (0 : Int32))] [])) _
    refine XS.aloadN X0.here hx rfl (hb hby d10_0) rfl rfl ?_
    show Steps p.tables e below (s₁.setTop (mkF m 1 #[.val (.ref a0), .val (.int (0 : Int32))] [(.ref a0)])) _
    refine st1.trans ?_
    show Steps p.tables e below (T1.setTop (mkF m 4 #[.val (.ref a0), .val (.int (0 : Int32))] [(.int (1 : Int32))])) _
    refine XS.ifNo X1.here hx rfl (hb hby d10_4) rfl ((if0 _ _).trans (feq (by decide)).1) ?_
    show Steps p.tables e below (T1.setTop (mkF m 7 #[.val (.ref a0), .val (.int (0 : Int32))] [])) _
    refine XS.aloadN X1.here hx rfl (hb hby d10_7) rfl rfl ?_
    show Steps p.tables e below (T1.setTop (mkF m 8 #[.val (.ref a0), .val (.int (0 : Int32))] [(.ref a0)])) _
    refine st2 _ ?_
    show Steps p.tables e below (T2.setTop (mkF m 11 #[.val (.ref a0), .val (.int (0 : Int32))] [(.ref w_value_a0)])) _
    refine XS.iloadN X2.here hx rfl (hb hby d10_11) rfl ?_
    show Steps p.tables e below (T2.setTop (mkF m 12 #[.val (.ref a0), .val (.int (0 : Int32))] [(.int (0 : Int32)), (.ref w_value_a0)])) _
    refine st3 _ ?_
    show Steps p.tables e below (T3.setTop (mkF m 15 #[.val (.ref a0), .val (.int (0 : Int32))] [(.int (nar .char (((g_w_value_a0 0) &&& (255 : Int32)).toUInt32.toUInt16.toUInt32.toInt32)))])) _
    exact retN X3 hx (t := .char) Bd.returns (by simp) (hb hby d10_15) hr
  · show Q10 Z a0 w_value_a0 s_COMPACT_STRINGS g_w_value_a0 s_SIOOBE_FORMATTER h0 n0 _ T3.heap _
    exact ⟨rfl, N3, e3⟩
theorem ef_8 (m : MethodId) (a0 : Addr) (a2 : Addr) : entryFrame m #[(.ref a0), (.int (0 : Int32)), (.ref a2), (.int (0 : Int32)), (.int (1 : Int32))] 8 = mkF m 0 #[.val (.ref a0), .val (.int (0 : Int32)), .val (.ref a2), .val (.int (0 : Int32)), .val (.int (1 : Int32)), .unset, .unset, .unset] [] := by first | (simp [entryFrame, mkF, argsToLocals, Value.category]; done) | rfl
def Q8 (Z : State) (a0 : Addr) (a2 : Addr) (g_a0 : Nat → Int32) (g_a2 : Nat → Int32) (h0 : Heap) (n0 : Nat) (v : Option Value) (h : Heap) (L : List Loc) : Prop := v = some (.int (0 : Int32)) ∧ Fr n0 L ∧ h = h0
set_option maxRecDepth 65536 in
set_option maxHeartbeats 40000000 in
theorem rm8 (l : Launch) (Z : State) (A0 : Array Value) (hw : ∀ d ∈ tables_1, d.before A0 Z = true) (ws : List Jvm.Cond) (a0 : Addr) (a2 : Addr) (g_a0 : Nat → Int32) (g_a2 : Nat → Int32) (h0 : Heap) (n0 : Nat) (Z0 : n0 ≤ h0.size) (A_a0 : AF Z h0 a0 .byte 1 (fun j => .int (g_a0 j))) (A_a2 : AF Z h0 a2 .byte 1 (fun j => .int (g_a2 j))) (hc89 : ¬ ((g_a0 0) = (g_a2 0))) :
    MetFree l (⟨"jdk/internal/util/ArraysSupport", "mismatch", "([BI[BII)I"⟩ : MethodName) (head1 (Jvm.Cond.code (⟨"jdk/internal/util/ArraysSupport", "mismatch", "([BI[BII)I"⟩ : MethodName) jdk_48_method_14_code 8 (some .int) :: ws) ({ frames := 0, cells := 0, slots := 0, locals := 0 } : Room)) (fun a U => a = #[(.ref a0), (.int (0 : Int32)), (.ref a2), (.int (0 : Int32)), (.int (1 : Int32))] ∧ Z.Warmed39 U.vm ∧ U.heap = h0) (fun _ _ _ _ _ => True) (fun _ U o U' => ∃ v L, o = .returned v ∧ Q8 Z a0 a2 g_a0 g_a2 h0 n0 v U'.heap L ∧ FrameEnd U o U' L ({ frames := 0, cells := 0, slots := 0, locals := 0 } : Room).cells ({ frames := 0, cells := 0, slots := 0, locals := 0 } : Room).slots) := by
  refine MetFree.of_bodySF (plainFor_of_name pn_8) hisR ?_
  intro p e s m args below meth c s₁ Bd hml0 hP hK
  obtain ⟨rfl, hZ, hh⟩ := hP
  have hx := Bd.exec
  have hby := Bd.bytes
  have hml : c.maxLocals = 8 := hml0
  have hown : s.vm.findClass "jdk/internal/util/ArraysSupport" = some m.cls := findClass_of_methodNamed Bd.named
  have hnm := (name_of_methodNamed Bd.named Bd.method).1
  have X0 : Stand p l e ({ frames := 0, cells := 0, slots := 0, locals := 0 } : Room) s m #[(.ref a0), (.int (0 : Int32)), (.ref a2), (.int (0 : Int32)), (.int (1 : Int32))] below meth c s₁ [] 0 0 := Stand.of_body Bd
  have e0 : s₁.heap = h0 := by rw [← hh, Bd.state]; rfl
  have N0 := Fr.nil n0
  have pre0 : ∀ t, Steps p.tables e below (s₁.setTop (mkF m 0 #[.val (.ref a0), .val (.int (0 : Int32)), .val (.ref a2), .val (.int (0 : Int32)), .val (.int (1 : Int32)), .unset, .unset, .unset] [])) t → Steps p.tables e below (s₁.setTop (entryFrame m #[(.ref a0), (.int (0 : Int32)), (.ref a2), (.int (0 : Int32)), (.int (1 : Int32))] 8)) t := fun t k => castTop (ef_8 m a0 a2) k
  obtain ⟨fs, hr, hrun, hended, hW, hsame⟩ := X0.leave (v := some (.int (0 : Int32))) (fun h => by rw [Bd.returns] at h; cases h)
  refine ⟨_, _, pre0 _ ?_, hrun, hended, _, _, rfl, ?_, ⟨_, rfl⟩, hW, hsame.mono (by decide) (by decide)⟩
  · show Steps p.tables e below (s₁.setTop (mkF m 0 #[.val (.ref a0), .val (.int (0 : Int32)), .val (.ref a2), .val (.int (0 : Int32)), .val (.int (1 : Int32)), .unset, .unset, .unset] [])) _
    refine XS.iconst X0.here hx rfl (hb hby d8_0) ?_
    show Steps p.tables e below (s₁.setTop (mkF m 1 #[.val (.ref a0), .val (.int (0 : Int32)), .val (.ref a2), .val (.int (0 : Int32)), .val (.int (1 : Int32)), .unset, .unset, .unset] [(.int (0 : Int32))])) _
    refine XS.istore X0.here hx rfl (hb hby d8_1) rfl (l' := #[.val (.ref a0), .val (.int (0 : Int32)), .val (.ref a2), .val (.int (0 : Int32)), .val (.int (1 : Int32)), .val (.int (0 : Int32)), .unset, .unset]) rfl ?_
    show Steps p.tables e below (s₁.setTop (mkF m 3 #[.val (.ref a0), .val (.int (0 : Int32)), .val (.ref a2), .val (.int (0 : Int32)), .val (.int (1 : Int32)), .val (.int (0 : Int32)), .unset, .unset] [])) _
    refine XS.iload X0.here hx rfl (hb hby d8_3) rfl ?_
    show Steps p.tables e below (s₁.setTop (mkF m 5 #[.val (.ref a0), .val (.int (0 : Int32)), .val (.ref a2), .val (.int (0 : Int32)), .val (.int (1 : Int32)), .val (.int (0 : Int32)), .unset, .unset] [(.int (1 : Int32))])) _
    refine XS.bipush X0.here hx rfl (hb hby d8_5) ?_
    show Steps p.tables e below (s₁.setTop (mkF m 7 #[.val (.ref a0), .val (.int (0 : Int32)), .val (.ref a2), .val (.int (0 : Int32)), .val (.int (1 : Int32)), .val (.int (0 : Int32)), .unset, .unset] [(.int (7 : Int32)), (.int (1 : Int32))])) _
    refine XS.icmpYes X0.here hx rfl (pc0 := 7) (pc' := 70) rfl (hb hby d8_7) rfl (flt (by decide)).2.2.2 (by decide) (by decide) ?_
    show Steps p.tables e below (s₁.setTop (mkF m 70 #[.val (.ref a0), .val (.int (0 : Int32)), .val (.ref a2), .val (.int (0 : Int32)), .val (.int (1 : Int32)), .val (.int (0 : Int32)), .unset, .unset] [])) _
    refine XS.iload X0.here hx rfl (hb hby d8_70) rfl ?_
    show Steps p.tables e below (s₁.setTop (mkF m 72 #[.val (.ref a0), .val (.int (0 : Int32)), .val (.ref a2), .val (.int (0 : Int32)), .val (.int (1 : Int32)), .val (.int (0 : Int32)), .unset, .unset] [(.int (0 : Int32))])) _
    refine XS.iload X0.here hx rfl (hb hby d8_72) rfl ?_
    show Steps p.tables e below (s₁.setTop (mkF m 74 #[.val (.ref a0), .val (.int (0 : Int32)), .val (.ref a2), .val (.int (0 : Int32)), .val (.int (1 : Int32)), .val (.int (0 : Int32)), .unset, .unset] [(.int (1 : Int32)), (.int (0 : Int32))])) _
    refine XS.icmpNo X0.here hx rfl (hb hby d8_74) rfl (tlt (by decide)).2.1 ?_
    show Steps p.tables e below (s₁.setTop (mkF m 77 #[.val (.ref a0), .val (.int (0 : Int32)), .val (.ref a2), .val (.int (0 : Int32)), .val (.int (1 : Int32)), .val (.int (0 : Int32)), .unset, .unset] [])) _
    refine XS.aloadN X0.here hx rfl (hb hby d8_77) rfl rfl ?_
    show Steps p.tables e below (s₁.setTop (mkF m 78 #[.val (.ref a0), .val (.int (0 : Int32)), .val (.ref a2), .val (.int (0 : Int32)), .val (.int (1 : Int32)), .val (.int (0 : Int32)), .unset, .unset] [(.ref a0)])) _
    refine XS.iloadN X0.here hx rfl (hb hby d8_78) rfl ?_
    show Steps p.tables e below (s₁.setTop (mkF m 79 #[.val (.ref a0), .val (.int (0 : Int32)), .val (.ref a2), .val (.int (0 : Int32)), .val (.int (1 : Int32)), .val (.int (0 : Int32)), .unset, .unset] [(.int (0 : Int32)), (.ref a0)])) _
    refine XS.iload X0.here hx rfl (hb hby d8_79) rfl ?_
    show Steps p.tables e below (s₁.setTop (mkF m 81 #[.val (.ref a0), .val (.int (0 : Int32)), .val (.ref a2), .val (.int (0 : Int32)), .val (.int (1 : Int32)), .val (.int (0 : Int32)), .unset, .unset] [(.int (0 : Int32)), (.int (0 : Int32)), (.ref a0)])) _
    refine XS.iadd X0.here hx rfl (hb hby d8_81) rfl ?_
    show Steps p.tables e below (s₁.setTop (mkF m 82 #[.val (.ref a0), .val (.int (0 : Int32)), .val (.ref a2), .val (.int (0 : Int32)), .val (.int (1 : Int32)), .val (.int (0 : Int32)), .unset, .unset] [(.int (0 : Int32)), (.ref a0)])) _
    refine AF.ldB X0 hx hZ e0 A_a0 (by decide : own_in (0 : Int32) 1) (g := (mkF m 82 #[.val (.ref a0), .val (.int (0 : Int32)), .val (.ref a2), .val (.int (0 : Int32)), .val (.int (1 : Int32)), .val (.int (0 : Int32)), .unset, .unset] [(.int (0 : Int32)), (.ref a0)])) rfl rfl (hb hby d8_82) _ ?_
    show Steps p.tables e below (s₁.setTop (mkF m 83 #[.val (.ref a0), .val (.int (0 : Int32)), .val (.ref a2), .val (.int (0 : Int32)), .val (.int (1 : Int32)), .val (.int (0 : Int32)), .unset, .unset] [(.int (g_a0 0))])) _
    refine XS.aloadN X0.here hx rfl (hb hby d8_83) rfl rfl ?_
    show Steps p.tables e below (s₁.setTop (mkF m 84 #[.val (.ref a0), .val (.int (0 : Int32)), .val (.ref a2), .val (.int (0 : Int32)), .val (.int (1 : Int32)), .val (.int (0 : Int32)), .unset, .unset] [(.ref a2), (.int (g_a0 0))])) _
    refine XS.iloadN X0.here hx rfl (hb hby d8_84) rfl ?_
    show Steps p.tables e below (s₁.setTop (mkF m 85 #[.val (.ref a0), .val (.int (0 : Int32)), .val (.ref a2), .val (.int (0 : Int32)), .val (.int (1 : Int32)), .val (.int (0 : Int32)), .unset, .unset] [(.int (0 : Int32)), (.ref a2), (.int (g_a0 0))])) _
    refine XS.iload X0.here hx rfl (hb hby d8_85) rfl ?_
    show Steps p.tables e below (s₁.setTop (mkF m 87 #[.val (.ref a0), .val (.int (0 : Int32)), .val (.ref a2), .val (.int (0 : Int32)), .val (.int (1 : Int32)), .val (.int (0 : Int32)), .unset, .unset] [(.int (0 : Int32)), (.int (0 : Int32)), (.ref a2), (.int (g_a0 0))])) _
    refine XS.iadd X0.here hx rfl (hb hby d8_87) rfl ?_
    show Steps p.tables e below (s₁.setTop (mkF m 88 #[.val (.ref a0), .val (.int (0 : Int32)), .val (.ref a2), .val (.int (0 : Int32)), .val (.int (1 : Int32)), .val (.int (0 : Int32)), .unset, .unset] [(.int (0 : Int32)), (.ref a2), (.int (g_a0 0))])) _
    refine AF.ldB X0 hx hZ e0 A_a2 (by decide : own_in (0 : Int32) 1) (g := (mkF m 88 #[.val (.ref a0), .val (.int (0 : Int32)), .val (.ref a2), .val (.int (0 : Int32)), .val (.int (1 : Int32)), .val (.int (0 : Int32)), .unset, .unset] [(.int (0 : Int32)), (.ref a2), (.int (g_a0 0))])) rfl rfl (hb hby d8_88) _ ?_
    show Steps p.tables e below (s₁.setTop (mkF m 89 #[.val (.ref a0), .val (.int (0 : Int32)), .val (.ref a2), .val (.int (0 : Int32)), .val (.int (1 : Int32)), .val (.int (0 : Int32)), .unset, .unset] [(.int (g_a2 0)), (.int (g_a0 0))])) _
    refine XS.icmpNo X0.here hx rfl (hb hby d8_89) rfl (feq hc89).1 ?_
    show Steps p.tables e below (s₁.setTop (mkF m 92 #[.val (.ref a0), .val (.int (0 : Int32)), .val (.ref a2), .val (.int (0 : Int32)), .val (.int (1 : Int32)), .val (.int (0 : Int32)), .unset, .unset] [])) _
    refine XS.iload X0.here hx rfl (hb hby d8_92) rfl ?_
    show Steps p.tables e below (s₁.setTop (mkF m 94 #[.val (.ref a0), .val (.int (0 : Int32)), .val (.ref a2), .val (.int (0 : Int32)), .val (.int (1 : Int32)), .val (.int (0 : Int32)), .unset, .unset] [(.int (0 : Int32))])) _
    exact retOut X0 hx Bd.returns rfl (Or.inl ⟨rfl, Or.inl rfl, _, rfl⟩) (hb hby d8_94) hr
  · show Q8 Z a0 a2 g_a0 g_a2 h0 n0 _ s₁.heap _
    exact ⟨rfl, N0, e0⟩
theorem ef_5 (m : MethodId) (a0 : Addr) (a1 : Addr) : entryFrame m #[(.ref a0), (.ref a1), (.int (0 : Int32))] 8 = mkF m 0 #[.val (.ref a0), .val (.ref a1), .val (.int (0 : Int32)), .unset, .unset, .unset, .unset, .unset] [] := by first | (simp [entryFrame, mkF, argsToLocals, Value.category]; done) | rfl
def Q5 (Z : State) (a0 : Addr) (a1 : Addr) (w_value_a0 : Addr) (g_w_value_a0 : Nat → Int32) (s_COMPACT_STRINGS : Int32) (w_value_a1 : Addr) (g_w_value_a1 : Nat → Int32) (h0 : Heap) (n0 : Nat) (v : Option Value) (h : Heap) (L : List Loc) : Prop := v = some (.int (0 : Int32)) ∧ Fr n0 L ∧ h = h0
set_option maxRecDepth 65536 in
set_option maxHeartbeats 40000000 in
theorem rm5 (l : Launch) (Z : State) (A0 : Array Value) (hw : ∀ d ∈ tables_1, d.before A0 Z = true) (ws : List Jvm.Cond) (a0 : Addr) (a1 : Addr) (w_value_a0 : Addr) (g_w_value_a0 : Nat → Int32) (s_COMPACT_STRINGS : Int32) (w_value_a1 : Addr) (g_w_value_a1 : Nat → Int32) (h0 : Heap) (n0 : Nat) (Z0 : n0 ≤ h0.size) (E_a0 : Exa Z h0 a0 "java/lang/String") (F_value_a0 : Fld Z h0 a0 "java/lang/String" "value" "[B" (.ref w_value_a0)) (F_coder_a0 : Fld Z h0 a0 "java/lang/String" "coder" "B" (.int (0 : Int32))) (A_w_value_a0 : AF Z h0 w_value_a0 .byte 1 (fun j => .int (g_w_value_a0 j))) (S_COMPACT_STRINGS : SO Z n0 h0 "java/lang/String" "COMPACT_STRINGS" "Z" (.int s_COMPACT_STRINGS)) (E_a1 : Exa Z h0 a1 "java/lang/String") (F_value_a1 : Fld Z h0 a1 "java/lang/String" "value" "[B" (.ref w_value_a1)) (F_coder_a1 : Fld Z h0 a1 "java/lang/String" "coder" "B" (.int (0 : Int32))) (A_w_value_a1 : AF Z h0 w_value_a1 .byte 1 (fun j => .int (g_w_value_a1 j))) (hc3_6_6 : ¬ (s_COMPACT_STRINGS = (0 : Int32))) (hc89_70 : ¬ ((g_w_value_a0 0) = (g_w_value_a1 0))) :
    MetFree l (⟨"java/lang/String", "startsWith", "(Ljava/lang/String;I)Z"⟩ : MethodName) (head1 (Jvm.Cond.code (⟨"java/lang/String", "startsWith", "(Ljava/lang/String;I)Z"⟩ : MethodName) jdk_42_method_75_code 8 (some .boolean) :: ws) ({ frames := 2, cells := 0, slots := 0, locals := 27 } : Room)) (fun a U => a = #[(.ref a0), (.ref a1), (.int (0 : Int32))] ∧ Z.Warmed39 U.vm ∧ U.heap = h0) (fun _ _ _ _ _ => True) (fun _ U o U' => ∃ v L, o = .returned v ∧ Q5 Z a0 a1 w_value_a0 g_w_value_a0 s_COMPACT_STRINGS w_value_a1 g_w_value_a1 h0 n0 v U'.heap L ∧ FrameEnd U o U' L ({ frames := 2, cells := 0, slots := 0, locals := 27 } : Room).cells ({ frames := 2, cells := 0, slots := 0, locals := 27 } : Room).slots) := by
  refine MetFree.of_bodySF (plainFor_of_name pn_5) hisR ?_
  intro p e s m args below meth c s₁ Bd hml0 hP hK
  obtain ⟨rfl, hZ, hh⟩ := hP
  have hx := Bd.exec
  have hby := Bd.bytes
  have hml : c.maxLocals = 8 := hml0
  have hown : s.vm.findClass "java/lang/String" = some m.cls := findClass_of_methodNamed Bd.named
  have hnm := (name_of_methodNamed Bd.named Bd.method).1
  have X0 : Stand p l e ({ frames := 2, cells := 0, slots := 0, locals := 27 } : Room) s m #[(.ref a0), (.ref a1), (.int (0 : Int32))] below meth c s₁ [] 0 0 := Stand.of_body Bd
  have e0 : s₁.heap = h0 := by rw [← hh, Bd.state]; rfl
  have N0 := Fr.nil n0
  have pre0 : ∀ t, Steps p.tables e below (s₁.setTop (mkF m 0 #[.val (.ref a0), .val (.ref a1), .val (.int (0 : Int32)), .unset, .unset, .unset, .unset, .unset] [])) t → Steps p.tables e below (s₁.setTop (entryFrame m #[(.ref a0), (.ref a1), (.int (0 : Int32))] 8)) t := fun t k => castTop (ef_5 m a0 a1) k
  obtain ⟨cq1, kq1, q1a, q1b, q1c⟩ := isOf hZ e0 E_a0
  obtain ⟨_, _, ⟨T1, L1, k1, n1⟩, -, X1, ⟨Lc1, hQ1, l1, y1, z1⟩, st1⟩ := X0.virtualBack hx (y := (⟨"java/lang/String", "length", "()I"⟩ : MethodName)) (z := (⟨"java/lang/String", "length", "()I"⟩ : MethodName)) hown (mvT hZ (hw _ (List.mem_of_getElem? (i := 34) rfl))) (mvT hZ (hw _ (List.mem_of_getElem? (i := 35) rfl))) (notFace_of_selects (args := #[]) (mvT hZ (hw _ (List.mem_of_getElem? (i := 37) rfl)))) (mvT hZ (hw _ (List.mem_of_getElem? (i := 37) rfl))) (mvT hZ (hw _ (List.mem_of_getElem? (i := 36) rfl))) (by decide) (backOf (W := 1) (rm6 l Z A0 hw [] a0 w_value_a0 g_w_value_a0 s_COMPACT_STRINGS h0 n0 (Nat.le_trans Z0 (Keep.refl h0 []).1) E_a0 F_value_a0 F_coder_a0 A_w_value_a0 S_COMPACT_STRINGS hc3_6_6) hZ (hw _ (List.mem_of_getElem? (i := 38) rfl)) (hw _ (List.mem_of_getElem? (i := 5) rfl)) (by decide) (by decide)) q1a q1c (g := (mkF m 6 #[.val (.ref a0), .val (.ref a1), .val (.int (0 : Int32)), .unset, .unset, .unset, .unset, .unset] [(.ref a0), (.int (0 : Int32))])) rfl (by rw [hml]; rfl) (Steps.refl _) (argsL := []) (rest := [(.int (0 : Int32))]) (lenOf pd_5 rfl) rfl (by show 2 * 0 + _ ≤ _; exact Nat.le_of_eq rfl) (hb hby d5_6) (fun _ _ => ⟨rfl, e0, (by decide : 0 + 0 ≤ _), (by decide : 0 + 0 ≤ _)⟩)
  dsimp only [Pt.U, Pt.locs, Pt.cells, Pt.slots] at X1 l1 y1 z1 st1 hQ1
  subst l1 y1 z1
  obtain ⟨rfl, N1q, e1⟩ := hQ1
  have N1 := Fr.app N0 N1q
  have hq2 : ((1 : Int32) >>> ((0 : Int32) &&& 31)) = (1 : Int32) := (by decide)
  obtain ⟨cq3, kq3, q3a, q3b, q3c⟩ := isOf hZ e1 E_a1
  obtain ⟨_, _, ⟨T3, L3, k3, n3⟩, -, X3, ⟨Lc3, hQ3, l3, y3, z3⟩, st3⟩ := X1.virtualBack hx (y := (⟨"java/lang/String", "length", "()I"⟩ : MethodName)) (z := (⟨"java/lang/String", "length", "()I"⟩ : MethodName)) hown (mvT hZ (hw _ (List.mem_of_getElem? (i := 34) rfl))) (mvT hZ (hw _ (List.mem_of_getElem? (i := 35) rfl))) (notFace_of_selects (args := #[]) (mvT hZ (hw _ (List.mem_of_getElem? (i := 37) rfl)))) (mvT hZ (hw _ (List.mem_of_getElem? (i := 37) rfl))) (mvT hZ (hw _ (List.mem_of_getElem? (i := 36) rfl))) (by decide) (backOf (W := 2) (rm6 l Z A0 hw [] a1 w_value_a1 g_w_value_a1 s_COMPACT_STRINGS h0 n0 (Nat.le_trans Z0 (Keep.refl h0 []).1) E_a1 F_value_a1 F_coder_a1 A_w_value_a1 S_COMPACT_STRINGS hc3_6_6) hZ (hw _ (List.mem_of_getElem? (i := 38) rfl)) (hw _ (List.mem_of_getElem? (i := 5) rfl)) (by decide) (by decide)) q3a q3c (g := (mkF m 10 #[.val (.ref a0), .val (.ref a1), .val (.int (0 : Int32)), .unset, .unset, .unset, .unset, .unset] [(.ref a1), (.int (1 : Int32)), (.int (0 : Int32))])) rfl (by rw [hml]; rfl) (Steps.refl _) (argsL := []) (rest := [(.int (1 : Int32)), (.int (0 : Int32))]) (lenOf pd_5 rfl) rfl (by show 2 * 0 + _ ≤ _; exact Nat.le_of_eq rfl) (hb hby d5_10) (fun _ _ => ⟨rfl, e1, (by decide : 0 + 0 ≤ _), (by decide : 0 + 0 ≤ _)⟩)
  dsimp only [Pt.U, Pt.locs, Pt.cells, Pt.slots] at X3 l3 y3 z3 st3 hQ3
  subst l3 y3 z3
  obtain ⟨rfl, N3q, e3⟩ := hQ3
  have N3 := Fr.app N1 N3q
  have hq4 : ((1 : Int32) >>> ((0 : Int32) &&& 31)) = (1 : Int32) := (by decide)
  obtain ⟨T5, X5, e5, st5⟩ := getF X3 hx hZ hown (host := "") (Or.inl (hw _ (List.mem_of_getElem? (i := 39) rfl))) Via.refl e3 F_value_a0 (g := (mkF m 20 #[.val (.ref a0), .val (.ref a1), .val (.int (0 : Int32)), .unset, .unset, .unset, .unset, .unset] [(.ref a0)])) rfl rfl (hb hby d5_20)
  obtain ⟨T6, X6, e6, st6⟩ := getF X5 hx hZ hown (host := "") (Or.inl (hw _ (List.mem_of_getElem? (i := 39) rfl))) Via.refl e5 F_value_a1 (g := (mkF m 25 #[.val (.ref a0), .val (.ref a1), .val (.int (0 : Int32)), .val (.ref w_value_a0), .unset, .unset, .unset, .unset] [(.ref a1)])) rfl rfl (hb hby d5_25)
  obtain ⟨cq7, kq7, q7a, q7b, q7c⟩ := isOf hZ e6 E_a0
  obtain ⟨_, _, ⟨T7, L7, k7, n7⟩, -, X7, ⟨Lc7, hQ7, l7, y7, z7⟩, st7⟩ := X6.virtualBack hx (y := (⟨"java/lang/String", "coder", "()B"⟩ : MethodName)) (z := (⟨"java/lang/String", "coder", "()B"⟩ : MethodName)) hown (mvT hZ (hw _ (List.mem_of_getElem? (i := 40) rfl))) (mvT hZ (hw _ (List.mem_of_getElem? (i := 41) rfl))) (notFace_of_selects (args := #[]) (mvT hZ (hw _ (List.mem_of_getElem? (i := 43) rfl)))) (mvT hZ (hw _ (List.mem_of_getElem? (i := 43) rfl))) (mvT hZ (hw _ (List.mem_of_getElem? (i := 42) rfl))) (by decide) (backOf (W := 0) (rm7 l Z A0 hw [] a0 w_value_a0 s_COMPACT_STRINGS h0 n0 (Nat.le_trans Z0 (Keep.refl h0 []).1) E_a0 F_value_a0 F_coder_a0 S_COMPACT_STRINGS hc3_6_6) hZ (hw _ (List.mem_of_getElem? (i := 44) rfl)) (hw _ (List.mem_of_getElem? (i := 5) rfl)) (by decide) (by decide)) q7a q7c (g := (mkF m 39 #[.val (.ref a0), .val (.ref a1), .val (.int (0 : Int32)), .val (.ref w_value_a0), .val (.ref w_value_a1), .val (.int (0 : Int32)), .val (.int (1 : Int32)), .unset] [(.ref a0)])) rfl (by rw [hml]; rfl) (Steps.refl _) (argsL := []) (rest := []) (lenOf pd_6 rfl) rfl (by show 2 * 0 + _ ≤ _; exact Nat.le_of_eq rfl) (hb hby d5_39) (fun _ _ => ⟨rfl, e6, (by decide : 0 + 0 ≤ _), (by decide : 0 + 0 ≤ _)⟩)
  dsimp only [Pt.U, Pt.locs, Pt.cells, Pt.slots] at X7 l7 y7 z7 st7 hQ7
  subst l7 y7 z7
  obtain ⟨rfl, N7q, e7⟩ := hQ7
  have N7 := Fr.app N3 N7q
  obtain ⟨cq8, kq8, q8a, q8b, q8c⟩ := isOf hZ e7 E_a1
  obtain ⟨_, _, ⟨T8, L8, k8, n8⟩, -, X8, ⟨Lc8, hQ8, l8, y8, z8⟩, st8⟩ := X7.virtualBack hx (y := (⟨"java/lang/String", "coder", "()B"⟩ : MethodName)) (z := (⟨"java/lang/String", "coder", "()B"⟩ : MethodName)) hown (mvT hZ (hw _ (List.mem_of_getElem? (i := 40) rfl))) (mvT hZ (hw _ (List.mem_of_getElem? (i := 41) rfl))) (notFace_of_selects (args := #[]) (mvT hZ (hw _ (List.mem_of_getElem? (i := 43) rfl)))) (mvT hZ (hw _ (List.mem_of_getElem? (i := 43) rfl))) (mvT hZ (hw _ (List.mem_of_getElem? (i := 42) rfl))) (by decide) (backOf (W := 1) (rm7 l Z A0 hw [] a1 w_value_a1 s_COMPACT_STRINGS h0 n0 (Nat.le_trans Z0 (Keep.refl h0 []).1) E_a1 F_value_a1 F_coder_a1 S_COMPACT_STRINGS hc3_6_6) hZ (hw _ (List.mem_of_getElem? (i := 44) rfl)) (hw _ (List.mem_of_getElem? (i := 5) rfl)) (by decide) (by decide)) q8a q8c (g := (mkF m 47 #[.val (.ref a0), .val (.ref a1), .val (.int (0 : Int32)), .val (.ref w_value_a0), .val (.ref w_value_a1), .val (.int (0 : Int32)), .val (.int (1 : Int32)), .val (.int (0 : Int32))] [(.ref a1), (.int (0 : Int32))])) rfl (by rw [hml]; rfl) (Steps.refl _) (argsL := []) (rest := [(.int (0 : Int32))]) (lenOf pd_6 rfl) rfl (by show 2 * 0 + _ ≤ _; exact Nat.le_of_eq rfl) (hb hby d5_47) (fun _ _ => ⟨rfl, e7, (by decide : 0 + 0 ≤ _), (by decide : 0 + 0 ≤ _)⟩)
  dsimp only [Pt.U, Pt.locs, Pt.cells, Pt.slots] at X8 l8 y8 z8 st8 hQ8
  subst l8 y8 z8
  obtain ⟨rfl, N8q, e8⟩ := hQ8
  have N8 := Fr.app N7 N8q
  obtain ⟨_, _, ⟨T9, L9, k9, n9⟩, -, X9, ⟨Lc9, hQ9, l9, y9, z9⟩, st9⟩ := Jvm.LawKit.callS X8 hx (y := (⟨"jdk/internal/util/ArraysSupport", "mismatch", "([BI[BII)I"⟩ : MethodName)) hown (mvT hZ (hw _ (List.mem_of_getElem? (i := 47) rfl))) (mvT hZ (hw _ (List.mem_of_getElem? (i := 48) rfl))) (mvT hZ (hw _ (List.mem_of_getElem? (i := 49) rfl))) (mvT hZ (hw _ (List.mem_of_getElem? (i := 50) rfl))) (by decide) (backOf (W := 0) (rm8 l Z A0 hw [] w_value_a0 w_value_a1 g_w_value_a0 g_w_value_a1 h0 n0 (Nat.le_trans Z0 (Keep.refl h0 []).1) A_w_value_a0 A_w_value_a1 hc89_70) hZ (hw _ (List.mem_of_getElem? (i := 50) rfl)) (hw _ (List.mem_of_getElem? (i := 49) rfl)) (by decide) (by decide)) (g := (mkF m 70 #[.val (.ref a0), .val (.ref a1), .val (.int (0 : Int32)), .val (.ref w_value_a0), .val (.ref w_value_a1), .val (.int (0 : Int32)), .val (.int (1 : Int32)), .val (.int (0 : Int32))] [(.int (1 : Int32)), (.int (0 : Int32)), (.ref w_value_a1), (.int (0 : Int32)), (.ref w_value_a0)])) rfl (by rw [hml]; rfl) (argsL := [(.ref w_value_a0), (.int (0 : Int32)), (.ref w_value_a1), (.int (0 : Int32)), (.int (1 : Int32))]) (rest := []) (lenOf pd_7 rfl) rfl (by show 2 * 0 + _ ≤ _; exact Nat.le_of_eq rfl) (hb hby d5_70) (fun _ _ => ⟨rfl, e8, (by decide : 0 + 0 ≤ _), (by decide : 0 + 0 ≤ _)⟩)
  dsimp only [Pt.U, Pt.locs, Pt.cells, Pt.slots] at X9 l9 y9 z9 st9 hQ9
  subst l9 y9 z9
  obtain ⟨rfl, N9q, e9⟩ := hQ9
  have N9 := Fr.app N8 N9q
  obtain ⟨fs, hr, hrun, hended, hW, hsame⟩ := X9.leave (v := some (.int (0 : Int32))) (fun h => by rw [Bd.returns] at h; cases h)
  refine ⟨_, _, pre0 _ ?_, hrun, hended, _, _, rfl, ?_, ⟨_, rfl⟩, hW, hsame.mono (by decide) (by decide)⟩
  · show Steps p.tables e below (s₁.setTop (mkF m 0 #[.val (.ref a0), .val (.ref a1), .val (.int (0 : Int32)), .unset, .unset, .unset, .unset, .unset] [])) _
    refine XS.iloadN X0.here hx rfl (hb hby d5_0) rfl ?_
    show Steps p.tables e below (s₁.setTop (mkF m 1 #[.val (.ref a0), .val (.ref a1), .val (.int (0 : Int32)), .unset, .unset, .unset, .unset, .unset] [(.int (0 : Int32))])) _
    refine XS.ifNo X0.here hx rfl (hb hby d5_1) rfl ((if0 _ _).trans (flt (by decide)).1) ?_
    show Steps p.tables e below (s₁.setTop (mkF m 4 #[.val (.ref a0), .val (.ref a1), .val (.int (0 : Int32)), .unset, .unset, .unset, .unset, .unset] [])) _
    refine XS.iloadN X0.here hx rfl (hb hby d5_4) rfl ?_
    show Steps p.tables e below (s₁.setTop (mkF m 5 #[.val (.ref a0), .val (.ref a1), .val (.int (0 : Int32)), .unset, .unset, .unset, .unset, .unset] [(.int (0 : Int32))])) _
    refine XS.aloadN X0.here hx rfl (hb hby d5_5) rfl rfl ?_
    show Steps p.tables e below (s₁.setTop (mkF m 6 #[.val (.ref a0), .val (.ref a1), .val (.int (0 : Int32)), .unset, .unset, .unset, .unset, .unset] [(.ref a0), (.int (0 : Int32))])) _
    refine st1.trans ?_
    show Steps p.tables e below (T1.setTop (mkF m 9 #[.val (.ref a0), .val (.ref a1), .val (.int (0 : Int32)), .unset, .unset, .unset, .unset, .unset] [(.int ((1 : Int32) >>> ((0 : Int32) &&& 31))), (.int (0 : Int32))])) _
    refine castTop (g' := (mkF m 9 #[.val (.ref a0), .val (.ref a1), .val (.int (0 : Int32)), .unset, .unset, .unset, .unset, .unset] [(.int (1 : Int32)), (.int (0 : Int32))])) (by rw [hq2] <;> rfl) ?_
    show Steps p.tables e below (T1.setTop (mkF m 9 #[.val (.ref a0), .val (.ref a1), .val (.int (0 : Int32)), .unset, .unset, .unset, .unset, .unset] [(.int (1 : Int32)), (.int (0 : Int32))])) _
    refine XS.aloadN X1.here hx rfl (hb hby d5_9) rfl rfl ?_
    show Steps p.tables e below (T1.setTop (mkF m 10 #[.val (.ref a0), .val (.ref a1), .val (.int (0 : Int32)), .unset, .unset, .unset, .unset, .unset] [(.ref a1), (.int (1 : Int32)), (.int (0 : Int32))])) _
    refine st3.trans ?_
    show Steps p.tables e below (T3.setTop (mkF m 13 #[.val (.ref a0), .val (.ref a1), .val (.int (0 : Int32)), .unset, .unset, .unset, .unset, .unset] [(.int ((1 : Int32) >>> ((0 : Int32) &&& 31))), (.int (1 : Int32)), (.int (0 : Int32))])) _
    refine castTop (g' := (mkF m 13 #[.val (.ref a0), .val (.ref a1), .val (.int (0 : Int32)), .unset, .unset, .unset, .unset, .unset] [(.int (1 : Int32)), (.int (1 : Int32)), (.int (0 : Int32))])) (by rw [hq4] <;> rfl) ?_
    show Steps p.tables e below (T3.setTop (mkF m 13 #[.val (.ref a0), .val (.ref a1), .val (.int (0 : Int32)), .unset, .unset, .unset, .unset, .unset] [(.int (1 : Int32)), (.int (1 : Int32)), (.int (0 : Int32))])) _
    refine XS.isub X3.here hx rfl (hb hby d5_13) rfl ?_
    show Steps p.tables e below (T3.setTop (mkF m 14 #[.val (.ref a0), .val (.ref a1), .val (.int (0 : Int32)), .unset, .unset, .unset, .unset, .unset] [(.int (0 : Int32)), (.int (0 : Int32))])) _
    refine XS.icmpYes X3.here hx rfl (pc0 := 14) (pc' := 19) rfl (hb hby d5_14) rfl (flt (by decide)).2.2.2 (by decide) (by decide) ?_
    show Steps p.tables e below (T3.setTop (mkF m 19 #[.val (.ref a0), .val (.ref a1), .val (.int (0 : Int32)), .unset, .unset, .unset, .unset, .unset] [])) _
    refine XS.aloadN X3.here hx rfl (hb hby d5_19) rfl rfl ?_
    show Steps p.tables e below (T3.setTop (mkF m 20 #[.val (.ref a0), .val (.ref a1), .val (.int (0 : Int32)), .unset, .unset, .unset, .unset, .unset] [(.ref a0)])) _
    refine st5 _ ?_
    show Steps p.tables e below (T5.setTop (mkF m 23 #[.val (.ref a0), .val (.ref a1), .val (.int (0 : Int32)), .unset, .unset, .unset, .unset, .unset] [(.ref w_value_a0)])) _
    refine XS.astoreN X5.here hx rfl (hb hby d5_23) rfl rfl (l' := #[.val (.ref a0), .val (.ref a1), .val (.int (0 : Int32)), .val (.ref w_value_a0), .unset, .unset, .unset, .unset]) rfl ?_
    show Steps p.tables e below (T5.setTop (mkF m 24 #[.val (.ref a0), .val (.ref a1), .val (.int (0 : Int32)), .val (.ref w_value_a0), .unset, .unset, .unset, .unset] [])) _
    refine XS.aloadN X5.here hx rfl (hb hby d5_24) rfl rfl ?_
    show Steps p.tables e below (T5.setTop (mkF m 25 #[.val (.ref a0), .val (.ref a1), .val (.int (0 : Int32)), .val (.ref w_value_a0), .unset, .unset, .unset, .unset] [(.ref a1)])) _
    refine st6 _ ?_
    show Steps p.tables e below (T6.setTop (mkF m 28 #[.val (.ref a0), .val (.ref a1), .val (.int (0 : Int32)), .val (.ref w_value_a0), .unset, .unset, .unset, .unset] [(.ref w_value_a1)])) _
    refine XS.astore X6.here hx rfl (hb hby d5_28) rfl rfl (l' := #[.val (.ref a0), .val (.ref a1), .val (.int (0 : Int32)), .val (.ref w_value_a0), .val (.ref w_value_a1), .unset, .unset, .unset]) rfl ?_
    show Steps p.tables e below (T6.setTop (mkF m 30 #[.val (.ref a0), .val (.ref a1), .val (.int (0 : Int32)), .val (.ref w_value_a0), .val (.ref w_value_a1), .unset, .unset, .unset] [])) _
    refine XS.iconst X6.here hx rfl (hb hby d5_30) ?_
    show Steps p.tables e below (T6.setTop (mkF m 31 #[.val (.ref a0), .val (.ref a1), .val (.int (0 : Int32)), .val (.ref w_value_a0), .val (.ref w_value_a1), .unset, .unset, .unset] [(.int (0 : Int32))])) _
    refine XS.istore X6.here hx rfl (hb hby d5_31) rfl (l' := #[.val (.ref a0), .val (.ref a1), .val (.int (0 : Int32)), .val (.ref w_value_a0), .val (.ref w_value_a1), .val (.int (0 : Int32)), .unset, .unset]) rfl ?_
    show Steps p.tables e below (T6.setTop (mkF m 33 #[.val (.ref a0), .val (.ref a1), .val (.int (0 : Int32)), .val (.ref w_value_a0), .val (.ref w_value_a1), .val (.int (0 : Int32)), .unset, .unset] [])) _
    refine XS.aload X6.here hx rfl (hb hby d5_33) rfl rfl ?_
    show Steps p.tables e below (T6.setTop (mkF m 35 #[.val (.ref a0), .val (.ref a1), .val (.int (0 : Int32)), .val (.ref w_value_a0), .val (.ref w_value_a1), .val (.int (0 : Int32)), .unset, .unset] [(.ref w_value_a1)])) _
    refine AF.len X6 hx hZ e6 A_w_value_a1 (g := (mkF m 35 #[.val (.ref a0), .val (.ref a1), .val (.int (0 : Int32)), .val (.ref w_value_a0), .val (.ref w_value_a1), .val (.int (0 : Int32)), .unset, .unset] [(.ref w_value_a1)])) rfl rfl (hb hby d5_35) _ ?_
    show Steps p.tables e below (T6.setTop (mkF m 36 #[.val (.ref a0), .val (.ref a1), .val (.int (0 : Int32)), .val (.ref w_value_a0), .val (.ref w_value_a1), .val (.int (0 : Int32)), .unset, .unset] [(.int (1 : Int32))])) _
    refine XS.istore X6.here hx rfl (hb hby d5_36) rfl (l' := #[.val (.ref a0), .val (.ref a1), .val (.int (0 : Int32)), .val (.ref w_value_a0), .val (.ref w_value_a1), .val (.int (0 : Int32)), .val (.int (1 : Int32)), .unset]) rfl ?_
    show Steps p.tables e below (T6.setTop (mkF m 38 #[.val (.ref a0), .val (.ref a1), .val (.int (0 : Int32)), .val (.ref w_value_a0), .val (.ref w_value_a1), .val (.int (0 : Int32)), .val (.int (1 : Int32)), .unset] [])) _
    refine XS.aloadN X6.here hx rfl (hb hby d5_38) rfl rfl ?_
    show Steps p.tables e below (T6.setTop (mkF m 39 #[.val (.ref a0), .val (.ref a1), .val (.int (0 : Int32)), .val (.ref w_value_a0), .val (.ref w_value_a1), .val (.int (0 : Int32)), .val (.int (1 : Int32)), .unset] [(.ref a0)])) _
    refine st7.trans ?_
    show Steps p.tables e below (T7.setTop (mkF m 42 #[.val (.ref a0), .val (.ref a1), .val (.int (0 : Int32)), .val (.ref w_value_a0), .val (.ref w_value_a1), .val (.int (0 : Int32)), .val (.int (1 : Int32)), .unset] [(.int (0 : Int32))])) _
    refine XS.istore X7.here hx rfl (hb hby d5_42) rfl (l' := #[.val (.ref a0), .val (.ref a1), .val (.int (0 : Int32)), .val (.ref w_value_a0), .val (.ref w_value_a1), .val (.int (0 : Int32)), .val (.int (1 : Int32)), .val (.int (0 : Int32))]) rfl ?_
    show Steps p.tables e below (T7.setTop (mkF m 44 #[.val (.ref a0), .val (.ref a1), .val (.int (0 : Int32)), .val (.ref w_value_a0), .val (.ref w_value_a1), .val (.int (0 : Int32)), .val (.int (1 : Int32)), .val (.int (0 : Int32))] [])) _
    refine XS.iload X7.here hx rfl (hb hby d5_44) rfl ?_
    show Steps p.tables e below (T7.setTop (mkF m 46 #[.val (.ref a0), .val (.ref a1), .val (.int (0 : Int32)), .val (.ref w_value_a0), .val (.ref w_value_a1), .val (.int (0 : Int32)), .val (.int (1 : Int32)), .val (.int (0 : Int32))] [(.int (0 : Int32))])) _
    refine XS.aloadN X7.here hx rfl (hb hby d5_46) rfl rfl ?_
    show Steps p.tables e below (T7.setTop (mkF m 47 #[.val (.ref a0), .val (.ref a1), .val (.int (0 : Int32)), .val (.ref w_value_a0), .val (.ref w_value_a1), .val (.int (0 : Int32)), .val (.int (1 : Int32)), .val (.int (0 : Int32))] [(.ref a1), (.int (0 : Int32))])) _
    refine st8.trans ?_
    show Steps p.tables e below (T8.setTop (mkF m 50 #[.val (.ref a0), .val (.ref a1), .val (.int (0 : Int32)), .val (.ref w_value_a0), .val (.ref w_value_a1), .val (.int (0 : Int32)), .val (.int (1 : Int32)), .val (.int (0 : Int32))] [(.int (0 : Int32)), (.int (0 : Int32))])) _
    refine XS.icmpNo X8.here hx rfl (hb hby d5_50) rfl (teq (by decide)).2 ?_
    show Steps p.tables e below (T8.setTop (mkF m 53 #[.val (.ref a0), .val (.ref a1), .val (.int (0 : Int32)), .val (.ref w_value_a0), .val (.ref w_value_a1), .val (.int (0 : Int32)), .val (.int (1 : Int32)), .val (.int (0 : Int32))] [])) _
    refine XS.iload X8.here hx rfl (hb hby d5_53) rfl ?_
    show Steps p.tables e below (T8.setTop (mkF m 55 #[.val (.ref a0), .val (.ref a1), .val (.int (0 : Int32)), .val (.ref w_value_a0), .val (.ref w_value_a1), .val (.int (0 : Int32)), .val (.int (1 : Int32)), .val (.int (0 : Int32))] [(.int (0 : Int32))])) _
    refine XS.iconst X8.here hx rfl (hb hby d5_55) ?_
    show Steps p.tables e below (T8.setTop (mkF m 56 #[.val (.ref a0), .val (.ref a1), .val (.int (0 : Int32)), .val (.ref w_value_a0), .val (.ref w_value_a1), .val (.int (0 : Int32)), .val (.int (1 : Int32)), .val (.int (0 : Int32))] [(.int (1 : Int32)), (.int (0 : Int32))])) _
    refine XS.icmpYes X8.here hx rfl (pc0 := 56) (pc' := 63) rfl (hb hby d5_56) rfl (feq (by decide)).2 (by decide) (by decide) ?_
    show Steps p.tables e below (T8.setTop (mkF m 63 #[.val (.ref a0), .val (.ref a1), .val (.int (0 : Int32)), .val (.ref w_value_a0), .val (.ref w_value_a1), .val (.int (0 : Int32)), .val (.int (1 : Int32)), .val (.int (0 : Int32))] [])) _
    refine XS.aloadN X8.here hx rfl (hb hby d5_63) rfl rfl ?_
    show Steps p.tables e below (T8.setTop (mkF m 64 #[.val (.ref a0), .val (.ref a1), .val (.int (0 : Int32)), .val (.ref w_value_a0), .val (.ref w_value_a1), .val (.int (0 : Int32)), .val (.int (1 : Int32)), .val (.int (0 : Int32))] [(.ref w_value_a0)])) _
    refine XS.iloadN X8.here hx rfl (hb hby d5_64) rfl ?_
    show Steps p.tables e below (T8.setTop (mkF m 65 #[.val (.ref a0), .val (.ref a1), .val (.int (0 : Int32)), .val (.ref w_value_a0), .val (.ref w_value_a1), .val (.int (0 : Int32)), .val (.int (1 : Int32)), .val (.int (0 : Int32))] [(.int (0 : Int32)), (.ref w_value_a0)])) _
    refine XS.aload X8.here hx rfl (hb hby d5_65) rfl rfl ?_
    show Steps p.tables e below (T8.setTop (mkF m 67 #[.val (.ref a0), .val (.ref a1), .val (.int (0 : Int32)), .val (.ref w_value_a0), .val (.ref w_value_a1), .val (.int (0 : Int32)), .val (.int (1 : Int32)), .val (.int (0 : Int32))] [(.ref w_value_a1), (.int (0 : Int32)), (.ref w_value_a0)])) _
    refine XS.iconst X8.here hx rfl (hb hby d5_67) ?_
    show Steps p.tables e below (T8.setTop (mkF m 68 #[.val (.ref a0), .val (.ref a1), .val (.int (0 : Int32)), .val (.ref w_value_a0), .val (.ref w_value_a1), .val (.int (0 : Int32)), .val (.int (1 : Int32)), .val (.int (0 : Int32))] [(.int (0 : Int32)), (.ref w_value_a1), (.int (0 : Int32)), (.ref w_value_a0)])) _
    refine XS.iload X8.here hx rfl (hb hby d5_68) rfl ?_
    show Steps p.tables e below (T8.setTop (mkF m 70 #[.val (.ref a0), .val (.ref a1), .val (.int (0 : Int32)), .val (.ref w_value_a0), .val (.ref w_value_a1), .val (.int (0 : Int32)), .val (.int (1 : Int32)), .val (.int (0 : Int32))] [(.int (1 : Int32)), (.int (0 : Int32)), (.ref w_value_a1), (.int (0 : Int32)), (.ref w_value_a0)])) _
    refine st9 _ ?_
    show Steps p.tables e below (T9.setTop (mkF m 73 #[.val (.ref a0), .val (.ref a1), .val (.int (0 : Int32)), .val (.ref w_value_a0), .val (.ref w_value_a1), .val (.int (0 : Int32)), .val (.int (1 : Int32)), .val (.int (0 : Int32))] [(.int (0 : Int32))])) _
    refine XS.ifYes X9.here hx rfl (pc0 := 73) (pc' := 80) rfl (hb hby d5_73) rfl ((if0 _ _).trans (flt (by decide)).2.1) (by decide) (by decide) ?_
    show Steps p.tables e below (T9.setTop (mkF m 80 #[.val (.ref a0), .val (.ref a1), .val (.int (0 : Int32)), .val (.ref w_value_a0), .val (.ref w_value_a1), .val (.int (0 : Int32)), .val (.int (1 : Int32)), .val (.int (0 : Int32))] [])) _
    refine XS.iconst X9.here hx rfl (hb hby d5_80) ?_
    show Steps p.tables e below (T9.setTop (mkF m 81 #[.val (.ref a0), .val (.ref a1), .val (.int (0 : Int32)), .val (.ref w_value_a0), .val (.ref w_value_a1), .val (.int (0 : Int32)), .val (.int (1 : Int32)), .val (.int (0 : Int32))] [(.int (0 : Int32))])) _
    exact retN X9 hx (t := .boolean) Bd.returns (by simp) (hb hby d5_81) hr
  · show Q5 Z a0 a1 w_value_a0 g_w_value_a0 s_COMPACT_STRINGS w_value_a1 g_w_value_a1 h0 n0 _ T9.heap _
    exact ⟨rfl, N9, e9⟩
theorem ef_4 (m : MethodId) (a0 : Addr) (a1 : Addr) : entryFrame m #[(.ref a0), (.ref a1)] 2 = mkF m 0 #[.val (.ref a0), .val (.ref a1)] [] := by first | (simp [entryFrame, mkF, argsToLocals, Value.category]; done) | rfl
def Q4 (Z : State) (a0 : Addr) (a1 : Addr) (w_value_a0 : Addr) (g_w_value_a0 : Nat → Int32) (s_COMPACT_STRINGS : Int32) (w_value_a1 : Addr) (g_w_value_a1 : Nat → Int32) (h0 : Heap) (n0 : Nat) (v : Option Value) (h : Heap) (L : List Loc) : Prop := v = some (.int (0 : Int32)) ∧ Fr n0 L ∧ h = h0
set_option maxRecDepth 65536 in
set_option maxHeartbeats 40000000 in
theorem rm4 (l : Launch) (Z : State) (A0 : Array Value) (hw : ∀ d ∈ tables_1, d.before A0 Z = true) (ws : List Jvm.Cond) (a0 : Addr) (a1 : Addr) (w_value_a0 : Addr) (g_w_value_a0 : Nat → Int32) (s_COMPACT_STRINGS : Int32) (w_value_a1 : Addr) (g_w_value_a1 : Nat → Int32) (h0 : Heap) (n0 : Nat) (Z0 : n0 ≤ h0.size) (E_a0 : Exa Z h0 a0 "java/lang/String") (F_value_a0 : Fld Z h0 a0 "java/lang/String" "value" "[B" (.ref w_value_a0)) (F_coder_a0 : Fld Z h0 a0 "java/lang/String" "coder" "B" (.int (0 : Int32))) (A_w_value_a0 : AF Z h0 w_value_a0 .byte 1 (fun j => .int (g_w_value_a0 j))) (S_COMPACT_STRINGS : SO Z n0 h0 "java/lang/String" "COMPACT_STRINGS" "Z" (.int s_COMPACT_STRINGS)) (E_a1 : Exa Z h0 a1 "java/lang/String") (F_value_a1 : Fld Z h0 a1 "java/lang/String" "value" "[B" (.ref w_value_a1)) (F_coder_a1 : Fld Z h0 a1 "java/lang/String" "coder" "B" (.int (0 : Int32))) (A_w_value_a1 : AF Z h0 w_value_a1 .byte 1 (fun j => .int (g_w_value_a1 j))) (hc3_6_6_3 : ¬ (s_COMPACT_STRINGS = (0 : Int32))) (hc89_70_3 : ¬ ((g_w_value_a0 0) = (g_w_value_a1 0))) :
    MetFree l (⟨"java/lang/String", "startsWith", "(Ljava/lang/String;)Z"⟩ : MethodName) (head1 (Jvm.Cond.code (⟨"java/lang/String", "startsWith", "(Ljava/lang/String;)Z"⟩ : MethodName) jdk_42_method_76_code 2 (some .boolean) :: ws) ({ frames := 3, cells := 0, slots := 0, locals := 46 } : Room)) (fun a U => a = #[(.ref a0), (.ref a1)] ∧ Z.Warmed39 U.vm ∧ U.heap = h0) (fun _ _ _ _ _ => True) (fun _ U o U' => ∃ v L, o = .returned v ∧ Q4 Z a0 a1 w_value_a0 g_w_value_a0 s_COMPACT_STRINGS w_value_a1 g_w_value_a1 h0 n0 v U'.heap L ∧ FrameEnd U o U' L ({ frames := 3, cells := 0, slots := 0, locals := 46 } : Room).cells ({ frames := 3, cells := 0, slots := 0, locals := 46 } : Room).slots) := by
  refine MetFree.of_bodySF (plainFor_of_name pn_4) hisR ?_
  intro p e s m args below meth c s₁ Bd hml0 hP hK
  obtain ⟨rfl, hZ, hh⟩ := hP
  have hx := Bd.exec
  have hby := Bd.bytes
  have hml : c.maxLocals = 2 := hml0
  have hown : s.vm.findClass "java/lang/String" = some m.cls := findClass_of_methodNamed Bd.named
  have hnm := (name_of_methodNamed Bd.named Bd.method).1
  have X0 : Stand p l e ({ frames := 3, cells := 0, slots := 0, locals := 46 } : Room) s m #[(.ref a0), (.ref a1)] below meth c s₁ [] 0 0 := Stand.of_body Bd
  have e0 : s₁.heap = h0 := by rw [← hh, Bd.state]; rfl
  have N0 := Fr.nil n0
  have pre0 : ∀ t, Steps p.tables e below (s₁.setTop (mkF m 0 #[.val (.ref a0), .val (.ref a1)] [])) t → Steps p.tables e below (s₁.setTop (entryFrame m #[(.ref a0), (.ref a1)] 2)) t := fun t k => castTop (ef_4 m a0 a1) k
  obtain ⟨cq1, kq1, q1a, q1b, q1c⟩ := isOf hZ e0 E_a0
  obtain ⟨_, _, ⟨T1, L1, k1, n1⟩, -, X1, ⟨Lc1, hQ1, l1, y1, z1⟩, st1⟩ := X0.virtualBack hx (y := (⟨"java/lang/String", "startsWith", "(Ljava/lang/String;I)Z"⟩ : MethodName)) (z := (⟨"java/lang/String", "startsWith", "(Ljava/lang/String;I)Z"⟩ : MethodName)) hown (mvT hZ (hw _ (List.mem_of_getElem? (i := 29) rfl))) (mvT hZ (hw _ (List.mem_of_getElem? (i := 30) rfl))) (notFace_of_selects (args := #[]) (mvT hZ (hw _ (List.mem_of_getElem? (i := 32) rfl)))) (mvT hZ (hw _ (List.mem_of_getElem? (i := 32) rfl))) (mvT hZ (hw _ (List.mem_of_getElem? (i := 31) rfl))) (by decide) (backOf (W := 0) (rm5 l Z A0 hw [] a0 a1 w_value_a0 g_w_value_a0 s_COMPACT_STRINGS w_value_a1 g_w_value_a1 h0 n0 (Nat.le_trans Z0 (Keep.refl h0 []).1) E_a0 F_value_a0 F_coder_a0 A_w_value_a0 S_COMPACT_STRINGS E_a1 F_value_a1 F_coder_a1 A_w_value_a1 hc3_6_6_3 hc89_70_3) hZ (hw _ (List.mem_of_getElem? (i := 33) rfl)) (hw _ (List.mem_of_getElem? (i := 5) rfl)) (by decide) (by decide)) q1a q1c (g := (mkF m 3 #[.val (.ref a0), .val (.ref a1)] [(.int (0 : Int32)), (.ref a1), (.ref a0)])) rfl (by rw [hml]; rfl) (Steps.refl _) (argsL := [(.ref a1), (.int (0 : Int32))]) (rest := []) (lenOf pd_4 rfl) rfl (by show 2 * 0 + _ ≤ _; exact Nat.le_of_eq rfl) (hb hby d4_3) (fun _ _ => ⟨rfl, e0, (by decide : 0 + 0 ≤ _), (by decide : 0 + 0 ≤ _)⟩)
  dsimp only [Pt.U, Pt.locs, Pt.cells, Pt.slots] at X1 l1 y1 z1 st1 hQ1
  subst l1 y1 z1
  obtain ⟨rfl, N1q, e1⟩ := hQ1
  have N1 := Fr.app N0 N1q
  obtain ⟨fs, hr, hrun, hended, hW, hsame⟩ := X1.leave (v := some (.int (0 : Int32))) (fun h => by rw [Bd.returns] at h; cases h)
  refine ⟨_, _, pre0 _ ?_, hrun, hended, _, _, rfl, ?_, ⟨_, rfl⟩, hW, hsame.mono (by decide) (by decide)⟩
  · show Steps p.tables e below (s₁.setTop (mkF m 0 #[.val (.ref a0), .val (.ref a1)] [])) _
    refine XS.aloadN X0.here hx rfl (hb hby d4_0) rfl rfl ?_
    show Steps p.tables e below (s₁.setTop (mkF m 1 #[.val (.ref a0), .val (.ref a1)] [(.ref a0)])) _
    refine XS.aloadN X0.here hx rfl (hb hby d4_1) rfl rfl ?_
    show Steps p.tables e below (s₁.setTop (mkF m 2 #[.val (.ref a0), .val (.ref a1)] [(.ref a1), (.ref a0)])) _
    refine XS.iconst X0.here hx rfl (hb hby d4_2) ?_
    show Steps p.tables e below (s₁.setTop (mkF m 3 #[.val (.ref a0), .val (.ref a1)] [(.int (0 : Int32)), (.ref a1), (.ref a0)])) _
    refine st1.trans ?_
    show Steps p.tables e below (T1.setTop (mkF m 6 #[.val (.ref a0), .val (.ref a1)] [(.int (0 : Int32))])) _
    exact retN X1 hx (t := .boolean) Bd.returns (by simp) (hb hby d4_6) hr
  · show Q4 Z a0 a1 w_value_a0 g_w_value_a0 s_COMPACT_STRINGS w_value_a1 g_w_value_a1 h0 n0 _ T1.heap _
    exact ⟨rfl, N1, e1⟩
theorem ef_9 (m : MethodId) (a0 : Addr) : entryFrame m #[(.ref a0), (.int (0 : Int32))] 3 = mkF m 0 #[.val (.ref a0), .val (.int (0 : Int32)), .unset] [] := by first | (simp [entryFrame, mkF, argsToLocals, Value.category]; done) | rfl
def Q9 (Z : State) (a0 : Addr) (w_value_a0 : Addr) (g_w_value_a0 : Nat → Int32) (s_COMPACT_STRINGS : Int32) (s_SIOOBE_FORMATTER : Value) (h0 : Heap) (n0 : Nat) (v : Option Value) (h : Heap) (L : List Loc) : Prop := v = some (.int (1 : Int32)) ∧ Fr n0 L ∧ h = h0
set_option maxRecDepth 65536 in
set_option maxHeartbeats 40000000 in
theorem rm9 (l : Launch) (Z : State) (A0 : Array Value) (hw : ∀ d ∈ tables_1, d.before A0 Z = true) (ws : List Jvm.Cond) (a0 : Addr) (w_value_a0 : Addr) (g_w_value_a0 : Nat → Int32) (s_COMPACT_STRINGS : Int32) (s_SIOOBE_FORMATTER : Value) (h0 : Heap) (n0 : Nat) (Z0 : n0 ≤ h0.size) (E_a0 : Exa Z h0 a0 "java/lang/String") (F_value_a0 : Fld Z h0 a0 "java/lang/String" "value" "[B" (.ref w_value_a0)) (F_coder_a0 : Fld Z h0 a0 "java/lang/String" "coder" "B" (.int (0 : Int32))) (A_w_value_a0 : AF Z h0 w_value_a0 .byte 1 (fun j => .int (g_w_value_a0 j))) (S_COMPACT_STRINGS : SO Z n0 h0 "java/lang/String" "COMPACT_STRINGS" "Z" (.int s_COMPACT_STRINGS)) (S_SIOOBE_FORMATTER : SO Z n0 h0 "jdk/internal/util/Preconditions" "SIOOBE_FORMATTER" "Ljava/util/function/BiFunction;" s_SIOOBE_FORMATTER) (hdg : g_w_value_a0 0 = (49 : Int32) ∨ g_w_value_a0 0 = (50 : Int32) ∨ g_w_value_a0 0 = (51 : Int32)) (hc3_6_4 : ¬ (s_COMPACT_STRINGS = (0 : Int32))) (rf_s_SIOOBE_FORMATTER : s_SIOOBE_FORMATTER.isRef = true) :
    MetFree l (⟨"com/example/uneven_ticks/uneventicks/check/DecimalText", "digitsEnd", "(Ljava/lang/String;I)I"⟩ : MethodName) (head1 (Jvm.Cond.code (⟨"com/example/uneven_ticks/uneventicks/check/DecimalText", "digitsEnd", "(Ljava/lang/String;I)I"⟩ : MethodName) prog_9_method_14_code 3 (some .int) :: ws) ({ frames := 4, cells := 0, slots := 0, locals := 53 } : Room)) (fun a U => a = #[(.ref a0), (.int (0 : Int32))] ∧ Z.Warmed39 U.vm ∧ U.heap = h0) (fun _ _ _ _ _ => True) (fun _ U o U' => ∃ v L, o = .returned v ∧ Q9 Z a0 w_value_a0 g_w_value_a0 s_COMPACT_STRINGS s_SIOOBE_FORMATTER h0 n0 v U'.heap L ∧ FrameEnd U o U' L ({ frames := 4, cells := 0, slots := 0, locals := 53 } : Room).cells ({ frames := 4, cells := 0, slots := 0, locals := 53 } : Room).slots) := by
  refine MetFree.of_bodySF (plainFor_of_name pn_9) hisR ?_
  intro p e s m args below meth c s₁ Bd hml0 hP hK
  obtain ⟨rfl, hZ, hh⟩ := hP
  have hx := Bd.exec
  have hby := Bd.bytes
  have hml : c.maxLocals = 3 := hml0
  have hown : s.vm.findClass "com/example/uneven_ticks/uneventicks/check/DecimalText" = some m.cls := findClass_of_methodNamed Bd.named
  have hnm := (name_of_methodNamed Bd.named Bd.method).1
  have X0 : Stand p l e ({ frames := 4, cells := 0, slots := 0, locals := 53 } : Room) s m #[(.ref a0), (.int (0 : Int32))] below meth c s₁ [] 0 0 := Stand.of_body Bd
  have e0 : s₁.heap = h0 := by rw [← hh, Bd.state]; rfl
  have N0 := Fr.nil n0
  have pre0 : ∀ t, Steps p.tables e below (s₁.setTop (mkF m 0 #[.val (.ref a0), .val (.int (0 : Int32)), .unset] [])) t → Steps p.tables e below (s₁.setTop (entryFrame m #[(.ref a0), (.int (0 : Int32))] 3)) t := fun t k => castTop (ef_9 m a0) k
  obtain ⟨cq1, kq1, q1a, q1b, q1c⟩ := isOf hZ e0 E_a0
  obtain ⟨_, _, ⟨T1, L1, k1, n1⟩, -, X1, ⟨Lc1, hQ1, l1, y1, z1⟩, st1⟩ := X0.virtualBack hx (y := (⟨"java/lang/String", "length", "()I"⟩ : MethodName)) (z := (⟨"java/lang/String", "length", "()I"⟩ : MethodName)) hown (mvT hZ (hw _ (List.mem_of_getElem? (i := 54) rfl))) (mvT hZ (hw _ (List.mem_of_getElem? (i := 35) rfl))) (notFace_of_selects (args := #[]) (mvT hZ (hw _ (List.mem_of_getElem? (i := 37) rfl)))) (mvT hZ (hw _ (List.mem_of_getElem? (i := 37) rfl))) (mvT hZ (hw _ (List.mem_of_getElem? (i := 36) rfl))) (by decide) (backOf (W := 1) (rm6 l Z A0 hw [] a0 w_value_a0 g_w_value_a0 s_COMPACT_STRINGS h0 n0 (Nat.le_trans Z0 (Keep.refl h0 []).1) E_a0 F_value_a0 F_coder_a0 A_w_value_a0 S_COMPACT_STRINGS hc3_6_4) hZ (hw _ (List.mem_of_getElem? (i := 38) rfl)) (hw _ (List.mem_of_getElem? (i := 5) rfl)) (by decide) (by decide)) q1a q1c (g := (mkF m 4 #[.val (.ref a0), .val (.int (0 : Int32)), .val (.int (0 : Int32))] [(.ref a0), (.int (0 : Int32))])) rfl (by rw [hml]; rfl) (Steps.refl _) (argsL := []) (rest := [(.int (0 : Int32))]) (lenOf pd_5 rfl) rfl (by show 2 * 0 + _ ≤ _; exact Nat.le_of_eq rfl) (hb hby d9_4) (fun _ _ => ⟨rfl, e0, (by decide : 0 + 0 ≤ _), (by decide : 0 + 0 ≤ _)⟩)
  dsimp only [Pt.U, Pt.locs, Pt.cells, Pt.slots] at X1 l1 y1 z1 st1 hQ1
  subst l1 y1 z1
  obtain ⟨rfl, N1q, e1⟩ := hQ1
  have N1 := Fr.app N0 N1q
  have hq2 : ((1 : Int32) >>> ((0 : Int32) &&& 31)) = (1 : Int32) := (by decide)
  obtain ⟨cq3, kq3, q3a, q3b, q3c⟩ := isOf hZ e1 E_a0
  obtain ⟨_, _, ⟨T3, L3, k3, n3⟩, -, X3, ⟨Lc3, hQ3, l3, y3, z3⟩, st3⟩ := X1.virtualBack hx (y := (⟨"java/lang/String", "charAt", "(I)C"⟩ : MethodName)) (z := (⟨"java/lang/String", "charAt", "(I)C"⟩ : MethodName)) hown (mvT hZ (hw _ (List.mem_of_getElem? (i := 55) rfl))) (mvT hZ (hw _ (List.mem_of_getElem? (i := 56) rfl))) (notFace_of_selects (args := #[]) (mvT hZ (hw _ (List.mem_of_getElem? (i := 58) rfl)))) (mvT hZ (hw _ (List.mem_of_getElem? (i := 58) rfl))) (mvT hZ (hw _ (List.mem_of_getElem? (i := 57) rfl))) (by decide) (backOf (W := 0) (rm10 l Z A0 hw [] a0 w_value_a0 s_COMPACT_STRINGS g_w_value_a0 s_SIOOBE_FORMATTER h0 n0 (Nat.le_trans Z0 (Keep.refl h0 []).1) E_a0 F_value_a0 F_coder_a0 S_COMPACT_STRINGS A_w_value_a0 S_SIOOBE_FORMATTER hc3_6_4 rf_s_SIOOBE_FORMATTER) hZ (hw _ (List.mem_of_getElem? (i := 59) rfl)) (hw _ (List.mem_of_getElem? (i := 5) rfl)) (by decide) (by decide)) q3a q3c (g := (mkF m 12 #[.val (.ref a0), .val (.int (0 : Int32)), .val (.int (0 : Int32))] [(.int (0 : Int32)), (.ref a0)])) rfl (by rw [hml]; rfl) (Steps.refl _) (argsL := [(.int (0 : Int32))]) (rest := []) (lenOf pd_9 rfl) rfl (by show 2 * 0 + _ ≤ _; exact Nat.le_of_eq rfl) (hb hby d9_12) (fun _ _ => ⟨rfl, e1, (by decide : 0 + 0 ≤ _), (by decide : 0 + 0 ≤ _)⟩)
  dsimp only [Pt.U, Pt.locs, Pt.cells, Pt.slots] at X3 l3 y3 z3 st3 hQ3
  subst l3 y3 z3
  obtain ⟨rfl, N3q, e3⟩ := hQ3
  have N3 := Fr.app N1 N3q
  have hk4 : ¬ ((nar .char (nar .char (((g_w_value_a0 0) &&& (255 : Int32)).toUInt32.toUInt16.toUInt32.toInt32))) < (48 : Int32)) := (by rcases hdg with q | q | q <;> rw [q] <;> decide)
  obtain ⟨cq5, kq5, q5a, q5b, q5c⟩ := isOf hZ e3 E_a0
  obtain ⟨_, _, ⟨T5, L5, k5, n5⟩, -, X5, ⟨Lc5, hQ5, l5, y5, z5⟩, st5⟩ := X3.virtualBack hx (y := (⟨"java/lang/String", "charAt", "(I)C"⟩ : MethodName)) (z := (⟨"java/lang/String", "charAt", "(I)C"⟩ : MethodName)) hown (mvT hZ (hw _ (List.mem_of_getElem? (i := 55) rfl))) (mvT hZ (hw _ (List.mem_of_getElem? (i := 56) rfl))) (notFace_of_selects (args := #[]) (mvT hZ (hw _ (List.mem_of_getElem? (i := 58) rfl)))) (mvT hZ (hw _ (List.mem_of_getElem? (i := 58) rfl))) (mvT hZ (hw _ (List.mem_of_getElem? (i := 57) rfl))) (by decide) (backOf (W := 0) (rm10 l Z A0 hw [] a0 w_value_a0 s_COMPACT_STRINGS g_w_value_a0 s_SIOOBE_FORMATTER h0 n0 (Nat.le_trans Z0 (Keep.refl h0 []).1) E_a0 F_value_a0 F_coder_a0 S_COMPACT_STRINGS A_w_value_a0 S_SIOOBE_FORMATTER hc3_6_4 rf_s_SIOOBE_FORMATTER) hZ (hw _ (List.mem_of_getElem? (i := 59) rfl)) (hw _ (List.mem_of_getElem? (i := 5) rfl)) (by decide) (by decide)) q5a q5c (g := (mkF m 22 #[.val (.ref a0), .val (.int (0 : Int32)), .val (.int (0 : Int32))] [(.int (0 : Int32)), (.ref a0)])) rfl (by rw [hml]; rfl) (Steps.refl _) (argsL := [(.int (0 : Int32))]) (rest := []) (lenOf pd_9 rfl) rfl (by show 2 * 0 + _ ≤ _; exact Nat.le_of_eq rfl) (hb hby d9_22) (fun _ _ => ⟨rfl, e3, (by decide : 0 + 0 ≤ _), (by decide : 0 + 0 ≤ _)⟩)
  dsimp only [Pt.U, Pt.locs, Pt.cells, Pt.slots] at X5 l5 y5 z5 st5 hQ5
  subst l5 y5 z5
  obtain ⟨rfl, N5q, e5⟩ := hQ5
  have N5 := Fr.app N3 N5q
  have hk6 : ¬ ((57 : Int32) < (nar .char (nar .char (((g_w_value_a0 0) &&& (255 : Int32)).toUInt32.toUInt16.toUInt32.toInt32)))) := (by rcases hdg with q | q | q <;> rw [q] <;> decide)
  obtain ⟨cq7, kq7, q7a, q7b, q7c⟩ := isOf hZ e5 E_a0
  obtain ⟨_, _, ⟨T7, L7, k7, n7⟩, -, X7, ⟨Lc7, hQ7, l7, y7, z7⟩, st7⟩ := X5.virtualBack hx (y := (⟨"java/lang/String", "length", "()I"⟩ : MethodName)) (z := (⟨"java/lang/String", "length", "()I"⟩ : MethodName)) hown (mvT hZ (hw _ (List.mem_of_getElem? (i := 54) rfl))) (mvT hZ (hw _ (List.mem_of_getElem? (i := 35) rfl))) (notFace_of_selects (args := #[]) (mvT hZ (hw _ (List.mem_of_getElem? (i := 37) rfl)))) (mvT hZ (hw _ (List.mem_of_getElem? (i := 37) rfl))) (mvT hZ (hw _ (List.mem_of_getElem? (i := 36) rfl))) (by decide) (backOf (W := 1) (rm6 l Z A0 hw [] a0 w_value_a0 g_w_value_a0 s_COMPACT_STRINGS h0 n0 (Nat.le_trans Z0 (Keep.refl h0 []).1) E_a0 F_value_a0 F_coder_a0 A_w_value_a0 S_COMPACT_STRINGS hc3_6_4) hZ (hw _ (List.mem_of_getElem? (i := 38) rfl)) (hw _ (List.mem_of_getElem? (i := 5) rfl)) (by decide) (by decide)) q7a q7c (g := (mkF m 4 #[.val (.ref a0), .val (.int (0 : Int32)), .val (.int (1 : Int32))] [(.ref a0), (.int (1 : Int32))])) rfl (by rw [hml]; rfl) (Steps.refl _) (argsL := []) (rest := [(.int (1 : Int32))]) (lenOf pd_5 rfl) rfl (by show 2 * 0 + _ ≤ _; exact Nat.le_of_eq rfl) (hb hby d9_4) (fun _ _ => ⟨rfl, e5, (by decide : 0 + 0 ≤ _), (by decide : 0 + 0 ≤ _)⟩)
  dsimp only [Pt.U, Pt.locs, Pt.cells, Pt.slots] at X7 l7 y7 z7 st7 hQ7
  subst l7 y7 z7
  obtain ⟨rfl, N7q, e7⟩ := hQ7
  have N7 := Fr.app N5 N7q
  have hq8 : ((1 : Int32) >>> ((0 : Int32) &&& 31)) = (1 : Int32) := (by decide)
  obtain ⟨fs, hr, hrun, hended, hW, hsame⟩ := X7.leave (v := some (.int (1 : Int32))) (fun h => by rw [Bd.returns] at h; cases h)
  refine ⟨_, _, pre0 _ ?_, hrun, hended, _, _, rfl, ?_, ⟨_, rfl⟩, hW, hsame.mono (by decide) (by decide)⟩
  · show Steps p.tables e below (s₁.setTop (mkF m 0 #[.val (.ref a0), .val (.int (0 : Int32)), .unset] [])) _
    refine XS.iloadN X0.here hx rfl (hb hby d9_0) rfl ?_
    show Steps p.tables e below (s₁.setTop (mkF m 1 #[.val (.ref a0), .val (.int (0 : Int32)), .unset] [(.int (0 : Int32))])) _
    refine XS.istoreN X0.here hx rfl (hb hby d9_1) rfl (l' := #[.val (.ref a0), .val (.int (0 : Int32)), .val (.int (0 : Int32))]) rfl ?_
    show Steps p.tables e below (s₁.setTop (mkF m 2 #[.val (.ref a0), .val (.int (0 : Int32)), .val (.int (0 : Int32))] [])) _
    refine XS.iloadN X0.here hx rfl (hb hby d9_2) rfl ?_
    show Steps p.tables e below (s₁.setTop (mkF m 3 #[.val (.ref a0), .val (.int (0 : Int32)), .val (.int (0 : Int32))] [(.int (0 : Int32))])) _
    refine XS.aloadN X0.here hx rfl (hb hby d9_3) rfl rfl ?_
    show Steps p.tables e below (s₁.setTop (mkF m 4 #[.val (.ref a0), .val (.int (0 : Int32)), .val (.int (0 : Int32))] [(.ref a0), (.int (0 : Int32))])) _
    refine st1.trans ?_
    show Steps p.tables e below (T1.setTop (mkF m 7 #[.val (.ref a0), .val (.int (0 : Int32)), .val (.int (0 : Int32))] [(.int ((1 : Int32) >>> ((0 : Int32) &&& 31))), (.int (0 : Int32))])) _
    refine castTop (g' := (mkF m 7 #[.val (.ref a0), .val (.int (0 : Int32)), .val (.int (0 : Int32))] [(.int (1 : Int32)), (.int (0 : Int32))])) (by rw [hq2] <;> rfl) ?_
    show Steps p.tables e below (T1.setTop (mkF m 7 #[.val (.ref a0), .val (.int (0 : Int32)), .val (.int (0 : Int32))] [(.int (1 : Int32)), (.int (0 : Int32))])) _
    refine XS.icmpNo X1.here hx rfl (hb hby d9_7) rfl (tlt (by decide)).2.1 ?_
    show Steps p.tables e below (T1.setTop (mkF m 10 #[.val (.ref a0), .val (.int (0 : Int32)), .val (.int (0 : Int32))] [])) _
    refine XS.aloadN X1.here hx rfl (hb hby d9_10) rfl rfl ?_
    show Steps p.tables e below (T1.setTop (mkF m 11 #[.val (.ref a0), .val (.int (0 : Int32)), .val (.int (0 : Int32))] [(.ref a0)])) _
    refine XS.iloadN X1.here hx rfl (hb hby d9_11) rfl ?_
    show Steps p.tables e below (T1.setTop (mkF m 12 #[.val (.ref a0), .val (.int (0 : Int32)), .val (.int (0 : Int32))] [(.int (0 : Int32)), (.ref a0)])) _
    refine st3.trans ?_
    show Steps p.tables e below (T3.setTop (mkF m 15 #[.val (.ref a0), .val (.int (0 : Int32)), .val (.int (0 : Int32))] [(.int (nar .char (nar .char (((g_w_value_a0 0) &&& (255 : Int32)).toUInt32.toUInt16.toUInt32.toInt32))))])) _
    refine XS.bipush X3.here hx rfl (hb hby d9_15) ?_
    show Steps p.tables e below (T3.setTop (mkF m 17 #[.val (.ref a0), .val (.int (0 : Int32)), .val (.int (0 : Int32))] [(.int (48 : Int32)), (.int (nar .char (nar .char (((g_w_value_a0 0) &&& (255 : Int32)).toUInt32.toUInt16.toUInt32.toInt32))))])) _
    refine XS.icmpNo X3.here hx rfl (hb hby d9_17) rfl (flt hk4).1 ?_
    show Steps p.tables e below (T3.setTop (mkF m 20 #[.val (.ref a0), .val (.int (0 : Int32)), .val (.int (0 : Int32))] [])) _
    refine XS.aloadN X3.here hx rfl (hb hby d9_20) rfl rfl ?_
    show Steps p.tables e below (T3.setTop (mkF m 21 #[.val (.ref a0), .val (.int (0 : Int32)), .val (.int (0 : Int32))] [(.ref a0)])) _
    refine XS.iloadN X3.here hx rfl (hb hby d9_21) rfl ?_
    show Steps p.tables e below (T3.setTop (mkF m 22 #[.val (.ref a0), .val (.int (0 : Int32)), .val (.int (0 : Int32))] [(.int (0 : Int32)), (.ref a0)])) _
    refine st5.trans ?_
    show Steps p.tables e below (T5.setTop (mkF m 25 #[.val (.ref a0), .val (.int (0 : Int32)), .val (.int (0 : Int32))] [(.int (nar .char (nar .char (((g_w_value_a0 0) &&& (255 : Int32)).toUInt32.toUInt16.toUInt32.toInt32))))])) _
    refine XS.bipush X5.here hx rfl (hb hby d9_25) ?_
    show Steps p.tables e below (T5.setTop (mkF m 27 #[.val (.ref a0), .val (.int (0 : Int32)), .val (.int (0 : Int32))] [(.int (57 : Int32)), (.int (nar .char (nar .char (((g_w_value_a0 0) &&& (255 : Int32)).toUInt32.toUInt16.toUInt32.toInt32))))])) _
    refine XS.icmpNo X5.here hx rfl (hb hby d9_27) rfl (flt hk6).2.2.1 ?_
    show Steps p.tables e below (T5.setTop (mkF m 30 #[.val (.ref a0), .val (.int (0 : Int32)), .val (.int (0 : Int32))] [])) _
    refine XS.iinc X5.here hx rfl (hb hby d9_30) rfl (l' := #[.val (.ref a0), .val (.int (0 : Int32)), .val (.int (1 : Int32))]) rfl ?_
    show Steps p.tables e below (T5.setTop (mkF m 33 #[.val (.ref a0), .val (.int (0 : Int32)), .val (.int (1 : Int32))] [])) _
    refine XS.goto X5.here hx rfl (pc0 := 33) (pc' := 2) rfl (hb hby d9_33) (by decide) (by decide) ?_
    show Steps p.tables e below (T5.setTop (mkF m 2 #[.val (.ref a0), .val (.int (0 : Int32)), .val (.int (1 : Int32))] [])) _
    refine XS.iloadN X5.here hx rfl (hb hby d9_2) rfl ?_
    show Steps p.tables e below (T5.setTop (mkF m 3 #[.val (.ref a0), .val (.int (0 : Int32)), .val (.int (1 : Int32))] [(.int (1 : Int32))])) _
    refine XS.aloadN X5.here hx rfl (hb hby d9_3) rfl rfl ?_
    show Steps p.tables e below (T5.setTop (mkF m 4 #[.val (.ref a0), .val (.int (0 : Int32)), .val (.int (1 : Int32))] [(.ref a0), (.int (1 : Int32))])) _
    refine st7.trans ?_
    show Steps p.tables e below (T7.setTop (mkF m 7 #[.val (.ref a0), .val (.int (0 : Int32)), .val (.int (1 : Int32))] [(.int ((1 : Int32) >>> ((0 : Int32) &&& 31))), (.int (1 : Int32))])) _
    refine castTop (g' := (mkF m 7 #[.val (.ref a0), .val (.int (0 : Int32)), .val (.int (1 : Int32))] [(.int (1 : Int32)), (.int (1 : Int32))])) (by rw [hq8] <;> rfl) ?_
    show Steps p.tables e below (T7.setTop (mkF m 7 #[.val (.ref a0), .val (.int (0 : Int32)), .val (.int (1 : Int32))] [(.int (1 : Int32)), (.int (1 : Int32))])) _
    refine XS.icmpYes X7.here hx rfl (pc0 := 7) (pc' := 36) rfl (hb hby d9_7) rfl (flt (by decide)).2.1 (by decide) (by decide) ?_
    show Steps p.tables e below (T7.setTop (mkF m 36 #[.val (.ref a0), .val (.int (0 : Int32)), .val (.int (1 : Int32))] [])) _
    refine XS.iloadN X7.here hx rfl (hb hby d9_36) rfl ?_
    show Steps p.tables e below (T7.setTop (mkF m 37 #[.val (.ref a0), .val (.int (0 : Int32)), .val (.int (1 : Int32))] [(.int (1 : Int32))])) _
    exact retOut X7 hx Bd.returns rfl (Or.inl ⟨rfl, Or.inl rfl, _, rfl⟩) (hb hby d9_37) hr
  · show Q9 Z a0 w_value_a0 g_w_value_a0 s_COMPACT_STRINGS s_SIOOBE_FORMATTER h0 n0 _ T7.heap _
    exact ⟨rfl, N7, e7⟩
theorem ef_17 (m : MethodId) (p0 : Int32) (p1 : Int32) : entryFrame m #[(.int p0), (.int p1)] 2 = mkF m 0 #[.val (.int p0), .val (.int p1)] [] := by first | (simp [entryFrame, mkF, argsToLocals, Value.category]; done) | rfl
def Q17 (Z : State) (p0 : Int32) (p1 : Int32) (h0 : Heap) (n0 : Nat) (v : Option Value) (h : Heap) (L : List Loc) : Prop := v = some (.int (if p1 < p0 then p1 else p0)) ∧ Fr n0 L ∧ h = h0
set_option maxRecDepth 65536 in
set_option maxHeartbeats 40000000 in
theorem rm17 (l : Launch) (Z : State) (A0 : Array Value) (hw : ∀ d ∈ tables_1, d.before A0 Z = true) (ws : List Jvm.Cond) (p0 : Int32) (p1 : Int32) (h0 : Heap) (n0 : Nat) (Z0 : n0 ≤ h0.size) :
    MetFree l (⟨"java/lang/Math", "min", "(II)I"⟩ : MethodName) (head1 (Jvm.Cond.code (⟨"java/lang/Math", "min", "(II)I"⟩ : MethodName) jdk_29_method_69_code 2 (some .int) :: ws) ({ frames := 0, cells := 0, slots := 0, locals := 0 } : Room)) (fun a U => a = #[(.int p0), (.int p1)] ∧ Z.Warmed39 U.vm ∧ U.heap = h0) (fun _ _ _ _ _ => True) (fun _ U o U' => ∃ v L, o = .returned v ∧ Q17 Z p0 p1 h0 n0 v U'.heap L ∧ FrameEnd U o U' L ({ frames := 0, cells := 0, slots := 0, locals := 0 } : Room).cells ({ frames := 0, cells := 0, slots := 0, locals := 0 } : Room).slots) := by
  refine MetFree.of_bodySF (Jvm.Free.JP.mathPlain rfl (by decide +kernel)) hisR ?_
  intro p e s m args below meth c s₁ Bd hml0 hP hK
  obtain ⟨rfl, hZ, hh⟩ := hP
  have hx := Bd.exec
  have hby := Bd.bytes
  have hml : c.maxLocals = 2 := hml0
  have hown : s.vm.findClass "java/lang/Math" = some m.cls := findClass_of_methodNamed Bd.named
  have hnm := (name_of_methodNamed Bd.named Bd.method).1
  have X0 : Stand p l e ({ frames := 0, cells := 0, slots := 0, locals := 0 } : Room) s m #[(.int p0), (.int p1)] below meth c s₁ [] 0 0 := Stand.of_body Bd
  have e0 : s₁.heap = h0 := by rw [← hh, Bd.state]; rfl
  have N0 := Fr.nil n0
  have pre0 : ∀ t, Steps p.tables e below (s₁.setTop (mkF m 0 #[.val (.int p0), .val (.int p1)] [])) t → Steps p.tables e below (s₁.setTop (entryFrame m #[(.int p0), (.int p1)] 2)) t := fun t k => castTop (ef_17 m p0 p1) k
  obtain ⟨v2, hv2⟩ : ∃ z : Int32, z = if p1 < p0 then p1 else p0 := ⟨_, rfl⟩
  obtain ⟨fs, hr, hrun, hended, hW, hsame⟩ := X0.leave (v := some (.int v2)) (fun h => by rw [Bd.returns] at h; cases h)
  refine ⟨_, _, pre0 _ ?_, hrun, hended, _, _, rfl, ?_, ⟨_, rfl⟩, hW, hsame.mono (by decide) (by decide)⟩
  · show Steps p.tables e below (s₁.setTop (mkF m 0 #[.val (.int p0), .val (.int p1)] [])) _
    refine XS.iloadN X0.here hx rfl (hb hby d17_0) rfl ?_
    show Steps p.tables e below (s₁.setTop (mkF m 1 #[.val (.int p0), .val (.int p1)] [(.int p0)])) _
    refine XS.iloadN X0.here hx rfl (hb hby d17_1) rfl ?_
    show Steps p.tables e below (s₁.setTop (mkF m 2 #[.val (.int p0), .val (.int p1)] [(.int p1), (.int p0)])) _
    refine own_dia (F := (mkF m 10 #[.val (.int p0), .val (.int p1)] [(.int v2)])) ?_ ?_
    · intro kt
      by_cases hc1 : p1 < p0
      · show Steps p.tables e below (s₁.setTop (mkF m 2 #[.val (.int p0), .val (.int p1)] [(.int p1), (.int p0)])) _
        refine XS.icmpYes X0.here hx rfl (pc0 := 2) (pc' := 9) rfl (hb hby d17_2) rfl (tlt hc1).2.2.1 (by decide) (by decide) ?_
        show Steps p.tables e below (s₁.setTop (mkF m 9 #[.val (.int p0), .val (.int p1)] [])) _
        refine XS.iloadN X0.here hx rfl (hb hby d17_9) rfl ?_
        exact castTop (by rw [hv2, if_pos hc1] <;> rfl) kt
      · show Steps p.tables e below (s₁.setTop (mkF m 2 #[.val (.int p0), .val (.int p1)] [(.int p1), (.int p0)])) _
        refine XS.icmpNo X0.here hx rfl (hb hby d17_2) rfl (flt hc1).2.2.1 ?_
        show Steps p.tables e below (s₁.setTop (mkF m 5 #[.val (.int p0), .val (.int p1)] [])) _
        refine XS.iloadN X0.here hx rfl (hb hby d17_5) rfl ?_
        show Steps p.tables e below (s₁.setTop (mkF m 6 #[.val (.int p0), .val (.int p1)] [(.int p0)])) _
        refine XS.goto X0.here hx rfl (pc0 := 6) (pc' := 10) rfl (hb hby d17_6) (by decide) (by decide) ?_
        exact castTop (by rw [hv2, if_neg hc1] <;> rfl) kt
    show Steps p.tables e below (s₁.setTop (mkF m 10 #[.val (.int p0), .val (.int p1)] [(.int v2)])) _
    exact retOut X0 hx Bd.returns rfl (Or.inl ⟨rfl, Or.inl rfl, _, rfl⟩) (hb hby d17_10) hr
  · show Q17 Z p0 p1 h0 n0 _ s₁.heap _
    subst hv2
    exact ⟨rfl, N0, e0⟩
theorem ef_16 (m : MethodId) (a0 : Addr) : entryFrame m #[(.ref a0)] 1 = mkF m 0 #[.val (.ref a0)] [] := by first | (simp [entryFrame, mkF, argsToLocals, Value.category]; done) | rfl
def Q16 (Z : State) (a0 : Addr) (w_text_a0 : Addr) (w_value_w_text_a0 : Addr) (g_w_value_w_text_a0 : Nat → Int32) (s_COMPACT_STRINGS : Int32) (h0 : Heap) (n0 : Nat) (v : Option Value) (h : Heap) (L : List Loc) : Prop := v = some (.int (if (1 : Int32) < (2 : Int32) then (1 : Int32) else (2 : Int32))) ∧ Fr n0 L ∧ h = h0
set_option maxRecDepth 65536 in
set_option maxHeartbeats 40000000 in
theorem rm16 (l : Launch) (Z : State) (A0 : Array Value) (hw : ∀ d ∈ tables_1, d.before A0 Z = true) (ws : List Jvm.Cond) (a0 : Addr) (w_text_a0 : Addr) (w_value_w_text_a0 : Addr) (g_w_value_w_text_a0 : Nat → Int32) (s_COMPACT_STRINGS : Int32) (h0 : Heap) (n0 : Nat) (Z0 : n0 ≤ h0.size) (F_point_a0 : Fld Z h0 a0 "com/example/uneven_ticks/uneventicks/check/DecimalText" "point" "I" (.int (1 : Int32))) (F_text_a0 : Fld Z h0 a0 "com/example/uneven_ticks/uneventicks/check/DecimalText" "text" "Ljava/lang/String;" (.ref w_text_a0)) (E_w_text_a0 : Exa Z h0 w_text_a0 "java/lang/String") (F_value_w_text_a0 : Fld Z h0 w_text_a0 "java/lang/String" "value" "[B" (.ref w_value_w_text_a0)) (F_coder_w_text_a0 : Fld Z h0 w_text_a0 "java/lang/String" "coder" "B" (.int (0 : Int32))) (A_w_value_w_text_a0 : AF Z h0 w_value_w_text_a0 .byte 1 (fun j => .int (g_w_value_w_text_a0 j))) (S_COMPACT_STRINGS : SO Z n0 h0 "java/lang/String" "COMPACT_STRINGS" "Z" (.int s_COMPACT_STRINGS)) (hc3_6_10 : ¬ (s_COMPACT_STRINGS = (0 : Int32))) :
    MetFree l (⟨"com/example/uneven_ticks/uneventicks/check/DecimalText", "fractionStart", "()I"⟩ : MethodName) (head1 (Jvm.Cond.code (⟨"com/example/uneven_ticks/uneventicks/check/DecimalText", "fractionStart", "()I"⟩ : MethodName) prog_9_method_12_code 1 (some .int) :: ws) ({ frames := 2, cells := 0, slots := 0, locals := 26 } : Room)) (fun a U => a = #[(.ref a0)] ∧ Z.Warmed39 U.vm ∧ U.heap = h0) (fun _ _ _ _ _ => True) (fun _ U o U' => ∃ v L, o = .returned v ∧ Q16 Z a0 w_text_a0 w_value_w_text_a0 g_w_value_w_text_a0 s_COMPACT_STRINGS h0 n0 v U'.heap L ∧ FrameEnd U o U' L ({ frames := 2, cells := 0, slots := 0, locals := 26 } : Room).cells ({ frames := 2, cells := 0, slots := 0, locals := 26 } : Room).slots) := by
  refine MetFree.of_bodySF (plainFor_of_name pn_16) hisR ?_
  intro p e s m args below meth c s₁ Bd hml0 hP hK
  obtain ⟨rfl, hZ, hh⟩ := hP
  have hx := Bd.exec
  have hby := Bd.bytes
  have hml : c.maxLocals = 1 := hml0
  have hown : s.vm.findClass "com/example/uneven_ticks/uneventicks/check/DecimalText" = some m.cls := findClass_of_methodNamed Bd.named
  have hnm := (name_of_methodNamed Bd.named Bd.method).1
  have X0 : Stand p l e ({ frames := 2, cells := 0, slots := 0, locals := 26 } : Room) s m #[(.ref a0)] below meth c s₁ [] 0 0 := Stand.of_body Bd
  have e0 : s₁.heap = h0 := by rw [← hh, Bd.state]; rfl
  have N0 := Fr.nil n0
  have pre0 : ∀ t, Steps p.tables e below (s₁.setTop (mkF m 0 #[.val (.ref a0)] [])) t → Steps p.tables e below (s₁.setTop (entryFrame m #[(.ref a0)] 1)) t := fun t k => castTop (ef_16 m a0) k
  obtain ⟨T1, X1, e1, st1⟩ := getF X0 hx hZ hown (host := "") (Or.inl (hw _ (List.mem_of_getElem? (i := 85) rfl))) Via.refl e0 F_point_a0 (g := (mkF m 1 #[.val (.ref a0)] [(.ref a0)])) rfl rfl (hb hby d16_1)
  obtain ⟨T2, X2, e2, st2⟩ := getF X1 hx hZ hown (host := "") (Or.inl (hw _ (List.mem_of_getElem? (i := 83) rfl))) Via.refl e1 F_text_a0 (g := (mkF m 7 #[.val (.ref a0)] [(.ref a0), (.int (2 : Int32))])) rfl rfl (hb hby d16_7)
  obtain ⟨cq3, kq3, q3a, q3b, q3c⟩ := isOf hZ e2 E_w_text_a0
  obtain ⟨_, _, ⟨T3, L3, k3, n3⟩, -, X3, ⟨Lc3, hQ3, l3, y3, z3⟩, st3⟩ := X2.virtualBack hx (y := (⟨"java/lang/String", "length", "()I"⟩ : MethodName)) (z := (⟨"java/lang/String", "length", "()I"⟩ : MethodName)) hown (mvT hZ (hw _ (List.mem_of_getElem? (i := 54) rfl))) (mvT hZ (hw _ (List.mem_of_getElem? (i := 35) rfl))) (notFace_of_selects (args := #[]) (mvT hZ (hw _ (List.mem_of_getElem? (i := 37) rfl)))) (mvT hZ (hw _ (List.mem_of_getElem? (i := 37) rfl))) (mvT hZ (hw _ (List.mem_of_getElem? (i := 36) rfl))) (by decide) (backOf (W := 1) (rm6 l Z A0 hw [] w_text_a0 w_value_w_text_a0 g_w_value_w_text_a0 s_COMPACT_STRINGS h0 n0 (Nat.le_trans Z0 (Keep.refl h0 []).1) E_w_text_a0 F_value_w_text_a0 F_coder_w_text_a0 A_w_value_w_text_a0 S_COMPACT_STRINGS hc3_6_10) hZ (hw _ (List.mem_of_getElem? (i := 38) rfl)) (hw _ (List.mem_of_getElem? (i := 5) rfl)) (by decide) (by decide)) q3a q3c (g := (mkF m 10 #[.val (.ref a0)] [(.ref w_text_a0), (.int (2 : Int32))])) rfl (by rw [hml]; rfl) (Steps.refl _) (argsL := []) (rest := [(.int (2 : Int32))]) (lenOf pd_5 rfl) rfl (by show 2 * 0 + _ ≤ _; exact Nat.le_of_eq rfl) (hb hby d16_10) (fun _ _ => ⟨rfl, e2, (by decide : 0 + 0 ≤ _), (by decide : 0 + 0 ≤ _)⟩)
  dsimp only [Pt.U, Pt.locs, Pt.cells, Pt.slots] at X3 l3 y3 z3 st3 hQ3
  subst l3 y3 z3
  obtain ⟨rfl, N3q, e3⟩ := hQ3
  have N3 := Fr.app N0 N3q
  have hq4 : ((1 : Int32) >>> ((0 : Int32) &&& 31)) = (1 : Int32) := (by decide)
  obtain ⟨_, _, ⟨T5, L5, k5, n5⟩, -, X5, ⟨Lc5, hQ5, l5, y5, z5⟩, st5⟩ := Jvm.LawKit.callS X3 hx (y := (⟨"java/lang/Math", "min", "(II)I"⟩ : MethodName)) hown (mvT hZ (hw _ (List.mem_of_getElem? (i := 93) rfl))) (mvT hZ (hw _ (List.mem_of_getElem? (i := 94) rfl))) (mvT hZ (hw _ (List.mem_of_getElem? (i := 95) rfl))) (mvT hZ (hw _ (List.mem_of_getElem? (i := 96) rfl))) (by decide) (backOf (W := 0) (rm17 l Z A0 hw [] (2 : Int32) (1 : Int32) h0 n0 (Nat.le_trans Z0 (Keep.refl h0 []).1) ) hZ (hw _ (List.mem_of_getElem? (i := 96) rfl)) (hw _ (List.mem_of_getElem? (i := 95) rfl)) (by decide) (by decide)) (g := (mkF m 13 #[.val (.ref a0)] [(.int (1 : Int32)), (.int (2 : Int32))])) rfl (by rw [hml]; rfl) (argsL := [(.int (2 : Int32)), (.int (1 : Int32))]) (rest := []) (lenOf pd_15 rfl) rfl (by show 2 * 0 + _ ≤ _; exact Nat.le_of_eq rfl) (hb hby d16_13) (fun _ _ => ⟨rfl, e3, (by decide : 0 + 0 ≤ _), (by decide : 0 + 0 ≤ _)⟩)
  dsimp only [Pt.U, Pt.locs, Pt.cells, Pt.slots] at X5 l5 y5 z5 st5 hQ5
  subst l5 y5 z5
  obtain ⟨rfl, N5q, e5⟩ := hQ5
  have N5 := Fr.app N3 N5q
  obtain ⟨fs, hr, hrun, hended, hW, hsame⟩ := X5.leave (v := some (.int (if (1 : Int32) < (2 : Int32) then (1 : Int32) else (2 : Int32)))) (fun h => by rw [Bd.returns] at h; cases h)
  refine ⟨_, _, pre0 _ ?_, hrun, hended, _, _, rfl, ?_, ⟨_, rfl⟩, hW, hsame.mono (by decide) (by decide)⟩
  · show Steps p.tables e below (s₁.setTop (mkF m 0 #[.val (.ref a0)] [])) _
    refine XS.aloadN X0.here hx rfl (hb hby d16_0) rfl rfl ?_
    show Steps p.tables e below (s₁.setTop (mkF m 1 #[.val (.ref a0)] [(.ref a0)])) _
    refine st1 _ ?_
    show Steps p.tables e below (T1.setTop (mkF m 4 #[.val (.ref a0)] [(.int (1 : Int32))])) _
    refine XS.iconst X1.here hx rfl (hb hby d16_4) ?_
    show Steps p.tables e below (T1.setTop (mkF m 5 #[.val (.ref a0)] [(.int (1 : Int32)), (.int (1 : Int32))])) _
    refine XS.iadd X1.here hx rfl (hb hby d16_5) rfl ?_
    show Steps p.tables e below (T1.setTop (mkF m 6 #[.val (.ref a0)] [(.int (2 : Int32))])) _
    refine XS.aloadN X1.here hx rfl (hb hby d16_6) rfl rfl ?_
    show Steps p.tables e below (T1.setTop (mkF m 7 #[.val (.ref a0)] [(.ref a0), (.int (2 : Int32))])) _
    refine st2 _ ?_
    show Steps p.tables e below (T2.setTop (mkF m 10 #[.val (.ref a0)] [(.ref w_text_a0), (.int (2 : Int32))])) _
    refine st3.trans ?_
    show Steps p.tables e below (T3.setTop (mkF m 13 #[.val (.ref a0)] [(.int ((1 : Int32) >>> ((0 : Int32) &&& 31))), (.int (2 : Int32))])) _
    refine castTop (g' := (mkF m 13 #[.val (.ref a0)] [(.int (1 : Int32)), (.int (2 : Int32))])) (by rw [hq4] <;> rfl) ?_
    show Steps p.tables e below (T3.setTop (mkF m 13 #[.val (.ref a0)] [(.int (1 : Int32)), (.int (2 : Int32))])) _
    refine st5 _ ?_
    show Steps p.tables e below (T5.setTop (mkF m 16 #[.val (.ref a0)] [(.int (if (1 : Int32) < (2 : Int32) then (1 : Int32) else (2 : Int32)))])) _
    exact retOut X5 hx Bd.returns rfl (Or.inl ⟨rfl, Or.inl rfl, _, rfl⟩) (hb hby d16_16) hr
  · show Q16 Z a0 w_text_a0 w_value_w_text_a0 g_w_value_w_text_a0 s_COMPACT_STRINGS h0 n0 _ T5.heap _
    exact ⟨rfl, N5, e5⟩
theorem ef_15 (m : MethodId) (a0 : Addr) (a1 : Addr) : entryFrame m #[(.ref a0), (.ref a1), (.int (0 : Int32)), (.int (1 : Int32))] 7 = mkF m 0 #[.val (.ref a0), .val (.ref a1), .val (.int (0 : Int32)), .val (.int (1 : Int32)), .unset, .unset, .unset] [] := by first | (simp [entryFrame, mkF, argsToLocals, Value.category]; done) | rfl
def Q15 (Z : State) (a0 : Addr) (a1 : Addr) (w_text_a0 : Value) (w_point_a0 : Int32) (w_wholeStart_a0 : Int32) (w_fractionEnd_a0 : Int32) (w_leadingFractionZeros_a0 : Int32) (w_sign_a0 : Int32) (w_value_a1 : Addr) (s_COMPACT_STRINGS : Int32) (g_w_value_a1 : Nat → Int32) (s_SIOOBE_FORMATTER : Value) (h0 : Heap) (n0 : Nat) (v : Option Value) (h : Heap) (L : List Loc) : Prop := v = none ∧ Fr n0 L ∧ Keep h0 h [a0]
set_option maxRecDepth 65536 in
set_option maxHeartbeats 40000000 in
theorem rm15 (l : Launch) (Z : State) (A0 : Array Value) (hw : ∀ d ∈ tables_1, d.before A0 Z = true) (ws : List Jvm.Cond) (a0 : Addr) (a1 : Addr) (w_text_a0 : Value) (w_point_a0 : Int32) (w_wholeStart_a0 : Int32) (w_fractionEnd_a0 : Int32) (w_leadingFractionZeros_a0 : Int32) (w_sign_a0 : Int32) (w_value_a1 : Addr) (s_COMPACT_STRINGS : Int32) (g_w_value_a1 : Nat → Int32) (s_SIOOBE_FORMATTER : Value) (h0 : Heap) (n0 : Nat) (Z0 : n0 ≤ h0.size) (E_a0 : Exa Z h0 a0 "com/example/uneven_ticks/uneventicks/check/DecimalText") (F_text_a0 : Fld Z h0 a0 "com/example/uneven_ticks/uneventicks/check/DecimalText" "text" "Ljava/lang/String;" w_text_a0) (F_point_a0 : Fld Z h0 a0 "com/example/uneven_ticks/uneventicks/check/DecimalText" "point" "I" (.int w_point_a0)) (F_wholeStart_a0 : Fld Z h0 a0 "com/example/uneven_ticks/uneventicks/check/DecimalText" "wholeStart" "I" (.int w_wholeStart_a0)) (F_fractionEnd_a0 : Fld Z h0 a0 "com/example/uneven_ticks/uneventicks/check/DecimalText" "fractionEnd" "I" (.int w_fractionEnd_a0)) (F_leadingFractionZeros_a0 : Fld Z h0 a0 "com/example/uneven_ticks/uneventicks/check/DecimalText" "leadingFractionZeros" "I" (.int w_leadingFractionZeros_a0)) (F_sign_a0 : Fld Z h0 a0 "com/example/uneven_ticks/uneventicks/check/DecimalText" "sign" "I" (.int w_sign_a0)) (nw_a0 : n0 ≤ a0) (E_a1 : Exa Z h0 a1 "java/lang/String") (F_value_a1 : Fld Z h0 a1 "java/lang/String" "value" "[B" (.ref w_value_a1)) (ne_a0_a1 : a0 ≠ a1) (F_coder_a1 : Fld Z h0 a1 "java/lang/String" "coder" "B" (.int (0 : Int32))) (S_COMPACT_STRINGS : SO Z n0 h0 "java/lang/String" "COMPACT_STRINGS" "Z" (.int s_COMPACT_STRINGS)) (A_w_value_a1 : AF Z h0 w_value_a1 .byte 1 (fun j => .int (g_w_value_a1 j))) (ne_a0_w_value_a1 : a0 ≠ w_value_a1) (S_SIOOBE_FORMATTER : SO Z n0 h0 "jdk/internal/util/Preconditions" "SIOOBE_FORMATTER" "Ljava/util/function/BiFunction;" s_SIOOBE_FORMATTER) (hdg : g_w_value_a1 0 = (49 : Int32) ∨ g_w_value_a1 0 = (50 : Int32) ∨ g_w_value_a1 0 = (51 : Int32)) (rf_s_SIOOBE_FORMATTER : s_SIOOBE_FORMATTER.isRef = true) (hc3_1_26 : ¬ (s_COMPACT_STRINGS = (0 : Int32))) :
    MetFree l (⟨"com/example/uneven_ticks/uneventicks/check/DecimalText", "<init>", "(Ljava/lang/String;II)V"⟩ : MethodName) (head1 (Jvm.Cond.code (⟨"com/example/uneven_ticks/uneventicks/check/DecimalText", "<init>", "(Ljava/lang/String;II)V"⟩ : MethodName) prog_9_method_1_code 7 none :: ws) ({ frames := 4, cells := 0, slots := 0, locals := 53 } : Room)) (fun a U => a = #[(.ref a0), (.ref a1), (.int (0 : Int32)), (.int (1 : Int32))] ∧ Z.Warmed39 U.vm ∧ U.heap = h0) (fun _ _ _ _ _ => True) (fun _ U o U' => ∃ v L, o = .returned v ∧ Q15 Z a0 a1 w_text_a0 w_point_a0 w_wholeStart_a0 w_fractionEnd_a0 w_leadingFractionZeros_a0 w_sign_a0 w_value_a1 s_COMPACT_STRINGS g_w_value_a1 s_SIOOBE_FORMATTER h0 n0 v U'.heap L ∧ FrameEnd U o U' L ({ frames := 4, cells := 0, slots := 0, locals := 53 } : Room).cells ({ frames := 4, cells := 0, slots := 0, locals := 53 } : Room).slots) := by
  refine MetFree.of_bodySF (plainFor_of_name pn_15) hisR ?_
  intro p e s m args below meth c s₁ Bd hml0 hP hK
  obtain ⟨rfl, hZ, hh⟩ := hP
  have hx := Bd.exec
  have hby := Bd.bytes
  have hml : c.maxLocals = 7 := hml0
  have hown : s.vm.findClass "com/example/uneven_ticks/uneventicks/check/DecimalText" = some m.cls := findClass_of_methodNamed Bd.named
  have hnm := (name_of_methodNamed Bd.named Bd.method).1
  have X0 : Stand p l e ({ frames := 4, cells := 0, slots := 0, locals := 53 } : Room) s m #[(.ref a0), (.ref a1), (.int (0 : Int32)), (.int (1 : Int32))] below meth c s₁ [] 0 0 := Stand.of_body Bd
  have e0 : s₁.heap = h0 := by rw [← hh, Bd.state]; rfl
  have N0 := Fr.nil n0
  have pre0 : ∀ t, Steps p.tables e below (s₁.setTop (mkF m 0 #[.val (.ref a0), .val (.ref a1), .val (.int (0 : Int32)), .val (.int (1 : Int32)), .unset, .unset, .unset] [])) t → Steps p.tables e below (s₁.setTop (entryFrame m #[(.ref a0), (.ref a1), (.int (0 : Int32)), (.int (1 : Int32))] 7)) t := fun t k => castTop (ef_15 m a0 a1) k
  obtain ⟨T1, X1, e1, st1⟩ := initO X0 hx hZ hown (hw _ (List.mem_of_getElem? (i := 82) rfl)) (hw _ (List.mem_of_getElem? (i := 17) rfl)) (hw _ (List.mem_of_getElem? (i := 18) rfl)) e0 (g := (mkF m 1 #[.val (.ref a0), .val (.ref a1), .val (.int (0 : Int32)), .val (.int (1 : Int32)), .unset, .unset, .unset] [(.ref a0)])) rfl (by rw [hml]; rfl) rfl (hb hby d15_1) (by decide) (W := 0) (by show 2 * 0 + _ ≤ _; exact Nat.le_of_eq rfl) (by decide)
  obtain ⟨T2, h2, X2, e2, W2, st2⟩ := putF X1 hx hZ hown (host := "") (Or.inl (hw _ (List.mem_of_getElem? (i := 83) rfl))) Via.refl e1 F_text_a0 E_a0 (Or.inr ⟨(hw _ (List.mem_of_getElem? (i := 84) rfl)), rfl, hnm⟩) (hw _ (List.mem_of_getElem? (i := 78) rfl)) (ty := (.object "java/lang/String")) (by decide) rfl rfl (g := (mkF m 6 #[.val (.ref a0), .val (.ref a1), .val (.int (0 : Int32)), .val (.int (1 : Int32)), .unset, .unset, .unset] [(.ref a1), (.ref a0)])) rfl rfl (hb hby d15_6)
  have K2 : Keep h0 h2 [a0] := (Keep.refl h0 [a0]).wr W2 (Or.inl (by simp))
  have Fw2 : Fld Z h2 a0 "com/example/uneven_ticks/uneventicks/check/DecimalText" "text" "Ljava/lang/String;" (.ref a1) := F_text_a0.same W2
  have N2 := Fr.snoc X2 N0 nw_a0
  have G3 : Exa Z h2 a0 "com/example/uneven_ticks/uneventicks/check/DecimalText" := (E_a0.wr W2)
  have G4 : Fld Z h2 a0 "com/example/uneven_ticks/uneventicks/check/DecimalText" "point" "I" (.int w_point_a0) := (F_point_a0.other W2 (Or.inr (slot_ne (Or.inr (hw _ (List.mem_of_getElem? (i := 86) rfl))) (Or.inr (hw _ (List.mem_of_getElem? (i := 84) rfl))) (by decide) (t := .int) (t' := (.object "java/lang/String")) (by decide) (by decide))))
  obtain ⟨T5, h5, X5, e5, W5, st5⟩ := putF X2 hx hZ hown (host := "") (Or.inl (hw _ (List.mem_of_getElem? (i := 85) rfl))) Via.refl e2 G4 G3 (Or.inr ⟨(hw _ (List.mem_of_getElem? (i := 86) rfl)), rfl, hnm⟩) (hw _ (List.mem_of_getElem? (i := 78) rfl)) (ty := .int) (by decide) rfl rfl (g := (mkF m 11 #[.val (.ref a0), .val (.ref a1), .val (.int (0 : Int32)), .val (.int (1 : Int32)), .unset, .unset, .unset] [(.int (1 : Int32)), (.ref a0)])) rfl rfl (hb hby d15_11)
  have K5 : Keep h0 h5 [a0] := K2.wr W5 (Or.inl (by simp))
  have Fw5 : Fld Z h5 a0 "com/example/uneven_ticks/uneventicks/check/DecimalText" "point" "I" (.int (1 : Int32)) := G4.same W5
  have N5 := Fr.snoc X5 N2 nw_a0
  have G6 : Exa Z h5 a1 "java/lang/String" := ((E_a1.wr W2).wr W5)
  have G7 : Fld Z h5 a1 "java/lang/String" "value" "[B" (.ref w_value_a1) := ((F_value_a1.other W2 (Or.inl (Ne.symm ne_a0_a1))).other W5 (Or.inl (Ne.symm ne_a0_a1)))
  have G8 : Fld Z h5 a1 "java/lang/String" "coder" "B" (.int (0 : Int32)) := ((F_coder_a1.other W2 (Or.inl (Ne.symm ne_a0_a1))).other W5 (Or.inl (Ne.symm ne_a0_a1)))
  have G9 : SO Z n0 h5 "java/lang/String" "COMPACT_STRINGS" "Z" (.int s_COMPACT_STRINGS) := ((S_COMPACT_STRINGS.wr W2 nw_a0).wr W5 nw_a0)
  have G10 : AF Z h5 w_value_a1 .byte 1 (fun j => .int (g_w_value_a1 j)) := ((A_w_value_a1.other W2 (Ne.symm ne_a0_w_value_a1)).other W5 (Ne.symm ne_a0_w_value_a1))
  have G11 : SO Z n0 h5 "jdk/internal/util/Preconditions" "SIOOBE_FORMATTER" "Ljava/util/function/BiFunction;" s_SIOOBE_FORMATTER := ((S_SIOOBE_FORMATTER.wr W2 nw_a0).wr W5 nw_a0)
  obtain ⟨cq12, kq12, q12a, q12b, q12c⟩ := isOf hZ e5 G6
  obtain ⟨_, _, ⟨T12, L12, k12, n12⟩, -, X12, ⟨Lc12, hQ12, l12, y12, z12⟩, st12⟩ := X5.virtualBack hx (y := (⟨"java/lang/String", "charAt", "(I)C"⟩ : MethodName)) (z := (⟨"java/lang/String", "charAt", "(I)C"⟩ : MethodName)) hown (mvT hZ (hw _ (List.mem_of_getElem? (i := 55) rfl))) (mvT hZ (hw _ (List.mem_of_getElem? (i := 56) rfl))) (notFace_of_selects (args := #[]) (mvT hZ (hw _ (List.mem_of_getElem? (i := 58) rfl)))) (mvT hZ (hw _ (List.mem_of_getElem? (i := 58) rfl))) (mvT hZ (hw _ (List.mem_of_getElem? (i := 57) rfl))) (by decide) (backOf (W := 0) (rm10 l Z A0 hw [] a1 w_value_a1 s_COMPACT_STRINGS g_w_value_a1 s_SIOOBE_FORMATTER h5 n0 (Nat.le_trans Z0 K5.1) G6 G7 G8 G9 G10 G11 hc3_1_26 rf_s_SIOOBE_FORMATTER) hZ (hw _ (List.mem_of_getElem? (i := 59) rfl)) (hw _ (List.mem_of_getElem? (i := 5) rfl)) (by decide) (by decide)) q12a q12c (g := (mkF m 26 #[.val (.ref a0), .val (.ref a1), .val (.int (0 : Int32)), .val (.int (1 : Int32)), .val (.int (0 : Int32)), .unset, .unset] [(.int (0 : Int32)), (.ref a1)])) rfl (by rw [hml]; rfl) (Steps.refl _) (argsL := [(.int (0 : Int32))]) (rest := []) (lenOf pd_9 rfl) rfl (by show 2 * 0 + _ ≤ _; exact Nat.le_of_eq rfl) (hb hby d15_26) (fun _ _ => ⟨rfl, e5, (by decide : 0 + 0 ≤ _), (by decide : 0 + 0 ≤ _)⟩)
  dsimp only [Pt.U, Pt.locs, Pt.cells, Pt.slots] at X12 l12 y12 z12 st12 hQ12
  subst l12 y12 z12
  obtain ⟨rfl, N12q, e12⟩ := hQ12
  have N12 := Fr.app N5 N12q
  have hk13 : ¬ ((nar .char (nar .char (((g_w_value_a1 0) &&& (255 : Int32)).toUInt32.toUInt16.toUInt32.toInt32))) = (48 : Int32)) := (by rcases hdg with q | q | q <;> rw [q] <;> decide)
  have G14 : Exa Z h5 a0 "com/example/uneven_ticks/uneventicks/check/DecimalText" := (G3.wr W5)
  have G15 : Fld Z h5 a0 "com/example/uneven_ticks/uneventicks/check/DecimalText" "wholeStart" "I" (.int w_wholeStart_a0) := ((F_wholeStart_a0.other W2 (Or.inr (slot_ne (Or.inr (hw _ (List.mem_of_getElem? (i := 88) rfl))) (Or.inr (hw _ (List.mem_of_getElem? (i := 84) rfl))) (by decide) (t := .int) (t' := (.object "java/lang/String")) (by decide) (by decide)))).other W5 (Or.inr (slot_ne (Or.inr (hw _ (List.mem_of_getElem? (i := 88) rfl))) (Or.inr (hw _ (List.mem_of_getElem? (i := 86) rfl))) (by decide) (t := .int) (t' := .int) (by decide) (by decide))))
  obtain ⟨T16, h16, X16, e16, W16, st16⟩ := putF X12 hx hZ hown (host := "") (Or.inl (hw _ (List.mem_of_getElem? (i := 87) rfl))) Via.refl e12 G15 G14 (Or.inr ⟨(hw _ (List.mem_of_getElem? (i := 88) rfl)), rfl, hnm⟩) (hw _ (List.mem_of_getElem? (i := 78) rfl)) (ty := .int) (by decide) rfl rfl (g := (mkF m 43 #[.val (.ref a0), .val (.ref a1), .val (.int (0 : Int32)), .val (.int (1 : Int32)), .val (.int (0 : Int32)), .unset, .unset] [(.int (0 : Int32)), (.ref a0)])) rfl rfl (hb hby d15_43)
  have K16 : Keep h0 h16 [a0] := K5.wr W16 (Or.inl (by simp))
  have Fw16 : Fld Z h16 a0 "com/example/uneven_ticks/uneventicks/check/DecimalText" "wholeStart" "I" (.int (0 : Int32)) := G15.same W16
  have N16 := Fr.snoc X16 N12 nw_a0
  have G17 : Exa Z h16 a1 "java/lang/String" := (G6.wr W16)
  have G18 : Fld Z h16 a1 "java/lang/String" "value" "[B" (.ref w_value_a1) := (G7.other W16 (Or.inl (Ne.symm ne_a0_a1)))
  have G19 : Fld Z h16 a1 "java/lang/String" "coder" "B" (.int (0 : Int32)) := (G8.other W16 (Or.inl (Ne.symm ne_a0_a1)))
  have G20 : AF Z h16 w_value_a1 .byte 1 (fun j => .int (g_w_value_a1 j)) := (G10.other W16 (Ne.symm ne_a0_w_value_a1))
  have G21 : SO Z n0 h16 "java/lang/String" "COMPACT_STRINGS" "Z" (.int s_COMPACT_STRINGS) := (G9.wr W16 nw_a0)
  obtain ⟨cq22, kq22, q22a, q22b, q22c⟩ := isOf hZ e16 G17
  obtain ⟨_, _, ⟨T22, L22, k22, n22⟩, -, X22, ⟨Lc22, hQ22, l22, y22, z22⟩, st22⟩ := X16.virtualBack hx (y := (⟨"java/lang/String", "length", "()I"⟩ : MethodName)) (z := (⟨"java/lang/String", "length", "()I"⟩ : MethodName)) hown (mvT hZ (hw _ (List.mem_of_getElem? (i := 54) rfl))) (mvT hZ (hw _ (List.mem_of_getElem? (i := 35) rfl))) (notFace_of_selects (args := #[]) (mvT hZ (hw _ (List.mem_of_getElem? (i := 37) rfl)))) (mvT hZ (hw _ (List.mem_of_getElem? (i := 37) rfl))) (mvT hZ (hw _ (List.mem_of_getElem? (i := 36) rfl))) (by decide) (backOf (W := 0) (rm6 l Z A0 hw [] a1 w_value_a1 g_w_value_a1 s_COMPACT_STRINGS h16 n0 (Nat.le_trans Z0 K16.1) G17 G18 G19 G20 G21 hc3_1_26) hZ (hw _ (List.mem_of_getElem? (i := 38) rfl)) (hw _ (List.mem_of_getElem? (i := 5) rfl)) (by decide) (by decide)) q22a q22c (g := (mkF m 47 #[.val (.ref a0), .val (.ref a1), .val (.int (0 : Int32)), .val (.int (1 : Int32)), .val (.int (0 : Int32)), .unset, .unset] [(.ref a1)])) rfl (by rw [hml]; rfl) (Steps.refl _) (argsL := []) (rest := []) (lenOf pd_5 rfl) rfl (by show 2 * 0 + _ ≤ _; exact Nat.le_of_eq rfl) (hb hby d15_47) (fun _ _ => ⟨rfl, e16, (by decide : 0 + 0 ≤ _), (by decide : 0 + 0 ≤ _)⟩)
  dsimp only [Pt.U, Pt.locs, Pt.cells, Pt.slots] at X22 l22 y22 z22 st22 hQ22
  subst l22 y22 z22
  obtain ⟨rfl, N22q, e22⟩ := hQ22
  have N22 := Fr.app N16 N22q
  have hq23 : ((1 : Int32) >>> ((0 : Int32) &&& 31)) = (1 : Int32) := (by decide)
  have G24 : Fld Z h16 a0 "com/example/uneven_ticks/uneventicks/check/DecimalText" "point" "I" (.int (1 : Int32)) := (Fw5.other W16 (Or.inr (slot_ne (Or.inr (hw _ (List.mem_of_getElem? (i := 86) rfl))) (Or.inr (hw _ (List.mem_of_getElem? (i := 88) rfl))) (by decide) (t := .int) (t' := .int) (by decide) (by decide))))
  have G25 : Fld Z h16 a0 "com/example/uneven_ticks/uneventicks/check/DecimalText" "text" "Ljava/lang/String;" (.ref a1) := ((Fw2.other W5 (Or.inr (slot_ne (Or.inr (hw _ (List.mem_of_getElem? (i := 84) rfl))) (Or.inr (hw _ (List.mem_of_getElem? (i := 86) rfl))) (by decide) (t := (.object "java/lang/String")) (t' := .int) (by decide) (by decide)))).other W16 (Or.inr (slot_ne (Or.inr (hw _ (List.mem_of_getElem? (i := 84) rfl))) (Or.inr (hw _ (List.mem_of_getElem? (i := 88) rfl))) (by decide) (t := (.object "java/lang/String")) (t' := .int) (by decide) (by decide))))
  have G27 : Exa Z h16 a0 "com/example/uneven_ticks/uneventicks/check/DecimalText" := (G14.wr W16)
  obtain ⟨cq26, q26, q26'⟩ := G27.cell
  obtain ⟨_, _, ⟨T26, L26, k26, n26⟩, -, X26, ⟨Lc26, hQ26, l26, y26, z26⟩, st26⟩ := X22.privateBack hx (y := (⟨"com/example/uneven_ticks/uneventicks/check/DecimalText", "fractionStart", "()I"⟩ : MethodName)) hown (mvT hZ (hw _ (List.mem_of_getElem? (i := 89) rfl))) (mvT hZ (hw _ (List.mem_of_getElem? (i := 90) rfl))) (own_selp (mvT hZ (hw _ (List.mem_of_getElem? (i := 78) rfl))) (Cond.privateMethod_at (mvP hZ (hw _ (List.mem_of_getElem? (i := 91) rfl)) (args := #[]))) (mvT hZ (hw _ (List.mem_of_getElem? (i := 90) rfl))) (by decide)) (Cond.privateMethod_at (mvP hZ (hw _ (List.mem_of_getElem? (i := 91) rfl)) (args := #[]))) (mvT hZ (hw _ (List.mem_of_getElem? (i := 92) rfl))) (by decide) (backOf (W := 1) (rm16 l Z A0 hw [] a0 a1 w_value_a1 g_w_value_a1 s_COMPACT_STRINGS h16 n0 (Nat.le_trans Z0 K16.1) G24 G25 G17 G18 G19 G20 G21 hc3_1_26) hZ (hw _ (List.mem_of_getElem? (i := 92) rfl)) (hw _ (List.mem_of_getElem? (i := 21) rfl)) (by decide) (by decide)) (g := (mkF m 55 #[.val (.ref a0), .val (.ref a1), .val (.int (0 : Int32)), .val (.int (1 : Int32)), .val (.int (0 : Int32)), .val (.int (1 : Int32)), .unset] [(.ref a0), (.int (1 : Int32))])) rfl (by rw [hml]; rfl) (Steps.refl _) (a := a0) (by rw [e22]; exact q26) q26' (argsL := []) (rest := [(.int (1 : Int32))]) (lenOf pd_5 rfl) rfl (by show 2 * 0 + _ ≤ _; exact Nat.le_of_eq rfl) (hb hby d15_55) (fun _ _ => ⟨rfl, e22, (by decide : 0 + 0 ≤ _), (by decide : 0 + 0 ≤ _)⟩)
  dsimp only [Pt.U, Pt.locs, Pt.cells, Pt.slots] at X26 l26 y26 z26 st26 hQ26
  subst l26 y26 z26
  obtain ⟨rfl, N26q, e26⟩ := hQ26
  have N26 := Fr.app N22 N26q
  have hq28 : (if (1 : Int32) < (2 : Int32) then (1 : Int32) else (2 : Int32)) = (1 : Int32) := (by decide)
  have G29 : Fld Z h16 a0 "com/example/uneven_ticks/uneventicks/check/DecimalText" "fractionEnd" "I" (.int w_fractionEnd_a0) := (((F_fractionEnd_a0.other W2 (Or.inr (slot_ne (Or.inr (hw _ (List.mem_of_getElem? (i := 98) rfl))) (Or.inr (hw _ (List.mem_of_getElem? (i := 84) rfl))) (by decide) (t := .int) (t' := (.object "java/lang/String")) (by decide) (by decide)))).other W5 (Or.inr (slot_ne (Or.inr (hw _ (List.mem_of_getElem? (i := 98) rfl))) (Or.inr (hw _ (List.mem_of_getElem? (i := 86) rfl))) (by decide) (t := .int) (t' := .int) (by decide) (by decide)))).other W16 (Or.inr (slot_ne (Or.inr (hw _ (List.mem_of_getElem? (i := 98) rfl))) (Or.inr (hw _ (List.mem_of_getElem? (i := 88) rfl))) (by decide) (t := .int) (t' := .int) (by decide) (by decide))))
  obtain ⟨T30, h30, X30, e30, W30, st30⟩ := putF X26 hx hZ hown (host := "") (Or.inl (hw _ (List.mem_of_getElem? (i := 97) rfl))) Via.refl e26 G29 G27 (Or.inr ⟨(hw _ (List.mem_of_getElem? (i := 98) rfl)), rfl, hnm⟩) (hw _ (List.mem_of_getElem? (i := 78) rfl)) (ty := .int) (by decide) rfl rfl (g := (mkF m 83 #[.val (.ref a0), .val (.ref a1), .val (.int (0 : Int32)), .val (.int (1 : Int32)), .val (.int (0 : Int32)), .val (.int (1 : Int32)), .unset] [(.int (1 : Int32)), (.ref a0)])) rfl rfl (hb hby d15_83)
  have K30 : Keep h0 h30 [a0] := K16.wr W30 (Or.inl (by simp))
  have Fw30 : Fld Z h30 a0 "com/example/uneven_ticks/uneventicks/check/DecimalText" "fractionEnd" "I" (.int (1 : Int32)) := G29.same W30
  have N30 := Fr.snoc X30 N26 nw_a0
  have G31 : Fld Z h30 a0 "com/example/uneven_ticks/uneventicks/check/DecimalText" "wholeStart" "I" (.int (0 : Int32)) := (Fw16.other W30 (Or.inr (slot_ne (Or.inr (hw _ (List.mem_of_getElem? (i := 88) rfl))) (Or.inr (hw _ (List.mem_of_getElem? (i := 98) rfl))) (by decide) (t := .int) (t' := .int) (by decide) (by decide))))
  obtain ⟨T32, X32, e32, st32⟩ := getF X30 hx hZ hown (host := "") (Or.inl (hw _ (List.mem_of_getElem? (i := 87) rfl))) Via.refl e30 G31 (g := (mkF m 90 #[.val (.ref a0), .val (.ref a1), .val (.int (0 : Int32)), .val (.int (1 : Int32)), .val (.int (0 : Int32)), .val (.int (1 : Int32)), .val (.int (0 : Int32))] [(.ref a0)])) rfl rfl (hb hby d15_90)
  have G33 : Exa Z h30 a0 "com/example/uneven_ticks/uneventicks/check/DecimalText" := (G27.wr W30)
  have G34 : Fld Z h30 a0 "com/example/uneven_ticks/uneventicks/check/DecimalText" "leadingFractionZeros" "I" (.int w_leadingFractionZeros_a0) := ((((F_leadingFractionZeros_a0.other W2 (Or.inr (slot_ne (Or.inr (hw _ (List.mem_of_getElem? (i := 100) rfl))) (Or.inr (hw _ (List.mem_of_getElem? (i := 84) rfl))) (by decide) (t := .int) (t' := (.object "java/lang/String")) (by decide) (by decide)))).other W5 (Or.inr (slot_ne (Or.inr (hw _ (List.mem_of_getElem? (i := 100) rfl))) (Or.inr (hw _ (List.mem_of_getElem? (i := 86) rfl))) (by decide) (t := .int) (t' := .int) (by decide) (by decide)))).other W16 (Or.inr (slot_ne (Or.inr (hw _ (List.mem_of_getElem? (i := 100) rfl))) (Or.inr (hw _ (List.mem_of_getElem? (i := 88) rfl))) (by decide) (t := .int) (t' := .int) (by decide) (by decide)))).other W30 (Or.inr (slot_ne (Or.inr (hw _ (List.mem_of_getElem? (i := 100) rfl))) (Or.inr (hw _ (List.mem_of_getElem? (i := 98) rfl))) (by decide) (t := .int) (t' := .int) (by decide) (by decide))))
  obtain ⟨T35, h35, X35, e35, W35, st35⟩ := putF X32 hx hZ hown (host := "") (Or.inl (hw _ (List.mem_of_getElem? (i := 99) rfl))) Via.refl e32 G34 G33 (Or.inr ⟨(hw _ (List.mem_of_getElem? (i := 100) rfl)), rfl, hnm⟩) (hw _ (List.mem_of_getElem? (i := 78) rfl)) (ty := .int) (by decide) rfl rfl (g := (mkF m 136 #[.val (.ref a0), .val (.ref a1), .val (.int (0 : Int32)), .val (.int (1 : Int32)), .val (.int (0 : Int32)), .val (.int (1 : Int32)), .val (.int (0 : Int32))] [(.int (0 : Int32)), (.ref a0)])) rfl rfl (hb hby d15_136)
  have K35 : Keep h0 h35 [a0] := K30.wr W35 (Or.inl (by simp))
  have Fw35 : Fld Z h35 a0 "com/example/uneven_ticks/uneventicks/check/DecimalText" "leadingFractionZeros" "I" (.int (0 : Int32)) := G34.same W35
  have N35 := Fr.snoc X35 N30 nw_a0
  have G36 : Fld Z h35 a0 "com/example/uneven_ticks/uneventicks/check/DecimalText" "wholeStart" "I" (.int (0 : Int32)) := (G31.other W35 (Or.inr (slot_ne (Or.inr (hw _ (List.mem_of_getElem? (i := 88) rfl))) (Or.inr (hw _ (List.mem_of_getElem? (i := 100) rfl))) (by decide) (t := .int) (t' := .int) (by decide) (by decide))))
  obtain ⟨T37, X37, e37, st37⟩ := getF X35 hx hZ hown (host := "") (Or.inl (hw _ (List.mem_of_getElem? (i := 87) rfl))) Via.refl e35 G36 (g := (mkF m 140 #[.val (.ref a0), .val (.ref a1), .val (.int (0 : Int32)), .val (.int (1 : Int32)), .val (.int (0 : Int32)), .val (.int (1 : Int32)), .val (.int (0 : Int32))] [(.ref a0)])) rfl rfl (hb hby d15_140)
  have G38 : Exa Z h35 a0 "com/example/uneven_ticks/uneventicks/check/DecimalText" := (G33.wr W35)
  have G39 : Fld Z h35 a0 "com/example/uneven_ticks/uneventicks/check/DecimalText" "sign" "I" (.int w_sign_a0) := (((((F_sign_a0.other W2 (Or.inr (slot_ne (Or.inr (hw _ (List.mem_of_getElem? (i := 102) rfl))) (Or.inr (hw _ (List.mem_of_getElem? (i := 84) rfl))) (by decide) (t := .int) (t' := (.object "java/lang/String")) (by decide) (by decide)))).other W5 (Or.inr (slot_ne (Or.inr (hw _ (List.mem_of_getElem? (i := 102) rfl))) (Or.inr (hw _ (List.mem_of_getElem? (i := 86) rfl))) (by decide) (t := .int) (t' := .int) (by decide) (by decide)))).other W16 (Or.inr (slot_ne (Or.inr (hw _ (List.mem_of_getElem? (i := 102) rfl))) (Or.inr (hw _ (List.mem_of_getElem? (i := 88) rfl))) (by decide) (t := .int) (t' := .int) (by decide) (by decide)))).other W30 (Or.inr (slot_ne (Or.inr (hw _ (List.mem_of_getElem? (i := 102) rfl))) (Or.inr (hw _ (List.mem_of_getElem? (i := 98) rfl))) (by decide) (t := .int) (t' := .int) (by decide) (by decide)))).other W35 (Or.inr (slot_ne (Or.inr (hw _ (List.mem_of_getElem? (i := 102) rfl))) (Or.inr (hw _ (List.mem_of_getElem? (i := 100) rfl))) (by decide) (t := .int) (t' := .int) (by decide) (by decide))))
  obtain ⟨T40, h40, X40, e40, W40, st40⟩ := putF X37 hx hZ hown (host := "") (Or.inl (hw _ (List.mem_of_getElem? (i := 101) rfl))) Via.refl e37 G39 G38 (Or.inr ⟨(hw _ (List.mem_of_getElem? (i := 102) rfl)), rfl, hnm⟩) (hw _ (List.mem_of_getElem? (i := 78) rfl)) (ty := .int) (by decide) rfl rfl (g := (mkF m 180 #[.val (.ref a0), .val (.ref a1), .val (.int (0 : Int32)), .val (.int (1 : Int32)), .val (.int (0 : Int32)), .val (.int (1 : Int32)), .val (.int (0 : Int32))] [(.int (1 : Int32)), (.ref a0)])) rfl rfl (hb hby d15_180)
  have K40 : Keep h0 h40 [a0] := K35.wr W40 (Or.inl (by simp))
  have Fw40 : Fld Z h40 a0 "com/example/uneven_ticks/uneventicks/check/DecimalText" "sign" "I" (.int (1 : Int32)) := G39.same W40
  have N40 := Fr.snoc X40 N35 nw_a0
  obtain ⟨fs, hr, hrun, hended, hW, hsame⟩ := X40.leave (v := none) (fun _ => rfl)
  refine ⟨_, _, pre0 _ ?_, hrun, hended, _, _, rfl, ?_, ⟨_, rfl⟩, hW, hsame.mono (by decide) (by decide)⟩
  · show Steps p.tables e below (s₁.setTop (mkF m 0 #[.val (.ref a0), .val (.ref a1), .val (.int (0 : Int32)), .val (.int (1 : Int32)), .unset, .unset, .unset] [])) _
    refine XS.aloadN X0.here hx rfl (hb hby d15_0) rfl rfl ?_
    show Steps p.tables e below (s₁.setTop (mkF m 1 #[.val (.ref a0), .val (.ref a1), .val (.int (0 : Int32)), .val (.int (1 : Int32)), .unset, .unset, .unset] [(.ref a0)])) _
    refine st1 _ ?_
    show Steps p.tables e below (T1.setTop (mkF m 4 #[.val (.ref a0), .val (.ref a1), .val (.int (0 : Int32)), .val (.int (1 : Int32)), .unset, .unset, .unset] [])) _
    refine XS.aloadN X1.here hx rfl (hb hby d15_4) rfl rfl ?_
    show Steps p.tables e below (T1.setTop (mkF m 5 #[.val (.ref a0), .val (.ref a1), .val (.int (0 : Int32)), .val (.int (1 : Int32)), .unset, .unset, .unset] [(.ref a0)])) _
    refine XS.aloadN X1.here hx rfl (hb hby d15_5) rfl rfl ?_
    show Steps p.tables e below (T1.setTop (mkF m 6 #[.val (.ref a0), .val (.ref a1), .val (.int (0 : Int32)), .val (.int (1 : Int32)), .unset, .unset, .unset] [(.ref a1), (.ref a0)])) _
    refine st2 _ ?_
    show Steps p.tables e below (T2.setTop (mkF m 9 #[.val (.ref a0), .val (.ref a1), .val (.int (0 : Int32)), .val (.int (1 : Int32)), .unset, .unset, .unset] [])) _
    refine XS.aloadN X2.here hx rfl (hb hby d15_9) rfl rfl ?_
    show Steps p.tables e below (T2.setTop (mkF m 10 #[.val (.ref a0), .val (.ref a1), .val (.int (0 : Int32)), .val (.int (1 : Int32)), .unset, .unset, .unset] [(.ref a0)])) _
    refine XS.iloadN X2.here hx rfl (hb hby d15_10) rfl ?_
    show Steps p.tables e below (T2.setTop (mkF m 11 #[.val (.ref a0), .val (.ref a1), .val (.int (0 : Int32)), .val (.int (1 : Int32)), .unset, .unset, .unset] [(.int (1 : Int32)), (.ref a0)])) _
    refine st5 _ ?_
    show Steps p.tables e below (T5.setTop (mkF m 14 #[.val (.ref a0), .val (.ref a1), .val (.int (0 : Int32)), .val (.int (1 : Int32)), .unset, .unset, .unset] [])) _
    refine XS.iloadN X5.here hx rfl (hb hby d15_14) rfl ?_
    show Steps p.tables e below (T5.setTop (mkF m 15 #[.val (.ref a0), .val (.ref a1), .val (.int (0 : Int32)), .val (.int (1 : Int32)), .unset, .unset, .unset] [(.int (0 : Int32))])) _
    refine XS.istore X5.here hx rfl (hb hby d15_15) rfl (l' := #[.val (.ref a0), .val (.ref a1), .val (.int (0 : Int32)), .val (.int (1 : Int32)), .val (.int (0 : Int32)), .unset, .unset]) rfl ?_
    show Steps p.tables e below (T5.setTop (mkF m 17 #[.val (.ref a0), .val (.ref a1), .val (.int (0 : Int32)), .val (.int (1 : Int32)), .val (.int (0 : Int32)), .unset, .unset] [])) _
    refine XS.iload X5.here hx rfl (hb hby d15_17) rfl ?_
    show Steps p.tables e below (T5.setTop (mkF m 19 #[.val (.ref a0), .val (.ref a1), .val (.int (0 : Int32)), .val (.int (1 : Int32)), .val (.int (0 : Int32)), .unset, .unset] [(.int (0 : Int32))])) _
    refine XS.iloadN X5.here hx rfl (hb hby d15_19) rfl ?_
    show Steps p.tables e below (T5.setTop (mkF m 20 #[.val (.ref a0), .val (.ref a1), .val (.int (0 : Int32)), .val (.int (1 : Int32)), .val (.int (0 : Int32)), .unset, .unset] [(.int (1 : Int32)), (.int (0 : Int32))])) _
    refine XS.icmpNo X5.here hx rfl (hb hby d15_20) rfl (tlt (by decide)).2.1 ?_
    show Steps p.tables e below (T5.setTop (mkF m 23 #[.val (.ref a0), .val (.ref a1), .val (.int (0 : Int32)), .val (.int (1 : Int32)), .val (.int (0 : Int32)), .unset, .unset] [])) _
    refine XS.aloadN X5.here hx rfl (hb hby d15_23) rfl rfl ?_
    show Steps p.tables e below (T5.setTop (mkF m 24 #[.val (.ref a0), .val (.ref a1), .val (.int (0 : Int32)), .val (.int (1 : Int32)), .val (.int (0 : Int32)), .unset, .unset] [(.ref a1)])) _
    refine XS.iload X5.here hx rfl (hb hby d15_24) rfl ?_
    show Steps p.tables e below (T5.setTop (mkF m 26 #[.val (.ref a0), .val (.ref a1), .val (.int (0 : Int32)), .val (.int (1 : Int32)), .val (.int (0 : Int32)), .unset, .unset] [(.int (0 : Int32)), (.ref a1)])) _
    refine st12.trans ?_
    show Steps p.tables e below (T12.setTop (mkF m 29 #[.val (.ref a0), .val (.ref a1), .val (.int (0 : Int32)), .val (.int (1 : Int32)), .val (.int (0 : Int32)), .unset, .unset] [(.int (nar .char (nar .char (((g_w_value_a1 0) &&& (255 : Int32)).toUInt32.toUInt16.toUInt32.toInt32))))])) _
    refine XS.bipush X12.here hx rfl (hb hby d15_29) ?_
    show Steps p.tables e below (T12.setTop (mkF m 31 #[.val (.ref a0), .val (.ref a1), .val (.int (0 : Int32)), .val (.int (1 : Int32)), .val (.int (0 : Int32)), .unset, .unset] [(.int (48 : Int32)), (.int (nar .char (nar .char (((g_w_value_a1 0) &&& (255 : Int32)).toUInt32.toUInt16.toUInt32.toInt32))))])) _
    refine XS.icmpYes X12.here hx rfl (pc0 := 31) (pc' := 40) rfl (hb hby d15_31) rfl (feq hk13).2 (by decide) (by decide) ?_
    show Steps p.tables e below (T12.setTop (mkF m 40 #[.val (.ref a0), .val (.ref a1), .val (.int (0 : Int32)), .val (.int (1 : Int32)), .val (.int (0 : Int32)), .unset, .unset] [])) _
    refine XS.aloadN X12.here hx rfl (hb hby d15_40) rfl rfl ?_
    show Steps p.tables e below (T12.setTop (mkF m 41 #[.val (.ref a0), .val (.ref a1), .val (.int (0 : Int32)), .val (.int (1 : Int32)), .val (.int (0 : Int32)), .unset, .unset] [(.ref a0)])) _
    refine XS.iload X12.here hx rfl (hb hby d15_41) rfl ?_
    show Steps p.tables e below (T12.setTop (mkF m 43 #[.val (.ref a0), .val (.ref a1), .val (.int (0 : Int32)), .val (.int (1 : Int32)), .val (.int (0 : Int32)), .unset, .unset] [(.int (0 : Int32)), (.ref a0)])) _
    refine st16 _ ?_
    show Steps p.tables e below (T16.setTop (mkF m 46 #[.val (.ref a0), .val (.ref a1), .val (.int (0 : Int32)), .val (.int (1 : Int32)), .val (.int (0 : Int32)), .unset, .unset] [])) _
    refine XS.aloadN X16.here hx rfl (hb hby d15_46) rfl rfl ?_
    show Steps p.tables e below (T16.setTop (mkF m 47 #[.val (.ref a0), .val (.ref a1), .val (.int (0 : Int32)), .val (.int (1 : Int32)), .val (.int (0 : Int32)), .unset, .unset] [(.ref a1)])) _
    refine st22.trans ?_
    show Steps p.tables e below (T22.setTop (mkF m 50 #[.val (.ref a0), .val (.ref a1), .val (.int (0 : Int32)), .val (.int (1 : Int32)), .val (.int (0 : Int32)), .unset, .unset] [(.int ((1 : Int32) >>> ((0 : Int32) &&& 31)))])) _
    refine castTop (g' := (mkF m 50 #[.val (.ref a0), .val (.ref a1), .val (.int (0 : Int32)), .val (.int (1 : Int32)), .val (.int (0 : Int32)), .unset, .unset] [(.int (1 : Int32))])) (by rw [hq23] <;> rfl) ?_
    show Steps p.tables e below (T22.setTop (mkF m 50 #[.val (.ref a0), .val (.ref a1), .val (.int (0 : Int32)), .val (.int (1 : Int32)), .val (.int (0 : Int32)), .unset, .unset] [(.int (1 : Int32))])) _
    refine XS.istore X22.here hx rfl (hb hby d15_50) rfl (l' := #[.val (.ref a0), .val (.ref a1), .val (.int (0 : Int32)), .val (.int (1 : Int32)), .val (.int (0 : Int32)), .val (.int (1 : Int32)), .unset]) rfl ?_
    show Steps p.tables e below (T22.setTop (mkF m 52 #[.val (.ref a0), .val (.ref a1), .val (.int (0 : Int32)), .val (.int (1 : Int32)), .val (.int (0 : Int32)), .val (.int (1 : Int32)), .unset] [])) _
    refine XS.iload X22.here hx rfl (hb hby d15_52) rfl ?_
    show Steps p.tables e below (T22.setTop (mkF m 54 #[.val (.ref a0), .val (.ref a1), .val (.int (0 : Int32)), .val (.int (1 : Int32)), .val (.int (0 : Int32)), .val (.int (1 : Int32)), .unset] [(.int (1 : Int32))])) _
    refine XS.aloadN X22.here hx rfl (hb hby d15_54) rfl rfl ?_
    show Steps p.tables e below (T22.setTop (mkF m 55 #[.val (.ref a0), .val (.ref a1), .val (.int (0 : Int32)), .val (.int (1 : Int32)), .val (.int (0 : Int32)), .val (.int (1 : Int32)), .unset] [(.ref a0), (.int (1 : Int32))])) _
    refine st26.trans ?_
    show Steps p.tables e below (T26.setTop (mkF m 58 #[.val (.ref a0), .val (.ref a1), .val (.int (0 : Int32)), .val (.int (1 : Int32)), .val (.int (0 : Int32)), .val (.int (1 : Int32)), .unset] [(.int (if (1 : Int32) < (2 : Int32) then (1 : Int32) else (2 : Int32))), (.int (1 : Int32))])) _
    refine castTop (g' := (mkF m 58 #[.val (.ref a0), .val (.ref a1), .val (.int (0 : Int32)), .val (.int (1 : Int32)), .val (.int (0 : Int32)), .val (.int (1 : Int32)), .unset] [(.int (1 : Int32)), (.int (1 : Int32))])) (by rw [hq28] <;> rfl) ?_
    show Steps p.tables e below (T26.setTop (mkF m 58 #[.val (.ref a0), .val (.ref a1), .val (.int (0 : Int32)), .val (.int (1 : Int32)), .val (.int (0 : Int32)), .val (.int (1 : Int32)), .unset] [(.int (1 : Int32)), (.int (1 : Int32))])) _
    refine XS.icmpYes X26.here hx rfl (pc0 := 58) (pc' := 80) rfl (hb hby d15_58) rfl (flt (by decide)).2.2.2 (by decide) (by decide) ?_
    show Steps p.tables e below (T26.setTop (mkF m 80 #[.val (.ref a0), .val (.ref a1), .val (.int (0 : Int32)), .val (.int (1 : Int32)), .val (.int (0 : Int32)), .val (.int (1 : Int32)), .unset] [])) _
    refine XS.aloadN X26.here hx rfl (hb hby d15_80) rfl rfl ?_
    show Steps p.tables e below (T26.setTop (mkF m 81 #[.val (.ref a0), .val (.ref a1), .val (.int (0 : Int32)), .val (.int (1 : Int32)), .val (.int (0 : Int32)), .val (.int (1 : Int32)), .unset] [(.ref a0)])) _
    refine XS.iload X26.here hx rfl (hb hby d15_81) rfl ?_
    show Steps p.tables e below (T26.setTop (mkF m 83 #[.val (.ref a0), .val (.ref a1), .val (.int (0 : Int32)), .val (.int (1 : Int32)), .val (.int (0 : Int32)), .val (.int (1 : Int32)), .unset] [(.int (1 : Int32)), (.ref a0)])) _
    refine st30 _ ?_
    show Steps p.tables e below (T30.setTop (mkF m 86 #[.val (.ref a0), .val (.ref a1), .val (.int (0 : Int32)), .val (.int (1 : Int32)), .val (.int (0 : Int32)), .val (.int (1 : Int32)), .unset] [])) _
    refine XS.iconst X30.here hx rfl (hb hby d15_86) ?_
    show Steps p.tables e below (T30.setTop (mkF m 87 #[.val (.ref a0), .val (.ref a1), .val (.int (0 : Int32)), .val (.int (1 : Int32)), .val (.int (0 : Int32)), .val (.int (1 : Int32)), .unset] [(.int (0 : Int32))])) _
    refine XS.istore X30.here hx rfl (hb hby d15_87) rfl (l' := #[.val (.ref a0), .val (.ref a1), .val (.int (0 : Int32)), .val (.int (1 : Int32)), .val (.int (0 : Int32)), .val (.int (1 : Int32)), .val (.int (0 : Int32))]) rfl ?_
    show Steps p.tables e below (T30.setTop (mkF m 89 #[.val (.ref a0), .val (.ref a1), .val (.int (0 : Int32)), .val (.int (1 : Int32)), .val (.int (0 : Int32)), .val (.int (1 : Int32)), .val (.int (0 : Int32))] [])) _
    refine XS.aloadN X30.here hx rfl (hb hby d15_89) rfl rfl ?_
    show Steps p.tables e below (T30.setTop (mkF m 90 #[.val (.ref a0), .val (.ref a1), .val (.int (0 : Int32)), .val (.int (1 : Int32)), .val (.int (0 : Int32)), .val (.int (1 : Int32)), .val (.int (0 : Int32))] [(.ref a0)])) _
    refine st32 _ ?_
    show Steps p.tables e below (T32.setTop (mkF m 93 #[.val (.ref a0), .val (.ref a1), .val (.int (0 : Int32)), .val (.int (1 : Int32)), .val (.int (0 : Int32)), .val (.int (1 : Int32)), .val (.int (0 : Int32))] [(.int (0 : Int32))])) _
    refine XS.iloadN X32.here hx rfl (hb hby d15_93) rfl ?_
    show Steps p.tables e below (T32.setTop (mkF m 94 #[.val (.ref a0), .val (.ref a1), .val (.int (0 : Int32)), .val (.int (1 : Int32)), .val (.int (0 : Int32)), .val (.int (1 : Int32)), .val (.int (0 : Int32))] [(.int (1 : Int32)), (.int (0 : Int32))])) _
    refine XS.icmpYes X32.here hx rfl (pc0 := 94) (pc' := 133) rfl (hb hby d15_94) rfl (feq (by decide)).2 (by decide) (by decide) ?_
    show Steps p.tables e below (T32.setTop (mkF m 133 #[.val (.ref a0), .val (.ref a1), .val (.int (0 : Int32)), .val (.int (1 : Int32)), .val (.int (0 : Int32)), .val (.int (1 : Int32)), .val (.int (0 : Int32))] [])) _
    refine XS.aloadN X32.here hx rfl (hb hby d15_133) rfl rfl ?_
    show Steps p.tables e below (T32.setTop (mkF m 134 #[.val (.ref a0), .val (.ref a1), .val (.int (0 : Int32)), .val (.int (1 : Int32)), .val (.int (0 : Int32)), .val (.int (1 : Int32)), .val (.int (0 : Int32))] [(.ref a0)])) _
    refine XS.iload X32.here hx rfl (hb hby d15_134) rfl ?_
    show Steps p.tables e below (T32.setTop (mkF m 136 #[.val (.ref a0), .val (.ref a1), .val (.int (0 : Int32)), .val (.int (1 : Int32)), .val (.int (0 : Int32)), .val (.int (1 : Int32)), .val (.int (0 : Int32))] [(.int (0 : Int32)), (.ref a0)])) _
    refine st35 _ ?_
    show Steps p.tables e below (T35.setTop (mkF m 139 #[.val (.ref a0), .val (.ref a1), .val (.int (0 : Int32)), .val (.int (1 : Int32)), .val (.int (0 : Int32)), .val (.int (1 : Int32)), .val (.int (0 : Int32))] [])) _
    refine XS.aloadN X35.here hx rfl (hb hby d15_139) rfl rfl ?_
    show Steps p.tables e below (T35.setTop (mkF m 140 #[.val (.ref a0), .val (.ref a1), .val (.int (0 : Int32)), .val (.int (1 : Int32)), .val (.int (0 : Int32)), .val (.int (1 : Int32)), .val (.int (0 : Int32))] [(.ref a0)])) _
    refine st37 _ ?_
    show Steps p.tables e below (T37.setTop (mkF m 143 #[.val (.ref a0), .val (.ref a1), .val (.int (0 : Int32)), .val (.int (1 : Int32)), .val (.int (0 : Int32)), .val (.int (1 : Int32)), .val (.int (0 : Int32))] [(.int (0 : Int32))])) _
    refine XS.iloadN X37.here hx rfl (hb hby d15_143) rfl ?_
    show Steps p.tables e below (T37.setTop (mkF m 144 #[.val (.ref a0), .val (.ref a1), .val (.int (0 : Int32)), .val (.int (1 : Int32)), .val (.int (0 : Int32)), .val (.int (1 : Int32)), .val (.int (0 : Int32))] [(.int (1 : Int32)), (.int (0 : Int32))])) _
    refine XS.icmpYes X37.here hx rfl (pc0 := 144) (pc' := 166) rfl (hb hby d15_144) rfl (feq (by decide)).2 (by decide) (by decide) ?_
    show Steps p.tables e below (T37.setTop (mkF m 166 #[.val (.ref a0), .val (.ref a1), .val (.int (0 : Int32)), .val (.int (1 : Int32)), .val (.int (0 : Int32)), .val (.int (1 : Int32)), .val (.int (0 : Int32))] [])) _
    refine XS.iloadN X37.here hx rfl (hb hby d15_166) rfl ?_
    show Steps p.tables e below (T37.setTop (mkF m 167 #[.val (.ref a0), .val (.ref a1), .val (.int (0 : Int32)), .val (.int (1 : Int32)), .val (.int (0 : Int32)), .val (.int (1 : Int32)), .val (.int (0 : Int32))] [(.int (0 : Int32))])) _
    refine XS.ifYes X37.here hx rfl (pc0 := 167) (pc' := 178) rfl (hb hby d15_167) rfl ((if0 _ _).trans (flt (by decide)).2.2.2) (by decide) (by decide) ?_
    show Steps p.tables e below (T37.setTop (mkF m 178 #[.val (.ref a0), .val (.ref a1), .val (.int (0 : Int32)), .val (.int (1 : Int32)), .val (.int (0 : Int32)), .val (.int (1 : Int32)), .val (.int (0 : Int32))] [])) _
    refine XS.aloadN X37.here hx rfl (hb hby d15_178) rfl rfl ?_
    show Steps p.tables e below (T37.setTop (mkF m 179 #[.val (.ref a0), .val (.ref a1), .val (.int (0 : Int32)), .val (.int (1 : Int32)), .val (.int (0 : Int32)), .val (.int (1 : Int32)), .val (.int (0 : Int32))] [(.ref a0)])) _
    refine XS.iconst X37.here hx rfl (hb hby d15_179) ?_
    show Steps p.tables e below (T37.setTop (mkF m 180 #[.val (.ref a0), .val (.ref a1), .val (.int (0 : Int32)), .val (.int (1 : Int32)), .val (.int (0 : Int32)), .val (.int (1 : Int32)), .val (.int (0 : Int32))] [(.int (1 : Int32)), (.ref a0)])) _
    refine st40 _ ?_
    show Steps p.tables e below (T40.setTop (mkF m 183 #[.val (.ref a0), .val (.ref a1), .val (.int (0 : Int32)), .val (.int (1 : Int32)), .val (.int (0 : Int32)), .val (.int (1 : Int32)), .val (.int (0 : Int32))] [])) _
    exact X40.returnOut hx Bd.returns (hb hby d15_183) hr
  · show Q15 Z a0 a1 w_text_a0 w_point_a0 w_wholeStart_a0 w_fractionEnd_a0 w_leadingFractionZeros_a0 w_sign_a0 w_value_a1 s_COMPACT_STRINGS g_w_value_a1 s_SIOOBE_FORMATTER h0 n0 _ T40.heap _
    rw [e40]
    exact ⟨rfl, N40, K40⟩
theorem ef_3 (m : MethodId) (a0 : Addr) : entryFrame m #[(.ref a0)] 4 = mkF m 0 #[.val (.ref a0), .unset, .unset, .unset] [] := by first | (simp [entryFrame, mkF, argsToLocals, Value.category]; done) | rfl
def Q3 (Z : State) (a0 : Addr) (w_value_a0 : Addr) (g_w_value_a0 : Nat → Int32) (s_COMPACT_STRINGS : Int32) (s_SIOOBE_FORMATTER : Value) (h0 : Heap) (n0 : Nat) (v : Option Value) (h : Heap) (L : List Loc) : Prop := ∃ b15 : Addr, v = some (.ref b15) ∧ Fr n0 L ∧ Keep h0 h [] ∧ h0.size ≤ b15
set_option maxRecDepth 65536 in
set_option maxHeartbeats 40000000 in
theorem rm3 (l : Launch) (Z : State) (A0 : Array Value) (hw : ∀ d ∈ tables_1, d.before A0 Z = true) (ws : List Jvm.Cond) (a0 : Addr) (w_value_a0 : Addr) (g_w_value_a0 : Nat → Int32) (s_COMPACT_STRINGS : Int32) (s_SIOOBE_FORMATTER : Value) (h0 : Heap) (n0 : Nat) (Z0 : n0 ≤ h0.size) (E_a0 : Exa Z h0 a0 "java/lang/String") (F_value_a0 : Fld Z h0 a0 "java/lang/String" "value" "[B" (.ref w_value_a0)) (F_coder_a0 : Fld Z h0 a0 "java/lang/String" "coder" "B" (.int (0 : Int32))) (A_w_value_a0 : AF Z h0 w_value_a0 .byte 1 (fun j => .int (g_w_value_a0 j))) (S_COMPACT_STRINGS : SO Z n0 h0 "java/lang/String" "COMPACT_STRINGS" "Z" (.int s_COMPACT_STRINGS)) (S_SIOOBE_FORMATTER : SO Z n0 h0 "jdk/internal/util/Preconditions" "SIOOBE_FORMATTER" "Ljava/util/function/BiFunction;" s_SIOOBE_FORMATTER) (hEL : EW Z A0 consts_1) (hdg : g_w_value_a0 0 = (49 : Int32) ∨ g_w_value_a0 0 = (50 : Int32) ∨ g_w_value_a0 0 = (51 : Int32)) (hc3_6_6_3_3 : ¬ (s_COMPACT_STRINGS = (0 : Int32))) (rf_s_SIOOBE_FORMATTER : s_SIOOBE_FORMATTER.isRef = true) :
    MetFree l (⟨"com/example/uneven_ticks/uneventicks/check/DecimalText", "parse", "(Ljava/lang/String;)Lcom/example/uneven_ticks/uneventicks/check/DecimalText;"⟩ : MethodName) (head1 (Jvm.Cond.code (⟨"com/example/uneven_ticks/uneventicks/check/DecimalText", "parse", "(Ljava/lang/String;)Lcom/example/uneven_ticks/uneventicks/check/DecimalText;"⟩ : MethodName) prog_9_method_2_code 4 (some (.object "com/example/uneven_ticks/uneventicks/check/DecimalText")) :: ws) ({ frames := 5, cells := 3, slots := 14, locals := 72 } : Room)) (fun a U => a = #[(.ref a0)] ∧ Z.Warmed39 U.vm ∧ U.heap = h0 ∧ CHv Z consts_1 U.vm h0) (fun _ _ _ _ _ => True) (fun _ U o U' => ∃ v L, o = .returned v ∧ Q3 Z a0 w_value_a0 g_w_value_a0 s_COMPACT_STRINGS s_SIOOBE_FORMATTER h0 n0 v U'.heap L ∧ CHr Z consts_1 U.vm U.heap U'.vm U'.heap ∧ ReturnedEndW U o U' L ({ frames := 5, cells := 3, slots := 14, locals := 72 } : Room).cells ({ frames := 5, cells := 3, slots := 14, locals := 72 } : Room).slots) := by
  refine MetFree.of_bodySF (plainFor_of_name pn_3) hisR ?_
  intro p e s m args below meth c s₁ Bd hml0 hP hK
  obtain ⟨rfl, hZ, hh, hCH⟩ := hP
  have hx := Bd.exec
  have hby := Bd.bytes
  have hml : c.maxLocals = 4 := hml0
  have hown : s.vm.findClass "com/example/uneven_ticks/uneventicks/check/DecimalText" = some m.cls := findClass_of_methodNamed Bd.named
  have hnm := (name_of_methodNamed Bd.named Bd.method).1
  have X0 : Stand p l e ({ frames := 5, cells := 3, slots := 14, locals := 72 } : Room) s m #[(.ref a0)] below meth c s₁ [] 0 0 := Stand.of_body Bd
  have e0 : s₁.heap = h0 := by rw [← hh, Bd.state]; rfl
  have N0 := Fr.nil n0
  have pre0 : ∀ t, Steps p.tables e below (s₁.setTop (mkF m 0 #[.val (.ref a0), .unset, .unset, .unset] [])) t → Steps p.tables e below (s₁.setTop (entryFrame m #[(.ref a0)] 4)) t := fun t k => castTop (ef_3 m a0) k
  have wS : ∀ d ∈ Bundle.stringAtoms, d.before A0 Z = true := by
    intro d hd
    simp only [Bundle.stringAtoms, List.mem_cons, List.not_mem_nil, or_false] at hd
    rcases hd with rfl | rfl | rfl | rfl | rfl | rfl | rfl
    · exact (hw _ (List.mem_of_getElem? (i := 5) rfl))
    · exact (hw _ (List.mem_of_getElem? (i := 6) rfl))
    · exact (hw _ (List.mem_of_getElem? (i := 7) rfl))
    · exact (hw _ (List.mem_of_getElem? (i := 8) rfl))
    · exact (hw _ (List.mem_of_getElem? (i := 9) rfl))
    · exact (hw _ (List.mem_of_getElem? (i := 10) rfl))
    · exact (hw _ (List.mem_of_getElem? (i := 11) rfl))
  have SI0 : s.Since s.vm 0 := State.WarmedH.since (State.WarmedH.refl s) 0
  have X1 : Stand p l e ({ frames := 5, cells := 3, slots := 14, locals := 72 } : Room) (s.setVm s.vm) m #[(.ref a0)] below meth c s₁ _ 0 0 := X0
  have LE0 : 0 ≤ h0.size := Nat.zero_le _
  obtain ⟨as2, T2, h2, k2, bs2, kk2, X2, e2, E2, SI2, LE2, hZ2, hown2, Es2, Fc2, Fv2, Av2, -, -, CHc2, -, sf2, st2⟩ := ldcCH (EL := consts_1) X1 hx hZ hown (hw _ (List.mem_of_getElem? (i := 23) rfl)) wS e0 SI0 LE0 hEL (List.mem_of_getElem? (i := 0) rfl) (CHr.refl hCH).1 (vs := [.int 45]) (z := 1) ⟨by decide, rfl⟩ (by decide) rfl (g := (mkF m 1 #[.val (.ref a0), .unset, .unset, .unset] [(.ref a0)])) rfl (hb hby d3_1) (n := 4) (by decide) (by decide) (by decide) (by decide)
  have K2 : Keep h0 h2 [] := (Keep.refl h0 []).ext E2
  have CH2 := (CHr.refl hCH).trans CHc2
  have V2 : AF Z h2 bs2 .byte 1 (fun j => .int ((fun _ => (45 : Int32)) j)) := own_arv1 Av2
  have G3 : Exa Z h2 a0 "java/lang/String" := (E_a0.ext E2)
  have G4 : Fld Z h2 a0 "java/lang/String" "value" "[B" (.ref w_value_a0) := (F_value_a0.ext E2)
  have G5 : Fld Z h2 a0 "java/lang/String" "coder" "B" (.int (0 : Int32)) := (F_coder_a0.ext E2)
  have G6 : AF Z h2 w_value_a0 .byte 1 (fun j => .int (g_w_value_a0 j)) := (A_w_value_a0.ext E2)
  have G7 : SO Z n0 h2 "java/lang/String" "COMPACT_STRINGS" "Z" (.int s_COMPACT_STRINGS) := (S_COMPACT_STRINGS.ext E2)
  have hp8 : ¬ ((g_w_value_a0 0) = ((fun _ => (45 : Int32)) 0)) := (by rcases hdg with q | q | q <;> rw [q] <;> decide)
  obtain ⟨cq9, kq9, q9a, q9b, q9c⟩ := isOf hZ2 e2 G3
  obtain ⟨_, _, ⟨T9, L9, k9, n9⟩, -, X9, ⟨Lc9, hQ9, l9, y9, z9⟩, st9⟩ := X2.virtualBack hx (y := (⟨"java/lang/String", "startsWith", "(Ljava/lang/String;)Z"⟩ : MethodName)) (z := (⟨"java/lang/String", "startsWith", "(Ljava/lang/String;)Z"⟩ : MethodName)) hown2 (mvT hZ2 (hw _ (List.mem_of_getElem? (i := 24) rfl))) (mvT hZ2 (hw _ (List.mem_of_getElem? (i := 25) rfl))) (notFace_of_selects (args := #[]) (mvT hZ2 (hw _ (List.mem_of_getElem? (i := 27) rfl)))) (mvT hZ2 (hw _ (List.mem_of_getElem? (i := 27) rfl))) (mvT hZ2 (hw _ (List.mem_of_getElem? (i := 26) rfl))) (by decide) (backOf (W := 0) (rm4 l Z A0 hw [] a0 as2 w_value_a0 g_w_value_a0 s_COMPACT_STRINGS bs2 (fun _ => (45 : Int32)) h2 n0 (Nat.le_trans Z0 K2.1) G3 G4 G5 G6 G7 Es2 Fv2 Fc2 V2 hc3_6_6_3_3 hp8) hZ2 (hw _ (List.mem_of_getElem? (i := 28) rfl)) (hw _ (List.mem_of_getElem? (i := 5) rfl)) (by decide) (by decide)) q9a q9c (g := (mkF m 3 #[.val (.ref a0), .unset, .unset, .unset] [(.ref as2), (.ref a0)])) rfl (by rw [hml]; rfl) (Steps.refl _) (argsL := [(.ref as2)]) (rest := []) (lenOf pd_3 rfl) rfl (by show 2 * 0 + _ ≤ _; exact Nat.le_of_eq rfl) (hb hby d3_3) (fun _ _ => ⟨rfl, e2, (by decide : 2 + 0 ≤ _), (by decide : 8 + 0 ≤ _)⟩)
  dsimp only [Pt.U, Pt.locs, Pt.cells, Pt.slots] at X9 l9 y9 z9 st9 hQ9
  subst l9 y9 z9
  obtain ⟨rfl, N9q, e9⟩ := hQ9
  have N9 := Fr.app N0 N9q
  have G10 : SO Z n0 h2 "jdk/internal/util/Preconditions" "SIOOBE_FORMATTER" "Ljava/util/function/BiFunction;" s_SIOOBE_FORMATTER := (S_SIOOBE_FORMATTER.ext E2)
  have hp11 : g_w_value_a0 0 = (49 : Int32) ∨ g_w_value_a0 0 = (50 : Int32) ∨ g_w_value_a0 0 = (51 : Int32) := hdg
  obtain ⟨_, _, ⟨T12, L12, k12, n12⟩, -, X12, ⟨Lc12, hQ12, l12, y12, z12⟩, st12⟩ := Jvm.LawKit.callS X9 hx (y := (⟨"com/example/uneven_ticks/uneventicks/check/DecimalText", "digitsEnd", "(Ljava/lang/String;I)I"⟩ : MethodName)) hown2 (mvT hZ2 (hw _ (List.mem_of_getElem? (i := 51) rfl))) (mvT hZ2 (hw _ (List.mem_of_getElem? (i := 52) rfl))) (mvT hZ2 (hw _ (List.mem_of_getElem? (i := 21) rfl))) (mvT hZ2 (hw _ (List.mem_of_getElem? (i := 53) rfl))) (by decide) (backOf (W := 0) (rm9 l Z A0 hw [] a0 w_value_a0 g_w_value_a0 s_COMPACT_STRINGS s_SIOOBE_FORMATTER h2 n0 (Nat.le_trans Z0 K2.1) G3 G4 G5 G6 G7 G10 hp11 hc3_6_6_3_3 rf_s_SIOOBE_FORMATTER) hZ2 (hw _ (List.mem_of_getElem? (i := 53) rfl)) (hw _ (List.mem_of_getElem? (i := 21) rfl)) (by decide) (by decide)) (g := (mkF m 17 #[.val (.ref a0), .val (.int (0 : Int32)), .unset, .unset] [(.int (0 : Int32)), (.ref a0)])) rfl (by rw [hml]; rfl) (argsL := [(.ref a0), (.int (0 : Int32))]) (rest := []) (lenOf pd_8 rfl) rfl (by show 2 * 0 + _ ≤ _; exact Nat.le_of_eq rfl) (hb hby d3_17) (fun _ _ => ⟨rfl, e9, (by decide : 2 + 0 ≤ _), (by decide : 8 + 0 ≤ _)⟩)
  dsimp only [Pt.U, Pt.locs, Pt.cells, Pt.slots] at X12 l12 y12 z12 st12 hQ12
  subst l12 y12 z12
  obtain ⟨rfl, N12q, e12⟩ := hQ12
  have N12 := Fr.app N9 N12q
  obtain ⟨cq13, kq13, q13a, q13b, q13c⟩ := isOf hZ2 e12 G3
  obtain ⟨_, _, ⟨T13, L13, k13, n13⟩, -, X13, ⟨Lc13, hQ13, l13, y13, z13⟩, st13⟩ := X12.virtualBack hx (y := (⟨"java/lang/String", "length", "()I"⟩ : MethodName)) (z := (⟨"java/lang/String", "length", "()I"⟩ : MethodName)) hown2 (mvT hZ2 (hw _ (List.mem_of_getElem? (i := 54) rfl))) (mvT hZ2 (hw _ (List.mem_of_getElem? (i := 35) rfl))) (notFace_of_selects (args := #[]) (mvT hZ2 (hw _ (List.mem_of_getElem? (i := 37) rfl)))) (mvT hZ2 (hw _ (List.mem_of_getElem? (i := 37) rfl))) (mvT hZ2 (hw _ (List.mem_of_getElem? (i := 36) rfl))) (by decide) (backOf (W := 1) (rm6 l Z A0 hw [] a0 w_value_a0 g_w_value_a0 s_COMPACT_STRINGS h2 n0 (Nat.le_trans Z0 K2.1) G3 G4 G5 G6 G7 hc3_6_6_3_3) hZ2 (hw _ (List.mem_of_getElem? (i := 38) rfl)) (hw _ (List.mem_of_getElem? (i := 5) rfl)) (by decide) (by decide)) q13a q13c (g := (mkF m 38 #[.val (.ref a0), .val (.int (0 : Int32)), .val (.int (1 : Int32)), .val (.int (1 : Int32))] [(.ref a0), (.int (1 : Int32))])) rfl (by rw [hml]; rfl) (Steps.refl _) (argsL := []) (rest := [(.int (1 : Int32))]) (lenOf pd_5 rfl) rfl (by show 2 * 0 + _ ≤ _; exact Nat.le_of_eq rfl) (hb hby d3_38) (fun _ _ => ⟨rfl, e12, (by decide : 2 + 0 ≤ _), (by decide : 8 + 0 ≤ _)⟩)
  dsimp only [Pt.U, Pt.locs, Pt.cells, Pt.slots] at X13 l13 y13 z13 st13 hQ13
  subst l13 y13 z13
  obtain ⟨rfl, N13q, e13⟩ := hQ13
  have N13 := Fr.app N12 N13q
  have hq14 : ((1 : Int32) >>> ((0 : Int32) &&& 31)) = (1 : Int32) := (by decide)
  obtain ⟨T15, h15, X15, e15, E15, A15, D15, -, st15⟩ := newO X13 hx hZ2 hown2 (hw _ (List.mem_of_getElem? (i := 77) rfl)) (hw _ (List.mem_of_getElem? (i := 78) rfl)) (hw _ (List.mem_of_getElem? (i := 21) rfl)) e13 (g := (mkF m 88 #[.val (.ref a0), .val (.int (0 : Int32)), .val (.int (1 : Int32)), .val (.int (1 : Int32))] [])) rfl (hb hby d3_88) (by decide) (by decide)
  obtain ⟨b15, g15⟩ : ∃ z, z = h2.size := ⟨_, rfl⟩
  rw [← g15] at A15 D15 st15
  have ne_as2_b15 : as2 ≠ b15 := Nat.ne_of_lt (Nat.lt_of_lt_of_le Es2.lt (Nat.le_of_eq g15.symm))
  have ne_bs2_b15 : bs2 ≠ b15 := Nat.ne_of_lt (Nat.lt_of_lt_of_le V2.lt (Nat.le_of_eq g15.symm))
  have ne_a0_b15 : a0 ≠ b15 := Nat.ne_of_lt (Nat.lt_of_lt_of_le G3.lt (Nat.le_of_eq g15.symm))
  have ne_w_value_a0_b15 : w_value_a0 ≠ b15 := Nat.ne_of_lt (Nat.lt_of_lt_of_le G6.lt (Nat.le_of_eq g15.symm))
  have nw_b15 : n0 ≤ b15 := Nat.le_trans (Nat.le_trans Z0 K2.1) (Nat.le_of_eq g15.symm)
  have sz_b15 : h0.size ≤ b15 := Nat.le_trans K2.1 (Nat.le_of_eq g15.symm)
  have K15 : Keep h0 h15 [] := K2.ext E15
  have CH16 := CH2.trans (CHr.ext E15 CH2.1)
  have F_text_b15 : Fld Z h15 b15 "com/example/uneven_ticks/uneventicks/check/DecimalText" "text" "Ljava/lang/String;" .null := D15 (Or.inr (hw _ (List.mem_of_getElem? (i := 84) rfl))) (ty := (.object "java/lang/String")) (by decide)
  have F_point_b15 : Fld Z h15 b15 "com/example/uneven_ticks/uneventicks/check/DecimalText" "point" "I" (.int (0 : Int32)) := D15 (Or.inr (hw _ (List.mem_of_getElem? (i := 86) rfl))) (ty := .int) (by decide)
  have F_wholeStart_b15 : Fld Z h15 b15 "com/example/uneven_ticks/uneventicks/check/DecimalText" "wholeStart" "I" (.int (0 : Int32)) := D15 (Or.inr (hw _ (List.mem_of_getElem? (i := 88) rfl))) (ty := .int) (by decide)
  have F_fractionEnd_b15 : Fld Z h15 b15 "com/example/uneven_ticks/uneventicks/check/DecimalText" "fractionEnd" "I" (.int (0 : Int32)) := D15 (Or.inr (hw _ (List.mem_of_getElem? (i := 98) rfl))) (ty := .int) (by decide)
  have F_leadingFractionZeros_b15 : Fld Z h15 b15 "com/example/uneven_ticks/uneventicks/check/DecimalText" "leadingFractionZeros" "I" (.int (0 : Int32)) := D15 (Or.inr (hw _ (List.mem_of_getElem? (i := 100) rfl))) (ty := .int) (by decide)
  have F_sign_b15 : Fld Z h15 b15 "com/example/uneven_ticks/uneventicks/check/DecimalText" "sign" "I" (.int (0 : Int32)) := D15 (Or.inr (hw _ (List.mem_of_getElem? (i := 102) rfl))) (ty := .int) (by decide)
  have G17 : Exa Z h15 a0 "java/lang/String" := (G3.ext E15)
  have G18 : Fld Z h15 a0 "java/lang/String" "value" "[B" (.ref w_value_a0) := (G4.ext E15)
  have G19 : Fld Z h15 a0 "java/lang/String" "coder" "B" (.int (0 : Int32)) := (G5.ext E15)
  have G20 : SO Z n0 h15 "java/lang/String" "COMPACT_STRINGS" "Z" (.int s_COMPACT_STRINGS) := (G7.ext E15)
  have G21 : AF Z h15 w_value_a0 .byte 1 (fun j => .int (g_w_value_a0 j)) := (G6.ext E15)
  have G22 : SO Z n0 h15 "jdk/internal/util/Preconditions" "SIOOBE_FORMATTER" "Ljava/util/function/BiFunction;" s_SIOOBE_FORMATTER := (G10.ext E15)
  have hp23 : g_w_value_a0 0 = (49 : Int32) ∨ g_w_value_a0 0 = (50 : Int32) ∨ g_w_value_a0 0 = (51 : Int32) := hdg
  obtain ⟨_, _, ⟨T24, L24, k24, n24⟩, -, X24, ⟨Lc24, hQ24, l24, y24, z24⟩, st24⟩ := X15.specialBack hx (y := (⟨"com/example/uneven_ticks/uneventicks/check/DecimalText", "<init>", "(Ljava/lang/String;II)V"⟩ : MethodName)) rfl hown2 (mvT hZ2 (hw _ (List.mem_of_getElem? (i := 79) rfl))) (mvT hZ2 (hw _ (List.mem_of_getElem? (i := 80) rfl))) (mvT hZ2 (hw _ (List.mem_of_getElem? (i := 81) rfl))) (by decide) (backOf (W := 1) (rm15 l Z A0 hw [] b15 a0 .null (0 : Int32) (0 : Int32) (0 : Int32) (0 : Int32) (0 : Int32) w_value_a0 s_COMPACT_STRINGS g_w_value_a0 s_SIOOBE_FORMATTER h15 n0 (Nat.le_trans Z0 K15.1) A15 F_text_b15 F_point_b15 F_wholeStart_b15 F_fractionEnd_b15 F_leadingFractionZeros_b15 F_sign_b15 nw_b15 G17 G18 (Ne.symm ne_a0_b15) G19 G20 G21 (Ne.symm ne_w_value_a0_b15) G22 hp23 rf_s_SIOOBE_FORMATTER hc3_6_6_3_3) hZ2 (hw _ (List.mem_of_getElem? (i := 81) rfl)) (hw _ (List.mem_of_getElem? (i := 21) rfl)) (by decide) (by decide)) (g := (mkF m 95 #[.val (.ref a0), .val (.int (0 : Int32)), .val (.int (1 : Int32)), .val (.int (1 : Int32))] [(.int (1 : Int32)), (.int (0 : Int32)), (.ref a0), (.ref b15), (.ref b15)])) rfl (by rw [hml]; rfl) (Steps.refl _) (a := b15) (argsL := [(.ref a0), (.int (0 : Int32)), (.int (1 : Int32))]) (rest := [(.ref b15)]) (lenOf pd_14 rfl) rfl (by show 2 * 0 + _ ≤ _; exact Nat.le_of_eq rfl) (hb hby d3_95) (fun _ _ => ⟨rfl, e15, (by decide : 3 + 0 ≤ _), (by decide : 14 + 0 ≤ _)⟩)
  dsimp only [Pt.U, Pt.locs, Pt.cells, Pt.slots] at X24 l24 y24 z24 st24 hQ24
  subst l24 y24 z24
  obtain ⟨rfl, N24q, Kc24⟩ := hQ24
  have K24 : Keep h0 T24.heap [] := K15.trans Kc24 (allS (Or.inr sz_b15) all0)
  have CH25 := CH16.trans (CHr.keep Kc24 (sfS (Safe.exa hZ2.alike A15 (by decide) (by decide)) sf0) CH16.1)
  have N24 := Fr.app N13 N24q
  have G26 : k2 ≤ T24.heap.size := (Nat.le_trans (Nat.le_trans LE2 E15.1) Kc24.1)
  obtain ⟨fs, hr, hrun, hended, hRW⟩ := X24.leaveW SI2 G26 (v := some (.ref b15)) (fun h => by rw [Bd.returns] at h; cases h)
  have CHz := CH25.trans (CHv.at X24 hZ2 hEL CH25.1)
  refine ⟨_, _, pre0 _ ?_, hrun, hended, _, _, rfl, ?_, ?_, hRW.1, hRW.2.1, hRW.2.2.1, hRW.2.2.2.mono (by decide) (by decide)⟩
  · show Steps p.tables e below (s₁.setTop (mkF m 0 #[.val (.ref a0), .unset, .unset, .unset] [])) _
    refine XS.aloadN X0.here hx rfl (hb hby d3_0) rfl rfl ?_
    show Steps p.tables e below (s₁.setTop (mkF m 1 #[.val (.ref a0), .unset, .unset, .unset] [(.ref a0)])) _
    refine st2 _ ?_
    show Steps p.tables e below (T2.setTop (mkF m 3 #[.val (.ref a0), .unset, .unset, .unset] [(.ref as2), (.ref a0)])) _
    refine st9.trans ?_
    show Steps p.tables e below (T9.setTop (mkF m 6 #[.val (.ref a0), .unset, .unset, .unset] [(.int (0 : Int32))])) _
    refine XS.ifYes X9.here hx rfl (pc0 := 6) (pc' := 13) rfl (hb hby d3_6) rfl ((if0 _ _).trans (teq (by decide)).1) (by decide) (by decide) ?_
    show Steps p.tables e below (T9.setTop (mkF m 13 #[.val (.ref a0), .unset, .unset, .unset] [])) _
    refine XS.iconst X9.here hx rfl (hb hby d3_13) ?_
    show Steps p.tables e below (T9.setTop (mkF m 14 #[.val (.ref a0), .unset, .unset, .unset] [(.int (0 : Int32))])) _
    refine XS.istoreN X9.here hx rfl (hb hby d3_14) rfl (l' := #[.val (.ref a0), .val (.int (0 : Int32)), .unset, .unset]) rfl ?_
    show Steps p.tables e below (T9.setTop (mkF m 15 #[.val (.ref a0), .val (.int (0 : Int32)), .unset, .unset] [])) _
    refine XS.aloadN X9.here hx rfl (hb hby d3_15) rfl rfl ?_
    show Steps p.tables e below (T9.setTop (mkF m 16 #[.val (.ref a0), .val (.int (0 : Int32)), .unset, .unset] [(.ref a0)])) _
    refine XS.iloadN X9.here hx rfl (hb hby d3_16) rfl ?_
    show Steps p.tables e below (T9.setTop (mkF m 17 #[.val (.ref a0), .val (.int (0 : Int32)), .unset, .unset] [(.int (0 : Int32)), (.ref a0)])) _
    refine st12 _ ?_
    show Steps p.tables e below (T12.setTop (mkF m 20 #[.val (.ref a0), .val (.int (0 : Int32)), .unset, .unset] [(.int (1 : Int32))])) _
    refine XS.istoreN X12.here hx rfl (hb hby d3_20) rfl (l' := #[.val (.ref a0), .val (.int (0 : Int32)), .val (.int (1 : Int32)), .unset]) rfl ?_
    show Steps p.tables e below (T12.setTop (mkF m 21 #[.val (.ref a0), .val (.int (0 : Int32)), .val (.int (1 : Int32)), .unset] [])) _
    refine XS.iloadN X12.here hx rfl (hb hby d3_21) rfl ?_
    show Steps p.tables e below (T12.setTop (mkF m 22 #[.val (.ref a0), .val (.int (0 : Int32)), .val (.int (1 : Int32)), .unset] [(.int (1 : Int32))])) _
    refine XS.iloadN X12.here hx rfl (hb hby d3_22) rfl ?_
    show Steps p.tables e below (T12.setTop (mkF m 23 #[.val (.ref a0), .val (.int (0 : Int32)), .val (.int (1 : Int32)), .unset] [(.int (0 : Int32)), (.int (1 : Int32))])) _
    refine XS.icmpNo X12.here hx rfl (hb hby d3_23) rfl (tlt (by decide)).2.2.2 ?_
    show Steps p.tables e below (T12.setTop (mkF m 26 #[.val (.ref a0), .val (.int (0 : Int32)), .val (.int (1 : Int32)), .unset] [])) _
    refine XS.iconst X12.here hx rfl (hb hby d3_26) ?_
    show Steps p.tables e below (T12.setTop (mkF m 27 #[.val (.ref a0), .val (.int (0 : Int32)), .val (.int (1 : Int32)), .unset] [(.int (1 : Int32))])) _
    refine XS.goto X12.here hx rfl (pc0 := 27) (pc' := 31) rfl (hb hby d3_27) (by decide) (by decide) ?_
    show Steps p.tables e below (T12.setTop (mkF m 31 #[.val (.ref a0), .val (.int (0 : Int32)), .val (.int (1 : Int32)), .unset] [(.int (1 : Int32))])) _
    refine XS.istoreN X12.here hx rfl (hb hby d3_31) rfl (l' := #[.val (.ref a0), .val (.int (0 : Int32)), .val (.int (1 : Int32)), .val (.int (1 : Int32))]) rfl ?_
    show Steps p.tables e below (T12.setTop (mkF m 32 #[.val (.ref a0), .val (.int (0 : Int32)), .val (.int (1 : Int32)), .val (.int (1 : Int32))] [])) _
    refine XS.iloadN X12.here hx rfl (hb hby d3_32) rfl ?_
    show Steps p.tables e below (T12.setTop (mkF m 33 #[.val (.ref a0), .val (.int (0 : Int32)), .val (.int (1 : Int32)), .val (.int (1 : Int32))] [(.int (1 : Int32))])) _
    refine XS.ifNo X12.here hx rfl (hb hby d3_33) rfl ((if0 _ _).trans (feq (by decide)).1) ?_
    show Steps p.tables e below (T12.setTop (mkF m 36 #[.val (.ref a0), .val (.int (0 : Int32)), .val (.int (1 : Int32)), .val (.int (1 : Int32))] [])) _
    refine XS.iloadN X12.here hx rfl (hb hby d3_36) rfl ?_
    show Steps p.tables e below (T12.setTop (mkF m 37 #[.val (.ref a0), .val (.int (0 : Int32)), .val (.int (1 : Int32)), .val (.int (1 : Int32))] [(.int (1 : Int32))])) _
    refine XS.aloadN X12.here hx rfl (hb hby d3_37) rfl rfl ?_
    show Steps p.tables e below (T12.setTop (mkF m 38 #[.val (.ref a0), .val (.int (0 : Int32)), .val (.int (1 : Int32)), .val (.int (1 : Int32))] [(.ref a0), (.int (1 : Int32))])) _
    refine st13.trans ?_
    show Steps p.tables e below (T13.setTop (mkF m 41 #[.val (.ref a0), .val (.int (0 : Int32)), .val (.int (1 : Int32)), .val (.int (1 : Int32))] [(.int ((1 : Int32) >>> ((0 : Int32) &&& 31))), (.int (1 : Int32))])) _
    refine castTop (g' := (mkF m 41 #[.val (.ref a0), .val (.int (0 : Int32)), .val (.int (1 : Int32)), .val (.int (1 : Int32))] [(.int (1 : Int32)), (.int (1 : Int32))])) (by rw [hq14] <;> rfl) ?_
    show Steps p.tables e below (T13.setTop (mkF m 41 #[.val (.ref a0), .val (.int (0 : Int32)), .val (.int (1 : Int32)), .val (.int (1 : Int32))] [(.int (1 : Int32)), (.int (1 : Int32))])) _
    refine XS.icmpYes X13.here hx rfl (pc0 := 41) (pc' := 84) rfl (hb hby d3_41) rfl (flt (by decide)).2.1 (by decide) (by decide) ?_
    show Steps p.tables e below (T13.setTop (mkF m 84 #[.val (.ref a0), .val (.int (0 : Int32)), .val (.int (1 : Int32)), .val (.int (1 : Int32))] [])) _
    refine XS.iloadN X13.here hx rfl (hb hby d3_84) rfl ?_
    show Steps p.tables e below (T13.setTop (mkF m 85 #[.val (.ref a0), .val (.int (0 : Int32)), .val (.int (1 : Int32)), .val (.int (1 : Int32))] [(.int (1 : Int32))])) _
    refine XS.ifNo X13.here hx rfl (hb hby d3_85) rfl ((if0 _ _).trans (feq (by decide)).1) ?_
    show Steps p.tables e below (T13.setTop (mkF m 88 #[.val (.ref a0), .val (.int (0 : Int32)), .val (.int (1 : Int32)), .val (.int (1 : Int32))] [])) _
    refine st15 _ ?_
    show Steps p.tables e below (T15.setTop (mkF m 91 #[.val (.ref a0), .val (.int (0 : Int32)), .val (.int (1 : Int32)), .val (.int (1 : Int32))] [(.ref b15)])) _
    refine XS.dup X15.here hx rfl (hb hby d3_91) rfl rfl ?_
    show Steps p.tables e below (T15.setTop (mkF m 92 #[.val (.ref a0), .val (.int (0 : Int32)), .val (.int (1 : Int32)), .val (.int (1 : Int32))] [(.ref b15), (.ref b15)])) _
    refine XS.aloadN X15.here hx rfl (hb hby d3_92) rfl rfl ?_
    show Steps p.tables e below (T15.setTop (mkF m 93 #[.val (.ref a0), .val (.int (0 : Int32)), .val (.int (1 : Int32)), .val (.int (1 : Int32))] [(.ref a0), (.ref b15), (.ref b15)])) _
    refine XS.iloadN X15.here hx rfl (hb hby d3_93) rfl ?_
    show Steps p.tables e below (T15.setTop (mkF m 94 #[.val (.ref a0), .val (.int (0 : Int32)), .val (.int (1 : Int32)), .val (.int (1 : Int32))] [(.int (0 : Int32)), (.ref a0), (.ref b15), (.ref b15)])) _
    refine XS.iloadN X15.here hx rfl (hb hby d3_94) rfl ?_
    show Steps p.tables e below (T15.setTop (mkF m 95 #[.val (.ref a0), .val (.int (0 : Int32)), .val (.int (1 : Int32)), .val (.int (1 : Int32))] [(.int (1 : Int32)), (.int (0 : Int32)), (.ref a0), (.ref b15), (.ref b15)])) _
    refine st24.trans ?_
    show Steps p.tables e below (T24.setTop (mkF m 98 #[.val (.ref a0), .val (.int (0 : Int32)), .val (.int (1 : Int32)), .val (.int (1 : Int32))] [(.ref b15)])) _
    refine XS.goto X24.here hx rfl (pc0 := 98) (pc' := 102) rfl (hb hby d3_98) (by decide) (by decide) ?_
    show Steps p.tables e below (T24.setTop (mkF m 102 #[.val (.ref a0), .val (.int (0 : Int32)), .val (.int (1 : Int32)), .val (.int (1 : Int32))] [(.ref b15)])) _
    exact retOut X24 hx Bd.returns rfl (Or.inr (Or.inr (Or.inr (Or.inr ⟨rfl, rfl, rfl⟩)))) (hb hby d3_102) hr
  · show Q3 Z a0 w_value_a0 g_w_value_a0 s_COMPACT_STRINGS s_SIOOBE_FORMATTER h0 n0 _ T24.heap _
    exact ⟨b15, rfl, N24, K24, sz_b15⟩
  · show CHr Z consts_1 s.vm s.heap T24.vm T24.heap
    rw [hh]; exact CHz
theorem ef_1 (m : MethodId) (a0 : Addr) (a1 : Addr) (a2 : Addr) : entryFrame m #[(.ref a0), (.ref a1), (.ref a2), .null, .null, (.int (0 : Int32))] 6 = mkF m 0 #[.val (.ref a0), .val (.ref a1), .val (.ref a2), .val .null, .val .null, .val (.int (0 : Int32))] [] := by first | (simp [entryFrame, mkF, argsToLocals, Value.category]; done) | rfl
def Q1 (Z : State) (a0 : Addr) (a1 : Addr) (a2 : Addr) (w_writtenTime_a0 : Value) (w_name_a0 : Value) (w_line_a0 : Value) (w_attributeBounds_a0 : Value) (w_attributeCount_a0 : Int32) (w_value_a1 : Addr) (g_w_value_a1 : Nat → Int32) (s_COMPACT_STRINGS : Int32) (s_SIOOBE_FORMATTER : Value) (h0 : Heap) (n0 : Nat) (v : Option Value) (h : Heap) (L : List Loc) : Prop := ∃ b4_b15 : Addr, v = none ∧ Fr n0 L ∧ Keep h0 h [a0] ∧ h0.size ≤ b4_b15
set_option maxRecDepth 65536 in
set_option maxHeartbeats 40000000 in
theorem rm1 (l : Launch) (Z : State) (A0 : Array Value) (hw : ∀ d ∈ tables_1, d.before A0 Z = true) (ws : List Jvm.Cond) (a0 : Addr) (a1 : Addr) (a2 : Addr) (w_writtenTime_a0 : Value) (w_name_a0 : Value) (w_line_a0 : Value) (w_attributeBounds_a0 : Value) (w_attributeCount_a0 : Int32) (w_value_a1 : Addr) (g_w_value_a1 : Nat → Int32) (s_COMPACT_STRINGS : Int32) (s_SIOOBE_FORMATTER : Value) (h0 : Heap) (n0 : Nat) (Z0 : n0 ≤ h0.size) (E_a0 : Exa Z h0 a0 "com/example/uneven_ticks/uneventicks/check/TraceEvent") (F_writtenTime_a0 : Fld Z h0 a0 "com/example/uneven_ticks/uneventicks/check/TraceEvent" "writtenTime" "Lcom/example/uneven_ticks/uneventicks/check/DecimalText;" w_writtenTime_a0) (F_name_a0 : Fld Z h0 a0 "com/example/uneven_ticks/uneventicks/check/TraceEvent" "name" "Ljava/lang/String;" w_name_a0) (F_line_a0 : Fld Z h0 a0 "com/example/uneven_ticks/uneventicks/check/TraceEvent" "line" "Ljava/lang/String;" w_line_a0) (F_attributeBounds_a0 : Fld Z h0 a0 "com/example/uneven_ticks/uneventicks/check/TraceEvent" "attributeBounds" "[I" w_attributeBounds_a0) (F_attributeCount_a0 : Fld Z h0 a0 "com/example/uneven_ticks/uneventicks/check/TraceEvent" "attributeCount" "I" (.int w_attributeCount_a0)) (E_a1 : Exa Z h0 a1 "java/lang/String") (F_value_a1 : Fld Z h0 a1 "java/lang/String" "value" "[B" (.ref w_value_a1)) (F_coder_a1 : Fld Z h0 a1 "java/lang/String" "coder" "B" (.int (0 : Int32))) (A_w_value_a1 : AF Z h0 w_value_a1 .byte 1 (fun j => .int (g_w_value_a1 j))) (S_COMPACT_STRINGS : SO Z n0 h0 "java/lang/String" "COMPACT_STRINGS" "Z" (.int s_COMPACT_STRINGS)) (S_SIOOBE_FORMATTER : SO Z n0 h0 "jdk/internal/util/Preconditions" "SIOOBE_FORMATTER" "Ljava/util/function/BiFunction;" s_SIOOBE_FORMATTER) (nw_a0 : n0 ≤ a0) (hEL : EW Z A0 consts_1) (hdg : g_w_value_a1 0 = (49 : Int32) ∨ g_w_value_a1 0 = (50 : Int32) ∨ g_w_value_a1 0 = (51 : Int32)) (rf_s_SIOOBE_FORMATTER : s_SIOOBE_FORMATTER.isRef = true) (hc3_6_6_3_3_6 : ¬ (s_COMPACT_STRINGS = (0 : Int32))) :
    MetFree l (⟨"com/example/uneven_ticks/uneventicks/check/TraceEvent", "<init>", "(Ljava/lang/String;Ljava/lang/String;Ljava/lang/String;[II)V"⟩ : MethodName) (head1 (Jvm.Cond.code (⟨"com/example/uneven_ticks/uneventicks/check/TraceEvent", "<init>", "(Ljava/lang/String;Ljava/lang/String;Ljava/lang/String;[II)V"⟩ : MethodName) prog_24_method_3_code 6 none :: ws) ({ frames := 6, cells := 3, slots := 14, locals := 88 } : Room)) (fun a U => a = #[(.ref a0), (.ref a1), (.ref a2), .null, .null, (.int (0 : Int32))] ∧ Z.Warmed39 U.vm ∧ U.heap = h0 ∧ CHv Z consts_1 U.vm h0) (fun _ _ _ _ _ => True) (fun _ U o U' => ∃ v L, o = .returned v ∧ Q1 Z a0 a1 a2 w_writtenTime_a0 w_name_a0 w_line_a0 w_attributeBounds_a0 w_attributeCount_a0 w_value_a1 g_w_value_a1 s_COMPACT_STRINGS s_SIOOBE_FORMATTER h0 n0 v U'.heap L ∧ CHr Z consts_1 U.vm U.heap U'.vm U'.heap ∧ ReturnedEndW U o U' L ({ frames := 6, cells := 3, slots := 14, locals := 88 } : Room).cells ({ frames := 6, cells := 3, slots := 14, locals := 88 } : Room).slots) := by
  refine MetFree.of_bodySF (plainFor_of_name pn_1) hisR ?_
  intro p e s m args below meth c s₁ Bd hml0 hP hK
  obtain ⟨rfl, hZ, hh, hCH⟩ := hP
  have hx := Bd.exec
  have hby := Bd.bytes
  have hml : c.maxLocals = 6 := hml0
  have hown : s.vm.findClass "com/example/uneven_ticks/uneventicks/check/TraceEvent" = some m.cls := findClass_of_methodNamed Bd.named
  have hnm := (name_of_methodNamed Bd.named Bd.method).1
  have X0 : Stand p l e ({ frames := 6, cells := 3, slots := 14, locals := 88 } : Room) s m #[(.ref a0), (.ref a1), (.ref a2), .null, .null, (.int (0 : Int32))] below meth c s₁ [] 0 0 := Stand.of_body Bd
  have e0 : s₁.heap = h0 := by rw [← hh, Bd.state]; rfl
  have N0 := Fr.nil n0
  have pre0 : ∀ t, Steps p.tables e below (s₁.setTop (mkF m 0 #[.val (.ref a0), .val (.ref a1), .val (.ref a2), .val .null, .val .null, .val (.int (0 : Int32))] [])) t → Steps p.tables e below (s₁.setTop (entryFrame m #[(.ref a0), (.ref a1), (.ref a2), .null, .null, (.int (0 : Int32))] 6)) t := fun t k => castTop (ef_1 m a0 a1 a2) k
  obtain ⟨T1, X1, e1, st1⟩ := initO X0 hx hZ hown (hw _ (List.mem_of_getElem? (i := 16) rfl)) (hw _ (List.mem_of_getElem? (i := 17) rfl)) (hw _ (List.mem_of_getElem? (i := 18) rfl)) e0 (g := (mkF m 1 #[.val (.ref a0), .val (.ref a1), .val (.ref a2), .val .null, .val .null, .val (.int (0 : Int32))] [(.ref a0)])) rfl (by rw [hml]; rfl) rfl (hb hby d1_1) (by decide) (W := 0) (by show 2 * 0 + _ ≤ _; exact Nat.le_of_eq rfl) (by decide)
  have wS : ∀ d ∈ Bundle.stringAtoms, d.before A0 Z = true := by
    intro d hd
    simp only [Bundle.stringAtoms, List.mem_cons, List.not_mem_nil, or_false] at hd
    rcases hd with rfl | rfl | rfl | rfl | rfl | rfl | rfl
    · exact (hw _ (List.mem_of_getElem? (i := 5) rfl))
    · exact (hw _ (List.mem_of_getElem? (i := 6) rfl))
    · exact (hw _ (List.mem_of_getElem? (i := 7) rfl))
    · exact (hw _ (List.mem_of_getElem? (i := 8) rfl))
    · exact (hw _ (List.mem_of_getElem? (i := 9) rfl))
    · exact (hw _ (List.mem_of_getElem? (i := 10) rfl))
    · exact (hw _ (List.mem_of_getElem? (i := 11) rfl))
  have SI0 : s.Since s.vm 0 := State.WarmedH.since (State.WarmedH.refl s) 0
  have X2 : Stand p l e ({ frames := 6, cells := 3, slots := 14, locals := 88 } : Room) (s.setVm s.vm) m #[(.ref a0), (.ref a1), (.ref a2), .null, .null, (.int (0 : Int32))] below meth c T1 _ 0 0 := X1
  have LE0 : 0 ≤ h0.size := Nat.zero_le _
  have hp3 : g_w_value_a1 0 = (49 : Int32) ∨ g_w_value_a1 0 = (50 : Int32) ∨ g_w_value_a1 0 = (51 : Int32) := hdg
  obtain ⟨_, _, ⟨T4, L4, k4, n4⟩, -, X4a, SI4a, ge4, ⟨Lc4, hQ4, l4, y4, z4, CHc4⟩, st4⟩ := callSS X2 hx (y := (⟨"com/example/uneven_ticks/uneventicks/check/DecimalText", "parse", "(Ljava/lang/String;)Lcom/example/uneven_ticks/uneventicks/check/DecimalText;"⟩ : MethodName)) hown (mvT hZ (hw _ (List.mem_of_getElem? (i := 19) rfl))) (mvT hZ (hw _ (List.mem_of_getElem? (i := 20) rfl))) (mvT hZ (hw _ (List.mem_of_getElem? (i := 21) rfl))) (mvT hZ (hw _ (List.mem_of_getElem? (i := 22) rfl))) (by decide) (backOfSH (EL := consts_1) (W := 1) (rm3 l Z A0 hw [] a1 w_value_a1 g_w_value_a1 s_COMPACT_STRINGS s_SIOOBE_FORMATTER h0 n0 (Nat.le_trans Z0 (Keep.refl h0 [a0]).1) E_a1 F_value_a1 F_coder_a1 A_w_value_a1 S_COMPACT_STRINGS S_SIOOBE_FORMATTER hEL hp3 hc3_6_6_3_3_6 rf_s_SIOOBE_FORMATTER) hZ (hw _ (List.mem_of_getElem? (i := 22) rfl)) (hw _ (List.mem_of_getElem? (i := 21) rfl)) (by decide) (by decide) hEL (CHr.refl hCH).1) (g := (mkF m 6 #[.val (.ref a0), .val (.ref a1), .val (.ref a2), .val .null, .val .null, .val (.int (0 : Int32))] [(.ref a1), (.ref a0)])) rfl (by rw [hml]; rfl) (argsL := [(.ref a1)]) (rest := [(.ref a0)]) (lenOf pd_2 rfl) rfl (by show 2 * 0 + _ ≤ _; exact Nat.le_of_eq rfl) (hb hby d1_6) (fun _ _ => ⟨rfl, e1, (by decide : 0 + 3 ≤ _), (by decide : 0 + 14 ≤ _)⟩)
  obtain ⟨X4, SI4, hZ4, hown4⟩ := rebS SI0 (by rw [e1]; exact LE0) X4a SI4a ge4 hZ hown
  dsimp only [Pt.U, Pt.locs, Pt.cells, Pt.slots] at X4 l4 y4 z4 st4 hQ4 CHc4 SI4 hZ4 hown4
  subst l4 y4 z4
  obtain ⟨b4_b15, rfl, N4q, Kc4, szb4_b15⟩ := hQ4
  have ne_a0_b4_b15 : a0 ≠ b4_b15 := Nat.ne_of_lt (Nat.lt_of_lt_of_le E_a0.lt szb4_b15)
  have ne_a1_b4_b15 : a1 ≠ b4_b15 := Nat.ne_of_lt (Nat.lt_of_lt_of_le E_a1.lt szb4_b15)
  have ne_w_value_a1_b4_b15 : w_value_a1 ≠ b4_b15 := Nat.ne_of_lt (Nat.lt_of_lt_of_le A_w_value_a1.lt szb4_b15)
  have nw_b4_b15 : n0 ≤ b4_b15 := Nat.le_trans (Nat.le_trans Z0 (Keep.refl h0 [a0]).1) szb4_b15
  have sq_b4_b15 : h0.size ≤ b4_b15 := Nat.le_trans (Keep.refl h0 [a0]).1 szb4_b15
  have K4 : Keep h0 T4.heap [a0] := (Keep.refl h0 [a0]).trans Kc4 all0
  have CH4 := (CHr.refl hCH).trans CHc4
  have LE4 : T4.heap.size ≤ T4.heap.size := Nat.le_refl _
  have N4 := Fr.app N0 N4q
  have G5 : Exa Z T4.heap a0 "com/example/uneven_ticks/uneventicks/check/TraceEvent" := (E_a0.keep Kc4)
  have G6 : Fld Z T4.heap a0 "com/example/uneven_ticks/uneventicks/check/TraceEvent" "writtenTime" "Lcom/example/uneven_ticks/uneventicks/check/DecimalText;" w_writtenTime_a0 := (F_writtenTime_a0.keep Kc4 nin0)
  obtain ⟨T7, h7, X7, e7, W7, st7⟩ := putF X4 hx hZ4 hown4 (host := "") (Or.inl (hw _ (List.mem_of_getElem? (i := 103) rfl))) Via.refl rfl G6 G5 (Or.inr ⟨(hw _ (List.mem_of_getElem? (i := 104) rfl)), rfl, hnm⟩) (hw _ (List.mem_of_getElem? (i := 2) rfl)) (ty := (.object "com/example/uneven_ticks/uneventicks/check/DecimalText")) (by decide) rfl rfl (g := (mkF m 9 #[.val (.ref a0), .val (.ref a1), .val (.ref a2), .val .null, .val .null, .val (.int (0 : Int32))] [(.ref b4_b15), (.ref a0)])) rfl rfl (hb hby d1_9)
  have K7 : Keep h0 h7 [a0] := K4.wr W7 (Or.inl (by simp))
  have CH8 := CH4.trans (CHr.wr W7 (Safe.exa hZ4.alike G5 (by decide) (by decide)) CH4.1)
  have Fw7 : Fld Z h7 a0 "com/example/uneven_ticks/uneventicks/check/TraceEvent" "writtenTime" "Lcom/example/uneven_ticks/uneventicks/check/DecimalText;" (.ref b4_b15) := G6.same W7
  have N7 := Fr.snoc X7 N4 nw_a0
  have G9 : Exa Z h7 a0 "com/example/uneven_ticks/uneventicks/check/TraceEvent" := (G5.wr W7)
  have G10 : Fld Z h7 a0 "com/example/uneven_ticks/uneventicks/check/TraceEvent" "name" "Ljava/lang/String;" w_name_a0 := ((F_name_a0.keep Kc4 nin0).other W7 (Or.inr (slot_ne (Or.inr (hw _ (List.mem_of_getElem? (i := 106) rfl))) (Or.inr (hw _ (List.mem_of_getElem? (i := 104) rfl))) (by decide) (t := (.object "java/lang/String")) (t' := (.object "com/example/uneven_ticks/uneventicks/check/DecimalText")) (by decide) (by decide))))
  obtain ⟨T11, h11, X11, e11, W11, st11⟩ := putF X7 hx hZ4 hown4 (host := "") (Or.inl (hw _ (List.mem_of_getElem? (i := 105) rfl))) Via.refl e7 G10 G9 (Or.inr ⟨(hw _ (List.mem_of_getElem? (i := 106) rfl)), rfl, hnm⟩) (hw _ (List.mem_of_getElem? (i := 2) rfl)) (ty := (.object "java/lang/String")) (by decide) rfl rfl (g := (mkF m 14 #[.val (.ref a0), .val (.ref a1), .val (.ref a2), .val .null, .val .null, .val (.int (0 : Int32))] [(.ref a2), (.ref a0)])) rfl rfl (hb hby d1_14)
  have K11 : Keep h0 h11 [a0] := K7.wr W11 (Or.inl (by simp))
  have CH12 := CH8.trans (CHr.wr W11 (Safe.exa hZ4.alike G9 (by decide) (by decide)) CH8.1)
  have Fw11 : Fld Z h11 a0 "com/example/uneven_ticks/uneventicks/check/TraceEvent" "name" "Ljava/lang/String;" (.ref a2) := G10.same W11
  have N11 := Fr.snoc X11 N7 nw_a0
  have G13 : Exa Z h11 a0 "com/example/uneven_ticks/uneventicks/check/TraceEvent" := (G9.wr W11)
  have G14 : Fld Z h11 a0 "com/example/uneven_ticks/uneventicks/check/TraceEvent" "line" "Ljava/lang/String;" w_line_a0 := (((F_line_a0.keep Kc4 nin0).other W7 (Or.inr (slot_ne (Or.inr (hw _ (List.mem_of_getElem? (i := 108) rfl))) (Or.inr (hw _ (List.mem_of_getElem? (i := 104) rfl))) (by decide) (t := (.object "java/lang/String")) (t' := (.object "com/example/uneven_ticks/uneventicks/check/DecimalText")) (by decide) (by decide)))).other W11 (Or.inr (slot_ne (Or.inr (hw _ (List.mem_of_getElem? (i := 108) rfl))) (Or.inr (hw _ (List.mem_of_getElem? (i := 106) rfl))) (by decide) (t := (.object "java/lang/String")) (t' := (.object "java/lang/String")) (by decide) (by decide))))
  obtain ⟨T15, h15, X15, e15, W15, st15⟩ := putF X11 hx hZ4 hown4 (host := "") (Or.inl (hw _ (List.mem_of_getElem? (i := 107) rfl))) Via.refl e11 G14 G13 (Or.inr ⟨(hw _ (List.mem_of_getElem? (i := 108) rfl)), rfl, hnm⟩) (hw _ (List.mem_of_getElem? (i := 2) rfl)) (ty := (.object "java/lang/String")) (by decide) rfl rfl (g := (mkF m 19 #[.val (.ref a0), .val (.ref a1), .val (.ref a2), .val .null, .val .null, .val (.int (0 : Int32))] [.null, (.ref a0)])) rfl rfl (hb hby d1_19)
  have K15 : Keep h0 h15 [a0] := K11.wr W15 (Or.inl (by simp))
  have CH16 := CH12.trans (CHr.wr W15 (Safe.exa hZ4.alike G13 (by decide) (by decide)) CH12.1)
  have Fw15 : Fld Z h15 a0 "com/example/uneven_ticks/uneventicks/check/TraceEvent" "line" "Ljava/lang/String;" .null := G14.same W15
  have N15 := Fr.snoc X15 N11 nw_a0
  have G17 : Exa Z h15 a0 "com/example/uneven_ticks/uneventicks/check/TraceEvent" := (G13.wr W15)
  have G18 : Fld Z h15 a0 "com/example/uneven_ticks/uneventicks/check/TraceEvent" "attributeBounds" "[I" w_attributeBounds_a0 := ((((F_attributeBounds_a0.keep Kc4 nin0).other W7 (Or.inr (slot_ne (Or.inr (hw _ (List.mem_of_getElem? (i := 110) rfl))) (Or.inr (hw _ (List.mem_of_getElem? (i := 104) rfl))) (by decide) (t := (.array .int)) (t' := (.object "com/example/uneven_ticks/uneventicks/check/DecimalText")) (by decide) (by decide)))).other W11 (Or.inr (slot_ne (Or.inr (hw _ (List.mem_of_getElem? (i := 110) rfl))) (Or.inr (hw _ (List.mem_of_getElem? (i := 106) rfl))) (by decide) (t := (.array .int)) (t' := (.object "java/lang/String")) (by decide) (by decide)))).other W15 (Or.inr (slot_ne (Or.inr (hw _ (List.mem_of_getElem? (i := 110) rfl))) (Or.inr (hw _ (List.mem_of_getElem? (i := 108) rfl))) (by decide) (t := (.array .int)) (t' := (.object "java/lang/String")) (by decide) (by decide))))
  obtain ⟨T19, h19, X19, e19, W19, st19⟩ := putF X15 hx hZ4 hown4 (host := "") (Or.inl (hw _ (List.mem_of_getElem? (i := 109) rfl))) Via.refl e15 G18 G17 (Or.inr ⟨(hw _ (List.mem_of_getElem? (i := 110) rfl)), rfl, hnm⟩) (hw _ (List.mem_of_getElem? (i := 2) rfl)) (ty := (.array .int)) (by decide) rfl rfl (g := (mkF m 25 #[.val (.ref a0), .val (.ref a1), .val (.ref a2), .val .null, .val .null, .val (.int (0 : Int32))] [.null, (.ref a0)])) rfl rfl (hb hby d1_25)
  have K19 : Keep h0 h19 [a0] := K15.wr W19 (Or.inl (by simp))
  have CH20 := CH16.trans (CHr.wr W19 (Safe.exa hZ4.alike G17 (by decide) (by decide)) CH16.1)
  have Fw19 : Fld Z h19 a0 "com/example/uneven_ticks/uneventicks/check/TraceEvent" "attributeBounds" "[I" .null := G18.same W19
  have N19 := Fr.snoc X19 N15 nw_a0
  have G21 : Exa Z h19 a0 "com/example/uneven_ticks/uneventicks/check/TraceEvent" := (G17.wr W19)
  have G22 : Fld Z h19 a0 "com/example/uneven_ticks/uneventicks/check/TraceEvent" "attributeCount" "I" (.int w_attributeCount_a0) := (((((F_attributeCount_a0.keep Kc4 nin0).other W7 (Or.inr (slot_ne (Or.inr (hw _ (List.mem_of_getElem? (i := 112) rfl))) (Or.inr (hw _ (List.mem_of_getElem? (i := 104) rfl))) (by decide) (t := .int) (t' := (.object "com/example/uneven_ticks/uneventicks/check/DecimalText")) (by decide) (by decide)))).other W11 (Or.inr (slot_ne (Or.inr (hw _ (List.mem_of_getElem? (i := 112) rfl))) (Or.inr (hw _ (List.mem_of_getElem? (i := 106) rfl))) (by decide) (t := .int) (t' := (.object "java/lang/String")) (by decide) (by decide)))).other W15 (Or.inr (slot_ne (Or.inr (hw _ (List.mem_of_getElem? (i := 112) rfl))) (Or.inr (hw _ (List.mem_of_getElem? (i := 108) rfl))) (by decide) (t := .int) (t' := (.object "java/lang/String")) (by decide) (by decide)))).other W19 (Or.inr (slot_ne (Or.inr (hw _ (List.mem_of_getElem? (i := 112) rfl))) (Or.inr (hw _ (List.mem_of_getElem? (i := 110) rfl))) (by decide) (t := .int) (t' := (.array .int)) (by decide) (by decide))))
  obtain ⟨T23, h23, X23, e23, W23, st23⟩ := putF X19 hx hZ4 hown4 (host := "") (Or.inl (hw _ (List.mem_of_getElem? (i := 111) rfl))) Via.refl e19 G22 G21 (Or.inr ⟨(hw _ (List.mem_of_getElem? (i := 112) rfl)), rfl, hnm⟩) (hw _ (List.mem_of_getElem? (i := 2) rfl)) (ty := .int) (by decide) rfl rfl (g := (mkF m 31 #[.val (.ref a0), .val (.ref a1), .val (.ref a2), .val .null, .val .null, .val (.int (0 : Int32))] [(.int (0 : Int32)), (.ref a0)])) rfl rfl (hb hby d1_31)
  have K23 : Keep h0 h23 [a0] := K19.wr W23 (Or.inl (by simp))
  have CH24 := CH20.trans (CHr.wr W23 (Safe.exa hZ4.alike G21 (by decide) (by decide)) CH20.1)
  have Fw23 : Fld Z h23 a0 "com/example/uneven_ticks/uneventicks/check/TraceEvent" "attributeCount" "I" (.int (0 : Int32)) := G22.same W23
  have N23 := Fr.snoc X23 N19 nw_a0
  have G25 : T4.heap.size ≤ h23.size := (Nat.le_trans (Nat.le_trans (Nat.le_trans (Nat.le_trans (Nat.le_trans LE4 (Keep.of_wr W7).1) (Keep.of_wr W11).1) (Keep.of_wr W15).1) (Keep.of_wr W19).1) (Keep.of_wr W23).1)
  obtain ⟨fs, hr, hrun, hended, hRW⟩ := X23.leaveW SI4 (by rw [e23]; exact G25) (v := none) (fun _ => rfl)
  have CHz := CH24.trans (CHv.at X23 hZ4 hEL CH24.1)
  refine ⟨_, _, pre0 _ ?_, hrun, hended, _, _, rfl, ?_, ?_, hRW.1, hRW.2.1, hRW.2.2.1, hRW.2.2.2.mono (by decide) (by decide)⟩
  · show Steps p.tables e below (s₁.setTop (mkF m 0 #[.val (.ref a0), .val (.ref a1), .val (.ref a2), .val .null, .val .null, .val (.int (0 : Int32))] [])) _
    refine XS.aloadN X0.here hx rfl (hb hby d1_0) rfl rfl ?_
    show Steps p.tables e below (s₁.setTop (mkF m 1 #[.val (.ref a0), .val (.ref a1), .val (.ref a2), .val .null, .val .null, .val (.int (0 : Int32))] [(.ref a0)])) _
    refine st1 _ ?_
    show Steps p.tables e below (T1.setTop (mkF m 4 #[.val (.ref a0), .val (.ref a1), .val (.ref a2), .val .null, .val .null, .val (.int (0 : Int32))] [])) _
    refine XS.aloadN X1.here hx rfl (hb hby d1_4) rfl rfl ?_
    show Steps p.tables e below (T1.setTop (mkF m 5 #[.val (.ref a0), .val (.ref a1), .val (.ref a2), .val .null, .val .null, .val (.int (0 : Int32))] [(.ref a0)])) _
    refine XS.aloadN X1.here hx rfl (hb hby d1_5) rfl rfl ?_
    show Steps p.tables e below (T1.setTop (mkF m 6 #[.val (.ref a0), .val (.ref a1), .val (.ref a2), .val .null, .val .null, .val (.int (0 : Int32))] [(.ref a1), (.ref a0)])) _
    refine st4.trans ?_
    show Steps p.tables e below (T4.setTop (mkF m 9 #[.val (.ref a0), .val (.ref a1), .val (.ref a2), .val .null, .val .null, .val (.int (0 : Int32))] [(.ref b4_b15), (.ref a0)])) _
    refine st7 _ ?_
    show Steps p.tables e below (T7.setTop (mkF m 12 #[.val (.ref a0), .val (.ref a1), .val (.ref a2), .val .null, .val .null, .val (.int (0 : Int32))] [])) _
    refine XS.aloadN X7.here hx rfl (hb hby d1_12) rfl rfl ?_
    show Steps p.tables e below (T7.setTop (mkF m 13 #[.val (.ref a0), .val (.ref a1), .val (.ref a2), .val .null, .val .null, .val (.int (0 : Int32))] [(.ref a0)])) _
    refine XS.aloadN X7.here hx rfl (hb hby d1_13) rfl rfl ?_
    show Steps p.tables e below (T7.setTop (mkF m 14 #[.val (.ref a0), .val (.ref a1), .val (.ref a2), .val .null, .val .null, .val (.int (0 : Int32))] [(.ref a2), (.ref a0)])) _
    refine st11 _ ?_
    show Steps p.tables e below (T11.setTop (mkF m 17 #[.val (.ref a0), .val (.ref a1), .val (.ref a2), .val .null, .val .null, .val (.int (0 : Int32))] [])) _
    refine XS.aloadN X11.here hx rfl (hb hby d1_17) rfl rfl ?_
    show Steps p.tables e below (T11.setTop (mkF m 18 #[.val (.ref a0), .val (.ref a1), .val (.ref a2), .val .null, .val .null, .val (.int (0 : Int32))] [(.ref a0)])) _
    refine XS.aloadN X11.here hx rfl (hb hby d1_18) rfl rfl ?_
    show Steps p.tables e below (T11.setTop (mkF m 19 #[.val (.ref a0), .val (.ref a1), .val (.ref a2), .val .null, .val .null, .val (.int (0 : Int32))] [.null, (.ref a0)])) _
    refine st15 _ ?_
    show Steps p.tables e below (T15.setTop (mkF m 22 #[.val (.ref a0), .val (.ref a1), .val (.ref a2), .val .null, .val .null, .val (.int (0 : Int32))] [])) _
    refine XS.aloadN X15.here hx rfl (hb hby d1_22) rfl rfl ?_
    show Steps p.tables e below (T15.setTop (mkF m 23 #[.val (.ref a0), .val (.ref a1), .val (.ref a2), .val .null, .val .null, .val (.int (0 : Int32))] [(.ref a0)])) _
    refine XS.aload X15.here hx rfl (hb hby d1_23) rfl rfl ?_
    show Steps p.tables e below (T15.setTop (mkF m 25 #[.val (.ref a0), .val (.ref a1), .val (.ref a2), .val .null, .val .null, .val (.int (0 : Int32))] [.null, (.ref a0)])) _
    refine st19 _ ?_
    show Steps p.tables e below (T19.setTop (mkF m 28 #[.val (.ref a0), .val (.ref a1), .val (.ref a2), .val .null, .val .null, .val (.int (0 : Int32))] [])) _
    refine XS.aloadN X19.here hx rfl (hb hby d1_28) rfl rfl ?_
    show Steps p.tables e below (T19.setTop (mkF m 29 #[.val (.ref a0), .val (.ref a1), .val (.ref a2), .val .null, .val .null, .val (.int (0 : Int32))] [(.ref a0)])) _
    refine XS.iload X19.here hx rfl (hb hby d1_29) rfl ?_
    show Steps p.tables e below (T19.setTop (mkF m 31 #[.val (.ref a0), .val (.ref a1), .val (.ref a2), .val .null, .val .null, .val (.int (0 : Int32))] [(.int (0 : Int32)), (.ref a0)])) _
    refine st23 _ ?_
    show Steps p.tables e below (T23.setTop (mkF m 34 #[.val (.ref a0), .val (.ref a1), .val (.ref a2), .val .null, .val .null, .val (.int (0 : Int32))] [])) _
    exact X23.returnOut hx Bd.returns (hb hby d1_34) hr
  · show Q1 Z a0 a1 a2 w_writtenTime_a0 w_name_a0 w_line_a0 w_attributeBounds_a0 w_attributeCount_a0 w_value_a1 g_w_value_a1 s_COMPACT_STRINGS s_SIOOBE_FORMATTER h0 n0 _ T23.heap _
    rw [e23]
    exact ⟨b4_b15, rfl, N23, K23, sq_b4_b15⟩
  · show CHr Z consts_1 s.vm s.heap T23.vm T23.heap
    rw [hh, e23]; exact CHz

/-- the array a is one of C's -/
def OV (Z : State) (h : Heap) (a : Addr) (C : String) : Prop := ∃ c : Cell, h[a]? = some c ∧ Ovr Z c.cls C
theorem OV.ext {Z : State} {h h' : Heap} {a : Addr} {C : String} (F : OV Z h a C) (E : Ext h h') : OV Z h' a C := by obtain ⟨c, q, r⟩ := F; exact ⟨c, E.2 _ _ q, r⟩
theorem OV.wr {Z : State} {h h' : Heap} {a b : Addr} {C : String} {sl : Nat} {v : Value} (F : OV Z h a C) (W : Wr h h' b sl v) : OV Z h' a C := by
  obtain ⟨c, q, r⟩ := F
  obtain ⟨d, a1, a2, -⟩ := wr_at W q
  exact ⟨d, a1, by rw [a2]; exact r⟩
theorem OV.keep {Z : State} {h h' : Heap} {a : Addr} {C : String} {ws : List Addr} (F : OV Z h a C) (K : Keep h h' ws) : OV Z h' a C := by
  obtain ⟨c, q, r⟩ := F
  obtain ⟨d, a1, a2, -⟩ := K.2.2 _ _ q
  exact ⟨d, a1, by rw [a2]; exact r⟩
theorem own_ov {Z : State} {h : Heap} {a : Addr} {C : String} {k : ClassId} {ty : FieldType} {z : Int32} (A : Arr Z h a (newA k ty z) ty) (O : Ovr Z k C) : OV Z h a C := ⟨_, A.1, O⟩
def own_V3 (t1 t2 t3 : Addr) (v : Value) : Prop := v = .null ∨ v = .ref t1 ∨ v = .ref t2 ∨ v = .ref t3
theorem own_v3r {t1 t2 t3 : Addr} {v : Value} (q : own_V3 t1 t2 t3 v) : v.isRef = true := by rcases q with rfl | rfl | rfl | rfl <;> rfl
theorem own_stoE {Z : State} {h : Heap} {a y : Addr} {C : String} {n : Nat} {f : Nat → Value} {ty : FieldType} (A : AF Z h a ty n f) (O : OV Z h a C) (E : Exa Z h y C) : Sto Z h a (.ref y) := by
  obtain ⟨c, A, -⟩ := A
  obtain ⟨c2, q, O⟩ := O
  cases A.1.symm.trans q
  exact Sto.of A O (Ins.self E)
theorem own_sto {Z : State} {h : Heap} {a t1 t2 t3 : Addr} {C : String} {n : Nat} {f : Nat → Value} {ty : FieldType} {v : Value} (A : AF Z h a ty n f) (O : OV Z h a C) (E1 : Exa Z h t1 C) (E2 : Exa Z h t2 C) (E3 : Exa Z h t3 C) (q : own_V3 t1 t2 t3 v) : Sto Z h a v := by
  rcases q with rfl | rfl | rfl | rfl
  · exact Or.inl rfl
  · exact own_stoE A O E1
  · exact own_stoE A O E2
  · exact own_stoE A O E3
theorem own_V3set {t1 t2 t3 : Addr} {f : Nat → Value} {v : Value} (H : ∀ j, own_V3 t1 t2 t3 (f j)) (q : own_V3 t1 t2 t3 v) (k : Nat) : ∀ j, own_V3 t1 t2 t3 ((fun i => if i = k then v else f i) j) := by
  intro j
  by_cases z : j = k
  · simp only [z, if_true]; exact q
  · simp only [z, if_false]; exact H j
section OwnR
variable {p : Program} {l : Launch} {e : Env} {R : Room} {s : State} {m : MethodId} {args : Array Value} {below : List Frame} {meth : Method} {c : Code} {T : State} {locs : List Loc} {cells slots : Nat} {Z : State} {h h' : Heap} {a b : Addr} {ty : FieldType} {n : Nat} {f f' : Nat → Value} {sl : Nat} {v : Value} {ws : List Addr}
theorem AF.ldR (X : Stand p l e R s m args below meth c T locs cells slots) (hx : p.tables.exec = Jvm.exec) (hZ : Z.Warmed39 s.vm) (eT : T.heap = h) (A : AF Z h a ty n f) (hty : ty.isReference = true) {j : Int32} (hj : own_in j n) {g : JFrame} (hg : g.method = m) {rest : List Value} (hs : g.stack = .int j :: .ref a :: rest) (hd : decode c.code g.pc = .ok (.aaload, 1)) (target : State)
    (k : Steps p.tables e below (T.setTop { g with pc := g.pc + 1, stack := (f j.toNatClampNeg) :: rest }) target) : Steps p.tables e below (T.setTop g) target := by
  obtain ⟨cl, A, r1, r2, r3⟩ := A
  exact X.aaload hx (j := j) (v := f j.toNatClampNeg) (by rw [eT]; exact A.1) (State.isArrayOf_alike hZ.alike A.2.1) hty A.2.2 (own_in_arr r1 hj) (r3 _ (own_in_nat hj)) hg hs hd _ k
theorem AF.stR (X : Stand p l e R s m args below meth c T locs cells slots) (hx : p.tables.exec = Jvm.exec) (hZ : Z.Warmed39 s.vm) (eT : T.heap = h) (A : AF Z h a ty n f) (hty : ty.isReference = true) {j : Int32} (hj : own_in j n) (F : Sto Z h a v) {g : JFrame} (hg : g.method = m) {rest : List Value} (hs : g.stack = v :: .int j :: .ref a :: rest) (hd : decode c.code g.pc = .ok (.aastore, 1)) :
    ∃ T' h', Stand p l e R s m args below meth c T' (locs ++ [⟨a, j.toNatClampNeg⟩]) cells slots ∧ T'.heap = h' ∧ Wr h h' a j.toNatClampNeg v ∧ AF Z h' a ty n (fun i => if i = j.toNatClampNeg then v else f i) ∧ ∀ target, Steps p.tables e below (T'.setTop { g with pc := g.pc + 1, stack := rest }) target → Steps p.tables e below (T.setTop g) target := by
  have A0 := A
  obtain ⟨cl, A, r1, r2, r3⟩ := A
  obtain ⟨T', h', X', e', W, st⟩ := Jvm.RoadKit.stR X hx hZ eT A (j := j) (own_in_arr r1 hj) hty F hg hs hd
  exact ⟨T', h', X', e', W, A0.set W, st⟩
end OwnR

theorem ef_18 (m : MethodId) (a0 : Addr) : entryFrame m #[(.ref a0), (.int (3 : Int32))] 2 = mkF m 0 #[.val (.ref a0), .val (.int (3 : Int32))] [] := by first | (simp [entryFrame, mkF, argsToLocals, Value.category]; done) | rfl
def Q18 (Z : State) (a0 : Addr) (w_boundEvent_a0 : Int32) (w_latest_a0 : Value) (w_previous_a0 : Value) (w_bound_a0 : Value) (h0 : Heap) (n0 : Nat) (v : Option Value) (h : Heap) (L : List Loc) : Prop := ∃ b3 : Addr, ∃ b8 : Addr, v = none ∧ Fr n0 L ∧ Keep h0 h [a0] ∧ h0.size ≤ b3 ∧ h0.size ≤ b8 ∧ b3 ≠ b8 ∧ Exa Z h a0 "com/example/uneven_ticks/uneventicks/check/Occurrences" ∧ Fld Z h a0 "com/example/uneven_ticks/uneventicks/check/Occurrences" "boundEvent" "I" (.int (-1 : Int32)) ∧ Fld Z h a0 "com/example/uneven_ticks/uneventicks/check/Occurrences" "latest" "[Lcom/example/uneven_ticks/uneventicks/check/TraceEvent;" (.ref b3) ∧ Fld Z h a0 "com/example/uneven_ticks/uneventicks/check/Occurrences" "previous" "[Lcom/example/uneven_ticks/uneventicks/check/TraceEvent;" (.ref b8) ∧ Fld Z h a0 "com/example/uneven_ticks/uneventicks/check/Occurrences" "bound" "Lcom/example/uneven_ticks/uneventicks/check/TraceEvent;" w_bound_a0 ∧ AF Z h b3 (.object "com/example/uneven_ticks/uneventicks/check/TraceEvent") 3 (fun _ => Value.null) ∧ OV Z h b3 "com/example/uneven_ticks/uneventicks/check/TraceEvent" ∧ AF Z h b8 (.object "com/example/uneven_ticks/uneventicks/check/TraceEvent") 3 (fun _ => Value.null) ∧ OV Z h b8 "com/example/uneven_ticks/uneventicks/check/TraceEvent"
set_option maxRecDepth 65536 in
set_option maxHeartbeats 40000000 in
theorem rm18 (l : Launch) (Z : State) (A0 : Array Value) (hw : ∀ d ∈ tables_1, d.before A0 Z = true) (ws : List Jvm.Cond) (a0 : Addr) (w_boundEvent_a0 : Int32) (w_latest_a0 : Value) (w_previous_a0 : Value) (w_bound_a0 : Value) (h0 : Heap) (n0 : Nat) (Z0 : n0 ≤ h0.size) (E_a0 : Exa Z h0 a0 "com/example/uneven_ticks/uneventicks/check/Occurrences") (F_boundEvent_a0 : Fld Z h0 a0 "com/example/uneven_ticks/uneventicks/check/Occurrences" "boundEvent" "I" (.int w_boundEvent_a0)) (F_latest_a0 : Fld Z h0 a0 "com/example/uneven_ticks/uneventicks/check/Occurrences" "latest" "[Lcom/example/uneven_ticks/uneventicks/check/TraceEvent;" w_latest_a0) (F_previous_a0 : Fld Z h0 a0 "com/example/uneven_ticks/uneventicks/check/Occurrences" "previous" "[Lcom/example/uneven_ticks/uneventicks/check/TraceEvent;" w_previous_a0) (F_bound_a0 : Fld Z h0 a0 "com/example/uneven_ticks/uneventicks/check/Occurrences" "bound" "Lcom/example/uneven_ticks/uneventicks/check/TraceEvent;" w_bound_a0) (nw_a0 : n0 ≤ a0) :
    MetFree l (⟨"com/example/uneven_ticks/uneventicks/check/Occurrences", "<init>", "(I)V"⟩ : MethodName) (head1 (Jvm.Cond.code (⟨"com/example/uneven_ticks/uneventicks/check/Occurrences", "<init>", "(I)V"⟩ : MethodName) prog_18_method_1_code 2 none :: ws) ({ frames := 1, cells := 2, slots := 6, locals := 12 } : Room)) (fun a U => a = #[(.ref a0), (.int (3 : Int32))] ∧ Z.Warmed39 U.vm ∧ U.heap = h0) (fun _ _ _ _ _ => True) (fun _ U o U' => ∃ v L, o = .returned v ∧ Q18 Z a0 w_boundEvent_a0 w_latest_a0 w_previous_a0 w_bound_a0 h0 n0 v U'.heap L ∧ FrameEnd U o U' L ({ frames := 1, cells := 2, slots := 6, locals := 12 } : Room).cells ({ frames := 1, cells := 2, slots := 6, locals := 12 } : Room).slots) := by
  refine MetFree.of_bodySF (plainFor_of_name pn_18) hisR ?_
  intro p e s m args below meth c s₁ Bd hml0 hP hK
  obtain ⟨rfl, hZ, hh⟩ := hP
  have hx := Bd.exec
  have hby := Bd.bytes
  have hml : c.maxLocals = 2 := hml0
  have hown : s.vm.findClass "com/example/uneven_ticks/uneventicks/check/Occurrences" = some m.cls := findClass_of_methodNamed Bd.named
  have hnm := (name_of_methodNamed Bd.named Bd.method).1
  have X0 : Stand p l e ({ frames := 1, cells := 2, slots := 6, locals := 12 } : Room) s m #[(.ref a0), (.int (3 : Int32))] below meth c s₁ [] 0 0 := Stand.of_body Bd
  have e0 : s₁.heap = h0 := by rw [← hh, Bd.state]; rfl
  have N0 := Fr.nil n0
  have pre0 : ∀ t, Steps p.tables e below (s₁.setTop (mkF m 0 #[.val (.ref a0), .val (.int (3 : Int32))] [])) t → Steps p.tables e below (s₁.setTop (entryFrame m #[(.ref a0), (.int (3 : Int32))] 2)) t := fun t k => castTop (ef_18 m a0) k
  obtain ⟨T1, X1, e1, st1⟩ := initO X0 hx hZ hown (hw _ (List.mem_of_getElem? (i := 123) rfl)) (hw _ (List.mem_of_getElem? (i := 17) rfl)) (hw _ (List.mem_of_getElem? (i := 18) rfl)) e0 (g := (mkF m 1 #[.val (.ref a0), .val (.int (3 : Int32))] [(.ref a0)])) rfl (by rw [hml]; rfl) rfl (hb hby d18_1) (by decide) (W := 0) (by show 2 * 0 + _ ≤ _; exact Nat.le_of_eq rfl) (by decide)
  obtain ⟨T2, h2, X2, e2, W2, st2⟩ := putF X1 hx hZ hown (host := "") (Or.inl (hw _ (List.mem_of_getElem? (i := 124) rfl))) Via.refl e1 F_boundEvent_a0 E_a0 (Or.inl (hw _ (List.mem_of_getElem? (i := 125) rfl))) (hw _ (List.mem_of_getElem? (i := 118) rfl)) (ty := .int) (by decide) rfl rfl (g := (mkF m 6 #[.val (.ref a0), .val (.int (3 : Int32))] [(.int (-1 : Int32)), (.ref a0)])) rfl rfl (hb hby d18_6)
  have K2 : Keep h0 h2 [a0] := (Keep.refl h0 [a0]).wr W2 (Or.inl (by simp))
  have Fw2 : Fld Z h2 a0 "com/example/uneven_ticks/uneventicks/check/Occurrences" "boundEvent" "I" (.int (-1 : Int32)) := F_boundEvent_a0.same W2
  have N2 := Fr.snoc X2 N0 nw_a0
  obtain ⟨T3, h3, k3, X3, e3, E3, A3, O3, st3⟩ := newR X2 hx hZ hown (hw _ (List.mem_of_getElem? (i := 126) rfl)) (hw _ (List.mem_of_getElem? (i := 127) rfl)) e2 (g := (mkF m 11 #[.val (.ref a0), .val (.int (3 : Int32))] [(.int (3 : Int32)), (.ref a0)])) rfl (hb hby d18_11) rfl (by decide) (cap := 3) (by decide) (by decide) (by decide) (by decide)
  obtain ⟨b3, g3⟩ : ∃ z, z = h2.size := ⟨_, rfl⟩
  rw [← g3] at A3 st3
  have G4 : Exa Z h2 a0 "com/example/uneven_ticks/uneventicks/check/Occurrences" := (E_a0.wr W2)
  have ne_a0_b3 : a0 ≠ b3 := Nat.ne_of_lt (Nat.lt_of_lt_of_le G4.lt (Nat.le_of_eq g3.symm))
  have nw_b3 : n0 ≤ b3 := Nat.le_trans (Nat.le_trans Z0 K2.1) (Nat.le_of_eq g3.symm)
  have sz_b3 : h0.size ≤ b3 := Nat.le_trans K2.1 (Nat.le_of_eq g3.symm)
  have K3 : Keep h0 h3 [a0] := K2.ext E3
  have V3 : AF Z h3 b3 (.object "com/example/uneven_ticks/uneventicks/check/TraceEvent") 3 (fun _ => Value.null) := AF.new A3 (by decide)
  have Ov3 : OV Z h3 b3 "com/example/uneven_ticks/uneventicks/check/TraceEvent" := own_ov A3 O3
  have G5 : Exa Z h3 a0 "com/example/uneven_ticks/uneventicks/check/Occurrences" := (G4.ext E3)
  have G6 : Fld Z h3 a0 "com/example/uneven_ticks/uneventicks/check/Occurrences" "latest" "[Lcom/example/uneven_ticks/uneventicks/check/TraceEvent;" w_latest_a0 := ((F_latest_a0.other W2 (Or.inr (slot_ne (Or.inr (hw _ (List.mem_of_getElem? (i := 129) rfl))) (Or.inl (hw _ (List.mem_of_getElem? (i := 125) rfl))) (by decide) (t := (.array (.object "com/example/uneven_ticks/uneventicks/check/TraceEvent"))) (t' := .int) (by decide) (by decide)))).ext E3)
  obtain ⟨T7, h7, X7, e7, W7, st7⟩ := putF X3 hx hZ hown (host := "") (Or.inl (hw _ (List.mem_of_getElem? (i := 128) rfl))) Via.refl e3 G6 G5 (Or.inr ⟨(hw _ (List.mem_of_getElem? (i := 129) rfl)), rfl, hnm⟩) (hw _ (List.mem_of_getElem? (i := 118) rfl)) (ty := (.array (.object "com/example/uneven_ticks/uneventicks/check/TraceEvent"))) (by decide) rfl rfl (g := (mkF m 14 #[.val (.ref a0), .val (.int (3 : Int32))] [(.ref b3), (.ref a0)])) rfl rfl (hb hby d18_14)
  have K7 : Keep h0 h7 [a0] := K3.wr W7 (Or.inl (by simp))
  have Fw7 : Fld Z h7 a0 "com/example/uneven_ticks/uneventicks/check/Occurrences" "latest" "[Lcom/example/uneven_ticks/uneventicks/check/TraceEvent;" (.ref b3) := G6.same W7
  have N7 := Fr.snoc X7 N2 nw_a0
  obtain ⟨T8, h8, k8, X8, e8, E8, A8, O8, st8⟩ := newR X7 hx hZ hown (hw _ (List.mem_of_getElem? (i := 126) rfl)) (hw _ (List.mem_of_getElem? (i := 127) rfl)) e7 (g := (mkF m 19 #[.val (.ref a0), .val (.int (3 : Int32))] [(.int (3 : Int32)), (.ref a0)])) rfl (hb hby d18_19) rfl (by decide) (cap := 3) (by decide) (by decide) (by decide) (by decide)
  obtain ⟨b8, g8⟩ : ∃ z, z = h7.size := ⟨_, rfl⟩
  rw [← g8] at A8 st8
  have G9 : Exa Z h7 a0 "com/example/uneven_ticks/uneventicks/check/Occurrences" := (G5.wr W7)
  have ne_a0_b8 : a0 ≠ b8 := Nat.ne_of_lt (Nat.lt_of_lt_of_le G9.lt (Nat.le_of_eq g8.symm))
  have G10 : AF Z h7 b3 (.object "com/example/uneven_ticks/uneventicks/check/TraceEvent") 3 (fun _ => Value.null) := (V3.other W7 (Ne.symm ne_a0_b3))
  have ne_b3_b8 : b3 ≠ b8 := Nat.ne_of_lt (Nat.lt_of_lt_of_le G10.lt (Nat.le_of_eq g8.symm))
  have nw_b8 : n0 ≤ b8 := Nat.le_trans (Nat.le_trans Z0 K7.1) (Nat.le_of_eq g8.symm)
  have sz_b8 : h0.size ≤ b8 := Nat.le_trans K7.1 (Nat.le_of_eq g8.symm)
  have K8 : Keep h0 h8 [a0] := K7.ext E8
  have V8 : AF Z h8 b8 (.object "com/example/uneven_ticks/uneventicks/check/TraceEvent") 3 (fun _ => Value.null) := AF.new A8 (by decide)
  have Ov8 : OV Z h8 b8 "com/example/uneven_ticks/uneventicks/check/TraceEvent" := own_ov A8 O8
  have G11 : Exa Z h8 a0 "com/example/uneven_ticks/uneventicks/check/Occurrences" := (G9.ext E8)
  have G12 : Fld Z h8 a0 "com/example/uneven_ticks/uneventicks/check/Occurrences" "previous" "[Lcom/example/uneven_ticks/uneventicks/check/TraceEvent;" w_previous_a0 := ((((F_previous_a0.other W2 (Or.inr (slot_ne (Or.inr (hw _ (List.mem_of_getElem? (i := 131) rfl))) (Or.inl (hw _ (List.mem_of_getElem? (i := 125) rfl))) (by decide) (t := (.array (.object "com/example/uneven_ticks/uneventicks/check/TraceEvent"))) (t' := .int) (by decide) (by decide)))).ext E3).other W7 (Or.inr (slot_ne (Or.inr (hw _ (List.mem_of_getElem? (i := 131) rfl))) (Or.inr (hw _ (List.mem_of_getElem? (i := 129) rfl))) (by decide) (t := (.array (.object "com/example/uneven_ticks/uneventicks/check/TraceEvent"))) (t' := (.array (.object "com/example/uneven_ticks/uneventicks/check/TraceEvent"))) (by decide) (by decide)))).ext E8)
  obtain ⟨T13, h13, X13, e13, W13, st13⟩ := putF X8 hx hZ hown (host := "") (Or.inl (hw _ (List.mem_of_getElem? (i := 130) rfl))) Via.refl e8 G12 G11 (Or.inr ⟨(hw _ (List.mem_of_getElem? (i := 131) rfl)), rfl, hnm⟩) (hw _ (List.mem_of_getElem? (i := 118) rfl)) (ty := (.array (.object "com/example/uneven_ticks/uneventicks/check/TraceEvent"))) (by decide) rfl rfl (g := (mkF m 22 #[.val (.ref a0), .val (.int (3 : Int32))] [(.ref b8), (.ref a0)])) rfl rfl (hb hby d18_22)
  have K13 : Keep h0 h13 [a0] := K8.wr W13 (Or.inl (by simp))
  have Fw13 : Fld Z h13 a0 "com/example/uneven_ticks/uneventicks/check/Occurrences" "previous" "[Lcom/example/uneven_ticks/uneventicks/check/TraceEvent;" (.ref b8) := G12.same W13
  have N13 := Fr.snoc X13 N7 nw_a0
  obtain ⟨fs, hr, hrun, hended, hW, hsame⟩ := X13.leave (v := none) (fun _ => rfl)
  refine ⟨_, _, pre0 _ ?_, hrun, hended, _, _, rfl, ?_, ⟨_, rfl⟩, hW, hsame.mono (by decide) (by decide)⟩
  · show Steps p.tables e below (s₁.setTop (mkF m 0 #[.val (.ref a0), .val (.int (3 : Int32))] [])) _
    refine XS.aloadN X0.here hx rfl (hb hby d18_0) rfl rfl ?_
    show Steps p.tables e below (s₁.setTop (mkF m 1 #[.val (.ref a0), .val (.int (3 : Int32))] [(.ref a0)])) _
    refine st1 _ ?_
    show Steps p.tables e below (T1.setTop (mkF m 4 #[.val (.ref a0), .val (.int (3 : Int32))] [])) _
    refine XS.aloadN X1.here hx rfl (hb hby d18_4) rfl rfl ?_
    show Steps p.tables e below (T1.setTop (mkF m 5 #[.val (.ref a0), .val (.int (3 : Int32))] [(.ref a0)])) _
    refine XS.iconst X1.here hx rfl (hb hby d18_5) ?_
    show Steps p.tables e below (T1.setTop (mkF m 6 #[.val (.ref a0), .val (.int (3 : Int32))] [(.int (-1 : Int32)), (.ref a0)])) _
    refine st2 _ ?_
    show Steps p.tables e below (T2.setTop (mkF m 9 #[.val (.ref a0), .val (.int (3 : Int32))] [])) _
    refine XS.aloadN X2.here hx rfl (hb hby d18_9) rfl rfl ?_
    show Steps p.tables e below (T2.setTop (mkF m 10 #[.val (.ref a0), .val (.int (3 : Int32))] [(.ref a0)])) _
    refine XS.iloadN X2.here hx rfl (hb hby d18_10) rfl ?_
    show Steps p.tables e below (T2.setTop (mkF m 11 #[.val (.ref a0), .val (.int (3 : Int32))] [(.int (3 : Int32)), (.ref a0)])) _
    refine st3 _ ?_
    show Steps p.tables e below (T3.setTop (mkF m 14 #[.val (.ref a0), .val (.int (3 : Int32))] [(.ref b3), (.ref a0)])) _
    refine st7 _ ?_
    show Steps p.tables e below (T7.setTop (mkF m 17 #[.val (.ref a0), .val (.int (3 : Int32))] [])) _
    refine XS.aloadN X7.here hx rfl (hb hby d18_17) rfl rfl ?_
    show Steps p.tables e below (T7.setTop (mkF m 18 #[.val (.ref a0), .val (.int (3 : Int32))] [(.ref a0)])) _
    refine XS.iloadN X7.here hx rfl (hb hby d18_18) rfl ?_
    show Steps p.tables e below (T7.setTop (mkF m 19 #[.val (.ref a0), .val (.int (3 : Int32))] [(.int (3 : Int32)), (.ref a0)])) _
    refine st8 _ ?_
    show Steps p.tables e below (T8.setTop (mkF m 22 #[.val (.ref a0), .val (.int (3 : Int32))] [(.ref b8), (.ref a0)])) _
    refine st13 _ ?_
    show Steps p.tables e below (T13.setTop (mkF m 25 #[.val (.ref a0), .val (.int (3 : Int32))] [])) _
    exact X13.returnOut hx Bd.returns (hb hby d18_25) hr
  have G14 : Exa Z h13 a0 "com/example/uneven_ticks/uneventicks/check/Occurrences" := (G11.wr W13)
  have G15 : Fld Z h13 a0 "com/example/uneven_ticks/uneventicks/check/Occurrences" "boundEvent" "I" (.int (-1 : Int32)) := ((((Fw2.ext E3).other W7 (Or.inr (slot_ne (Or.inl (hw _ (List.mem_of_getElem? (i := 125) rfl))) (Or.inr (hw _ (List.mem_of_getElem? (i := 129) rfl))) (by decide) (t := .int) (t' := (.array (.object "com/example/uneven_ticks/uneventicks/check/TraceEvent"))) (by decide) (by decide)))).ext E8).other W13 (Or.inr (slot_ne (Or.inl (hw _ (List.mem_of_getElem? (i := 125) rfl))) (Or.inr (hw _ (List.mem_of_getElem? (i := 131) rfl))) (by decide) (t := .int) (t' := (.array (.object "com/example/uneven_ticks/uneventicks/check/TraceEvent"))) (by decide) (by decide))))
  have G16 : Fld Z h13 a0 "com/example/uneven_ticks/uneventicks/check/Occurrences" "latest" "[Lcom/example/uneven_ticks/uneventicks/check/TraceEvent;" (.ref b3) := ((Fw7.ext E8).other W13 (Or.inr (slot_ne (Or.inr (hw _ (List.mem_of_getElem? (i := 129) rfl))) (Or.inr (hw _ (List.mem_of_getElem? (i := 131) rfl))) (by decide) (t := (.array (.object "com/example/uneven_ticks/uneventicks/check/TraceEvent"))) (t' := (.array (.object "com/example/uneven_ticks/uneventicks/check/TraceEvent"))) (by decide) (by decide))))
  have G17 : Fld Z h13 a0 "com/example/uneven_ticks/uneventicks/check/Occurrences" "bound" "Lcom/example/uneven_ticks/uneventicks/check/TraceEvent;" w_bound_a0 := (((((F_bound_a0.other W2 (Or.inr (slot_ne (Or.inl (hw _ (List.mem_of_getElem? (i := 149) rfl))) (Or.inl (hw _ (List.mem_of_getElem? (i := 125) rfl))) (by decide) (t := (.object "com/example/uneven_ticks/uneventicks/check/TraceEvent")) (t' := .int) (by decide) (by decide)))).ext E3).other W7 (Or.inr (slot_ne (Or.inl (hw _ (List.mem_of_getElem? (i := 149) rfl))) (Or.inr (hw _ (List.mem_of_getElem? (i := 129) rfl))) (by decide) (t := (.object "com/example/uneven_ticks/uneventicks/check/TraceEvent")) (t' := (.array (.object "com/example/uneven_ticks/uneventicks/check/TraceEvent"))) (by decide) (by decide)))).ext E8).other W13 (Or.inr (slot_ne (Or.inl (hw _ (List.mem_of_getElem? (i := 149) rfl))) (Or.inr (hw _ (List.mem_of_getElem? (i := 131) rfl))) (by decide) (t := (.object "com/example/uneven_ticks/uneventicks/check/TraceEvent")) (t' := (.array (.object "com/example/uneven_ticks/uneventicks/check/TraceEvent"))) (by decide) (by decide))))
  have G18 : AF Z h13 b3 (.object "com/example/uneven_ticks/uneventicks/check/TraceEvent") 3 (fun _ => Value.null) := ((G10.ext E8).other W13 (Ne.symm ne_a0_b3))
  have G19 : OV Z h13 b3 "com/example/uneven_ticks/uneventicks/check/TraceEvent" := (((Ov3.wr W7).ext E8).wr W13)
  have G20 : AF Z h13 b8 (.object "com/example/uneven_ticks/uneventicks/check/TraceEvent") 3 (fun _ => Value.null) := (V8.other W13 (Ne.symm ne_a0_b8))
  have G21 : OV Z h13 b8 "com/example/uneven_ticks/uneventicks/check/TraceEvent" := (Ov8.wr W13)
  · show Q18 Z a0 w_boundEvent_a0 w_latest_a0 w_previous_a0 w_bound_a0 h0 n0 _ T13.heap _
    rw [e13]
    exact ⟨b3, b8, rfl, N13, K13, sz_b3, sz_b8, ne_b3_b8, G14, G15, G16, Fw13, G17, G18, G19, G20, G21⟩
theorem ef_19 (m : MethodId) (a0 : Addr) (p1 : Int32) (a2 : Addr) : entryFrame m #[(.ref a0), (.int p1), (.ref a2)] 3 = mkF m 0 #[.val (.ref a0), .val (.int p1), .val (.ref a2)] [] := by first | (simp [entryFrame, mkF, argsToLocals, Value.category]; done) | rfl
def Q19 (Z : State) (a0 : Addr) (p1 : Int32) (a2 : Addr) (w_boundEvent_a0 : Int32) (w_latest_a0 : Addr) (w_previous_a0 : Addr) (w_bound_a0 : Value) (t1 : Addr) (t2 : Addr) (t3 : Addr) (g_w_latest_a0 : Nat → Value) (g_w_previous_a0 : Nat → Value) (h0 : Heap) (n0 : Nat) (v : Option Value) (h : Heap) (L : List Loc) : Prop := v = none ∧ Fr n0 L ∧ Keep h0 h [w_previous_a0, w_latest_a0] ∧ AF Z h w_latest_a0 (.object "com/example/uneven_ticks/uneventicks/check/TraceEvent") 3 (fun i => if i = (p1).toNatClampNeg then (.ref a2) else g_w_latest_a0 i) ∧ AF Z h w_previous_a0 (.object "com/example/uneven_ticks/uneventicks/check/TraceEvent") 3 (fun i => if i = (p1).toNatClampNeg then (g_w_latest_a0 (p1).toNatClampNeg) else g_w_previous_a0 i) ∧ OV Z h w_previous_a0 "com/example/uneven_ticks/uneventicks/check/TraceEvent" ∧ OV Z h w_latest_a0 "com/example/uneven_ticks/uneventicks/check/TraceEvent"
set_option maxRecDepth 65536 in
set_option maxHeartbeats 40000000 in
theorem rm19 (l : Launch) (Z : State) (A0 : Array Value) (hw : ∀ d ∈ tables_1, d.before A0 Z = true) (ws : List Jvm.Cond) (a0 : Addr) (p1 : Int32) (a2 : Addr) (w_boundEvent_a0 : Int32) (w_latest_a0 : Addr) (w_previous_a0 : Addr) (w_bound_a0 : Value) (t1 : Addr) (t2 : Addr) (t3 : Addr) (g_w_latest_a0 : Nat → Value) (g_w_previous_a0 : Nat → Value) (h0 : Heap) (n0 : Nat) (Z0 : n0 ≤ h0.size) (E_a0 : Exa Z h0 a0 "com/example/uneven_ticks/uneventicks/check/Occurrences") (F_boundEvent_a0 : Fld Z h0 a0 "com/example/uneven_ticks/uneventicks/check/Occurrences" "boundEvent" "I" (.int w_boundEvent_a0)) (F_latest_a0 : Fld Z h0 a0 "com/example/uneven_ticks/uneventicks/check/Occurrences" "latest" "[Lcom/example/uneven_ticks/uneventicks/check/TraceEvent;" (.ref w_latest_a0)) (F_previous_a0 : Fld Z h0 a0 "com/example/uneven_ticks/uneventicks/check/Occurrences" "previous" "[Lcom/example/uneven_ticks/uneventicks/check/TraceEvent;" (.ref w_previous_a0)) (F_bound_a0 : Fld Z h0 a0 "com/example/uneven_ticks/uneventicks/check/Occurrences" "bound" "Lcom/example/uneven_ticks/uneventicks/check/TraceEvent;" w_bound_a0) (E_t1 : Exa Z h0 t1 "com/example/uneven_ticks/uneventicks/check/TraceEvent") (E_t2 : Exa Z h0 t2 "com/example/uneven_ticks/uneventicks/check/TraceEvent") (E_t3 : Exa Z h0 t3 "com/example/uneven_ticks/uneventicks/check/TraceEvent") (A_w_latest_a0 : AF Z h0 w_latest_a0 (.object "com/example/uneven_ticks/uneventicks/check/TraceEvent") 3 g_w_latest_a0) (A_w_previous_a0 : AF Z h0 w_previous_a0 (.object "com/example/uneven_ticks/uneventicks/check/TraceEvent") 3 g_w_previous_a0) (O_w_previous_a0 : OV Z h0 w_previous_a0 "com/example/uneven_ticks/uneventicks/check/TraceEvent") (nw_w_previous_a0 : n0 ≤ w_previous_a0) (ne_a0_w_previous_a0 : a0 ≠ w_previous_a0) (ne_w_latest_a0_w_previous_a0 : w_latest_a0 ≠ w_previous_a0) (O_w_latest_a0 : OV Z h0 w_latest_a0 "com/example/uneven_ticks/uneventicks/check/TraceEvent") (E_a2 : Exa Z h0 a2 "com/example/uneven_ticks/uneventicks/check/TraceEvent") (nw_w_latest_a0 : n0 ≤ w_latest_a0) (hVl : ∀ j : Nat, own_V3 t1 t2 t3 (g_w_latest_a0 j)) (hin10 : own_in p1 3) (hin11 : own_in p1 3) (hin18 : own_in p1 3) :
    MetFree l (⟨"com/example/uneven_ticks/uneventicks/check/Occurrences", "occur", "(ILcom/example/uneven_ticks/uneventicks/check/TraceEvent;)V"⟩ : MethodName) (head1 (Jvm.Cond.code (⟨"com/example/uneven_ticks/uneventicks/check/Occurrences", "occur", "(ILcom/example/uneven_ticks/uneventicks/check/TraceEvent;)V"⟩ : MethodName) prog_18_method_2_code 3 none :: ws) ({ frames := 0, cells := 0, slots := 0, locals := 0 } : Room)) (fun a U => a = #[(.ref a0), (.int p1), (.ref a2)] ∧ Z.Warmed39 U.vm ∧ U.heap = h0) (fun _ _ _ _ _ => True) (fun _ U o U' => ∃ v L, o = .returned v ∧ Q19 Z a0 p1 a2 w_boundEvent_a0 w_latest_a0 w_previous_a0 w_bound_a0 t1 t2 t3 g_w_latest_a0 g_w_previous_a0 h0 n0 v U'.heap L ∧ FrameEnd U o U' L ({ frames := 0, cells := 0, slots := 0, locals := 0 } : Room).cells ({ frames := 0, cells := 0, slots := 0, locals := 0 } : Room).slots) := by
  refine MetFree.of_bodySF (plainFor_of_name pn_19) hisR ?_
  intro p e s m args below meth c s₁ Bd hml0 hP hK
  obtain ⟨rfl, hZ, hh⟩ := hP
  have hx := Bd.exec
  have hby := Bd.bytes
  have hml : c.maxLocals = 3 := hml0
  have hown : s.vm.findClass "com/example/uneven_ticks/uneventicks/check/Occurrences" = some m.cls := findClass_of_methodNamed Bd.named
  have hnm := (name_of_methodNamed Bd.named Bd.method).1
  have X0 : Stand p l e ({ frames := 0, cells := 0, slots := 0, locals := 0 } : Room) s m #[(.ref a0), (.int p1), (.ref a2)] below meth c s₁ [] 0 0 := Stand.of_body Bd
  have e0 : s₁.heap = h0 := by rw [← hh, Bd.state]; rfl
  have N0 := Fr.nil n0
  have pre0 : ∀ t, Steps p.tables e below (s₁.setTop (mkF m 0 #[.val (.ref a0), .val (.int p1), .val (.ref a2)] [])) t → Steps p.tables e below (s₁.setTop (entryFrame m #[(.ref a0), (.int p1), (.ref a2)] 3)) t := fun t k => castTop (ef_19 m a0 p1 a2) k
  obtain ⟨T1, X1, e1, st1⟩ := getF X0 hx hZ hown (host := "") (Or.inl (hw _ (List.mem_of_getElem? (i := 130) rfl))) Via.refl e0 F_previous_a0 (g := (mkF m 1 #[.val (.ref a0), .val (.int p1), .val (.ref a2)] [(.ref a0)])) rfl rfl (hb hby d19_1)
  obtain ⟨T2, X2, e2, st2⟩ := getF X1 hx hZ hown (host := "") (Or.inl (hw _ (List.mem_of_getElem? (i := 128) rfl))) Via.refl e1 F_latest_a0 (g := (mkF m 6 #[.val (.ref a0), .val (.int p1), .val (.ref a2)] [(.ref a0), (.int p1), (.ref w_previous_a0)])) rfl rfl (hb hby d19_6)
  obtain ⟨T3, h3, X3, e3, W3, A3, st3⟩ := AF.stR X2 hx hZ e2 A_w_previous_a0 rfl hin11 (own_sto A_w_previous_a0 O_w_previous_a0 E_t1 E_t2 E_t3 (hVl _)) (g := (mkF m 11 #[.val (.ref a0), .val (.int p1), .val (.ref a2)] [(g_w_latest_a0 (p1).toNatClampNeg), (.int p1), (.ref w_previous_a0)])) rfl rfl (hb hby d19_11)
  have K3 : Keep h0 h3 [w_previous_a0, w_latest_a0] := (Keep.refl h0 [w_previous_a0, w_latest_a0]).wr W3 (Or.inl (by simp))
  have N3 := Fr.snoc X3 N0 nw_w_previous_a0
  have G4 : Fld Z h3 a0 "com/example/uneven_ticks/uneventicks/check/Occurrences" "latest" "[Lcom/example/uneven_ticks/uneventicks/check/TraceEvent;" (.ref w_latest_a0) := (F_latest_a0.other W3 (Or.inl ne_a0_w_previous_a0))
  obtain ⟨T5, X5, e5, st5⟩ := getF X3 hx hZ hown (host := "") (Or.inl (hw _ (List.mem_of_getElem? (i := 128) rfl))) Via.refl e3 G4 (g := (mkF m 13 #[.val (.ref a0), .val (.int p1), .val (.ref a2)] [(.ref a0)])) rfl rfl (hb hby d19_13)
  have G6 : AF Z h3 w_latest_a0 (.object "com/example/uneven_ticks/uneventicks/check/TraceEvent") 3 g_w_latest_a0 := (A_w_latest_a0.other W3 ne_w_latest_a0_w_previous_a0)
  have G7 : OV Z h3 w_latest_a0 "com/example/uneven_ticks/uneventicks/check/TraceEvent" := (O_w_latest_a0.wr W3)
  have G8 : Exa Z h3 a2 "com/example/uneven_ticks/uneventicks/check/TraceEvent" := (E_a2.wr W3)
  obtain ⟨T9, h9, X9, e9, W9, A9, st9⟩ := AF.stR X5 hx hZ e5 G6 rfl hin18 (own_stoE G6 G7 G8) (g := (mkF m 18 #[.val (.ref a0), .val (.int p1), .val (.ref a2)] [(.ref a2), (.int p1), (.ref w_latest_a0)])) rfl rfl (hb hby d19_18)
  have K9 : Keep h0 h9 [w_previous_a0, w_latest_a0] := K3.wr W9 (Or.inl (by simp))
  have N9 := Fr.snoc X9 N3 nw_w_latest_a0
  obtain ⟨fs, hr, hrun, hended, hW, hsame⟩ := X9.leave (v := none) (fun _ => rfl)
  refine ⟨_, _, pre0 _ ?_, hrun, hended, _, _, rfl, ?_, ⟨_, rfl⟩, hW, hsame.mono (by decide) (by decide)⟩
  · show Steps p.tables e below (s₁.setTop (mkF m 0 #[.val (.ref a0), .val (.int p1), .val (.ref a2)] [])) _
    refine XS.aloadN X0.here hx rfl (hb hby d19_0) rfl rfl ?_
    show Steps p.tables e below (s₁.setTop (mkF m 1 #[.val (.ref a0), .val (.int p1), .val (.ref a2)] [(.ref a0)])) _
    refine st1 _ ?_
    show Steps p.tables e below (T1.setTop (mkF m 4 #[.val (.ref a0), .val (.int p1), .val (.ref a2)] [(.ref w_previous_a0)])) _
    refine XS.iloadN X1.here hx rfl (hb hby d19_4) rfl ?_
    show Steps p.tables e below (T1.setTop (mkF m 5 #[.val (.ref a0), .val (.int p1), .val (.ref a2)] [(.int p1), (.ref w_previous_a0)])) _
    refine XS.aloadN X1.here hx rfl (hb hby d19_5) rfl rfl ?_
    show Steps p.tables e below (T1.setTop (mkF m 6 #[.val (.ref a0), .val (.int p1), .val (.ref a2)] [(.ref a0), (.int p1), (.ref w_previous_a0)])) _
    refine st2 _ ?_
    show Steps p.tables e below (T2.setTop (mkF m 9 #[.val (.ref a0), .val (.int p1), .val (.ref a2)] [(.ref w_latest_a0), (.int p1), (.ref w_previous_a0)])) _
    refine XS.iloadN X2.here hx rfl (hb hby d19_9) rfl ?_
    show Steps p.tables e below (T2.setTop (mkF m 10 #[.val (.ref a0), .val (.int p1), .val (.ref a2)] [(.int p1), (.ref w_latest_a0), (.int p1), (.ref w_previous_a0)])) _
    refine AF.ldR X2 hx hZ e2 A_w_latest_a0 rfl hin10 (g := (mkF m 10 #[.val (.ref a0), .val (.int p1), .val (.ref a2)] [(.int p1), (.ref w_latest_a0), (.int p1), (.ref w_previous_a0)])) rfl rfl (hb hby d19_10) _ ?_
    show Steps p.tables e below (T2.setTop (mkF m 11 #[.val (.ref a0), .val (.int p1), .val (.ref a2)] [(g_w_latest_a0 (p1).toNatClampNeg), (.int p1), (.ref w_previous_a0)])) _
    refine st3 _ ?_
    show Steps p.tables e below (T3.setTop (mkF m 12 #[.val (.ref a0), .val (.int p1), .val (.ref a2)] [])) _
    refine XS.aloadN X3.here hx rfl (hb hby d19_12) rfl rfl ?_
    show Steps p.tables e below (T3.setTop (mkF m 13 #[.val (.ref a0), .val (.int p1), .val (.ref a2)] [(.ref a0)])) _
    refine st5 _ ?_
    show Steps p.tables e below (T5.setTop (mkF m 16 #[.val (.ref a0), .val (.int p1), .val (.ref a2)] [(.ref w_latest_a0)])) _
    refine XS.iloadN X5.here hx rfl (hb hby d19_16) rfl ?_
    show Steps p.tables e below (T5.setTop (mkF m 17 #[.val (.ref a0), .val (.int p1), .val (.ref a2)] [(.int p1), (.ref w_latest_a0)])) _
    refine XS.aloadN X5.here hx rfl (hb hby d19_17) rfl rfl ?_
    show Steps p.tables e below (T5.setTop (mkF m 18 #[.val (.ref a0), .val (.int p1), .val (.ref a2)] [(.ref a2), (.int p1), (.ref w_latest_a0)])) _
    refine st9 _ ?_
    show Steps p.tables e below (T9.setTop (mkF m 19 #[.val (.ref a0), .val (.int p1), .val (.ref a2)] [])) _
    exact X9.returnOut hx Bd.returns (hb hby d19_19) hr
  have G10 : AF Z h9 w_previous_a0 (.object "com/example/uneven_ticks/uneventicks/check/TraceEvent") 3 (fun i => if i = (p1).toNatClampNeg then (g_w_latest_a0 (p1).toNatClampNeg) else g_w_previous_a0 i) := (A3.other W9 (Ne.symm ne_w_latest_a0_w_previous_a0))
  have G11 : OV Z h9 w_previous_a0 "com/example/uneven_ticks/uneventicks/check/TraceEvent" := ((O_w_previous_a0.wr W3).wr W9)
  have G12 : OV Z h9 w_latest_a0 "com/example/uneven_ticks/uneventicks/check/TraceEvent" := (G7.wr W9)
  · show Q19 Z a0 p1 a2 w_boundEvent_a0 w_latest_a0 w_previous_a0 w_bound_a0 t1 t2 t3 g_w_latest_a0 g_w_previous_a0 h0 n0 _ T9.heap _
    rw [e9]
    exact ⟨rfl, N9, K9, A9, G10, G11, G12⟩
theorem ef_20 (m : MethodId) (a0 : Addr) (p1 : Int32) (p2 : Int32) : entryFrame m #[(.ref a0), (.int p1), (.int p2)] 4 = mkF m 0 #[.val (.ref a0), .val (.int p1), .val (.int p2), .unset] [] := by first | (simp [entryFrame, mkF, argsToLocals, Value.category]; done) | rfl
def Q20 (Z : State) (a0 : Addr) (p1 : Int32) (p2 : Int32) (w_boundEvent_a0 : Int32) (w_latest_a0 : Addr) (w_previous_a0 : Addr) (w_bound_a0 : Value) (t1 : Addr) (t2 : Addr) (t3 : Addr) (g_w_latest_a0 : Nat → Value) (g_w_previous_a0 : Nat → Value) (h0 : Heap) (n0 : Nat) (v : Option Value) (h : Heap) (L : List Loc) : Prop := v = some (if p2 = (0 : Int32) then (if p1 = w_boundEvent_a0 then w_bound_a0 else (g_w_latest_a0 (p1).toNatClampNeg)) else (g_w_previous_a0 (p1).toNatClampNeg)) ∧ Fr n0 L ∧ h = h0
set_option maxRecDepth 65536 in
set_option maxHeartbeats 40000000 in
theorem rm20 (l : Launch) (Z : State) (A0 : Array Value) (hw : ∀ d ∈ tables_1, d.before A0 Z = true) (ws : List Jvm.Cond) (a0 : Addr) (p1 : Int32) (p2 : Int32) (w_boundEvent_a0 : Int32) (w_latest_a0 : Addr) (w_previous_a0 : Addr) (w_bound_a0 : Value) (t1 : Addr) (t2 : Addr) (t3 : Addr) (g_w_latest_a0 : Nat → Value) (g_w_previous_a0 : Nat → Value) (h0 : Heap) (n0 : Nat) (Z0 : n0 ≤ h0.size) (E_a0 : Exa Z h0 a0 "com/example/uneven_ticks/uneventicks/check/Occurrences") (F_boundEvent_a0 : Fld Z h0 a0 "com/example/uneven_ticks/uneventicks/check/Occurrences" "boundEvent" "I" (.int w_boundEvent_a0)) (F_latest_a0 : Fld Z h0 a0 "com/example/uneven_ticks/uneventicks/check/Occurrences" "latest" "[Lcom/example/uneven_ticks/uneventicks/check/TraceEvent;" (.ref w_latest_a0)) (F_previous_a0 : Fld Z h0 a0 "com/example/uneven_ticks/uneventicks/check/Occurrences" "previous" "[Lcom/example/uneven_ticks/uneventicks/check/TraceEvent;" (.ref w_previous_a0)) (F_bound_a0 : Fld Z h0 a0 "com/example/uneven_ticks/uneventicks/check/Occurrences" "bound" "Lcom/example/uneven_ticks/uneventicks/check/TraceEvent;" w_bound_a0) (E_t1 : Exa Z h0 t1 "com/example/uneven_ticks/uneventicks/check/TraceEvent") (E_t2 : Exa Z h0 t2 "com/example/uneven_ticks/uneventicks/check/TraceEvent") (E_t3 : Exa Z h0 t3 "com/example/uneven_ticks/uneventicks/check/TraceEvent") (A_w_latest_a0 : AF Z h0 w_latest_a0 (.object "com/example/uneven_ticks/uneventicks/check/TraceEvent") 3 g_w_latest_a0) (A_w_previous_a0 : AF Z h0 w_previous_a0 (.object "com/example/uneven_ticks/uneventicks/check/TraceEvent") 3 g_w_previous_a0) (hVl : ∀ j : Nat, own_V3 t1 t2 t3 (g_w_latest_a0 j)) (hVp : ∀ j : Nat, own_V3 t1 t2 t3 (g_w_previous_a0 j)) (rf_w_bound_a0 : w_bound_a0.isRef = true) (hin35 : own_in p1 3) (hin9 : own_in p1 3) :
    MetFree l (⟨"com/example/uneven_ticks/uneventicks/check/Occurrences", "get", "(IZ)Lcom/example/uneven_ticks/uneventicks/check/TraceEvent;"⟩ : MethodName) (head1 (Jvm.Cond.code (⟨"com/example/uneven_ticks/uneventicks/check/Occurrences", "get", "(IZ)Lcom/example/uneven_ticks/uneventicks/check/TraceEvent;"⟩ : MethodName) prog_18_method_3_code 4 (some (.object "com/example/uneven_ticks/uneventicks/check/TraceEvent")) :: ws) ({ frames := 0, cells := 0, slots := 0, locals := 0 } : Room)) (fun a U => a = #[(.ref a0), (.int p1), (.int p2)] ∧ Z.Warmed39 U.vm ∧ U.heap = h0) (fun _ _ _ _ _ => True) (fun _ U o U' => ∃ v L, o = .returned v ∧ Q20 Z a0 p1 p2 w_boundEvent_a0 w_latest_a0 w_previous_a0 w_bound_a0 t1 t2 t3 g_w_latest_a0 g_w_previous_a0 h0 n0 v U'.heap L ∧ FrameEnd U o U' L ({ frames := 0, cells := 0, slots := 0, locals := 0 } : Room).cells ({ frames := 0, cells := 0, slots := 0, locals := 0 } : Room).slots) := by
  refine MetFree.of_bodySF (plainFor_of_name pn_20) hisR ?_
  intro p e s m args below meth c s₁ Bd hml0 hP hK
  obtain ⟨rfl, hZ, hh⟩ := hP
  have hx := Bd.exec
  have hby := Bd.bytes
  have hml : c.maxLocals = 4 := hml0
  have hown : s.vm.findClass "com/example/uneven_ticks/uneventicks/check/Occurrences" = some m.cls := findClass_of_methodNamed Bd.named
  have hnm := (name_of_methodNamed Bd.named Bd.method).1
  have X0 : Stand p l e ({ frames := 0, cells := 0, slots := 0, locals := 0 } : Room) s m #[(.ref a0), (.int p1), (.int p2)] below meth c s₁ [] 0 0 := Stand.of_body Bd
  have e0 : s₁.heap = h0 := by rw [← hh, Bd.state]; rfl
  have N0 := Fr.nil n0
  have pre0 : ∀ t, Steps p.tables e below (s₁.setTop (mkF m 0 #[.val (.ref a0), .val (.int p1), .val (.int p2), .unset] [])) t → Steps p.tables e below (s₁.setTop (entryFrame m #[(.ref a0), (.int p1), (.int p2)] 4)) t := fun t k => castTop (ef_20 m a0 p1 p2) k
  obtain ⟨v11, hv11⟩ : ∃ z : Value, z = if p2 = (0 : Int32) then (if p1 = w_boundEvent_a0 then w_bound_a0 else (g_w_latest_a0 (p1).toNatClampNeg)) else (g_w_previous_a0 (p1).toNatClampNeg) := ⟨_, rfl⟩
  have rv11 : v11.isRef = true := by rw [hv11]; (repeat' split) <;> first | rfl | assumption | exact own_v3r (hVl _) | exact own_v3r (hVp _)
  obtain ⟨T12, L12, X12, N12, e12, st12⟩ : ∃ (T' : State) (L' : List Loc), Stand p l e ({ frames := 0, cells := 0, slots := 0, locals := 0 } : Room) s m #[(.ref a0), (.int p1), (.int p2)] below meth c T' L' 0 0 ∧ Fr n0 L' ∧ T'.heap = h0 ∧ ∀ target, Steps p.tables e below (T'.setTop (mkF m 37 #[.val (.ref a0), .val (.int p1), .val (.int p2), .val v11] [])) target → Steps p.tables e below (s₁.setTop (mkF m 1 #[.val (.ref a0), .val (.int p1), .val (.int p2), .unset] [(.int p2)])) target := by
    by_cases hc2 : p2 = (0 : Int32)
    · obtain ⟨T3, X3, e3, st3⟩ := getF X0 hx hZ hown (host := "") (Or.inl (hw _ (List.mem_of_getElem? (i := 124) rfl))) Via.refl e0 F_boundEvent_a0 (g := (mkF m 16 #[.val (.ref a0), .val (.int p1), .val (.int p2), .unset] [(.ref a0), (.int p1)])) rfl rfl (hb hby d20_16)
      obtain ⟨v8, hv8⟩ : ∃ z : Value, z = if p1 = w_boundEvent_a0 then w_bound_a0 else (g_w_latest_a0 (p1).toNatClampNeg) := ⟨_, rfl⟩
      have rv8 : v8.isRef = true := by rw [hv8]; (repeat' split) <;> first | rfl | assumption | exact own_v3r (hVl _) | exact own_v3r (hVp _)
      obtain ⟨T9, L9, X9, N9, e9, st9⟩ : ∃ (T' : State) (L' : List Loc), Stand p l e ({ frames := 0, cells := 0, slots := 0, locals := 0 } : Room) s m #[(.ref a0), (.int p1), (.int p2)] below meth c T' L' 0 0 ∧ Fr n0 L' ∧ T'.heap = h0 ∧ ∀ target, Steps p.tables e below (T'.setTop (mkF m 37 #[.val (.ref a0), .val (.int p1), .val (.int p2), .val v8] [])) target → Steps p.tables e below (T3.setTop (mkF m 19 #[.val (.ref a0), .val (.int p1), .val (.int p2), .unset] [(.int w_boundEvent_a0), (.int p1)])) target := by
        by_cases hc5 : p1 = w_boundEvent_a0
        · obtain ⟨T6, X6, e6, st6⟩ := getF X3 hx hZ hown (host := "") (Or.inl (hw _ (List.mem_of_getElem? (i := 148) rfl))) Via.refl e3 F_bound_a0 (g := (mkF m 23 #[.val (.ref a0), .val (.int p1), .val (.int p2), .unset] [(.ref a0)])) rfl rfl (hb hby d20_23)
          refine ⟨T6, _, X6, N0, e6, fun target kt => ?_⟩
          show Steps p.tables e below (T3.setTop (mkF m 19 #[.val (.ref a0), .val (.int p1), .val (.int p2), .unset] [(.int w_boundEvent_a0), (.int p1)])) _
          refine XS.icmpNo X3.here hx rfl (hb hby d20_19) rfl (teq hc5).2 ?_
          show Steps p.tables e below (T3.setTop (mkF m 22 #[.val (.ref a0), .val (.int p1), .val (.int p2), .unset] [])) _
          refine XS.aloadN X3.here hx rfl (hb hby d20_22) rfl rfl ?_
          show Steps p.tables e below (T3.setTop (mkF m 23 #[.val (.ref a0), .val (.int p1), .val (.int p2), .unset] [(.ref a0)])) _
          refine st6 _ ?_
          show Steps p.tables e below (T6.setTop (mkF m 26 #[.val (.ref a0), .val (.int p1), .val (.int p2), .unset] [w_bound_a0])) _
          refine XT.astoreNS X6.here hx rfl (hb hby d20_26) rfl rf_w_bound_a0 (own_cat rf_w_bound_a0) rfl One.u ?_
          show Steps p.tables e below (T6.setTop (mkF m 27 #[.val (.ref a0), .val (.int p1), .val (.int p2), .val w_bound_a0] [])) _
          refine XS.goto X6.here hx rfl (pc0 := 27) (pc' := 37) rfl (hb hby d20_27) (by decide) (by decide) ?_
          exact castTop (by rw [hv8, if_pos hc5] <;> rfl) kt
        · obtain ⟨T7, X7, e7, st7⟩ := getF X3 hx hZ hown (host := "") (Or.inl (hw _ (List.mem_of_getElem? (i := 128) rfl))) Via.refl e3 F_latest_a0 (g := (mkF m 31 #[.val (.ref a0), .val (.int p1), .val (.int p2), .unset] [(.ref a0)])) rfl rfl (hb hby d20_31)
          refine ⟨T7, _, X7, N0, e7, fun target kt => ?_⟩
          show Steps p.tables e below (T3.setTop (mkF m 19 #[.val (.ref a0), .val (.int p1), .val (.int p2), .unset] [(.int w_boundEvent_a0), (.int p1)])) _
          refine XS.icmpYes X3.here hx rfl (pc0 := 19) (pc' := 30) rfl (hb hby d20_19) rfl (feq hc5).2 (by decide) (by decide) ?_
          show Steps p.tables e below (T3.setTop (mkF m 30 #[.val (.ref a0), .val (.int p1), .val (.int p2), .unset] [])) _
          refine XS.aloadN X3.here hx rfl (hb hby d20_30) rfl rfl ?_
          show Steps p.tables e below (T3.setTop (mkF m 31 #[.val (.ref a0), .val (.int p1), .val (.int p2), .unset] [(.ref a0)])) _
          refine st7 _ ?_
          show Steps p.tables e below (T7.setTop (mkF m 34 #[.val (.ref a0), .val (.int p1), .val (.int p2), .unset] [(.ref w_latest_a0)])) _
          refine XS.iloadN X7.here hx rfl (hb hby d20_34) rfl ?_
          show Steps p.tables e below (T7.setTop (mkF m 35 #[.val (.ref a0), .val (.int p1), .val (.int p2), .unset] [(.int p1), (.ref w_latest_a0)])) _
          refine AF.ldR X7 hx hZ e7 A_w_latest_a0 rfl hin35 (g := (mkF m 35 #[.val (.ref a0), .val (.int p1), .val (.int p2), .unset] [(.int p1), (.ref w_latest_a0)])) rfl rfl (hb hby d20_35) _ ?_
          show Steps p.tables e below (T7.setTop (mkF m 36 #[.val (.ref a0), .val (.int p1), .val (.int p2), .unset] [(g_w_latest_a0 (p1).toNatClampNeg)])) _
          refine XT.astoreNS X7.here hx rfl (hb hby d20_36) rfl (own_v3r (hVl _)) (own_cat (own_v3r (hVl _))) rfl One.u ?_
          exact castTop (by rw [hv8, if_neg hc5] <;> rfl) kt
      refine ⟨T9, _, X9, N9, e9, fun target kt => ?_⟩
      show Steps p.tables e below (s₁.setTop (mkF m 1 #[.val (.ref a0), .val (.int p1), .val (.int p2), .unset] [(.int p2)])) _
      refine XS.ifYes X0.here hx rfl (pc0 := 1) (pc' := 14) rfl (hb hby d20_1) rfl ((if0 _ _).trans (teq hc2).1) (by decide) (by decide) ?_
      show Steps p.tables e below (s₁.setTop (mkF m 14 #[.val (.ref a0), .val (.int p1), .val (.int p2), .unset] [])) _
      refine XS.iloadN X0.here hx rfl (hb hby d20_14) rfl ?_
      show Steps p.tables e below (s₁.setTop (mkF m 15 #[.val (.ref a0), .val (.int p1), .val (.int p2), .unset] [(.int p1)])) _
      refine XS.aloadN X0.here hx rfl (hb hby d20_15) rfl rfl ?_
      show Steps p.tables e below (s₁.setTop (mkF m 16 #[.val (.ref a0), .val (.int p1), .val (.int p2), .unset] [(.ref a0), (.int p1)])) _
      refine st3 _ ?_
      show Steps p.tables e below (T3.setTop (mkF m 19 #[.val (.ref a0), .val (.int p1), .val (.int p2), .unset] [(.int w_boundEvent_a0), (.int p1)])) _
      refine st9 _ ?_
      exact castTop (by subst hv8; rw [hv11, if_pos hc2] <;> rfl) kt
    · obtain ⟨T10, X10, e10, st10⟩ := getF X0 hx hZ hown (host := "") (Or.inl (hw _ (List.mem_of_getElem? (i := 130) rfl))) Via.refl e0 F_previous_a0 (g := (mkF m 5 #[.val (.ref a0), .val (.int p1), .val (.int p2), .unset] [(.ref a0)])) rfl rfl (hb hby d20_5)
      refine ⟨T10, _, X10, N0, e10, fun target kt => ?_⟩
      show Steps p.tables e below (s₁.setTop (mkF m 1 #[.val (.ref a0), .val (.int p1), .val (.int p2), .unset] [(.int p2)])) _
      refine XS.ifNo X0.here hx rfl (hb hby d20_1) rfl ((if0 _ _).trans (feq hc2).1) ?_
      show Steps p.tables e below (s₁.setTop (mkF m 4 #[.val (.ref a0), .val (.int p1), .val (.int p2), .unset] [])) _
      refine XS.aloadN X0.here hx rfl (hb hby d20_4) rfl rfl ?_
      show Steps p.tables e below (s₁.setTop (mkF m 5 #[.val (.ref a0), .val (.int p1), .val (.int p2), .unset] [(.ref a0)])) _
      refine st10 _ ?_
      show Steps p.tables e below (T10.setTop (mkF m 8 #[.val (.ref a0), .val (.int p1), .val (.int p2), .unset] [(.ref w_previous_a0)])) _
      refine XS.iloadN X10.here hx rfl (hb hby d20_8) rfl ?_
      show Steps p.tables e below (T10.setTop (mkF m 9 #[.val (.ref a0), .val (.int p1), .val (.int p2), .unset] [(.int p1), (.ref w_previous_a0)])) _
      refine AF.ldR X10 hx hZ e10 A_w_previous_a0 rfl hin9 (g := (mkF m 9 #[.val (.ref a0), .val (.int p1), .val (.int p2), .unset] [(.int p1), (.ref w_previous_a0)])) rfl rfl (hb hby d20_9) _ ?_
      show Steps p.tables e below (T10.setTop (mkF m 10 #[.val (.ref a0), .val (.int p1), .val (.int p2), .unset] [(g_w_previous_a0 (p1).toNatClampNeg)])) _
      refine XT.astoreNS X10.here hx rfl (hb hby d20_10) rfl (own_v3r (hVp _)) (own_cat (own_v3r (hVp _))) rfl One.u ?_
      show Steps p.tables e below (T10.setTop (mkF m 11 #[.val (.ref a0), .val (.int p1), .val (.int p2), .val (g_w_previous_a0 (p1).toNatClampNeg)] [])) _
      refine XS.goto X10.here hx rfl (pc0 := 11) (pc' := 37) rfl (hb hby d20_11) (by decide) (by decide) ?_
      exact castTop (by rw [hv11, if_neg hc2] <;> rfl) kt
  obtain ⟨fs, hr, hrun, hended, hW, hsame⟩ := X12.leave (v := some v11) (fun h => by rw [Bd.returns] at h; cases h)
  refine ⟨_, _, pre0 _ ?_, hrun, hended, _, _, rfl, ?_, ⟨_, rfl⟩, hW, hsame.mono (by decide) (by decide)⟩
  · show Steps p.tables e below (s₁.setTop (mkF m 0 #[.val (.ref a0), .val (.int p1), .val (.int p2), .unset] [])) _
    refine XS.iloadN X0.here hx rfl (hb hby d20_0) rfl ?_
    show Steps p.tables e below (s₁.setTop (mkF m 1 #[.val (.ref a0), .val (.int p1), .val (.int p2), .unset] [(.int p2)])) _
    refine st12 _ ?_
    show Steps p.tables e below (T12.setTop (mkF m 37 #[.val (.ref a0), .val (.int p1), .val (.int p2), .val v11] [])) _
    refine XS.aloadN X12.here hx rfl (hb hby d20_37) rfl rv11 ?_
    show Steps p.tables e below (T12.setTop (mkF m 38 #[.val (.ref a0), .val (.int p1), .val (.int p2), .val v11] [v11])) _
    exact retOut X12 hx Bd.returns rfl (Or.inr (Or.inr (Or.inr (Or.inr ⟨rfl, rfl, rv11⟩)))) (hb hby d20_38) hr
  · show Q20 Z a0 p1 p2 w_boundEvent_a0 w_latest_a0 w_previous_a0 w_bound_a0 t1 t2 t3 g_w_latest_a0 g_w_previous_a0 h0 n0 _ T12.heap _
    subst hv11
    exact ⟨rfl, N12, e12⟩
theorem ef_21 (m : MethodId) (a0 : Addr) (p1 : Int32) (a2 : Value) (rf_a2 : a2.isRef = true) : entryFrame m #[(.ref a0), (.int p1), a2] 3 = mkF m 0 #[.val (.ref a0), .val (.int p1), .val a2] [] := by rcases ref_cases rf_a2 with rfl | ⟨z, rfl⟩ <;> first | (simp [entryFrame, mkF, argsToLocals, Value.category]; done) | rfl
def Q21 (Z : State) (a0 : Addr) (p1 : Int32) (a2 : Value) (w_boundEvent_a0 : Int32) (w_latest_a0 : Value) (w_previous_a0 : Value) (w_bound_a0 : Value) (h0 : Heap) (n0 : Nat) (v : Option Value) (h : Heap) (L : List Loc) : Prop := v = none ∧ Fr n0 L ∧ Keep h0 h [a0] ∧ Exa Z h a0 "com/example/uneven_ticks/uneventicks/check/Occurrences" ∧ Fld Z h a0 "com/example/uneven_ticks/uneventicks/check/Occurrences" "boundEvent" "I" (.int p1) ∧ Fld Z h a0 "com/example/uneven_ticks/uneventicks/check/Occurrences" "latest" "[Lcom/example/uneven_ticks/uneventicks/check/TraceEvent;" w_latest_a0 ∧ Fld Z h a0 "com/example/uneven_ticks/uneventicks/check/Occurrences" "previous" "[Lcom/example/uneven_ticks/uneventicks/check/TraceEvent;" w_previous_a0 ∧ Fld Z h a0 "com/example/uneven_ticks/uneventicks/check/Occurrences" "bound" "Lcom/example/uneven_ticks/uneventicks/check/TraceEvent;" a2
set_option maxRecDepth 65536 in
set_option maxHeartbeats 40000000 in
theorem rm21 (l : Launch) (Z : State) (A0 : Array Value) (hw : ∀ d ∈ tables_1, d.before A0 Z = true) (ws : List Jvm.Cond) (a0 : Addr) (p1 : Int32) (a2 : Value) (w_boundEvent_a0 : Int32) (w_latest_a0 : Value) (w_previous_a0 : Value) (w_bound_a0 : Value) (h0 : Heap) (n0 : Nat) (Z0 : n0 ≤ h0.size) (E_a0 : Exa Z h0 a0 "com/example/uneven_ticks/uneventicks/check/Occurrences") (F_boundEvent_a0 : Fld Z h0 a0 "com/example/uneven_ticks/uneventicks/check/Occurrences" "boundEvent" "I" (.int w_boundEvent_a0)) (F_latest_a0 : Fld Z h0 a0 "com/example/uneven_ticks/uneventicks/check/Occurrences" "latest" "[Lcom/example/uneven_ticks/uneventicks/check/TraceEvent;" w_latest_a0) (F_previous_a0 : Fld Z h0 a0 "com/example/uneven_ticks/uneventicks/check/Occurrences" "previous" "[Lcom/example/uneven_ticks/uneventicks/check/TraceEvent;" w_previous_a0) (F_bound_a0 : Fld Z h0 a0 "com/example/uneven_ticks/uneventicks/check/Occurrences" "bound" "Lcom/example/uneven_ticks/uneventicks/check/TraceEvent;" w_bound_a0) (nw_a0 : n0 ≤ a0) (rf_a2 : a2.isRef = true) :
    MetFree l (⟨"com/example/uneven_ticks/uneventicks/check/Occurrences", "bind", "(ILcom/example/uneven_ticks/uneventicks/check/TraceEvent;)V"⟩ : MethodName) (head1 (Jvm.Cond.code (⟨"com/example/uneven_ticks/uneventicks/check/Occurrences", "bind", "(ILcom/example/uneven_ticks/uneventicks/check/TraceEvent;)V"⟩ : MethodName) prog_18_method_4_code 3 none :: ws) ({ frames := 0, cells := 0, slots := 0, locals := 0 } : Room)) (fun a U => a = #[(.ref a0), (.int p1), a2] ∧ Z.Warmed39 U.vm ∧ U.heap = h0) (fun _ _ _ _ _ => True) (fun _ U o U' => ∃ v L, o = .returned v ∧ Q21 Z a0 p1 a2 w_boundEvent_a0 w_latest_a0 w_previous_a0 w_bound_a0 h0 n0 v U'.heap L ∧ FrameEnd U o U' L ({ frames := 0, cells := 0, slots := 0, locals := 0 } : Room).cells ({ frames := 0, cells := 0, slots := 0, locals := 0 } : Room).slots) := by
  refine MetFree.of_bodySF (plainFor_of_name pn_21) hisR ?_
  intro p e s m args below meth c s₁ Bd hml0 hP hK
  obtain ⟨rfl, hZ, hh⟩ := hP
  have hx := Bd.exec
  have hby := Bd.bytes
  have hml : c.maxLocals = 3 := hml0
  have hown : s.vm.findClass "com/example/uneven_ticks/uneventicks/check/Occurrences" = some m.cls := findClass_of_methodNamed Bd.named
  have hnm := (name_of_methodNamed Bd.named Bd.method).1
  have X0 : Stand p l e ({ frames := 0, cells := 0, slots := 0, locals := 0 } : Room) s m #[(.ref a0), (.int p1), a2] below meth c s₁ [] 0 0 := Stand.of_body Bd
  have e0 : s₁.heap = h0 := by rw [← hh, Bd.state]; rfl
  have N0 := Fr.nil n0
  have pre0 : ∀ t, Steps p.tables e below (s₁.setTop (mkF m 0 #[.val (.ref a0), .val (.int p1), .val a2] [])) t → Steps p.tables e below (s₁.setTop (entryFrame m #[(.ref a0), (.int p1), a2] 3)) t := fun t k => castTop (ef_21 m a0 p1 a2 rf_a2) k
  obtain ⟨T1, h1, X1, e1, W1, st1⟩ := putF X0 hx hZ hown (host := "") (Or.inl (hw _ (List.mem_of_getElem? (i := 124) rfl))) Via.refl e0 F_boundEvent_a0 E_a0 (Or.inl (hw _ (List.mem_of_getElem? (i := 125) rfl))) (hw _ (List.mem_of_getElem? (i := 118) rfl)) (ty := .int) (by decide) rfl rfl (g := (mkF m 2 #[.val (.ref a0), .val (.int p1), .val a2] [(.int p1), (.ref a0)])) rfl rfl (hb hby d21_2)
  have K1 : Keep h0 h1 [a0] := (Keep.refl h0 [a0]).wr W1 (Or.inl (by simp))
  have Fw1 : Fld Z h1 a0 "com/example/uneven_ticks/uneventicks/check/Occurrences" "boundEvent" "I" (.int p1) := F_boundEvent_a0.same W1
  have N1 := Fr.snoc X1 N0 nw_a0
  have G2 : Exa Z h1 a0 "com/example/uneven_ticks/uneventicks/check/Occurrences" := (E_a0.wr W1)
  have G3 : Fld Z h1 a0 "com/example/uneven_ticks/uneventicks/check/Occurrences" "bound" "Lcom/example/uneven_ticks/uneventicks/check/TraceEvent;" w_bound_a0 := (F_bound_a0.other W1 (Or.inr (slot_ne (Or.inl (hw _ (List.mem_of_getElem? (i := 149) rfl))) (Or.inl (hw _ (List.mem_of_getElem? (i := 125) rfl))) (by decide) (t := (.object "com/example/uneven_ticks/uneventicks/check/TraceEvent")) (t' := .int) (by decide) (by decide))))
  obtain ⟨T4, h4, X4, e4, W4, st4⟩ := putF X1 hx hZ hown (host := "") (Or.inl (hw _ (List.mem_of_getElem? (i := 148) rfl))) Via.refl e1 G3 G2 (Or.inl (hw _ (List.mem_of_getElem? (i := 149) rfl))) (hw _ (List.mem_of_getElem? (i := 118) rfl)) (ty := (.object "com/example/uneven_ticks/uneventicks/check/TraceEvent")) (by decide) rfl (own_fits_ref rf_a2) (g := (mkF m 7 #[.val (.ref a0), .val (.int p1), .val a2] [a2, (.ref a0)])) rfl rfl (hb hby d21_7)
  have K4 : Keep h0 h4 [a0] := K1.wr W4 (Or.inl (by simp))
  have Fw4 : Fld Z h4 a0 "com/example/uneven_ticks/uneventicks/check/Occurrences" "bound" "Lcom/example/uneven_ticks/uneventicks/check/TraceEvent;" a2 := G3.same W4
  have N4 := Fr.snoc X4 N1 nw_a0
  obtain ⟨fs, hr, hrun, hended, hW, hsame⟩ := X4.leave (v := none) (fun _ => rfl)
  refine ⟨_, _, pre0 _ ?_, hrun, hended, _, _, rfl, ?_, ⟨_, rfl⟩, hW, hsame.mono (by decide) (by decide)⟩
  · show Steps p.tables e below (s₁.setTop (mkF m 0 #[.val (.ref a0), .val (.int p1), .val a2] [])) _
    refine XS.aloadN X0.here hx rfl (hb hby d21_0) rfl rfl ?_
    show Steps p.tables e below (s₁.setTop (mkF m 1 #[.val (.ref a0), .val (.int p1), .val a2] [(.ref a0)])) _
    refine XS.iloadN X0.here hx rfl (hb hby d21_1) rfl ?_
    show Steps p.tables e below (s₁.setTop (mkF m 2 #[.val (.ref a0), .val (.int p1), .val a2] [(.int p1), (.ref a0)])) _
    refine st1 _ ?_
    show Steps p.tables e below (T1.setTop (mkF m 5 #[.val (.ref a0), .val (.int p1), .val a2] [])) _
    refine XS.aloadN X1.here hx rfl (hb hby d21_5) rfl rfl ?_
    show Steps p.tables e below (T1.setTop (mkF m 6 #[.val (.ref a0), .val (.int p1), .val a2] [(.ref a0)])) _
    refine XS.aloadN X1.here hx rfl (hb hby d21_6) rfl rf_a2 ?_
    show Steps p.tables e below (T1.setTop (mkF m 7 #[.val (.ref a0), .val (.int p1), .val a2] [a2, (.ref a0)])) _
    refine st4 _ ?_
    show Steps p.tables e below (T4.setTop (mkF m 10 #[.val (.ref a0), .val (.int p1), .val a2] [])) _
    exact X4.returnOut hx Bd.returns (hb hby d21_10) hr
  have G5 : Exa Z h4 a0 "com/example/uneven_ticks/uneventicks/check/Occurrences" := (G2.wr W4)
  have G6 : Fld Z h4 a0 "com/example/uneven_ticks/uneventicks/check/Occurrences" "boundEvent" "I" (.int p1) := (Fw1.other W4 (Or.inr (slot_ne (Or.inl (hw _ (List.mem_of_getElem? (i := 125) rfl))) (Or.inl (hw _ (List.mem_of_getElem? (i := 149) rfl))) (by decide) (t := .int) (t' := (.object "com/example/uneven_ticks/uneventicks/check/TraceEvent")) (by decide) (by decide))))
  have G7 : Fld Z h4 a0 "com/example/uneven_ticks/uneventicks/check/Occurrences" "latest" "[Lcom/example/uneven_ticks/uneventicks/check/TraceEvent;" w_latest_a0 := ((F_latest_a0.other W1 (Or.inr (slot_ne (Or.inr (hw _ (List.mem_of_getElem? (i := 129) rfl))) (Or.inl (hw _ (List.mem_of_getElem? (i := 125) rfl))) (by decide) (t := (.array (.object "com/example/uneven_ticks/uneventicks/check/TraceEvent"))) (t' := .int) (by decide) (by decide)))).other W4 (Or.inr (slot_ne (Or.inr (hw _ (List.mem_of_getElem? (i := 129) rfl))) (Or.inl (hw _ (List.mem_of_getElem? (i := 149) rfl))) (by decide) (t := (.array (.object "com/example/uneven_ticks/uneventicks/check/TraceEvent"))) (t' := (.object "com/example/uneven_ticks/uneventicks/check/TraceEvent")) (by decide) (by decide))))
  have G8 : Fld Z h4 a0 "com/example/uneven_ticks/uneventicks/check/Occurrences" "previous" "[Lcom/example/uneven_ticks/uneventicks/check/TraceEvent;" w_previous_a0 := ((F_previous_a0.other W1 (Or.inr (slot_ne (Or.inr (hw _ (List.mem_of_getElem? (i := 131) rfl))) (Or.inl (hw _ (List.mem_of_getElem? (i := 125) rfl))) (by decide) (t := (.array (.object "com/example/uneven_ticks/uneventicks/check/TraceEvent"))) (t' := .int) (by decide) (by decide)))).other W4 (Or.inr (slot_ne (Or.inr (hw _ (List.mem_of_getElem? (i := 131) rfl))) (Or.inl (hw _ (List.mem_of_getElem? (i := 149) rfl))) (by decide) (t := (.array (.object "com/example/uneven_ticks/uneventicks/check/TraceEvent"))) (t' := (.object "com/example/uneven_ticks/uneventicks/check/TraceEvent")) (by decide) (by decide))))
  · show Q21 Z a0 p1 a2 w_boundEvent_a0 w_latest_a0 w_previous_a0 w_bound_a0 h0 n0 _ T4.heap _
    rw [e4]
    exact ⟨rfl, N4, K4, G5, G6, G7, G8, Fw4⟩
theorem ef_22 (m : MethodId) (a0 : Addr) : entryFrame m #[(.ref a0)] 1 = mkF m 0 #[.val (.ref a0)] [] := by first | (simp [entryFrame, mkF, argsToLocals, Value.category]; done) | rfl
def Q22 (Z : State) (a0 : Addr) (w_boundEvent_a0 : Int32) (w_latest_a0 : Value) (w_previous_a0 : Value) (w_bound_a0 : Value) (h0 : Heap) (n0 : Nat) (v : Option Value) (h : Heap) (L : List Loc) : Prop := v = none ∧ Fr n0 L ∧ Keep h0 h [a0] ∧ Exa Z h a0 "com/example/uneven_ticks/uneventicks/check/Occurrences" ∧ Fld Z h a0 "com/example/uneven_ticks/uneventicks/check/Occurrences" "boundEvent" "I" (.int (-1 : Int32)) ∧ Fld Z h a0 "com/example/uneven_ticks/uneventicks/check/Occurrences" "latest" "[Lcom/example/uneven_ticks/uneventicks/check/TraceEvent;" w_latest_a0 ∧ Fld Z h a0 "com/example/uneven_ticks/uneventicks/check/Occurrences" "previous" "[Lcom/example/uneven_ticks/uneventicks/check/TraceEvent;" w_previous_a0 ∧ Fld Z h a0 "com/example/uneven_ticks/uneventicks/check/Occurrences" "bound" "Lcom/example/uneven_ticks/uneventicks/check/TraceEvent;" .null
set_option maxRecDepth 65536 in
set_option maxHeartbeats 40000000 in
theorem rm22 (l : Launch) (Z : State) (A0 : Array Value) (hw : ∀ d ∈ tables_1, d.before A0 Z = true) (ws : List Jvm.Cond) (a0 : Addr) (w_boundEvent_a0 : Int32) (w_latest_a0 : Value) (w_previous_a0 : Value) (w_bound_a0 : Value) (h0 : Heap) (n0 : Nat) (Z0 : n0 ≤ h0.size) (E_a0 : Exa Z h0 a0 "com/example/uneven_ticks/uneventicks/check/Occurrences") (F_boundEvent_a0 : Fld Z h0 a0 "com/example/uneven_ticks/uneventicks/check/Occurrences" "boundEvent" "I" (.int w_boundEvent_a0)) (F_latest_a0 : Fld Z h0 a0 "com/example/uneven_ticks/uneventicks/check/Occurrences" "latest" "[Lcom/example/uneven_ticks/uneventicks/check/TraceEvent;" w_latest_a0) (F_previous_a0 : Fld Z h0 a0 "com/example/uneven_ticks/uneventicks/check/Occurrences" "previous" "[Lcom/example/uneven_ticks/uneventicks/check/TraceEvent;" w_previous_a0) (F_bound_a0 : Fld Z h0 a0 "com/example/uneven_ticks/uneventicks/check/Occurrences" "bound" "Lcom/example/uneven_ticks/uneventicks/check/TraceEvent;" w_bound_a0) (nw_a0 : n0 ≤ a0) :
    MetFree l (⟨"com/example/uneven_ticks/uneventicks/check/Occurrences", "unbind", "()V"⟩ : MethodName) (head1 (Jvm.Cond.code (⟨"com/example/uneven_ticks/uneventicks/check/Occurrences", "unbind", "()V"⟩ : MethodName) prog_18_method_5_code 1 none :: ws) ({ frames := 0, cells := 0, slots := 0, locals := 0 } : Room)) (fun a U => a = #[(.ref a0)] ∧ Z.Warmed39 U.vm ∧ U.heap = h0) (fun _ _ _ _ _ => True) (fun _ U o U' => ∃ v L, o = .returned v ∧ Q22 Z a0 w_boundEvent_a0 w_latest_a0 w_previous_a0 w_bound_a0 h0 n0 v U'.heap L ∧ FrameEnd U o U' L ({ frames := 0, cells := 0, slots := 0, locals := 0 } : Room).cells ({ frames := 0, cells := 0, slots := 0, locals := 0 } : Room).slots) := by
  refine MetFree.of_bodySF (plainFor_of_name pn_22) hisR ?_
  intro p e s m args below meth c s₁ Bd hml0 hP hK
  obtain ⟨rfl, hZ, hh⟩ := hP
  have hx := Bd.exec
  have hby := Bd.bytes
  have hml : c.maxLocals = 1 := hml0
  have hown : s.vm.findClass "com/example/uneven_ticks/uneventicks/check/Occurrences" = some m.cls := findClass_of_methodNamed Bd.named
  have hnm := (name_of_methodNamed Bd.named Bd.method).1
  have X0 : Stand p l e ({ frames := 0, cells := 0, slots := 0, locals := 0 } : Room) s m #[(.ref a0)] below meth c s₁ [] 0 0 := Stand.of_body Bd
  have e0 : s₁.heap = h0 := by rw [← hh, Bd.state]; rfl
  have N0 := Fr.nil n0
  have pre0 : ∀ t, Steps p.tables e below (s₁.setTop (mkF m 0 #[.val (.ref a0)] [])) t → Steps p.tables e below (s₁.setTop (entryFrame m #[(.ref a0)] 1)) t := fun t k => castTop (ef_22 m a0) k
  obtain ⟨T1, h1, X1, e1, W1, st1⟩ := putF X0 hx hZ hown (host := "") (Or.inl (hw _ (List.mem_of_getElem? (i := 124) rfl))) Via.refl e0 F_boundEvent_a0 E_a0 (Or.inl (hw _ (List.mem_of_getElem? (i := 125) rfl))) (hw _ (List.mem_of_getElem? (i := 118) rfl)) (ty := .int) (by decide) rfl rfl (g := (mkF m 2 #[.val (.ref a0)] [(.int (-1 : Int32)), (.ref a0)])) rfl rfl (hb hby d22_2)
  have K1 : Keep h0 h1 [a0] := (Keep.refl h0 [a0]).wr W1 (Or.inl (by simp))
  have Fw1 : Fld Z h1 a0 "com/example/uneven_ticks/uneventicks/check/Occurrences" "boundEvent" "I" (.int (-1 : Int32)) := F_boundEvent_a0.same W1
  have N1 := Fr.snoc X1 N0 nw_a0
  have G2 : Exa Z h1 a0 "com/example/uneven_ticks/uneventicks/check/Occurrences" := (E_a0.wr W1)
  have G3 : Fld Z h1 a0 "com/example/uneven_ticks/uneventicks/check/Occurrences" "bound" "Lcom/example/uneven_ticks/uneventicks/check/TraceEvent;" w_bound_a0 := (F_bound_a0.other W1 (Or.inr (slot_ne (Or.inl (hw _ (List.mem_of_getElem? (i := 149) rfl))) (Or.inl (hw _ (List.mem_of_getElem? (i := 125) rfl))) (by decide) (t := (.object "com/example/uneven_ticks/uneventicks/check/TraceEvent")) (t' := .int) (by decide) (by decide))))
  obtain ⟨T4, h4, X4, e4, W4, st4⟩ := putF X1 hx hZ hown (host := "") (Or.inl (hw _ (List.mem_of_getElem? (i := 148) rfl))) Via.refl e1 G3 G2 (Or.inl (hw _ (List.mem_of_getElem? (i := 149) rfl))) (hw _ (List.mem_of_getElem? (i := 118) rfl)) (ty := (.object "com/example/uneven_ticks/uneventicks/check/TraceEvent")) (by decide) rfl rfl (g := (mkF m 7 #[.val (.ref a0)] [.null, (.ref a0)])) rfl rfl (hb hby d22_7)
  have K4 : Keep h0 h4 [a0] := K1.wr W4 (Or.inl (by simp))
  have Fw4 : Fld Z h4 a0 "com/example/uneven_ticks/uneventicks/check/Occurrences" "bound" "Lcom/example/uneven_ticks/uneventicks/check/TraceEvent;" .null := G3.same W4
  have N4 := Fr.snoc X4 N1 nw_a0
  obtain ⟨fs, hr, hrun, hended, hW, hsame⟩ := X4.leave (v := none) (fun _ => rfl)
  refine ⟨_, _, pre0 _ ?_, hrun, hended, _, _, rfl, ?_, ⟨_, rfl⟩, hW, hsame.mono (by decide) (by decide)⟩
  · show Steps p.tables e below (s₁.setTop (mkF m 0 #[.val (.ref a0)] [])) _
    refine XS.aloadN X0.here hx rfl (hb hby d22_0) rfl rfl ?_
    show Steps p.tables e below (s₁.setTop (mkF m 1 #[.val (.ref a0)] [(.ref a0)])) _
    refine XS.iconst X0.here hx rfl (hb hby d22_1) ?_
    show Steps p.tables e below (s₁.setTop (mkF m 2 #[.val (.ref a0)] [(.int (-1 : Int32)), (.ref a0)])) _
    refine st1 _ ?_
    show Steps p.tables e below (T1.setTop (mkF m 5 #[.val (.ref a0)] [])) _
    refine XS.aloadN X1.here hx rfl (hb hby d22_5) rfl rfl ?_
    show Steps p.tables e below (T1.setTop (mkF m 6 #[.val (.ref a0)] [(.ref a0)])) _
    refine XS.aconstNull X1.here hx rfl (hb hby d22_6) ?_
    show Steps p.tables e below (T1.setTop (mkF m 7 #[.val (.ref a0)] [.null, (.ref a0)])) _
    refine st4 _ ?_
    show Steps p.tables e below (T4.setTop (mkF m 10 #[.val (.ref a0)] [])) _
    exact X4.returnOut hx Bd.returns (hb hby d22_10) hr
  have G5 : Exa Z h4 a0 "com/example/uneven_ticks/uneventicks/check/Occurrences" := (G2.wr W4)
  have G6 : Fld Z h4 a0 "com/example/uneven_ticks/uneventicks/check/Occurrences" "boundEvent" "I" (.int (-1 : Int32)) := (Fw1.other W4 (Or.inr (slot_ne (Or.inl (hw _ (List.mem_of_getElem? (i := 125) rfl))) (Or.inl (hw _ (List.mem_of_getElem? (i := 149) rfl))) (by decide) (t := .int) (t' := (.object "com/example/uneven_ticks/uneventicks/check/TraceEvent")) (by decide) (by decide))))
  have G7 : Fld Z h4 a0 "com/example/uneven_ticks/uneventicks/check/Occurrences" "latest" "[Lcom/example/uneven_ticks/uneventicks/check/TraceEvent;" w_latest_a0 := ((F_latest_a0.other W1 (Or.inr (slot_ne (Or.inr (hw _ (List.mem_of_getElem? (i := 129) rfl))) (Or.inl (hw _ (List.mem_of_getElem? (i := 125) rfl))) (by decide) (t := (.array (.object "com/example/uneven_ticks/uneventicks/check/TraceEvent"))) (t' := .int) (by decide) (by decide)))).other W4 (Or.inr (slot_ne (Or.inr (hw _ (List.mem_of_getElem? (i := 129) rfl))) (Or.inl (hw _ (List.mem_of_getElem? (i := 149) rfl))) (by decide) (t := (.array (.object "com/example/uneven_ticks/uneventicks/check/TraceEvent"))) (t' := (.object "com/example/uneven_ticks/uneventicks/check/TraceEvent")) (by decide) (by decide))))
  have G8 : Fld Z h4 a0 "com/example/uneven_ticks/uneventicks/check/Occurrences" "previous" "[Lcom/example/uneven_ticks/uneventicks/check/TraceEvent;" w_previous_a0 := ((F_previous_a0.other W1 (Or.inr (slot_ne (Or.inr (hw _ (List.mem_of_getElem? (i := 131) rfl))) (Or.inl (hw _ (List.mem_of_getElem? (i := 125) rfl))) (by decide) (t := (.array (.object "com/example/uneven_ticks/uneventicks/check/TraceEvent"))) (t' := .int) (by decide) (by decide)))).other W4 (Or.inr (slot_ne (Or.inr (hw _ (List.mem_of_getElem? (i := 131) rfl))) (Or.inl (hw _ (List.mem_of_getElem? (i := 149) rfl))) (by decide) (t := (.array (.object "com/example/uneven_ticks/uneventicks/check/TraceEvent"))) (t' := (.object "com/example/uneven_ticks/uneventicks/check/TraceEvent")) (by decide) (by decide))))
  · show Q22 Z a0 w_boundEvent_a0 w_latest_a0 w_previous_a0 w_bound_a0 h0 n0 _ T4.heap _
    rw [e4]
    exact ⟨rfl, N4, K4, G5, G6, G7, G8, Fw4⟩

theorem own_mod3 (p v : Int32) (hv : v = ((p &&& (2147483647 : Int32)) % (3 : Int32))) : 0 ≤ v.toInt ∧ v.toInt < 3 ∧ own_in v 3 := by
  have e1 : (p &&& (2147483647 : Int32)).toInt = p.toInt % (2 ^ 31 : Nat) := c_mask p _ 31 (by decide) (by decide)
  have e2 := (c_irem (p &&& (2147483647 : Int32)) 3 3 (by decide)).1 (by rw [e1]; omega)
  rw [← hv] at e2
  refine ⟨by omega, by omega, by omega, by omega⟩
theorem own_cl {a b : Int32} (ha : 0 ≤ a.toInt) (hb : 0 ≤ b.toInt) (q : a.toNatClampNeg = b.toNatClampNeg) : a = b := by
  have c1 : a.toNatClampNeg = a.toInt.toNat := rfl
  have c2 : b.toNatClampNeg = b.toInt.toNat := rfl
  apply Int32.toInt_inj.mp
  omega
theorem own_V3n (t1 t2 t3 : Addr) : own_V3 t1 t2 t3 .null := Or.inl rfl
theorem own_V31 (t1 t2 t3 : Addr) : own_V3 t1 t2 t3 (.ref t1) := Or.inr (Or.inl rfl)
theorem own_V32 (t1 t2 t3 : Addr) : own_V3 t1 t2 t3 (.ref t2) := Or.inr (Or.inr (Or.inl rfl))
theorem own_V33 (t1 t2 t3 : Addr) : own_V3 t1 t2 t3 (.ref t3) := Or.inr (Or.inr (Or.inr rfl))
theorem own_ae {f : Nat → Value} {v : Value} {i k : Int32} (h : i = k) : v = (fun j => if j = i.toNatClampNeg then v else f j) k.toNatClampNeg := by
  subst h
  first | exact (if_pos rfl).symm | simp
theorem own_ae2 {f g : Nat → Value} {w : Value} {i k : Int32} (h : i = k) (q : w = f k.toNatClampNeg) : w = (fun j => if j = i.toNatClampNeg then f i.toNatClampNeg else g j) k.toNatClampNeg := by
  subst h
  subst q
  first | exact (if_pos rfl).symm | simp
theorem own_an {f : Nat → Value} {v w : Value} {i k : Int32} (hi : 0 ≤ i.toInt) (hk : 0 ≤ k.toInt) (h : ¬ i = k) (q : w = f k.toNatClampNeg) : w = (fun j => if j = i.toNatClampNeg then v else f j) k.toNatClampNeg := by
  have n : ¬ k.toNatClampNeg = i.toNatClampNeg := fun z => h (own_cl hi hk z.symm)
  subst q
  first | exact (if_neg n).symm | simp [n]
theorem own_bool (c : Prop) [Decidable c] (v : Int32) (hv : v = if c then (0 : Int32) else (1 : Int32)) : nar .boolean v = v := by rw [hv]; split <;> rfl

theorem ef_0 (m : MethodId) (p0 : Int32) (p1 : Int32) (p2 : Int32) (p3 : Int32) (p4 : Int32) (p5 : Int32) : entryFrame m #[(.int p0), (.int p1), (.int p2), (.int p3), (.int p4), (.int p5)] maxLocals = mkF m 0 #[.val (.int p0), .val (.int p1), .val (.int p2), .val (.int p3), .val (.int p4), .val (.int p5), .unset, .unset, .unset, .unset, .unset, .unset, .unset, .unset, .unset, .unset, .unset, .unset, .unset, .unset, .unset, .unset, .unset, .unset, .unset, .unset, .unset, .unset] [] := by first | (simp [entryFrame, mkF, argsToLocals, Value.category, maxLocals]; done) | rfl
def Q0 (h0 : Heap) (n0 : Nat) (v : Option Value) (h : Heap) (L : List Loc) : Prop := v = some (.int 1) ∧ Fr n0 L
set_option maxRecDepth 65536 in
set_option maxHeartbeats 40000000 in
theorem rm0 (l : Launch) (Z : State) (A0 : Array Value) (hw : ∀ d ∈ tables_1, d.before A0 Z = true) (ws : List Jvm.Cond) (p0 : Int32) (p1 : Int32) (p2 : Int32) (p3 : Int32) (p4 : Int32) (p5 : Int32) (s_COMPACT_STRINGS : Int32) (s_SIOOBE_FORMATTER : Value) (h0 : Heap) (n0 : Nat) (Z0 : n0 ≤ h0.size) (S_COMPACT_STRINGS : SO Z n0 h0 "java/lang/String" "COMPACT_STRINGS" "Z" (.int s_COMPACT_STRINGS)) (S_SIOOBE_FORMATTER : SO Z n0 h0 "jdk/internal/util/Preconditions" "SIOOBE_FORMATTER" "Ljava/util/function/BiFunction;" s_SIOOBE_FORMATTER) (hn0 : n0 = h0.size) (hEL : EW Z A0 consts_1) (hCH0 : CHv Z consts_1 Z.vm Z.heap) (rf_s_SIOOBE_FORMATTER : s_SIOOBE_FORMATTER.isRef = true) (hc3_6_6_3_3_6_150 : ¬ (s_COMPACT_STRINGS = (0 : Int32))) :
    MetFree l x (head1 (Jvm.Cond.code x code maxLocals ret :: ws) room_1) (fun a U => a = #[(.int p0), (.int p1), (.int p2), (.int p3), (.int p4), (.int p5)] ∧ U = Z ∧ U.heap = h0) (fun _ _ _ _ _ => True) (fun _ U o U' => ∃ v L, o = .returned v ∧ Q0 h0 n0 v U'.heap L ∧ ReturnedEndW U o U' L 27 124) := by
  refine MetFree.of_bodySF (plainFor_of_name pn_0) hisR ?_
  intro p e s m args below meth c s₁ Bd hml0 hP hK
  obtain ⟨rfl, hUZ, hh⟩ := hP
  have hZ : Z.Warmed39 s.vm := by rw [hUZ]; exact State.Warmed39.refl Z
  have hCH : CHv Z consts_1 s.vm h0 := by rw [← hh, hUZ]; exact hCH0
  have hx := Bd.exec
  have hby := Bd.bytes
  have hml : c.maxLocals = 28 := hml0
  have hown : s.vm.findClass "com/example/uneven_ticks/uneventicks/check/OccurrencesGetPinLaw" = some m.cls := findClass_of_methodNamed Bd.named
  have hnm := (name_of_methodNamed Bd.named Bd.method).1
  have X0 : Stand p l e room_1 s m #[(.int p0), (.int p1), (.int p2), (.int p3), (.int p4), (.int p5)] below meth c s₁ [] 0 0 := Stand.of_body Bd
  have e0 : s₁.heap = h0 := by rw [← hh, Bd.state]; rfl
  have N0 := Fr.nil n0
  have pre0 : ∀ t, Steps p.tables e below (s₁.setTop (mkF m 0 #[.val (.int p0), .val (.int p1), .val (.int p2), .val (.int p3), .val (.int p4), .val (.int p5), .unset, .unset, .unset, .unset, .unset, .unset, .unset, .unset, .unset, .unset, .unset, .unset, .unset, .unset, .unset, .unset, .unset, .unset, .unset, .unset, .unset, .unset] [])) t → Steps p.tables e below (s₁.setTop (entryFrame m #[(.int p0), (.int p1), (.int p2), (.int p3), (.int p4), (.int p5)] maxLocals)) t := fun t k => castTop (ef_0 m p0 p1 p2 p3 p4 p5) k
  obtain ⟨v1, hv1⟩ : ∃ z : Int32, z = ((p0 &&& (2147483647 : Int32)) % (3 : Int32)) := ⟨_, rfl⟩
  obtain ⟨v2, hv2⟩ : ∃ z : Int32, z = ((p1 &&& (2147483647 : Int32)) % (3 : Int32)) := ⟨_, rfl⟩
  obtain ⟨v3, hv3⟩ : ∃ z : Int32, z = ((p2 &&& (2147483647 : Int32)) % (3 : Int32)) := ⟨_, rfl⟩
  obtain ⟨v4, hv4⟩ : ∃ z : Int32, z = (((p3 &&& (2147483647 : Int32)) % (5 : Int32)) - (1 : Int32)) := ⟨_, rfl⟩
  obtain ⟨v5, hv5⟩ : ∃ z : Int32, z = ((p4 &&& (2147483647 : Int32)) % (3 : Int32)) := ⟨_, rfl⟩
  obtain ⟨v7, hv7⟩ : ∃ z : Int32, z = if (p5 &&& (1 : Int32)) = (0 : Int32) then (0 : Int32) else (1 : Int32) := ⟨_, rfl⟩
  obtain ⟨v9, hv9⟩ : ∃ z : Int32, z = if (p5 &&& (2 : Int32)) = (0 : Int32) then (0 : Int32) else (1 : Int32) := ⟨_, rfl⟩
  obtain ⟨v11, hv11⟩ : ∃ z : Int32, z = if (p5 &&& (4 : Int32)) = (0 : Int32) then (0 : Int32) else (1 : Int32) := ⟨_, rfl⟩
  obtain ⟨v13, hv13⟩ : ∃ z : Int32, z = if (p5 &&& (8 : Int32)) = (0 : Int32) then (0 : Int32) else (1 : Int32) := ⟨_, rfl⟩
  obtain ⟨v15, hv15⟩ : ∃ z : Int32, z = if (p5 &&& (16 : Int32)) = (0 : Int32) then (0 : Int32) else (1 : Int32) := ⟨_, rfl⟩
  obtain ⟨v17, hv17⟩ : ∃ z : Int32, z = if (p5 &&& (32 : Int32)) = (0 : Int32) then (0 : Int32) else (1 : Int32) := ⟨_, rfl⟩
  obtain ⟨v18, hv18⟩ : ∃ z : Int32, z = (((p5.toUInt32 >>> ((6 : Int32) &&& 31).toUInt32).toInt32) &&& (3 : Int32)) := ⟨_, rfl⟩
  obtain ⟨T19, h19, X19, e19, E19, A19, D19, -, st19⟩ := newO X0 hx hZ hown (hw _ (List.mem_of_getElem? (i := 1) rfl)) (hw _ (List.mem_of_getElem? (i := 2) rfl)) (hw _ (List.mem_of_getElem? (i := 3) rfl)) e0 (g := (mkF m 139 #[.val (.int p0), .val (.int p1), .val (.int p2), .val (.int p3), .val (.int p4), .val (.int p5), .val (.int v1), .val (.int v2), .val (.int v3), .val (.int v4), .val (.int v5), .val (.int v7), .val (.int v9), .val (.int v11), .val (.int v13), .val (.int v15), .val (.int v17), .val (.int v18), .unset, .unset, .unset, .unset, .unset, .unset, .unset, .unset, .unset, .unset] [])) rfl (hb hby at_139) (by decide) (by decide)
  obtain ⟨b19, g19⟩ : ∃ z, z = h0.size := ⟨_, rfl⟩
  rw [← g19] at A19 D19 st19
  have nw_b19 : n0 ≤ b19 := Nat.le_trans (Nat.le_trans Z0 (Keep.refl h0 []).1) (Nat.le_of_eq g19.symm)
  have sz_b19 : h0.size ≤ b19 := Nat.le_trans (Keep.refl h0 []).1 (Nat.le_of_eq g19.symm)
  have K19 : Keep h0 h19 [] := (Keep.refl h0 []).ext E19
  have CH20 := (CHr.refl hCH).trans (CHr.ext E19 (CHr.refl hCH).1)
  have F_writtenTime_b19 : Fld Z h19 b19 "com/example/uneven_ticks/uneventicks/check/TraceEvent" "writtenTime" "Lcom/example/uneven_ticks/uneventicks/check/DecimalText;" .null := D19 (Or.inr (hw _ (List.mem_of_getElem? (i := 104) rfl))) (ty := (.object "com/example/uneven_ticks/uneventicks/check/DecimalText")) (by decide)
  have F_name_b19 : Fld Z h19 b19 "com/example/uneven_ticks/uneventicks/check/TraceEvent" "name" "Ljava/lang/String;" .null := D19 (Or.inr (hw _ (List.mem_of_getElem? (i := 106) rfl))) (ty := (.object "java/lang/String")) (by decide)
  have F_line_b19 : Fld Z h19 b19 "com/example/uneven_ticks/uneventicks/check/TraceEvent" "line" "Ljava/lang/String;" .null := D19 (Or.inr (hw _ (List.mem_of_getElem? (i := 108) rfl))) (ty := (.object "java/lang/String")) (by decide)
  have F_attributeBounds_b19 : Fld Z h19 b19 "com/example/uneven_ticks/uneventicks/check/TraceEvent" "attributeBounds" "[I" .null := D19 (Or.inr (hw _ (List.mem_of_getElem? (i := 110) rfl))) (ty := (.array .int)) (by decide)
  have F_attributeCount_b19 : Fld Z h19 b19 "com/example/uneven_ticks/uneventicks/check/TraceEvent" "attributeCount" "I" (.int (0 : Int32)) := D19 (Or.inr (hw _ (List.mem_of_getElem? (i := 112) rfl))) (ty := .int) (by decide)
  have wS : ∀ d ∈ Bundle.stringAtoms, d.before A0 Z = true := by
    intro d hd
    simp only [Bundle.stringAtoms, List.mem_cons, List.not_mem_nil, or_false] at hd
    rcases hd with rfl | rfl | rfl | rfl | rfl | rfl | rfl
    · exact (hw _ (List.mem_of_getElem? (i := 5) rfl))
    · exact (hw _ (List.mem_of_getElem? (i := 6) rfl))
    · exact (hw _ (List.mem_of_getElem? (i := 7) rfl))
    · exact (hw _ (List.mem_of_getElem? (i := 8) rfl))
    · exact (hw _ (List.mem_of_getElem? (i := 9) rfl))
    · exact (hw _ (List.mem_of_getElem? (i := 10) rfl))
    · exact (hw _ (List.mem_of_getElem? (i := 11) rfl))
  have SI0 : s.Since s.vm 0 := State.WarmedH.since (State.WarmedH.refl s) 0
  have X21 : Stand p l e room_1 (s.setVm s.vm) m #[(.int p0), (.int p1), (.int p2), (.int p3), (.int p4), (.int p5)] below meth c T19 _ 1 8 := X19
  have LE0 : 0 ≤ h19.size := Nat.zero_le _
  obtain ⟨as22, T22, h22, k22, bs22, kk22, X22, e22, E22, SI22, LE22, hZ22, hown22, Es22, Fc22, Fv22, Av22, -, -, CHc22, -, sf22, st22⟩ := ldcCH (EL := consts_1) X21 hx hZ hown (hw _ (List.mem_of_getElem? (i := 4) rfl)) wS e19 SI0 LE0 hEL (List.mem_of_getElem? (i := 1) rfl) CH20.1 (vs := [.int 49]) (z := 1) ⟨by decide, rfl⟩ (by decide) rfl (g := (mkF m 143 #[.val (.int p0), .val (.int p1), .val (.int p2), .val (.int p3), .val (.int p4), .val (.int p5), .val (.int v1), .val (.int v2), .val (.int v3), .val (.int v4), .val (.int v5), .val (.int v7), .val (.int v9), .val (.int v11), .val (.int v13), .val (.int v15), .val (.int v17), .val (.int v18), .unset, .unset, .unset, .unset, .unset, .unset, .unset, .unset, .unset, .unset] [(.ref b19), (.ref b19)])) rfl (hb hby at_143) (n := 4) (by decide) (by decide) (by decide) (by decide)
  have K22 : Keep h0 h22 [] := K19.ext E22
  have CH22 := CH20.trans CHc22
  have V22 : AF Z h22 bs22 .byte 1 (fun j => .int ((fun _ => (49 : Int32)) j)) := own_arv1 Av22
  obtain ⟨as23, T23, h23, k23, bs23, kk23, X23, e23, E23, SI23, LE23, hZ23, hown23, Es23, Fc23, Fv23, Av23, -, -, CHc23, -, sf23, st23⟩ := ldcCH (EL := consts_1) X22 hx hZ22 hown22 (hw _ (List.mem_of_getElem? (i := 12) rfl)) wS e22 SI22 LE22 hEL (List.mem_of_getElem? (i := 2) rfl) CH22.1 (vs := [.int 97]) (z := 1) ⟨by decide, rfl⟩ (by decide) rfl (g := (mkF m 145 #[.val (.int p0), .val (.int p1), .val (.int p2), .val (.int p3), .val (.int p4), .val (.int p5), .val (.int v1), .val (.int v2), .val (.int v3), .val (.int v4), .val (.int v5), .val (.int v7), .val (.int v9), .val (.int v11), .val (.int v13), .val (.int v15), .val (.int v17), .val (.int v18), .unset, .unset, .unset, .unset, .unset, .unset, .unset, .unset, .unset, .unset] [(.ref as22), (.ref b19), (.ref b19)])) rfl (hb hby at_145) (n := 4) (by decide) (by decide) (by decide) (by decide)
  have K23 : Keep h0 h23 [] := K22.ext E23
  have CH23 := CH22.trans CHc23
  have V23 : AF Z h23 bs23 .byte 1 (fun j => .int ((fun _ => (97 : Int32)) j)) := own_arv1 Av23
  have G24 : Exa Z h23 b19 "com/example/uneven_ticks/uneventicks/check/TraceEvent" := ((A19.ext E22).ext E23)
  have G25 : Fld Z h23 b19 "com/example/uneven_ticks/uneventicks/check/TraceEvent" "writtenTime" "Lcom/example/uneven_ticks/uneventicks/check/DecimalText;" .null := ((F_writtenTime_b19.ext E22).ext E23)
  have G26 : Fld Z h23 b19 "com/example/uneven_ticks/uneventicks/check/TraceEvent" "name" "Ljava/lang/String;" .null := ((F_name_b19.ext E22).ext E23)
  have G27 : Fld Z h23 b19 "com/example/uneven_ticks/uneventicks/check/TraceEvent" "line" "Ljava/lang/String;" .null := ((F_line_b19.ext E22).ext E23)
  have G28 : Fld Z h23 b19 "com/example/uneven_ticks/uneventicks/check/TraceEvent" "attributeBounds" "[I" .null := ((F_attributeBounds_b19.ext E22).ext E23)
  have G29 : Fld Z h23 b19 "com/example/uneven_ticks/uneventicks/check/TraceEvent" "attributeCount" "I" (.int (0 : Int32)) := ((F_attributeCount_b19.ext E22).ext E23)
  have G30 : Exa Z h23 as22 "java/lang/String" := (Es22.ext E23)
  have G31 : Fld Z h23 as22 "java/lang/String" "value" "[B" (.ref bs22) := (Fv22.ext E23)
  have G32 : Fld Z h23 as22 "java/lang/String" "coder" "B" (.int (0 : Int32)) := (Fc22.ext E23)
  have G33 : AF Z h23 bs22 .byte 1 (fun j => .int ((fun _ => (49 : Int32)) j)) := (V22.ext E23)
  have G34 : SO Z n0 h23 "java/lang/String" "COMPACT_STRINGS" "Z" (.int s_COMPACT_STRINGS) := (((S_COMPACT_STRINGS.ext E19).ext E22).ext E23)
  have G35 : SO Z n0 h23 "jdk/internal/util/Preconditions" "SIOOBE_FORMATTER" "Ljava/util/function/BiFunction;" s_SIOOBE_FORMATTER := (((S_SIOOBE_FORMATTER.ext E19).ext E22).ext E23)
  have hp36 : (fun _ => (49 : Int32)) 0 = (49 : Int32) ∨ (fun _ => (49 : Int32)) 0 = (50 : Int32) ∨ (fun _ => (49 : Int32)) 0 = (51 : Int32) := Or.inl rfl
  obtain ⟨_, _, ⟨T37, L37, k37, n37⟩, -, X37a, SI37a, ge37, ⟨Lc37, hQ37, l37, y37, z37, CHc37⟩, st37⟩ := X23.specialBackS hx (y := (⟨"com/example/uneven_ticks/uneventicks/check/TraceEvent", "<init>", "(Ljava/lang/String;Ljava/lang/String;Ljava/lang/String;[II)V"⟩ : MethodName)) rfl hown23 (mvT hZ23 (hw _ (List.mem_of_getElem? (i := 13) rfl))) (mvT hZ23 (hw _ (List.mem_of_getElem? (i := 14) rfl))) (mvT hZ23 (hw _ (List.mem_of_getElem? (i := 15) rfl))) (by decide) (backOfSH (EL := consts_1) (W := 1) (rm1 l Z A0 hw [] b19 as22 as23 .null .null .null .null (0 : Int32) bs22 (fun _ => (49 : Int32)) s_COMPACT_STRINGS s_SIOOBE_FORMATTER h23 n0 (Nat.le_trans Z0 K23.1) G24 G25 G26 G27 G28 G29 G30 G31 G32 G33 G34 G35 nw_b19 hEL hp36 rf_s_SIOOBE_FORMATTER hc3_6_6_3_3_6_150) hZ23 (hw _ (List.mem_of_getElem? (i := 15) rfl)) (hw _ (List.mem_of_getElem? (i := 3) rfl)) (by decide) (by decide) hEL CH23.1) (g := (mkF m 150 #[.val (.int p0), .val (.int p1), .val (.int p2), .val (.int p3), .val (.int p4), .val (.int p5), .val (.int v1), .val (.int v2), .val (.int v3), .val (.int v4), .val (.int v5), .val (.int v7), .val (.int v9), .val (.int v11), .val (.int v13), .val (.int v15), .val (.int v17), .val (.int v18), .unset, .unset, .unset, .unset, .unset, .unset, .unset, .unset, .unset, .unset] [(.int (0 : Int32)), .null, .null, (.ref as23), (.ref as22), (.ref b19), (.ref b19)])) rfl (by rw [hml]; rfl) (Steps.refl _) (a := b19) (argsL := [(.ref as22), (.ref as23), .null, .null, (.int (0 : Int32))]) (rest := [(.ref b19)]) (lenOf pd_0 rfl) rfl (by show 2 * 0 + _ ≤ _; exact Nat.le_of_eq rfl) (hb hby at_150) (fun _ _ => ⟨rfl, e23, (by decide : 5 + 3 ≤ _), (by decide : 24 + 14 ≤ _)⟩)
  obtain ⟨X37, SI37, hZ37, hown37⟩ := rebS SI23 (by rw [e23]; exact LE23) X37a SI37a ge37 hZ23 hown23
  dsimp only [Pt.U, Pt.locs, Pt.cells, Pt.slots] at X37 l37 y37 z37 st37 hQ37 CHc37 SI37 hZ37 hown37
  subst l37 y37 z37
  obtain ⟨b37_b4_b15, rfl, N37q, Kc37, szb37_b4_b15⟩ := hQ37
  have ne_b19_b37_b4_b15 : b19 ≠ b37_b4_b15 := Nat.ne_of_lt (Nat.lt_of_lt_of_le G24.lt szb37_b4_b15)
  have ne_as22_b37_b4_b15 : as22 ≠ b37_b4_b15 := Nat.ne_of_lt (Nat.lt_of_lt_of_le G30.lt szb37_b4_b15)
  have ne_bs22_b37_b4_b15 : bs22 ≠ b37_b4_b15 := Nat.ne_of_lt (Nat.lt_of_lt_of_le G33.lt szb37_b4_b15)
  have ne_as23_b37_b4_b15 : as23 ≠ b37_b4_b15 := Nat.ne_of_lt (Nat.lt_of_lt_of_le Es23.lt szb37_b4_b15)
  have ne_bs23_b37_b4_b15 : bs23 ≠ b37_b4_b15 := Nat.ne_of_lt (Nat.lt_of_lt_of_le V23.lt szb37_b4_b15)
  have nw_b37_b4_b15 : n0 ≤ b37_b4_b15 := Nat.le_trans (Nat.le_trans Z0 K23.1) szb37_b4_b15
  have sq_b37_b4_b15 : h0.size ≤ b37_b4_b15 := Nat.le_trans K23.1 szb37_b4_b15
  have K37 : Keep h0 T37.heap [] := K23.trans Kc37 (allS (Or.inr sz_b19) all0)
  have CH37 := CH23.trans CHc37
  have LE37 : T37.heap.size ≤ T37.heap.size := Nat.le_refl _
  have N37 := Fr.app N0 N37q
  obtain ⟨T38, h38, X38, e38, E38, A38, D38, -, st38⟩ := newO X37 hx hZ37 hown37 (hw _ (List.mem_of_getElem? (i := 1) rfl)) (hw _ (List.mem_of_getElem? (i := 2) rfl)) (hw _ (List.mem_of_getElem? (i := 3) rfl)) rfl (g := (mkF m 155 #[.val (.int p0), .val (.int p1), .val (.int p2), .val (.int p3), .val (.int p4), .val (.int p5), .val (.int v1), .val (.int v2), .val (.int v3), .val (.int v4), .val (.int v5), .val (.int v7), .val (.int v9), .val (.int v11), .val (.int v13), .val (.int v15), .val (.int v17), .val (.int v18), .val (.ref b19), .unset, .unset, .unset, .unset, .unset, .unset, .unset, .unset, .unset] [])) rfl (hb hby at_155) (by decide) (by decide)
  obtain ⟨b38, g38⟩ : ∃ z, z = T37.heap.size := ⟨_, rfl⟩
  rw [← g38] at A38 D38 st38
  have G39 : Exa Z T37.heap b19 "com/example/uneven_ticks/uneventicks/check/TraceEvent" := (G24.keep Kc37)
  have ne_b19_b38 : b19 ≠ b38 := Nat.ne_of_lt (Nat.lt_of_lt_of_le G39.lt (Nat.le_of_eq g38.symm))
  have nw_b38 : n0 ≤ b38 := Nat.le_trans (Nat.le_trans Z0 K37.1) (Nat.le_of_eq g38.symm)
  have sz_b38 : h0.size ≤ b38 := Nat.le_trans K37.1 (Nat.le_of_eq g38.symm)
  have K38 : Keep h0 h38 [] := K37.ext E38
  have CH40 := CH37.trans (CHr.ext E38 CH37.1)
  have F_writtenTime_b38 : Fld Z h38 b38 "com/example/uneven_ticks/uneventicks/check/TraceEvent" "writtenTime" "Lcom/example/uneven_ticks/uneventicks/check/DecimalText;" .null := D38 (Or.inr (hw _ (List.mem_of_getElem? (i := 104) rfl))) (ty := (.object "com/example/uneven_ticks/uneventicks/check/DecimalText")) (by decide)
  have F_name_b38 : Fld Z h38 b38 "com/example/uneven_ticks/uneventicks/check/TraceEvent" "name" "Ljava/lang/String;" .null := D38 (Or.inr (hw _ (List.mem_of_getElem? (i := 106) rfl))) (ty := (.object "java/lang/String")) (by decide)
  have F_line_b38 : Fld Z h38 b38 "com/example/uneven_ticks/uneventicks/check/TraceEvent" "line" "Ljava/lang/String;" .null := D38 (Or.inr (hw _ (List.mem_of_getElem? (i := 108) rfl))) (ty := (.object "java/lang/String")) (by decide)
  have F_attributeBounds_b38 : Fld Z h38 b38 "com/example/uneven_ticks/uneventicks/check/TraceEvent" "attributeBounds" "[I" .null := D38 (Or.inr (hw _ (List.mem_of_getElem? (i := 110) rfl))) (ty := (.array .int)) (by decide)
  have F_attributeCount_b38 : Fld Z h38 b38 "com/example/uneven_ticks/uneventicks/check/TraceEvent" "attributeCount" "I" (.int (0 : Int32)) := D38 (Or.inr (hw _ (List.mem_of_getElem? (i := 112) rfl))) (ty := .int) (by decide)
  have G41 : T37.heap.size ≤ h38.size := (Nat.le_trans LE37 E38.1)
  obtain ⟨as42, T42, h42, k42, bs42, kk42, X42, e42, E42, SI42, LE42, hZ42, hown42, Es42, Fc42, Fv42, Av42, -, -, CHc42, -, sf42, st42⟩ := ldcCH (EL := consts_1) X38 hx hZ37 hown37 (hw _ (List.mem_of_getElem? (i := 113) rfl)) wS e38 SI37 G41 hEL (List.mem_of_getElem? (i := 3) rfl) CH40.1 (vs := [.int 50]) (z := 1) ⟨by decide, rfl⟩ (by decide) rfl (g := (mkF m 159 #[.val (.int p0), .val (.int p1), .val (.int p2), .val (.int p3), .val (.int p4), .val (.int p5), .val (.int v1), .val (.int v2), .val (.int v3), .val (.int v4), .val (.int v5), .val (.int v7), .val (.int v9), .val (.int v11), .val (.int v13), .val (.int v15), .val (.int v17), .val (.int v18), .val (.ref b19), .unset, .unset, .unset, .unset, .unset, .unset, .unset, .unset, .unset] [(.ref b38), (.ref b38)])) rfl (hb hby at_159) (n := 4) (by decide) (by decide) (by decide) (by decide)
  have K42 : Keep h0 h42 [] := K38.ext E42
  have CH42 := CH40.trans CHc42
  have V42 : AF Z h42 bs42 .byte 1 (fun j => .int ((fun _ => (50 : Int32)) j)) := own_arv1 Av42
  obtain ⟨as43, T43, h43, k43, bs43, kk43, X43, e43, E43, SI43, LE43, hZ43, hown43, Es43, Fc43, Fv43, Av43, -, -, CHc43, -, sf43, st43⟩ := ldcCH (EL := consts_1) X42 hx hZ42 hown42 (hw _ (List.mem_of_getElem? (i := 114) rfl)) wS e42 SI42 LE42 hEL (List.mem_of_getElem? (i := 4) rfl) CH42.1 (vs := [.int 98]) (z := 1) ⟨by decide, rfl⟩ (by decide) rfl (g := (mkF m 161 #[.val (.int p0), .val (.int p1), .val (.int p2), .val (.int p3), .val (.int p4), .val (.int p5), .val (.int v1), .val (.int v2), .val (.int v3), .val (.int v4), .val (.int v5), .val (.int v7), .val (.int v9), .val (.int v11), .val (.int v13), .val (.int v15), .val (.int v17), .val (.int v18), .val (.ref b19), .unset, .unset, .unset, .unset, .unset, .unset, .unset, .unset, .unset] [(.ref as42), (.ref b38), (.ref b38)])) rfl (hb hby at_161) (n := 4) (by decide) (by decide) (by decide) (by decide)
  have K43 : Keep h0 h43 [] := K42.ext E43
  have CH43 := CH42.trans CHc43
  have V43 : AF Z h43 bs43 .byte 1 (fun j => .int ((fun _ => (98 : Int32)) j)) := own_arv1 Av43
  have G44 : Exa Z h43 b38 "com/example/uneven_ticks/uneventicks/check/TraceEvent" := ((A38.ext E42).ext E43)
  have G45 : Fld Z h43 b38 "com/example/uneven_ticks/uneventicks/check/TraceEvent" "writtenTime" "Lcom/example/uneven_ticks/uneventicks/check/DecimalText;" .null := ((F_writtenTime_b38.ext E42).ext E43)
  have G46 : Fld Z h43 b38 "com/example/uneven_ticks/uneventicks/check/TraceEvent" "name" "Ljava/lang/String;" .null := ((F_name_b38.ext E42).ext E43)
  have G47 : Fld Z h43 b38 "com/example/uneven_ticks/uneventicks/check/TraceEvent" "line" "Ljava/lang/String;" .null := ((F_line_b38.ext E42).ext E43)
  have G48 : Fld Z h43 b38 "com/example/uneven_ticks/uneventicks/check/TraceEvent" "attributeBounds" "[I" .null := ((F_attributeBounds_b38.ext E42).ext E43)
  have G49 : Fld Z h43 b38 "com/example/uneven_ticks/uneventicks/check/TraceEvent" "attributeCount" "I" (.int (0 : Int32)) := ((F_attributeCount_b38.ext E42).ext E43)
  have G50 : Exa Z h43 as42 "java/lang/String" := (Es42.ext E43)
  have G51 : Fld Z h43 as42 "java/lang/String" "value" "[B" (.ref bs42) := (Fv42.ext E43)
  have G52 : Fld Z h43 as42 "java/lang/String" "coder" "B" (.int (0 : Int32)) := (Fc42.ext E43)
  have G53 : AF Z h43 bs42 .byte 1 (fun j => .int ((fun _ => (50 : Int32)) j)) := (V42.ext E43)
  have G54 : SO Z n0 h43 "java/lang/String" "COMPACT_STRINGS" "Z" (.int s_COMPACT_STRINGS) := ((((G34.keep Kc37 (allS nw_b19 all0)).ext E38).ext E42).ext E43)
  have G55 : SO Z n0 h43 "jdk/internal/util/Preconditions" "SIOOBE_FORMATTER" "Ljava/util/function/BiFunction;" s_SIOOBE_FORMATTER := ((((G35.keep Kc37 (allS nw_b19 all0)).ext E38).ext E42).ext E43)
  have hp56 : (fun _ => (50 : Int32)) 0 = (49 : Int32) ∨ (fun _ => (50 : Int32)) 0 = (50 : Int32) ∨ (fun _ => (50 : Int32)) 0 = (51 : Int32) := Or.inr (Or.inl rfl)
  obtain ⟨_, _, ⟨T57, L57, k57, n57⟩, -, X57a, SI57a, ge57, ⟨Lc57, hQ57, l57, y57, z57, CHc57⟩, st57⟩ := X43.specialBackS hx (y := (⟨"com/example/uneven_ticks/uneventicks/check/TraceEvent", "<init>", "(Ljava/lang/String;Ljava/lang/String;Ljava/lang/String;[II)V"⟩ : MethodName)) rfl hown43 (mvT hZ43 (hw _ (List.mem_of_getElem? (i := 13) rfl))) (mvT hZ43 (hw _ (List.mem_of_getElem? (i := 14) rfl))) (mvT hZ43 (hw _ (List.mem_of_getElem? (i := 15) rfl))) (by decide) (backOfSH (EL := consts_1) (W := 1) (rm1 l Z A0 hw [] b38 as42 as43 .null .null .null .null (0 : Int32) bs42 (fun _ => (50 : Int32)) s_COMPACT_STRINGS s_SIOOBE_FORMATTER h43 n0 (Nat.le_trans Z0 K43.1) G44 G45 G46 G47 G48 G49 G50 G51 G52 G53 G54 G55 nw_b38 hEL hp56 rf_s_SIOOBE_FORMATTER hc3_6_6_3_3_6_150) hZ43 (hw _ (List.mem_of_getElem? (i := 15) rfl)) (hw _ (List.mem_of_getElem? (i := 3) rfl)) (by decide) (by decide) hEL CH43.1) (g := (mkF m 166 #[.val (.int p0), .val (.int p1), .val (.int p2), .val (.int p3), .val (.int p4), .val (.int p5), .val (.int v1), .val (.int v2), .val (.int v3), .val (.int v4), .val (.int v5), .val (.int v7), .val (.int v9), .val (.int v11), .val (.int v13), .val (.int v15), .val (.int v17), .val (.int v18), .val (.ref b19), .unset, .unset, .unset, .unset, .unset, .unset, .unset, .unset, .unset] [(.int (0 : Int32)), .null, .null, (.ref as43), (.ref as42), (.ref b38), (.ref b38)])) rfl (by rw [hml]; rfl) (Steps.refl _) (a := b38) (argsL := [(.ref as42), (.ref as43), .null, .null, (.int (0 : Int32))]) (rest := [(.ref b38)]) (lenOf pd_0 rfl) rfl (by show 2 * 0 + _ ≤ _; exact Nat.le_of_eq rfl) (hb hby at_166) (fun _ _ => ⟨rfl, e43, (by decide : 13 + 3 ≤ _), (by decide : 62 + 14 ≤ _)⟩)
  obtain ⟨X57, SI57, hZ57, hown57⟩ := rebS SI43 (by rw [e43]; exact LE43) X57a SI57a ge57 hZ43 hown43
  dsimp only [Pt.U, Pt.locs, Pt.cells, Pt.slots] at X57 l57 y57 z57 st57 hQ57 CHc57 SI57 hZ57 hown57
  subst l57 y57 z57
  have G58 : Exa Z h43 b19 "com/example/uneven_ticks/uneventicks/check/TraceEvent" := (((G39.ext E38).ext E42).ext E43)
  obtain ⟨b57_b4_b15, rfl, N57q, Kc57, szb57_b4_b15⟩ := hQ57
  have ne_b19_b57_b4_b15 : b19 ≠ b57_b4_b15 := Nat.ne_of_lt (Nat.lt_of_lt_of_le G58.lt szb57_b4_b15)
  have ne_b38_b57_b4_b15 : b38 ≠ b57_b4_b15 := Nat.ne_of_lt (Nat.lt_of_lt_of_le G44.lt szb57_b4_b15)
  have ne_as42_b57_b4_b15 : as42 ≠ b57_b4_b15 := Nat.ne_of_lt (Nat.lt_of_lt_of_le G50.lt szb57_b4_b15)
  have ne_bs42_b57_b4_b15 : bs42 ≠ b57_b4_b15 := Nat.ne_of_lt (Nat.lt_of_lt_of_le G53.lt szb57_b4_b15)
  have ne_as43_b57_b4_b15 : as43 ≠ b57_b4_b15 := Nat.ne_of_lt (Nat.lt_of_lt_of_le Es43.lt szb57_b4_b15)
  have ne_bs43_b57_b4_b15 : bs43 ≠ b57_b4_b15 := Nat.ne_of_lt (Nat.lt_of_lt_of_le V43.lt szb57_b4_b15)
  have nw_b57_b4_b15 : n0 ≤ b57_b4_b15 := Nat.le_trans (Nat.le_trans Z0 K43.1) szb57_b4_b15
  have sq_b57_b4_b15 : h0.size ≤ b57_b4_b15 := Nat.le_trans K43.1 szb57_b4_b15
  have K57 : Keep h0 T57.heap [] := K43.trans Kc57 (allS (Or.inr sz_b38) all0)
  have CH57 := CH43.trans CHc57
  have LE57 : T57.heap.size ≤ T57.heap.size := Nat.le_refl _
  have N57 := Fr.app N37 N57q
  obtain ⟨T59, h59, X59, e59, E59, A59, D59, -, st59⟩ := newO X57 hx hZ57 hown57 (hw _ (List.mem_of_getElem? (i := 1) rfl)) (hw _ (List.mem_of_getElem? (i := 2) rfl)) (hw _ (List.mem_of_getElem? (i := 3) rfl)) rfl (g := (mkF m 171 #[.val (.int p0), .val (.int p1), .val (.int p2), .val (.int p3), .val (.int p4), .val (.int p5), .val (.int v1), .val (.int v2), .val (.int v3), .val (.int v4), .val (.int v5), .val (.int v7), .val (.int v9), .val (.int v11), .val (.int v13), .val (.int v15), .val (.int v17), .val (.int v18), .val (.ref b19), .val (.ref b38), .unset, .unset, .unset, .unset, .unset, .unset, .unset, .unset] [])) rfl (hb hby at_171) (by decide) (by decide)
  obtain ⟨b59, g59⟩ : ∃ z, z = T57.heap.size := ⟨_, rfl⟩
  rw [← g59] at A59 D59 st59
  have G60 : Exa Z T57.heap b19 "com/example/uneven_ticks/uneventicks/check/TraceEvent" := (G58.keep Kc57)
  have ne_b19_b59 : b19 ≠ b59 := Nat.ne_of_lt (Nat.lt_of_lt_of_le G60.lt (Nat.le_of_eq g59.symm))
  have G61 : Exa Z T57.heap b38 "com/example/uneven_ticks/uneventicks/check/TraceEvent" := (G44.keep Kc57)
  have ne_b38_b59 : b38 ≠ b59 := Nat.ne_of_lt (Nat.lt_of_lt_of_le G61.lt (Nat.le_of_eq g59.symm))
  have nw_b59 : n0 ≤ b59 := Nat.le_trans (Nat.le_trans Z0 K57.1) (Nat.le_of_eq g59.symm)
  have sz_b59 : h0.size ≤ b59 := Nat.le_trans K57.1 (Nat.le_of_eq g59.symm)
  have K59 : Keep h0 h59 [] := K57.ext E59
  have CH62 := CH57.trans (CHr.ext E59 CH57.1)
  have F_writtenTime_b59 : Fld Z h59 b59 "com/example/uneven_ticks/uneventicks/check/TraceEvent" "writtenTime" "Lcom/example/uneven_ticks/uneventicks/check/DecimalText;" .null := D59 (Or.inr (hw _ (List.mem_of_getElem? (i := 104) rfl))) (ty := (.object "com/example/uneven_ticks/uneventicks/check/DecimalText")) (by decide)
  have F_name_b59 : Fld Z h59 b59 "com/example/uneven_ticks/uneventicks/check/TraceEvent" "name" "Ljava/lang/String;" .null := D59 (Or.inr (hw _ (List.mem_of_getElem? (i := 106) rfl))) (ty := (.object "java/lang/String")) (by decide)
  have F_line_b59 : Fld Z h59 b59 "com/example/uneven_ticks/uneventicks/check/TraceEvent" "line" "Ljava/lang/String;" .null := D59 (Or.inr (hw _ (List.mem_of_getElem? (i := 108) rfl))) (ty := (.object "java/lang/String")) (by decide)
  have F_attributeBounds_b59 : Fld Z h59 b59 "com/example/uneven_ticks/uneventicks/check/TraceEvent" "attributeBounds" "[I" .null := D59 (Or.inr (hw _ (List.mem_of_getElem? (i := 110) rfl))) (ty := (.array .int)) (by decide)
  have F_attributeCount_b59 : Fld Z h59 b59 "com/example/uneven_ticks/uneventicks/check/TraceEvent" "attributeCount" "I" (.int (0 : Int32)) := D59 (Or.inr (hw _ (List.mem_of_getElem? (i := 112) rfl))) (ty := .int) (by decide)
  have G63 : T57.heap.size ≤ h59.size := (Nat.le_trans LE57 E59.1)
  obtain ⟨as64, T64, h64, k64, bs64, kk64, X64, e64, E64, SI64, LE64, hZ64, hown64, Es64, Fc64, Fv64, Av64, -, -, CHc64, -, sf64, st64⟩ := ldcCH (EL := consts_1) X59 hx hZ57 hown57 (hw _ (List.mem_of_getElem? (i := 115) rfl)) wS e59 SI57 G63 hEL (List.mem_of_getElem? (i := 5) rfl) CH62.1 (vs := [.int 51]) (z := 1) ⟨by decide, rfl⟩ (by decide) rfl (g := (mkF m 175 #[.val (.int p0), .val (.int p1), .val (.int p2), .val (.int p3), .val (.int p4), .val (.int p5), .val (.int v1), .val (.int v2), .val (.int v3), .val (.int v4), .val (.int v5), .val (.int v7), .val (.int v9), .val (.int v11), .val (.int v13), .val (.int v15), .val (.int v17), .val (.int v18), .val (.ref b19), .val (.ref b38), .unset, .unset, .unset, .unset, .unset, .unset, .unset, .unset] [(.ref b59), (.ref b59)])) rfl (hb hby at_175) (n := 4) (by decide) (by decide) (by decide) (by decide)
  have K64 : Keep h0 h64 [] := K59.ext E64
  have CH64 := CH62.trans CHc64
  have V64 : AF Z h64 bs64 .byte 1 (fun j => .int ((fun _ => (51 : Int32)) j)) := own_arv1 Av64
  obtain ⟨as65, T65, h65, k65, bs65, kk65, X65, e65, E65, SI65, LE65, hZ65, hown65, Es65, Fc65, Fv65, Av65, -, -, CHc65, -, sf65, st65⟩ := ldcCH (EL := consts_1) X64 hx hZ64 hown64 (hw _ (List.mem_of_getElem? (i := 116) rfl)) wS e64 SI64 LE64 hEL (List.mem_of_getElem? (i := 6) rfl) CH64.1 (vs := [.int 99]) (z := 1) ⟨by decide, rfl⟩ (by decide) rfl (g := (mkF m 177 #[.val (.int p0), .val (.int p1), .val (.int p2), .val (.int p3), .val (.int p4), .val (.int p5), .val (.int v1), .val (.int v2), .val (.int v3), .val (.int v4), .val (.int v5), .val (.int v7), .val (.int v9), .val (.int v11), .val (.int v13), .val (.int v15), .val (.int v17), .val (.int v18), .val (.ref b19), .val (.ref b38), .unset, .unset, .unset, .unset, .unset, .unset, .unset, .unset] [(.ref as64), (.ref b59), (.ref b59)])) rfl (hb hby at_177) (n := 4) (by decide) (by decide) (by decide) (by decide)
  have K65 : Keep h0 h65 [] := K64.ext E65
  have CH65 := CH64.trans CHc65
  have V65 : AF Z h65 bs65 .byte 1 (fun j => .int ((fun _ => (99 : Int32)) j)) := own_arv1 Av65
  have G66 : Exa Z h65 b59 "com/example/uneven_ticks/uneventicks/check/TraceEvent" := ((A59.ext E64).ext E65)
  have G67 : Fld Z h65 b59 "com/example/uneven_ticks/uneventicks/check/TraceEvent" "writtenTime" "Lcom/example/uneven_ticks/uneventicks/check/DecimalText;" .null := ((F_writtenTime_b59.ext E64).ext E65)
  have G68 : Fld Z h65 b59 "com/example/uneven_ticks/uneventicks/check/TraceEvent" "name" "Ljava/lang/String;" .null := ((F_name_b59.ext E64).ext E65)
  have G69 : Fld Z h65 b59 "com/example/uneven_ticks/uneventicks/check/TraceEvent" "line" "Ljava/lang/String;" .null := ((F_line_b59.ext E64).ext E65)
  have G70 : Fld Z h65 b59 "com/example/uneven_ticks/uneventicks/check/TraceEvent" "attributeBounds" "[I" .null := ((F_attributeBounds_b59.ext E64).ext E65)
  have G71 : Fld Z h65 b59 "com/example/uneven_ticks/uneventicks/check/TraceEvent" "attributeCount" "I" (.int (0 : Int32)) := ((F_attributeCount_b59.ext E64).ext E65)
  have G72 : Exa Z h65 as64 "java/lang/String" := (Es64.ext E65)
  have G73 : Fld Z h65 as64 "java/lang/String" "value" "[B" (.ref bs64) := (Fv64.ext E65)
  have G74 : Fld Z h65 as64 "java/lang/String" "coder" "B" (.int (0 : Int32)) := (Fc64.ext E65)
  have G75 : AF Z h65 bs64 .byte 1 (fun j => .int ((fun _ => (51 : Int32)) j)) := (V64.ext E65)
  have G76 : SO Z n0 h65 "java/lang/String" "COMPACT_STRINGS" "Z" (.int s_COMPACT_STRINGS) := ((((G54.keep Kc57 (allS nw_b38 all0)).ext E59).ext E64).ext E65)
  have G77 : SO Z n0 h65 "jdk/internal/util/Preconditions" "SIOOBE_FORMATTER" "Ljava/util/function/BiFunction;" s_SIOOBE_FORMATTER := ((((G55.keep Kc57 (allS nw_b38 all0)).ext E59).ext E64).ext E65)
  have hp78 : (fun _ => (51 : Int32)) 0 = (49 : Int32) ∨ (fun _ => (51 : Int32)) 0 = (50 : Int32) ∨ (fun _ => (51 : Int32)) 0 = (51 : Int32) := Or.inr (Or.inr rfl)
  obtain ⟨_, _, ⟨T79, L79, k79, n79⟩, -, X79a, SI79a, ge79, ⟨Lc79, hQ79, l79, y79, z79, CHc79⟩, st79⟩ := X65.specialBackS hx (y := (⟨"com/example/uneven_ticks/uneventicks/check/TraceEvent", "<init>", "(Ljava/lang/String;Ljava/lang/String;Ljava/lang/String;[II)V"⟩ : MethodName)) rfl hown65 (mvT hZ65 (hw _ (List.mem_of_getElem? (i := 13) rfl))) (mvT hZ65 (hw _ (List.mem_of_getElem? (i := 14) rfl))) (mvT hZ65 (hw _ (List.mem_of_getElem? (i := 15) rfl))) (by decide) (backOfSH (EL := consts_1) (W := 1) (rm1 l Z A0 hw [] b59 as64 as65 .null .null .null .null (0 : Int32) bs64 (fun _ => (51 : Int32)) s_COMPACT_STRINGS s_SIOOBE_FORMATTER h65 n0 (Nat.le_trans Z0 K65.1) G66 G67 G68 G69 G70 G71 G72 G73 G74 G75 G76 G77 nw_b59 hEL hp78 rf_s_SIOOBE_FORMATTER hc3_6_6_3_3_6_150) hZ65 (hw _ (List.mem_of_getElem? (i := 15) rfl)) (hw _ (List.mem_of_getElem? (i := 3) rfl)) (by decide) (by decide) hEL CH65.1) (g := (mkF m 182 #[.val (.int p0), .val (.int p1), .val (.int p2), .val (.int p3), .val (.int p4), .val (.int p5), .val (.int v1), .val (.int v2), .val (.int v3), .val (.int v4), .val (.int v5), .val (.int v7), .val (.int v9), .val (.int v11), .val (.int v13), .val (.int v15), .val (.int v17), .val (.int v18), .val (.ref b19), .val (.ref b38), .unset, .unset, .unset, .unset, .unset, .unset, .unset, .unset] [(.int (0 : Int32)), .null, .null, (.ref as65), (.ref as64), (.ref b59), (.ref b59)])) rfl (by rw [hml]; rfl) (Steps.refl _) (a := b59) (argsL := [(.ref as64), (.ref as65), .null, .null, (.int (0 : Int32))]) (rest := [(.ref b59)]) (lenOf pd_0 rfl) rfl (by show 2 * 0 + _ ≤ _; exact Nat.le_of_eq rfl) (hb hby at_182) (fun _ _ => ⟨rfl, e65, (by decide : 21 + 3 ≤ _), (by decide : 100 + 14 ≤ _)⟩)
  obtain ⟨X79, SI79, hZ79, hown79⟩ := rebS SI65 (by rw [e65]; exact LE65) X79a SI79a ge79 hZ65 hown65
  dsimp only [Pt.U, Pt.locs, Pt.cells, Pt.slots] at X79 l79 y79 z79 st79 hQ79 CHc79 SI79 hZ79 hown79
  subst l79 y79 z79
  have G80 : Exa Z h65 b19 "com/example/uneven_ticks/uneventicks/check/TraceEvent" := (((G60.ext E59).ext E64).ext E65)
  have G81 : Exa Z h65 b38 "com/example/uneven_ticks/uneventicks/check/TraceEvent" := (((G61.ext E59).ext E64).ext E65)
  obtain ⟨b79_b4_b15, rfl, N79q, Kc79, szb79_b4_b15⟩ := hQ79
  have ne_b19_b79_b4_b15 : b19 ≠ b79_b4_b15 := Nat.ne_of_lt (Nat.lt_of_lt_of_le G80.lt szb79_b4_b15)
  have ne_b38_b79_b4_b15 : b38 ≠ b79_b4_b15 := Nat.ne_of_lt (Nat.lt_of_lt_of_le G81.lt szb79_b4_b15)
  have ne_b59_b79_b4_b15 : b59 ≠ b79_b4_b15 := Nat.ne_of_lt (Nat.lt_of_lt_of_le G66.lt szb79_b4_b15)
  have ne_as64_b79_b4_b15 : as64 ≠ b79_b4_b15 := Nat.ne_of_lt (Nat.lt_of_lt_of_le G72.lt szb79_b4_b15)
  have ne_bs64_b79_b4_b15 : bs64 ≠ b79_b4_b15 := Nat.ne_of_lt (Nat.lt_of_lt_of_le G75.lt szb79_b4_b15)
  have ne_as65_b79_b4_b15 : as65 ≠ b79_b4_b15 := Nat.ne_of_lt (Nat.lt_of_lt_of_le Es65.lt szb79_b4_b15)
  have ne_bs65_b79_b4_b15 : bs65 ≠ b79_b4_b15 := Nat.ne_of_lt (Nat.lt_of_lt_of_le V65.lt szb79_b4_b15)
  have nw_b79_b4_b15 : n0 ≤ b79_b4_b15 := Nat.le_trans (Nat.le_trans Z0 K65.1) szb79_b4_b15
  have sq_b79_b4_b15 : h0.size ≤ b79_b4_b15 := Nat.le_trans K65.1 szb79_b4_b15
  have K79 : Keep h0 T79.heap [] := K65.trans Kc79 (allS (Or.inr sz_b59) all0)
  have CH79 := CH65.trans CHc79
  have LE79 : T79.heap.size ≤ T79.heap.size := Nat.le_refl _
  have N79 := Fr.app N57 N79q
  obtain ⟨v85, hv85⟩ : ∃ z : Value, z = if v18 = (2 : Int32) then (.ref b38) else (.ref b59) := ⟨_, rfl⟩
  have rv85 : v85.isRef = true := by rw [hv85]; split <;> first | rfl | assumption
  obtain ⟨v86, hv86⟩ : ∃ z : Value, z = if v18 = (1 : Int32) then (.ref b19) else v85 := ⟨_, rfl⟩
  have rv86 : v86.isRef = true := by rw [hv86]; split <;> first | rfl | assumption
  obtain ⟨v87, hv87⟩ : ∃ z : Value, z = if v18 = (0 : Int32) then .null else v86 := ⟨_, rfl⟩
  have rv87 : v87.isRef = true := by rw [hv87]; split <;> first | rfl | assumption
  obtain ⟨T88, h88, X88, e88, E88, A88, D88, -, st88⟩ := newO X79 hx hZ79 hown79 (hw _ (List.mem_of_getElem? (i := 117) rfl)) (hw _ (List.mem_of_getElem? (i := 118) rfl)) (hw _ (List.mem_of_getElem? (i := 119) rfl)) rfl (g := (mkF m 222 #[.val (.int p0), .val (.int p1), .val (.int p2), .val (.int p3), .val (.int p4), .val (.int p5), .val (.int v1), .val (.int v2), .val (.int v3), .val (.int v4), .val (.int v5), .val (.int v7), .val (.int v9), .val (.int v11), .val (.int v13), .val (.int v15), .val (.int v17), .val (.int v18), .val (.ref b19), .val (.ref b38), .val (.ref b59), .val v87, .unset, .unset, .unset, .unset, .unset, .unset] [])) rfl (hb hby at_222) (by decide) (by decide)
  obtain ⟨b88, g88⟩ : ∃ z, z = T79.heap.size := ⟨_, rfl⟩
  rw [← g88] at A88 D88 st88
  have G89 : Exa Z T79.heap b19 "com/example/uneven_ticks/uneventicks/check/TraceEvent" := (G80.keep Kc79)
  have ne_b19_b88 : b19 ≠ b88 := Nat.ne_of_lt (Nat.lt_of_lt_of_le G89.lt (Nat.le_of_eq g88.symm))
  have G90 : Exa Z T79.heap b38 "com/example/uneven_ticks/uneventicks/check/TraceEvent" := (G81.keep Kc79)
  have ne_b38_b88 : b38 ≠ b88 := Nat.ne_of_lt (Nat.lt_of_lt_of_le G90.lt (Nat.le_of_eq g88.symm))
  have G91 : Exa Z T79.heap b59 "com/example/uneven_ticks/uneventicks/check/TraceEvent" := (G66.keep Kc79)
  have ne_b59_b88 : b59 ≠ b88 := Nat.ne_of_lt (Nat.lt_of_lt_of_le G91.lt (Nat.le_of_eq g88.symm))
  have nw_b88 : n0 ≤ b88 := Nat.le_trans (Nat.le_trans Z0 K79.1) (Nat.le_of_eq g88.symm)
  have sz_b88 : h0.size ≤ b88 := Nat.le_trans K79.1 (Nat.le_of_eq g88.symm)
  have K88 : Keep h0 h88 [] := K79.ext E88
  have F_boundEvent_b88 : Fld Z h88 b88 "com/example/uneven_ticks/uneventicks/check/Occurrences" "boundEvent" "I" (.int (0 : Int32)) := D88 (Or.inl (hw _ (List.mem_of_getElem? (i := 125) rfl))) (ty := .int) (by decide)
  have F_latest_b88 : Fld Z h88 b88 "com/example/uneven_ticks/uneventicks/check/Occurrences" "latest" "[Lcom/example/uneven_ticks/uneventicks/check/TraceEvent;" .null := D88 (Or.inr (hw _ (List.mem_of_getElem? (i := 129) rfl))) (ty := (.array (.object "com/example/uneven_ticks/uneventicks/check/TraceEvent"))) (by decide)
  have F_previous_b88 : Fld Z h88 b88 "com/example/uneven_ticks/uneventicks/check/Occurrences" "previous" "[Lcom/example/uneven_ticks/uneventicks/check/TraceEvent;" .null := D88 (Or.inr (hw _ (List.mem_of_getElem? (i := 131) rfl))) (ty := (.array (.object "com/example/uneven_ticks/uneventicks/check/TraceEvent"))) (by decide)
  have F_bound_b88 : Fld Z h88 b88 "com/example/uneven_ticks/uneventicks/check/Occurrences" "bound" "Lcom/example/uneven_ticks/uneventicks/check/TraceEvent;" .null := D88 (Or.inl (hw _ (List.mem_of_getElem? (i := 149) rfl))) (ty := (.object "com/example/uneven_ticks/uneventicks/check/TraceEvent")) (by decide)
  obtain ⟨_, _, ⟨T92, L92, k92, n92⟩, -, X92, ⟨Lc92, hQ92, l92, y92, z92⟩, st92⟩ := X88.specialBack hx (y := (⟨"com/example/uneven_ticks/uneventicks/check/Occurrences", "<init>", "(I)V"⟩ : MethodName)) rfl hown79 (mvT hZ79 (hw _ (List.mem_of_getElem? (i := 120) rfl))) (mvT hZ79 (hw _ (List.mem_of_getElem? (i := 121) rfl))) (mvT hZ79 (hw _ (List.mem_of_getElem? (i := 122) rfl))) (by decide) (backOf (W := 1) (rm18 l Z A0 hw [] b88 (0 : Int32) .null .null .null h88 n0 (Nat.le_trans Z0 K88.1) A88 F_boundEvent_b88 F_latest_b88 F_previous_b88 F_bound_b88 nw_b88) hZ79 (hw _ (List.mem_of_getElem? (i := 122) rfl)) (hw _ (List.mem_of_getElem? (i := 119) rfl)) (by decide) (by decide)) (g := (mkF m 227 #[.val (.int p0), .val (.int p1), .val (.int p2), .val (.int p3), .val (.int p4), .val (.int p5), .val (.int v1), .val (.int v2), .val (.int v3), .val (.int v4), .val (.int v5), .val (.int v7), .val (.int v9), .val (.int v11), .val (.int v13), .val (.int v15), .val (.int v17), .val (.int v18), .val (.ref b19), .val (.ref b38), .val (.ref b59), .val v87, .unset, .unset, .unset, .unset, .unset, .unset] [(.int (3 : Int32)), (.ref b88), (.ref b88)])) rfl (by rw [hml]; rfl) (Steps.refl _) (a := b88) (argsL := [(.int (3 : Int32))]) (rest := [(.ref b88)]) (lenOf pd_16 rfl) rfl (by show 2 * 0 + _ ≤ _; exact Nat.le_of_eq rfl) (hb hby at_227) (fun _ _ => ⟨rfl, e88, (by decide : 25 + 2 ≤ _), (by decide : 118 + 6 ≤ _)⟩)
  dsimp only [Pt.U, Pt.locs, Pt.cells, Pt.slots] at X92 l92 y92 z92 st92 hQ92
  subst l92 y92 z92
  have G102 : Exa Z h88 b19 "com/example/uneven_ticks/uneventicks/check/TraceEvent" := (G89.ext E88)
  have G103 : Exa Z h88 b38 "com/example/uneven_ticks/uneventicks/check/TraceEvent" := (G90.ext E88)
  have G104 : Exa Z h88 b59 "com/example/uneven_ticks/uneventicks/check/TraceEvent" := (G91.ext E88)
  obtain ⟨b92_b3, b92_b8, rfl, N92q, Kc92, szb92_b3, szb92_b8, ne_b92_b3_b92_b8, P93, P94, P95, P96, P97, P98, P99, P100, P101⟩ := hQ92
  have ne_b19_b92_b3 : b19 ≠ b92_b3 := Nat.ne_of_lt (Nat.lt_of_lt_of_le G102.lt szb92_b3)
  have ne_b38_b92_b3 : b38 ≠ b92_b3 := Nat.ne_of_lt (Nat.lt_of_lt_of_le G103.lt szb92_b3)
  have ne_b59_b92_b3 : b59 ≠ b92_b3 := Nat.ne_of_lt (Nat.lt_of_lt_of_le G104.lt szb92_b3)
  have ne_b88_b92_b3 : b88 ≠ b92_b3 := Nat.ne_of_lt (Nat.lt_of_lt_of_le A88.lt szb92_b3)
  have ne_b19_b92_b8 : b19 ≠ b92_b8 := Nat.ne_of_lt (Nat.lt_of_lt_of_le G102.lt szb92_b8)
  have ne_b38_b92_b8 : b38 ≠ b92_b8 := Nat.ne_of_lt (Nat.lt_of_lt_of_le G103.lt szb92_b8)
  have ne_b59_b92_b8 : b59 ≠ b92_b8 := Nat.ne_of_lt (Nat.lt_of_lt_of_le G104.lt szb92_b8)
  have ne_b88_b92_b8 : b88 ≠ b92_b8 := Nat.ne_of_lt (Nat.lt_of_lt_of_le A88.lt szb92_b8)
  have nw_b92_b3 : n0 ≤ b92_b3 := Nat.le_trans (Nat.le_trans Z0 K88.1) szb92_b3
  have sq_b92_b3 : h0.size ≤ b92_b3 := Nat.le_trans K88.1 szb92_b3
  have nw_b92_b8 : n0 ≤ b92_b8 := Nat.le_trans (Nat.le_trans Z0 K88.1) szb92_b8
  have sq_b92_b8 : h0.size ≤ b92_b8 := Nat.le_trans K88.1 szb92_b8
  have K92 : Keep h0 T92.heap [] := K88.trans Kc92 (allS (Or.inr sz_b88) all0)
  have N92 := Fr.app N79 N92q
  have M6 := own_mod3 _ v1 hv1
  have M7 := own_mod3 _ v2 hv2
  have M8 := own_mod3 _ v3 hv3
  have M10 := own_mod3 _ v5 hv5
  have VC : own_V3 b19 b38 b59 v87 := by
    rw [hv87]
    split
    · exact own_V3n _ _ _
    · rw [hv86]
      split
      · exact own_V31 _ _ _
      · rw [hv85]
        split
        · exact own_V32 _ _ _
        · exact own_V33 _ _ _
  have VL0 : ∀ j : Nat, own_V3 b19 b38 b59 ((fun _ => Value.null) j) := fun _ => own_V3n b19 b38 b59
  have ql0 : Value.null = (fun _ => Value.null) (v5).toNatClampNeg := rfl
  have ck106 : ∀ t, Steps p.tables e below (T92.setTop (mkF m 246 #[.val (.int p0), .val (.int p1), .val (.int p2), .val (.int p3), .val (.int p4), .val (.int p5), .val (.int v1), .val (.int v2), .val (.int v3), .val (.int v4), .val (.int v5), .val (.int v7), .val (.int v9), .val (.int v11), .val (.int v13), .val (.int v15), .val (.int v17), .val (.int v18), .val (.ref b19), .val (.ref b38), .val (.ref b59), .val v87, .val (.ref b88), .val .null, .val .null, .val (.int (-1 : Int32)), .val .null, .unset] [(.int v7)])) t → Steps p.tables e below (s₁.setTop (mkF m 0 #[.val (.int p0), .val (.int p1), .val (.int p2), .val (.int p3), .val (.int p4), .val (.int p5), .unset, .unset, .unset, .unset, .unset, .unset, .unset, .unset, .unset, .unset, .unset, .unset, .unset, .unset, .unset, .unset, .unset, .unset, .unset, .unset, .unset, .unset] [])) t := by
    intro t kt
    show Steps p.tables e below (s₁.setTop (mkF m 0 #[.val (.int p0), .val (.int p1), .val (.int p2), .val (.int p3), .val (.int p4), .val (.int p5), .unset, .unset, .unset, .unset, .unset, .unset, .unset, .unset, .unset, .unset, .unset, .unset, .unset, .unset, .unset, .unset, .unset, .unset, .unset, .unset, .unset, .unset] [])) _
    refine XS.iloadN X0.here hx rfl (hb hby at_0) rfl ?_
    show Steps p.tables e below (s₁.setTop (mkF m 1 #[.val (.int p0), .val (.int p1), .val (.int p2), .val (.int p3), .val (.int p4), .val (.int p5), .unset, .unset, .unset, .unset, .unset, .unset, .unset, .unset, .unset, .unset, .unset, .unset, .unset, .unset, .unset, .unset, .unset, .unset, .unset, .unset, .unset, .unset] [(.int p0)])) _
    refine X0.ldcInt hx hown (mvT hZ (hw _ (List.mem_of_getElem? (i := 0) rfl))) (g := (mkF m 1 #[.val (.int p0), .val (.int p1), .val (.int p2), .val (.int p3), .val (.int p4), .val (.int p5), .unset, .unset, .unset, .unset, .unset, .unset, .unset, .unset, .unset, .unset, .unset, .unset, .unset, .unset, .unset, .unset, .unset, .unset, .unset, .unset, .unset, .unset] [(.int p0)])) rfl (hb hby at_1) _ ?_
    show Steps p.tables e below (s₁.setTop (mkF m 3 #[.val (.int p0), .val (.int p1), .val (.int p2), .val (.int p3), .val (.int p4), .val (.int p5), .unset, .unset, .unset, .unset, .unset, .unset, .unset, .unset, .unset, .unset, .unset, .unset, .unset, .unset, .unset, .unset, .unset, .unset, .unset, .unset, .unset, .unset] [(.int (2147483647 : Int32)), (.int p0)])) _
    refine XS.iand X0.here hx rfl (hb hby at_3) rfl ?_
    show Steps p.tables e below (s₁.setTop (mkF m 4 #[.val (.int p0), .val (.int p1), .val (.int p2), .val (.int p3), .val (.int p4), .val (.int p5), .unset, .unset, .unset, .unset, .unset, .unset, .unset, .unset, .unset, .unset, .unset, .unset, .unset, .unset, .unset, .unset, .unset, .unset, .unset, .unset, .unset, .unset] [(.int (p0 &&& (2147483647 : Int32)))])) _
    refine XS.iconst X0.here hx rfl (hb hby at_4) ?_
    show Steps p.tables e below (s₁.setTop (mkF m 5 #[.val (.int p0), .val (.int p1), .val (.int p2), .val (.int p3), .val (.int p4), .val (.int p5), .unset, .unset, .unset, .unset, .unset, .unset, .unset, .unset, .unset, .unset, .unset, .unset, .unset, .unset, .unset, .unset, .unset, .unset, .unset, .unset, .unset, .unset] [(.int (3 : Int32)), (.int (p0 &&& (2147483647 : Int32)))])) _
    refine iremM X0 hx rfl (hb hby at_5) rfl (by decide) ?_
    show Steps p.tables e below (s₁.setTop (mkF m 6 #[.val (.int p0), .val (.int p1), .val (.int p2), .val (.int p3), .val (.int p4), .val (.int p5), .unset, .unset, .unset, .unset, .unset, .unset, .unset, .unset, .unset, .unset, .unset, .unset, .unset, .unset, .unset, .unset, .unset, .unset, .unset, .unset, .unset, .unset] [(.int ((p0 &&& (2147483647 : Int32)) % (3 : Int32)))])) _
    refine castTop (g' := (mkF m 6 #[.val (.int p0), .val (.int p1), .val (.int p2), .val (.int p3), .val (.int p4), .val (.int p5), .unset, .unset, .unset, .unset, .unset, .unset, .unset, .unset, .unset, .unset, .unset, .unset, .unset, .unset, .unset, .unset, .unset, .unset, .unset, .unset, .unset, .unset] [(.int v1)])) (by rw [hv1] <;> rfl) ?_
    show Steps p.tables e below (s₁.setTop (mkF m 6 #[.val (.int p0), .val (.int p1), .val (.int p2), .val (.int p3), .val (.int p4), .val (.int p5), .unset, .unset, .unset, .unset, .unset, .unset, .unset, .unset, .unset, .unset, .unset, .unset, .unset, .unset, .unset, .unset, .unset, .unset, .unset, .unset, .unset, .unset] [(.int v1)])) _
    refine XS.istore X0.here hx rfl (hb hby at_6) rfl (l' := #[.val (.int p0), .val (.int p1), .val (.int p2), .val (.int p3), .val (.int p4), .val (.int p5), .val (.int v1), .unset, .unset, .unset, .unset, .unset, .unset, .unset, .unset, .unset, .unset, .unset, .unset, .unset, .unset, .unset, .unset, .unset, .unset, .unset, .unset, .unset]) rfl ?_
    show Steps p.tables e below (s₁.setTop (mkF m 8 #[.val (.int p0), .val (.int p1), .val (.int p2), .val (.int p3), .val (.int p4), .val (.int p5), .val (.int v1), .unset, .unset, .unset, .unset, .unset, .unset, .unset, .unset, .unset, .unset, .unset, .unset, .unset, .unset, .unset, .unset, .unset, .unset, .unset, .unset, .unset] [])) _
    refine XS.iloadN X0.here hx rfl (hb hby at_8) rfl ?_
    show Steps p.tables e below (s₁.setTop (mkF m 9 #[.val (.int p0), .val (.int p1), .val (.int p2), .val (.int p3), .val (.int p4), .val (.int p5), .val (.int v1), .unset, .unset, .unset, .unset, .unset, .unset, .unset, .unset, .unset, .unset, .unset, .unset, .unset, .unset, .unset, .unset, .unset, .unset, .unset, .unset, .unset] [(.int p1)])) _
    refine X0.ldcInt hx hown (mvT hZ (hw _ (List.mem_of_getElem? (i := 0) rfl))) (g := (mkF m 9 #[.val (.int p0), .val (.int p1), .val (.int p2), .val (.int p3), .val (.int p4), .val (.int p5), .val (.int v1), .unset, .unset, .unset, .unset, .unset, .unset, .unset, .unset, .unset, .unset, .unset, .unset, .unset, .unset, .unset, .unset, .unset, .unset, .unset, .unset, .unset] [(.int p1)])) rfl (hb hby at_9) _ ?_
    show Steps p.tables e below (s₁.setTop (mkF m 11 #[.val (.int p0), .val (.int p1), .val (.int p2), .val (.int p3), .val (.int p4), .val (.int p5), .val (.int v1), .unset, .unset, .unset, .unset, .unset, .unset, .unset, .unset, .unset, .unset, .unset, .unset, .unset, .unset, .unset, .unset, .unset, .unset, .unset, .unset, .unset] [(.int (2147483647 : Int32)), (.int p1)])) _
    refine XS.iand X0.here hx rfl (hb hby at_11) rfl ?_
    show Steps p.tables e below (s₁.setTop (mkF m 12 #[.val (.int p0), .val (.int p1), .val (.int p2), .val (.int p3), .val (.int p4), .val (.int p5), .val (.int v1), .unset, .unset, .unset, .unset, .unset, .unset, .unset, .unset, .unset, .unset, .unset, .unset, .unset, .unset, .unset, .unset, .unset, .unset, .unset, .unset, .unset] [(.int (p1 &&& (2147483647 : Int32)))])) _
    refine XS.iconst X0.here hx rfl (hb hby at_12) ?_
    show Steps p.tables e below (s₁.setTop (mkF m 13 #[.val (.int p0), .val (.int p1), .val (.int p2), .val (.int p3), .val (.int p4), .val (.int p5), .val (.int v1), .unset, .unset, .unset, .unset, .unset, .unset, .unset, .unset, .unset, .unset, .unset, .unset, .unset, .unset, .unset, .unset, .unset, .unset, .unset, .unset, .unset] [(.int (3 : Int32)), (.int (p1 &&& (2147483647 : Int32)))])) _
    refine iremM X0 hx rfl (hb hby at_13) rfl (by decide) ?_
    show Steps p.tables e below (s₁.setTop (mkF m 14 #[.val (.int p0), .val (.int p1), .val (.int p2), .val (.int p3), .val (.int p4), .val (.int p5), .val (.int v1), .unset, .unset, .unset, .unset, .unset, .unset, .unset, .unset, .unset, .unset, .unset, .unset, .unset, .unset, .unset, .unset, .unset, .unset, .unset, .unset, .unset] [(.int ((p1 &&& (2147483647 : Int32)) % (3 : Int32)))])) _
    refine castTop (g' := (mkF m 14 #[.val (.int p0), .val (.int p1), .val (.int p2), .val (.int p3), .val (.int p4), .val (.int p5), .val (.int v1), .unset, .unset, .unset, .unset, .unset, .unset, .unset, .unset, .unset, .unset, .unset, .unset, .unset, .unset, .unset, .unset, .unset, .unset, .unset, .unset, .unset] [(.int v2)])) (by rw [hv2] <;> rfl) ?_
    show Steps p.tables e below (s₁.setTop (mkF m 14 #[.val (.int p0), .val (.int p1), .val (.int p2), .val (.int p3), .val (.int p4), .val (.int p5), .val (.int v1), .unset, .unset, .unset, .unset, .unset, .unset, .unset, .unset, .unset, .unset, .unset, .unset, .unset, .unset, .unset, .unset, .unset, .unset, .unset, .unset, .unset] [(.int v2)])) _
    refine XS.istore X0.here hx rfl (hb hby at_14) rfl (l' := #[.val (.int p0), .val (.int p1), .val (.int p2), .val (.int p3), .val (.int p4), .val (.int p5), .val (.int v1), .val (.int v2), .unset, .unset, .unset, .unset, .unset, .unset, .unset, .unset, .unset, .unset, .unset, .unset, .unset, .unset, .unset, .unset, .unset, .unset, .unset, .unset]) rfl ?_
    show Steps p.tables e below (s₁.setTop (mkF m 16 #[.val (.int p0), .val (.int p1), .val (.int p2), .val (.int p3), .val (.int p4), .val (.int p5), .val (.int v1), .val (.int v2), .unset, .unset, .unset, .unset, .unset, .unset, .unset, .unset, .unset, .unset, .unset, .unset, .unset, .unset, .unset, .unset, .unset, .unset, .unset, .unset] [])) _
    refine XS.iloadN X0.here hx rfl (hb hby at_16) rfl ?_
    show Steps p.tables e below (s₁.setTop (mkF m 17 #[.val (.int p0), .val (.int p1), .val (.int p2), .val (.int p3), .val (.int p4), .val (.int p5), .val (.int v1), .val (.int v2), .unset, .unset, .unset, .unset, .unset, .unset, .unset, .unset, .unset, .unset, .unset, .unset, .unset, .unset, .unset, .unset, .unset, .unset, .unset, .unset] [(.int p2)])) _
    refine X0.ldcInt hx hown (mvT hZ (hw _ (List.mem_of_getElem? (i := 0) rfl))) (g := (mkF m 17 #[.val (.int p0), .val (.int p1), .val (.int p2), .val (.int p3), .val (.int p4), .val (.int p5), .val (.int v1), .val (.int v2), .unset, .unset, .unset, .unset, .unset, .unset, .unset, .unset, .unset, .unset, .unset, .unset, .unset, .unset, .unset, .unset, .unset, .unset, .unset, .unset] [(.int p2)])) rfl (hb hby at_17) _ ?_
    show Steps p.tables e below (s₁.setTop (mkF m 19 #[.val (.int p0), .val (.int p1), .val (.int p2), .val (.int p3), .val (.int p4), .val (.int p5), .val (.int v1), .val (.int v2), .unset, .unset, .unset, .unset, .unset, .unset, .unset, .unset, .unset, .unset, .unset, .unset, .unset, .unset, .unset, .unset, .unset, .unset, .unset, .unset] [(.int (2147483647 : Int32)), (.int p2)])) _
    refine XS.iand X0.here hx rfl (hb hby at_19) rfl ?_
    show Steps p.tables e below (s₁.setTop (mkF m 20 #[.val (.int p0), .val (.int p1), .val (.int p2), .val (.int p3), .val (.int p4), .val (.int p5), .val (.int v1), .val (.int v2), .unset, .unset, .unset, .unset, .unset, .unset, .unset, .unset, .unset, .unset, .unset, .unset, .unset, .unset, .unset, .unset, .unset, .unset, .unset, .unset] [(.int (p2 &&& (2147483647 : Int32)))])) _
    refine XS.iconst X0.here hx rfl (hb hby at_20) ?_
    show Steps p.tables e below (s₁.setTop (mkF m 21 #[.val (.int p0), .val (.int p1), .val (.int p2), .val (.int p3), .val (.int p4), .val (.int p5), .val (.int v1), .val (.int v2), .unset, .unset, .unset, .unset, .unset, .unset, .unset, .unset, .unset, .unset, .unset, .unset, .unset, .unset, .unset, .unset, .unset, .unset, .unset, .unset] [(.int (3 : Int32)), (.int (p2 &&& (2147483647 : Int32)))])) _
    refine iremM X0 hx rfl (hb hby at_21) rfl (by decide) ?_
    show Steps p.tables e below (s₁.setTop (mkF m 22 #[.val (.int p0), .val (.int p1), .val (.int p2), .val (.int p3), .val (.int p4), .val (.int p5), .val (.int v1), .val (.int v2), .unset, .unset, .unset, .unset, .unset, .unset, .unset, .unset, .unset, .unset, .unset, .unset, .unset, .unset, .unset, .unset, .unset, .unset, .unset, .unset] [(.int ((p2 &&& (2147483647 : Int32)) % (3 : Int32)))])) _
    refine castTop (g' := (mkF m 22 #[.val (.int p0), .val (.int p1), .val (.int p2), .val (.int p3), .val (.int p4), .val (.int p5), .val (.int v1), .val (.int v2), .unset, .unset, .unset, .unset, .unset, .unset, .unset, .unset, .unset, .unset, .unset, .unset, .unset, .unset, .unset, .unset, .unset, .unset, .unset, .unset] [(.int v3)])) (by rw [hv3] <;> rfl) ?_
    show Steps p.tables e below (s₁.setTop (mkF m 22 #[.val (.int p0), .val (.int p1), .val (.int p2), .val (.int p3), .val (.int p4), .val (.int p5), .val (.int v1), .val (.int v2), .unset, .unset, .unset, .unset, .unset, .unset, .unset, .unset, .unset, .unset, .unset, .unset, .unset, .unset, .unset, .unset, .unset, .unset, .unset, .unset] [(.int v3)])) _
    refine XS.istore X0.here hx rfl (hb hby at_22) rfl (l' := #[.val (.int p0), .val (.int p1), .val (.int p2), .val (.int p3), .val (.int p4), .val (.int p5), .val (.int v1), .val (.int v2), .val (.int v3), .unset, .unset, .unset, .unset, .unset, .unset, .unset, .unset, .unset, .unset, .unset, .unset, .unset, .unset, .unset, .unset, .unset, .unset, .unset]) rfl ?_
    show Steps p.tables e below (s₁.setTop (mkF m 24 #[.val (.int p0), .val (.int p1), .val (.int p2), .val (.int p3), .val (.int p4), .val (.int p5), .val (.int v1), .val (.int v2), .val (.int v3), .unset, .unset, .unset, .unset, .unset, .unset, .unset, .unset, .unset, .unset, .unset, .unset, .unset, .unset, .unset, .unset, .unset, .unset, .unset] [])) _
    refine XS.iloadN X0.here hx rfl (hb hby at_24) rfl ?_
    show Steps p.tables e below (s₁.setTop (mkF m 25 #[.val (.int p0), .val (.int p1), .val (.int p2), .val (.int p3), .val (.int p4), .val (.int p5), .val (.int v1), .val (.int v2), .val (.int v3), .unset, .unset, .unset, .unset, .unset, .unset, .unset, .unset, .unset, .unset, .unset, .unset, .unset, .unset, .unset, .unset, .unset, .unset, .unset] [(.int p3)])) _
    refine X0.ldcInt hx hown (mvT hZ (hw _ (List.mem_of_getElem? (i := 0) rfl))) (g := (mkF m 25 #[.val (.int p0), .val (.int p1), .val (.int p2), .val (.int p3), .val (.int p4), .val (.int p5), .val (.int v1), .val (.int v2), .val (.int v3), .unset, .unset, .unset, .unset, .unset, .unset, .unset, .unset, .unset, .unset, .unset, .unset, .unset, .unset, .unset, .unset, .unset, .unset, .unset] [(.int p3)])) rfl (hb hby at_25) _ ?_
    show Steps p.tables e below (s₁.setTop (mkF m 27 #[.val (.int p0), .val (.int p1), .val (.int p2), .val (.int p3), .val (.int p4), .val (.int p5), .val (.int v1), .val (.int v2), .val (.int v3), .unset, .unset, .unset, .unset, .unset, .unset, .unset, .unset, .unset, .unset, .unset, .unset, .unset, .unset, .unset, .unset, .unset, .unset, .unset] [(.int (2147483647 : Int32)), (.int p3)])) _
    refine XS.iand X0.here hx rfl (hb hby at_27) rfl ?_
    show Steps p.tables e below (s₁.setTop (mkF m 28 #[.val (.int p0), .val (.int p1), .val (.int p2), .val (.int p3), .val (.int p4), .val (.int p5), .val (.int v1), .val (.int v2), .val (.int v3), .unset, .unset, .unset, .unset, .unset, .unset, .unset, .unset, .unset, .unset, .unset, .unset, .unset, .unset, .unset, .unset, .unset, .unset, .unset] [(.int (p3 &&& (2147483647 : Int32)))])) _
    refine XS.iconst X0.here hx rfl (hb hby at_28) ?_
    show Steps p.tables e below (s₁.setTop (mkF m 29 #[.val (.int p0), .val (.int p1), .val (.int p2), .val (.int p3), .val (.int p4), .val (.int p5), .val (.int v1), .val (.int v2), .val (.int v3), .unset, .unset, .unset, .unset, .unset, .unset, .unset, .unset, .unset, .unset, .unset, .unset, .unset, .unset, .unset, .unset, .unset, .unset, .unset] [(.int (5 : Int32)), (.int (p3 &&& (2147483647 : Int32)))])) _
    refine iremM X0 hx rfl (hb hby at_29) rfl (by decide) ?_
    show Steps p.tables e below (s₁.setTop (mkF m 30 #[.val (.int p0), .val (.int p1), .val (.int p2), .val (.int p3), .val (.int p4), .val (.int p5), .val (.int v1), .val (.int v2), .val (.int v3), .unset, .unset, .unset, .unset, .unset, .unset, .unset, .unset, .unset, .unset, .unset, .unset, .unset, .unset, .unset, .unset, .unset, .unset, .unset] [(.int ((p3 &&& (2147483647 : Int32)) % (5 : Int32)))])) _
    refine XS.iconst X0.here hx rfl (hb hby at_30) ?_
    show Steps p.tables e below (s₁.setTop (mkF m 31 #[.val (.int p0), .val (.int p1), .val (.int p2), .val (.int p3), .val (.int p4), .val (.int p5), .val (.int v1), .val (.int v2), .val (.int v3), .unset, .unset, .unset, .unset, .unset, .unset, .unset, .unset, .unset, .unset, .unset, .unset, .unset, .unset, .unset, .unset, .unset, .unset, .unset] [(.int (1 : Int32)), (.int ((p3 &&& (2147483647 : Int32)) % (5 : Int32)))])) _
    refine XS.isub X0.here hx rfl (hb hby at_31) rfl ?_
    show Steps p.tables e below (s₁.setTop (mkF m 32 #[.val (.int p0), .val (.int p1), .val (.int p2), .val (.int p3), .val (.int p4), .val (.int p5), .val (.int v1), .val (.int v2), .val (.int v3), .unset, .unset, .unset, .unset, .unset, .unset, .unset, .unset, .unset, .unset, .unset, .unset, .unset, .unset, .unset, .unset, .unset, .unset, .unset] [(.int (((p3 &&& (2147483647 : Int32)) % (5 : Int32)) - (1 : Int32)))])) _
    refine castTop (g' := (mkF m 32 #[.val (.int p0), .val (.int p1), .val (.int p2), .val (.int p3), .val (.int p4), .val (.int p5), .val (.int v1), .val (.int v2), .val (.int v3), .unset, .unset, .unset, .unset, .unset, .unset, .unset, .unset, .unset, .unset, .unset, .unset, .unset, .unset, .unset, .unset, .unset, .unset, .unset] [(.int v4)])) (by rw [hv4] <;> rfl) ?_
    show Steps p.tables e below (s₁.setTop (mkF m 32 #[.val (.int p0), .val (.int p1), .val (.int p2), .val (.int p3), .val (.int p4), .val (.int p5), .val (.int v1), .val (.int v2), .val (.int v3), .unset, .unset, .unset, .unset, .unset, .unset, .unset, .unset, .unset, .unset, .unset, .unset, .unset, .unset, .unset, .unset, .unset, .unset, .unset] [(.int v4)])) _
    refine XS.istore X0.here hx rfl (hb hby at_32) rfl (l' := #[.val (.int p0), .val (.int p1), .val (.int p2), .val (.int p3), .val (.int p4), .val (.int p5), .val (.int v1), .val (.int v2), .val (.int v3), .val (.int v4), .unset, .unset, .unset, .unset, .unset, .unset, .unset, .unset, .unset, .unset, .unset, .unset, .unset, .unset, .unset, .unset, .unset, .unset]) rfl ?_
    show Steps p.tables e below (s₁.setTop (mkF m 34 #[.val (.int p0), .val (.int p1), .val (.int p2), .val (.int p3), .val (.int p4), .val (.int p5), .val (.int v1), .val (.int v2), .val (.int v3), .val (.int v4), .unset, .unset, .unset, .unset, .unset, .unset, .unset, .unset, .unset, .unset, .unset, .unset, .unset, .unset, .unset, .unset, .unset, .unset] [])) _
    refine XS.iload X0.here hx rfl (hb hby at_34) rfl ?_
    show Steps p.tables e below (s₁.setTop (mkF m 36 #[.val (.int p0), .val (.int p1), .val (.int p2), .val (.int p3), .val (.int p4), .val (.int p5), .val (.int v1), .val (.int v2), .val (.int v3), .val (.int v4), .unset, .unset, .unset, .unset, .unset, .unset, .unset, .unset, .unset, .unset, .unset, .unset, .unset, .unset, .unset, .unset, .unset, .unset] [(.int p4)])) _
    refine X0.ldcInt hx hown (mvT hZ (hw _ (List.mem_of_getElem? (i := 0) rfl))) (g := (mkF m 36 #[.val (.int p0), .val (.int p1), .val (.int p2), .val (.int p3), .val (.int p4), .val (.int p5), .val (.int v1), .val (.int v2), .val (.int v3), .val (.int v4), .unset, .unset, .unset, .unset, .unset, .unset, .unset, .unset, .unset, .unset, .unset, .unset, .unset, .unset, .unset, .unset, .unset, .unset] [(.int p4)])) rfl (hb hby at_36) _ ?_
    show Steps p.tables e below (s₁.setTop (mkF m 38 #[.val (.int p0), .val (.int p1), .val (.int p2), .val (.int p3), .val (.int p4), .val (.int p5), .val (.int v1), .val (.int v2), .val (.int v3), .val (.int v4), .unset, .unset, .unset, .unset, .unset, .unset, .unset, .unset, .unset, .unset, .unset, .unset, .unset, .unset, .unset, .unset, .unset, .unset] [(.int (2147483647 : Int32)), (.int p4)])) _
    refine XS.iand X0.here hx rfl (hb hby at_38) rfl ?_
    show Steps p.tables e below (s₁.setTop (mkF m 39 #[.val (.int p0), .val (.int p1), .val (.int p2), .val (.int p3), .val (.int p4), .val (.int p5), .val (.int v1), .val (.int v2), .val (.int v3), .val (.int v4), .unset, .unset, .unset, .unset, .unset, .unset, .unset, .unset, .unset, .unset, .unset, .unset, .unset, .unset, .unset, .unset, .unset, .unset] [(.int (p4 &&& (2147483647 : Int32)))])) _
    refine XS.iconst X0.here hx rfl (hb hby at_39) ?_
    show Steps p.tables e below (s₁.setTop (mkF m 40 #[.val (.int p0), .val (.int p1), .val (.int p2), .val (.int p3), .val (.int p4), .val (.int p5), .val (.int v1), .val (.int v2), .val (.int v3), .val (.int v4), .unset, .unset, .unset, .unset, .unset, .unset, .unset, .unset, .unset, .unset, .unset, .unset, .unset, .unset, .unset, .unset, .unset, .unset] [(.int (3 : Int32)), (.int (p4 &&& (2147483647 : Int32)))])) _
    refine iremM X0 hx rfl (hb hby at_40) rfl (by decide) ?_
    show Steps p.tables e below (s₁.setTop (mkF m 41 #[.val (.int p0), .val (.int p1), .val (.int p2), .val (.int p3), .val (.int p4), .val (.int p5), .val (.int v1), .val (.int v2), .val (.int v3), .val (.int v4), .unset, .unset, .unset, .unset, .unset, .unset, .unset, .unset, .unset, .unset, .unset, .unset, .unset, .unset, .unset, .unset, .unset, .unset] [(.int ((p4 &&& (2147483647 : Int32)) % (3 : Int32)))])) _
    refine castTop (g' := (mkF m 41 #[.val (.int p0), .val (.int p1), .val (.int p2), .val (.int p3), .val (.int p4), .val (.int p5), .val (.int v1), .val (.int v2), .val (.int v3), .val (.int v4), .unset, .unset, .unset, .unset, .unset, .unset, .unset, .unset, .unset, .unset, .unset, .unset, .unset, .unset, .unset, .unset, .unset, .unset] [(.int v5)])) (by rw [hv5] <;> rfl) ?_
    show Steps p.tables e below (s₁.setTop (mkF m 41 #[.val (.int p0), .val (.int p1), .val (.int p2), .val (.int p3), .val (.int p4), .val (.int p5), .val (.int v1), .val (.int v2), .val (.int v3), .val (.int v4), .unset, .unset, .unset, .unset, .unset, .unset, .unset, .unset, .unset, .unset, .unset, .unset, .unset, .unset, .unset, .unset, .unset, .unset] [(.int v5)])) _
    refine XS.istore X0.here hx rfl (hb hby at_41) rfl (l' := #[.val (.int p0), .val (.int p1), .val (.int p2), .val (.int p3), .val (.int p4), .val (.int p5), .val (.int v1), .val (.int v2), .val (.int v3), .val (.int v4), .val (.int v5), .unset, .unset, .unset, .unset, .unset, .unset, .unset, .unset, .unset, .unset, .unset, .unset, .unset, .unset, .unset, .unset, .unset]) rfl ?_
    show Steps p.tables e below (s₁.setTop (mkF m 43 #[.val (.int p0), .val (.int p1), .val (.int p2), .val (.int p3), .val (.int p4), .val (.int p5), .val (.int v1), .val (.int v2), .val (.int v3), .val (.int v4), .val (.int v5), .unset, .unset, .unset, .unset, .unset, .unset, .unset, .unset, .unset, .unset, .unset, .unset, .unset, .unset, .unset, .unset, .unset] [])) _
    refine XS.iload X0.here hx rfl (hb hby at_43) rfl ?_
    show Steps p.tables e below (s₁.setTop (mkF m 45 #[.val (.int p0), .val (.int p1), .val (.int p2), .val (.int p3), .val (.int p4), .val (.int p5), .val (.int v1), .val (.int v2), .val (.int v3), .val (.int v4), .val (.int v5), .unset, .unset, .unset, .unset, .unset, .unset, .unset, .unset, .unset, .unset, .unset, .unset, .unset, .unset, .unset, .unset, .unset] [(.int p5)])) _
    refine XS.iconst X0.here hx rfl (hb hby at_45) ?_
    show Steps p.tables e below (s₁.setTop (mkF m 46 #[.val (.int p0), .val (.int p1), .val (.int p2), .val (.int p3), .val (.int p4), .val (.int p5), .val (.int v1), .val (.int v2), .val (.int v3), .val (.int v4), .val (.int v5), .unset, .unset, .unset, .unset, .unset, .unset, .unset, .unset, .unset, .unset, .unset, .unset, .unset, .unset, .unset, .unset, .unset] [(.int (1 : Int32)), (.int p5)])) _
    refine XS.iand X0.here hx rfl (hb hby at_46) rfl ?_
    show Steps p.tables e below (s₁.setTop (mkF m 47 #[.val (.int p0), .val (.int p1), .val (.int p2), .val (.int p3), .val (.int p4), .val (.int p5), .val (.int v1), .val (.int v2), .val (.int v3), .val (.int v4), .val (.int v5), .unset, .unset, .unset, .unset, .unset, .unset, .unset, .unset, .unset, .unset, .unset, .unset, .unset, .unset, .unset, .unset, .unset] [(.int (p5 &&& (1 : Int32)))])) _
    refine own_dia (F := (mkF m 55 #[.val (.int p0), .val (.int p1), .val (.int p2), .val (.int p3), .val (.int p4), .val (.int p5), .val (.int v1), .val (.int v2), .val (.int v3), .val (.int v4), .val (.int v5), .unset, .unset, .unset, .unset, .unset, .unset, .unset, .unset, .unset, .unset, .unset, .unset, .unset, .unset, .unset, .unset, .unset] [(.int v7)])) ?_ ?_
    · intro kt
      by_cases hc6 : (p5 &&& (1 : Int32)) = (0 : Int32)
      · show Steps p.tables e below (s₁.setTop (mkF m 47 #[.val (.int p0), .val (.int p1), .val (.int p2), .val (.int p3), .val (.int p4), .val (.int p5), .val (.int v1), .val (.int v2), .val (.int v3), .val (.int v4), .val (.int v5), .unset, .unset, .unset, .unset, .unset, .unset, .unset, .unset, .unset, .unset, .unset, .unset, .unset, .unset, .unset, .unset, .unset] [(.int (p5 &&& (1 : Int32)))])) _
        refine XS.ifYes X0.here hx rfl (pc0 := 47) (pc' := 54) rfl (hb hby at_47) rfl ((if0 _ _).trans (teq hc6).1) (by decide) (by decide) ?_
        show Steps p.tables e below (s₁.setTop (mkF m 54 #[.val (.int p0), .val (.int p1), .val (.int p2), .val (.int p3), .val (.int p4), .val (.int p5), .val (.int v1), .val (.int v2), .val (.int v3), .val (.int v4), .val (.int v5), .unset, .unset, .unset, .unset, .unset, .unset, .unset, .unset, .unset, .unset, .unset, .unset, .unset, .unset, .unset, .unset, .unset] [])) _
        refine XS.iconst X0.here hx rfl (hb hby at_54) ?_
        exact castTop (by rw [hv7, if_pos hc6] <;> rfl) kt
      · show Steps p.tables e below (s₁.setTop (mkF m 47 #[.val (.int p0), .val (.int p1), .val (.int p2), .val (.int p3), .val (.int p4), .val (.int p5), .val (.int v1), .val (.int v2), .val (.int v3), .val (.int v4), .val (.int v5), .unset, .unset, .unset, .unset, .unset, .unset, .unset, .unset, .unset, .unset, .unset, .unset, .unset, .unset, .unset, .unset, .unset] [(.int (p5 &&& (1 : Int32)))])) _
        refine XS.ifNo X0.here hx rfl (hb hby at_47) rfl ((if0 _ _).trans (feq hc6).1) ?_
        show Steps p.tables e below (s₁.setTop (mkF m 50 #[.val (.int p0), .val (.int p1), .val (.int p2), .val (.int p3), .val (.int p4), .val (.int p5), .val (.int v1), .val (.int v2), .val (.int v3), .val (.int v4), .val (.int v5), .unset, .unset, .unset, .unset, .unset, .unset, .unset, .unset, .unset, .unset, .unset, .unset, .unset, .unset, .unset, .unset, .unset] [])) _
        refine XS.iconst X0.here hx rfl (hb hby at_50) ?_
        show Steps p.tables e below (s₁.setTop (mkF m 51 #[.val (.int p0), .val (.int p1), .val (.int p2), .val (.int p3), .val (.int p4), .val (.int p5), .val (.int v1), .val (.int v2), .val (.int v3), .val (.int v4), .val (.int v5), .unset, .unset, .unset, .unset, .unset, .unset, .unset, .unset, .unset, .unset, .unset, .unset, .unset, .unset, .unset, .unset, .unset] [(.int (1 : Int32))])) _
        refine XS.goto X0.here hx rfl (pc0 := 51) (pc' := 55) rfl (hb hby at_51) (by decide) (by decide) ?_
        exact castTop (by rw [hv7, if_neg hc6] <;> rfl) kt
    show Steps p.tables e below (s₁.setTop (mkF m 55 #[.val (.int p0), .val (.int p1), .val (.int p2), .val (.int p3), .val (.int p4), .val (.int p5), .val (.int v1), .val (.int v2), .val (.int v3), .val (.int v4), .val (.int v5), .unset, .unset, .unset, .unset, .unset, .unset, .unset, .unset, .unset, .unset, .unset, .unset, .unset, .unset, .unset, .unset, .unset] [(.int v7)])) _
    refine XS.istore X0.here hx rfl (hb hby at_55) rfl (l' := #[.val (.int p0), .val (.int p1), .val (.int p2), .val (.int p3), .val (.int p4), .val (.int p5), .val (.int v1), .val (.int v2), .val (.int v3), .val (.int v4), .val (.int v5), .val (.int v7), .unset, .unset, .unset, .unset, .unset, .unset, .unset, .unset, .unset, .unset, .unset, .unset, .unset, .unset, .unset, .unset]) rfl ?_
    show Steps p.tables e below (s₁.setTop (mkF m 57 #[.val (.int p0), .val (.int p1), .val (.int p2), .val (.int p3), .val (.int p4), .val (.int p5), .val (.int v1), .val (.int v2), .val (.int v3), .val (.int v4), .val (.int v5), .val (.int v7), .unset, .unset, .unset, .unset, .unset, .unset, .unset, .unset, .unset, .unset, .unset, .unset, .unset, .unset, .unset, .unset] [])) _
    refine XS.iload X0.here hx rfl (hb hby at_57) rfl ?_
    show Steps p.tables e below (s₁.setTop (mkF m 59 #[.val (.int p0), .val (.int p1), .val (.int p2), .val (.int p3), .val (.int p4), .val (.int p5), .val (.int v1), .val (.int v2), .val (.int v3), .val (.int v4), .val (.int v5), .val (.int v7), .unset, .unset, .unset, .unset, .unset, .unset, .unset, .unset, .unset, .unset, .unset, .unset, .unset, .unset, .unset, .unset] [(.int p5)])) _
    refine XS.iconst X0.here hx rfl (hb hby at_59) ?_
    show Steps p.tables e below (s₁.setTop (mkF m 60 #[.val (.int p0), .val (.int p1), .val (.int p2), .val (.int p3), .val (.int p4), .val (.int p5), .val (.int v1), .val (.int v2), .val (.int v3), .val (.int v4), .val (.int v5), .val (.int v7), .unset, .unset, .unset, .unset, .unset, .unset, .unset, .unset, .unset, .unset, .unset, .unset, .unset, .unset, .unset, .unset] [(.int (2 : Int32)), (.int p5)])) _
    refine XS.iand X0.here hx rfl (hb hby at_60) rfl ?_
    show Steps p.tables e below (s₁.setTop (mkF m 61 #[.val (.int p0), .val (.int p1), .val (.int p2), .val (.int p3), .val (.int p4), .val (.int p5), .val (.int v1), .val (.int v2), .val (.int v3), .val (.int v4), .val (.int v5), .val (.int v7), .unset, .unset, .unset, .unset, .unset, .unset, .unset, .unset, .unset, .unset, .unset, .unset, .unset, .unset, .unset, .unset] [(.int (p5 &&& (2 : Int32)))])) _
    refine own_dia (F := (mkF m 69 #[.val (.int p0), .val (.int p1), .val (.int p2), .val (.int p3), .val (.int p4), .val (.int p5), .val (.int v1), .val (.int v2), .val (.int v3), .val (.int v4), .val (.int v5), .val (.int v7), .unset, .unset, .unset, .unset, .unset, .unset, .unset, .unset, .unset, .unset, .unset, .unset, .unset, .unset, .unset, .unset] [(.int v9)])) ?_ ?_
    · intro kt
      by_cases hc8 : (p5 &&& (2 : Int32)) = (0 : Int32)
      · show Steps p.tables e below (s₁.setTop (mkF m 61 #[.val (.int p0), .val (.int p1), .val (.int p2), .val (.int p3), .val (.int p4), .val (.int p5), .val (.int v1), .val (.int v2), .val (.int v3), .val (.int v4), .val (.int v5), .val (.int v7), .unset, .unset, .unset, .unset, .unset, .unset, .unset, .unset, .unset, .unset, .unset, .unset, .unset, .unset, .unset, .unset] [(.int (p5 &&& (2 : Int32)))])) _
        refine XS.ifYes X0.here hx rfl (pc0 := 61) (pc' := 68) rfl (hb hby at_61) rfl ((if0 _ _).trans (teq hc8).1) (by decide) (by decide) ?_
        show Steps p.tables e below (s₁.setTop (mkF m 68 #[.val (.int p0), .val (.int p1), .val (.int p2), .val (.int p3), .val (.int p4), .val (.int p5), .val (.int v1), .val (.int v2), .val (.int v3), .val (.int v4), .val (.int v5), .val (.int v7), .unset, .unset, .unset, .unset, .unset, .unset, .unset, .unset, .unset, .unset, .unset, .unset, .unset, .unset, .unset, .unset] [])) _
        refine XS.iconst X0.here hx rfl (hb hby at_68) ?_
        exact castTop (by rw [hv9, if_pos hc8] <;> rfl) kt
      · show Steps p.tables e below (s₁.setTop (mkF m 61 #[.val (.int p0), .val (.int p1), .val (.int p2), .val (.int p3), .val (.int p4), .val (.int p5), .val (.int v1), .val (.int v2), .val (.int v3), .val (.int v4), .val (.int v5), .val (.int v7), .unset, .unset, .unset, .unset, .unset, .unset, .unset, .unset, .unset, .unset, .unset, .unset, .unset, .unset, .unset, .unset] [(.int (p5 &&& (2 : Int32)))])) _
        refine XS.ifNo X0.here hx rfl (hb hby at_61) rfl ((if0 _ _).trans (feq hc8).1) ?_
        show Steps p.tables e below (s₁.setTop (mkF m 64 #[.val (.int p0), .val (.int p1), .val (.int p2), .val (.int p3), .val (.int p4), .val (.int p5), .val (.int v1), .val (.int v2), .val (.int v3), .val (.int v4), .val (.int v5), .val (.int v7), .unset, .unset, .unset, .unset, .unset, .unset, .unset, .unset, .unset, .unset, .unset, .unset, .unset, .unset, .unset, .unset] [])) _
        refine XS.iconst X0.here hx rfl (hb hby at_64) ?_
        show Steps p.tables e below (s₁.setTop (mkF m 65 #[.val (.int p0), .val (.int p1), .val (.int p2), .val (.int p3), .val (.int p4), .val (.int p5), .val (.int v1), .val (.int v2), .val (.int v3), .val (.int v4), .val (.int v5), .val (.int v7), .unset, .unset, .unset, .unset, .unset, .unset, .unset, .unset, .unset, .unset, .unset, .unset, .unset, .unset, .unset, .unset] [(.int (1 : Int32))])) _
        refine XS.goto X0.here hx rfl (pc0 := 65) (pc' := 69) rfl (hb hby at_65) (by decide) (by decide) ?_
        exact castTop (by rw [hv9, if_neg hc8] <;> rfl) kt
    show Steps p.tables e below (s₁.setTop (mkF m 69 #[.val (.int p0), .val (.int p1), .val (.int p2), .val (.int p3), .val (.int p4), .val (.int p5), .val (.int v1), .val (.int v2), .val (.int v3), .val (.int v4), .val (.int v5), .val (.int v7), .unset, .unset, .unset, .unset, .unset, .unset, .unset, .unset, .unset, .unset, .unset, .unset, .unset, .unset, .unset, .unset] [(.int v9)])) _
    refine XS.istore X0.here hx rfl (hb hby at_69) rfl (l' := #[.val (.int p0), .val (.int p1), .val (.int p2), .val (.int p3), .val (.int p4), .val (.int p5), .val (.int v1), .val (.int v2), .val (.int v3), .val (.int v4), .val (.int v5), .val (.int v7), .val (.int v9), .unset, .unset, .unset, .unset, .unset, .unset, .unset, .unset, .unset, .unset, .unset, .unset, .unset, .unset, .unset]) rfl ?_
    show Steps p.tables e below (s₁.setTop (mkF m 71 #[.val (.int p0), .val (.int p1), .val (.int p2), .val (.int p3), .val (.int p4), .val (.int p5), .val (.int v1), .val (.int v2), .val (.int v3), .val (.int v4), .val (.int v5), .val (.int v7), .val (.int v9), .unset, .unset, .unset, .unset, .unset, .unset, .unset, .unset, .unset, .unset, .unset, .unset, .unset, .unset, .unset] [])) _
    refine XS.iload X0.here hx rfl (hb hby at_71) rfl ?_
    show Steps p.tables e below (s₁.setTop (mkF m 73 #[.val (.int p0), .val (.int p1), .val (.int p2), .val (.int p3), .val (.int p4), .val (.int p5), .val (.int v1), .val (.int v2), .val (.int v3), .val (.int v4), .val (.int v5), .val (.int v7), .val (.int v9), .unset, .unset, .unset, .unset, .unset, .unset, .unset, .unset, .unset, .unset, .unset, .unset, .unset, .unset, .unset] [(.int p5)])) _
    refine XS.iconst X0.here hx rfl (hb hby at_73) ?_
    show Steps p.tables e below (s₁.setTop (mkF m 74 #[.val (.int p0), .val (.int p1), .val (.int p2), .val (.int p3), .val (.int p4), .val (.int p5), .val (.int v1), .val (.int v2), .val (.int v3), .val (.int v4), .val (.int v5), .val (.int v7), .val (.int v9), .unset, .unset, .unset, .unset, .unset, .unset, .unset, .unset, .unset, .unset, .unset, .unset, .unset, .unset, .unset] [(.int (4 : Int32)), (.int p5)])) _
    refine XS.iand X0.here hx rfl (hb hby at_74) rfl ?_
    show Steps p.tables e below (s₁.setTop (mkF m 75 #[.val (.int p0), .val (.int p1), .val (.int p2), .val (.int p3), .val (.int p4), .val (.int p5), .val (.int v1), .val (.int v2), .val (.int v3), .val (.int v4), .val (.int v5), .val (.int v7), .val (.int v9), .unset, .unset, .unset, .unset, .unset, .unset, .unset, .unset, .unset, .unset, .unset, .unset, .unset, .unset, .unset] [(.int (p5 &&& (4 : Int32)))])) _
    refine own_dia (F := (mkF m 83 #[.val (.int p0), .val (.int p1), .val (.int p2), .val (.int p3), .val (.int p4), .val (.int p5), .val (.int v1), .val (.int v2), .val (.int v3), .val (.int v4), .val (.int v5), .val (.int v7), .val (.int v9), .unset, .unset, .unset, .unset, .unset, .unset, .unset, .unset, .unset, .unset, .unset, .unset, .unset, .unset, .unset] [(.int v11)])) ?_ ?_
    · intro kt
      by_cases hc10 : (p5 &&& (4 : Int32)) = (0 : Int32)
      · show Steps p.tables e below (s₁.setTop (mkF m 75 #[.val (.int p0), .val (.int p1), .val (.int p2), .val (.int p3), .val (.int p4), .val (.int p5), .val (.int v1), .val (.int v2), .val (.int v3), .val (.int v4), .val (.int v5), .val (.int v7), .val (.int v9), .unset, .unset, .unset, .unset, .unset, .unset, .unset, .unset, .unset, .unset, .unset, .unset, .unset, .unset, .unset] [(.int (p5 &&& (4 : Int32)))])) _
        refine XS.ifYes X0.here hx rfl (pc0 := 75) (pc' := 82) rfl (hb hby at_75) rfl ((if0 _ _).trans (teq hc10).1) (by decide) (by decide) ?_
        show Steps p.tables e below (s₁.setTop (mkF m 82 #[.val (.int p0), .val (.int p1), .val (.int p2), .val (.int p3), .val (.int p4), .val (.int p5), .val (.int v1), .val (.int v2), .val (.int v3), .val (.int v4), .val (.int v5), .val (.int v7), .val (.int v9), .unset, .unset, .unset, .unset, .unset, .unset, .unset, .unset, .unset, .unset, .unset, .unset, .unset, .unset, .unset] [])) _
        refine XS.iconst X0.here hx rfl (hb hby at_82) ?_
        exact castTop (by rw [hv11, if_pos hc10] <;> rfl) kt
      · show Steps p.tables e below (s₁.setTop (mkF m 75 #[.val (.int p0), .val (.int p1), .val (.int p2), .val (.int p3), .val (.int p4), .val (.int p5), .val (.int v1), .val (.int v2), .val (.int v3), .val (.int v4), .val (.int v5), .val (.int v7), .val (.int v9), .unset, .unset, .unset, .unset, .unset, .unset, .unset, .unset, .unset, .unset, .unset, .unset, .unset, .unset, .unset] [(.int (p5 &&& (4 : Int32)))])) _
        refine XS.ifNo X0.here hx rfl (hb hby at_75) rfl ((if0 _ _).trans (feq hc10).1) ?_
        show Steps p.tables e below (s₁.setTop (mkF m 78 #[.val (.int p0), .val (.int p1), .val (.int p2), .val (.int p3), .val (.int p4), .val (.int p5), .val (.int v1), .val (.int v2), .val (.int v3), .val (.int v4), .val (.int v5), .val (.int v7), .val (.int v9), .unset, .unset, .unset, .unset, .unset, .unset, .unset, .unset, .unset, .unset, .unset, .unset, .unset, .unset, .unset] [])) _
        refine XS.iconst X0.here hx rfl (hb hby at_78) ?_
        show Steps p.tables e below (s₁.setTop (mkF m 79 #[.val (.int p0), .val (.int p1), .val (.int p2), .val (.int p3), .val (.int p4), .val (.int p5), .val (.int v1), .val (.int v2), .val (.int v3), .val (.int v4), .val (.int v5), .val (.int v7), .val (.int v9), .unset, .unset, .unset, .unset, .unset, .unset, .unset, .unset, .unset, .unset, .unset, .unset, .unset, .unset, .unset] [(.int (1 : Int32))])) _
        refine XS.goto X0.here hx rfl (pc0 := 79) (pc' := 83) rfl (hb hby at_79) (by decide) (by decide) ?_
        exact castTop (by rw [hv11, if_neg hc10] <;> rfl) kt
    show Steps p.tables e below (s₁.setTop (mkF m 83 #[.val (.int p0), .val (.int p1), .val (.int p2), .val (.int p3), .val (.int p4), .val (.int p5), .val (.int v1), .val (.int v2), .val (.int v3), .val (.int v4), .val (.int v5), .val (.int v7), .val (.int v9), .unset, .unset, .unset, .unset, .unset, .unset, .unset, .unset, .unset, .unset, .unset, .unset, .unset, .unset, .unset] [(.int v11)])) _
    refine XS.istore X0.here hx rfl (hb hby at_83) rfl (l' := #[.val (.int p0), .val (.int p1), .val (.int p2), .val (.int p3), .val (.int p4), .val (.int p5), .val (.int v1), .val (.int v2), .val (.int v3), .val (.int v4), .val (.int v5), .val (.int v7), .val (.int v9), .val (.int v11), .unset, .unset, .unset, .unset, .unset, .unset, .unset, .unset, .unset, .unset, .unset, .unset, .unset, .unset]) rfl ?_
    show Steps p.tables e below (s₁.setTop (mkF m 85 #[.val (.int p0), .val (.int p1), .val (.int p2), .val (.int p3), .val (.int p4), .val (.int p5), .val (.int v1), .val (.int v2), .val (.int v3), .val (.int v4), .val (.int v5), .val (.int v7), .val (.int v9), .val (.int v11), .unset, .unset, .unset, .unset, .unset, .unset, .unset, .unset, .unset, .unset, .unset, .unset, .unset, .unset] [])) _
    refine XS.iload X0.here hx rfl (hb hby at_85) rfl ?_
    show Steps p.tables e below (s₁.setTop (mkF m 87 #[.val (.int p0), .val (.int p1), .val (.int p2), .val (.int p3), .val (.int p4), .val (.int p5), .val (.int v1), .val (.int v2), .val (.int v3), .val (.int v4), .val (.int v5), .val (.int v7), .val (.int v9), .val (.int v11), .unset, .unset, .unset, .unset, .unset, .unset, .unset, .unset, .unset, .unset, .unset, .unset, .unset, .unset] [(.int p5)])) _
    refine XS.bipush X0.here hx rfl (hb hby at_87) ?_
    show Steps p.tables e below (s₁.setTop (mkF m 89 #[.val (.int p0), .val (.int p1), .val (.int p2), .val (.int p3), .val (.int p4), .val (.int p5), .val (.int v1), .val (.int v2), .val (.int v3), .val (.int v4), .val (.int v5), .val (.int v7), .val (.int v9), .val (.int v11), .unset, .unset, .unset, .unset, .unset, .unset, .unset, .unset, .unset, .unset, .unset, .unset, .unset, .unset] [(.int (8 : Int32)), (.int p5)])) _
    refine XS.iand X0.here hx rfl (hb hby at_89) rfl ?_
    show Steps p.tables e below (s₁.setTop (mkF m 90 #[.val (.int p0), .val (.int p1), .val (.int p2), .val (.int p3), .val (.int p4), .val (.int p5), .val (.int v1), .val (.int v2), .val (.int v3), .val (.int v4), .val (.int v5), .val (.int v7), .val (.int v9), .val (.int v11), .unset, .unset, .unset, .unset, .unset, .unset, .unset, .unset, .unset, .unset, .unset, .unset, .unset, .unset] [(.int (p5 &&& (8 : Int32)))])) _
    refine own_dia (F := (mkF m 98 #[.val (.int p0), .val (.int p1), .val (.int p2), .val (.int p3), .val (.int p4), .val (.int p5), .val (.int v1), .val (.int v2), .val (.int v3), .val (.int v4), .val (.int v5), .val (.int v7), .val (.int v9), .val (.int v11), .unset, .unset, .unset, .unset, .unset, .unset, .unset, .unset, .unset, .unset, .unset, .unset, .unset, .unset] [(.int v13)])) ?_ ?_
    · intro kt
      by_cases hc12 : (p5 &&& (8 : Int32)) = (0 : Int32)
      · show Steps p.tables e below (s₁.setTop (mkF m 90 #[.val (.int p0), .val (.int p1), .val (.int p2), .val (.int p3), .val (.int p4), .val (.int p5), .val (.int v1), .val (.int v2), .val (.int v3), .val (.int v4), .val (.int v5), .val (.int v7), .val (.int v9), .val (.int v11), .unset, .unset, .unset, .unset, .unset, .unset, .unset, .unset, .unset, .unset, .unset, .unset, .unset, .unset] [(.int (p5 &&& (8 : Int32)))])) _
        refine XS.ifYes X0.here hx rfl (pc0 := 90) (pc' := 97) rfl (hb hby at_90) rfl ((if0 _ _).trans (teq hc12).1) (by decide) (by decide) ?_
        show Steps p.tables e below (s₁.setTop (mkF m 97 #[.val (.int p0), .val (.int p1), .val (.int p2), .val (.int p3), .val (.int p4), .val (.int p5), .val (.int v1), .val (.int v2), .val (.int v3), .val (.int v4), .val (.int v5), .val (.int v7), .val (.int v9), .val (.int v11), .unset, .unset, .unset, .unset, .unset, .unset, .unset, .unset, .unset, .unset, .unset, .unset, .unset, .unset] [])) _
        refine XS.iconst X0.here hx rfl (hb hby at_97) ?_
        exact castTop (by rw [hv13, if_pos hc12] <;> rfl) kt
      · show Steps p.tables e below (s₁.setTop (mkF m 90 #[.val (.int p0), .val (.int p1), .val (.int p2), .val (.int p3), .val (.int p4), .val (.int p5), .val (.int v1), .val (.int v2), .val (.int v3), .val (.int v4), .val (.int v5), .val (.int v7), .val (.int v9), .val (.int v11), .unset, .unset, .unset, .unset, .unset, .unset, .unset, .unset, .unset, .unset, .unset, .unset, .unset, .unset] [(.int (p5 &&& (8 : Int32)))])) _
        refine XS.ifNo X0.here hx rfl (hb hby at_90) rfl ((if0 _ _).trans (feq hc12).1) ?_
        show Steps p.tables e below (s₁.setTop (mkF m 93 #[.val (.int p0), .val (.int p1), .val (.int p2), .val (.int p3), .val (.int p4), .val (.int p5), .val (.int v1), .val (.int v2), .val (.int v3), .val (.int v4), .val (.int v5), .val (.int v7), .val (.int v9), .val (.int v11), .unset, .unset, .unset, .unset, .unset, .unset, .unset, .unset, .unset, .unset, .unset, .unset, .unset, .unset] [])) _
        refine XS.iconst X0.here hx rfl (hb hby at_93) ?_
        show Steps p.tables e below (s₁.setTop (mkF m 94 #[.val (.int p0), .val (.int p1), .val (.int p2), .val (.int p3), .val (.int p4), .val (.int p5), .val (.int v1), .val (.int v2), .val (.int v3), .val (.int v4), .val (.int v5), .val (.int v7), .val (.int v9), .val (.int v11), .unset, .unset, .unset, .unset, .unset, .unset, .unset, .unset, .unset, .unset, .unset, .unset, .unset, .unset] [(.int (1 : Int32))])) _
        refine XS.goto X0.here hx rfl (pc0 := 94) (pc' := 98) rfl (hb hby at_94) (by decide) (by decide) ?_
        exact castTop (by rw [hv13, if_neg hc12] <;> rfl) kt
    show Steps p.tables e below (s₁.setTop (mkF m 98 #[.val (.int p0), .val (.int p1), .val (.int p2), .val (.int p3), .val (.int p4), .val (.int p5), .val (.int v1), .val (.int v2), .val (.int v3), .val (.int v4), .val (.int v5), .val (.int v7), .val (.int v9), .val (.int v11), .unset, .unset, .unset, .unset, .unset, .unset, .unset, .unset, .unset, .unset, .unset, .unset, .unset, .unset] [(.int v13)])) _
    refine XS.istore X0.here hx rfl (hb hby at_98) rfl (l' := #[.val (.int p0), .val (.int p1), .val (.int p2), .val (.int p3), .val (.int p4), .val (.int p5), .val (.int v1), .val (.int v2), .val (.int v3), .val (.int v4), .val (.int v5), .val (.int v7), .val (.int v9), .val (.int v11), .val (.int v13), .unset, .unset, .unset, .unset, .unset, .unset, .unset, .unset, .unset, .unset, .unset, .unset, .unset]) rfl ?_
    show Steps p.tables e below (s₁.setTop (mkF m 100 #[.val (.int p0), .val (.int p1), .val (.int p2), .val (.int p3), .val (.int p4), .val (.int p5), .val (.int v1), .val (.int v2), .val (.int v3), .val (.int v4), .val (.int v5), .val (.int v7), .val (.int v9), .val (.int v11), .val (.int v13), .unset, .unset, .unset, .unset, .unset, .unset, .unset, .unset, .unset, .unset, .unset, .unset, .unset] [])) _
    refine XS.iload X0.here hx rfl (hb hby at_100) rfl ?_
    show Steps p.tables e below (s₁.setTop (mkF m 102 #[.val (.int p0), .val (.int p1), .val (.int p2), .val (.int p3), .val (.int p4), .val (.int p5), .val (.int v1), .val (.int v2), .val (.int v3), .val (.int v4), .val (.int v5), .val (.int v7), .val (.int v9), .val (.int v11), .val (.int v13), .unset, .unset, .unset, .unset, .unset, .unset, .unset, .unset, .unset, .unset, .unset, .unset, .unset] [(.int p5)])) _
    refine XS.bipush X0.here hx rfl (hb hby at_102) ?_
    show Steps p.tables e below (s₁.setTop (mkF m 104 #[.val (.int p0), .val (.int p1), .val (.int p2), .val (.int p3), .val (.int p4), .val (.int p5), .val (.int v1), .val (.int v2), .val (.int v3), .val (.int v4), .val (.int v5), .val (.int v7), .val (.int v9), .val (.int v11), .val (.int v13), .unset, .unset, .unset, .unset, .unset, .unset, .unset, .unset, .unset, .unset, .unset, .unset, .unset] [(.int (16 : Int32)), (.int p5)])) _
    refine XS.iand X0.here hx rfl (hb hby at_104) rfl ?_
    show Steps p.tables e below (s₁.setTop (mkF m 105 #[.val (.int p0), .val (.int p1), .val (.int p2), .val (.int p3), .val (.int p4), .val (.int p5), .val (.int v1), .val (.int v2), .val (.int v3), .val (.int v4), .val (.int v5), .val (.int v7), .val (.int v9), .val (.int v11), .val (.int v13), .unset, .unset, .unset, .unset, .unset, .unset, .unset, .unset, .unset, .unset, .unset, .unset, .unset] [(.int (p5 &&& (16 : Int32)))])) _
    refine own_dia (F := (mkF m 113 #[.val (.int p0), .val (.int p1), .val (.int p2), .val (.int p3), .val (.int p4), .val (.int p5), .val (.int v1), .val (.int v2), .val (.int v3), .val (.int v4), .val (.int v5), .val (.int v7), .val (.int v9), .val (.int v11), .val (.int v13), .unset, .unset, .unset, .unset, .unset, .unset, .unset, .unset, .unset, .unset, .unset, .unset, .unset] [(.int v15)])) ?_ ?_
    · intro kt
      by_cases hc14 : (p5 &&& (16 : Int32)) = (0 : Int32)
      · show Steps p.tables e below (s₁.setTop (mkF m 105 #[.val (.int p0), .val (.int p1), .val (.int p2), .val (.int p3), .val (.int p4), .val (.int p5), .val (.int v1), .val (.int v2), .val (.int v3), .val (.int v4), .val (.int v5), .val (.int v7), .val (.int v9), .val (.int v11), .val (.int v13), .unset, .unset, .unset, .unset, .unset, .unset, .unset, .unset, .unset, .unset, .unset, .unset, .unset] [(.int (p5 &&& (16 : Int32)))])) _
        refine XS.ifYes X0.here hx rfl (pc0 := 105) (pc' := 112) rfl (hb hby at_105) rfl ((if0 _ _).trans (teq hc14).1) (by decide) (by decide) ?_
        show Steps p.tables e below (s₁.setTop (mkF m 112 #[.val (.int p0), .val (.int p1), .val (.int p2), .val (.int p3), .val (.int p4), .val (.int p5), .val (.int v1), .val (.int v2), .val (.int v3), .val (.int v4), .val (.int v5), .val (.int v7), .val (.int v9), .val (.int v11), .val (.int v13), .unset, .unset, .unset, .unset, .unset, .unset, .unset, .unset, .unset, .unset, .unset, .unset, .unset] [])) _
        refine XS.iconst X0.here hx rfl (hb hby at_112) ?_
        exact castTop (by rw [hv15, if_pos hc14] <;> rfl) kt
      · show Steps p.tables e below (s₁.setTop (mkF m 105 #[.val (.int p0), .val (.int p1), .val (.int p2), .val (.int p3), .val (.int p4), .val (.int p5), .val (.int v1), .val (.int v2), .val (.int v3), .val (.int v4), .val (.int v5), .val (.int v7), .val (.int v9), .val (.int v11), .val (.int v13), .unset, .unset, .unset, .unset, .unset, .unset, .unset, .unset, .unset, .unset, .unset, .unset, .unset] [(.int (p5 &&& (16 : Int32)))])) _
        refine XS.ifNo X0.here hx rfl (hb hby at_105) rfl ((if0 _ _).trans (feq hc14).1) ?_
        show Steps p.tables e below (s₁.setTop (mkF m 108 #[.val (.int p0), .val (.int p1), .val (.int p2), .val (.int p3), .val (.int p4), .val (.int p5), .val (.int v1), .val (.int v2), .val (.int v3), .val (.int v4), .val (.int v5), .val (.int v7), .val (.int v9), .val (.int v11), .val (.int v13), .unset, .unset, .unset, .unset, .unset, .unset, .unset, .unset, .unset, .unset, .unset, .unset, .unset] [])) _
        refine XS.iconst X0.here hx rfl (hb hby at_108) ?_
        show Steps p.tables e below (s₁.setTop (mkF m 109 #[.val (.int p0), .val (.int p1), .val (.int p2), .val (.int p3), .val (.int p4), .val (.int p5), .val (.int v1), .val (.int v2), .val (.int v3), .val (.int v4), .val (.int v5), .val (.int v7), .val (.int v9), .val (.int v11), .val (.int v13), .unset, .unset, .unset, .unset, .unset, .unset, .unset, .unset, .unset, .unset, .unset, .unset, .unset] [(.int (1 : Int32))])) _
        refine XS.goto X0.here hx rfl (pc0 := 109) (pc' := 113) rfl (hb hby at_109) (by decide) (by decide) ?_
        exact castTop (by rw [hv15, if_neg hc14] <;> rfl) kt
    show Steps p.tables e below (s₁.setTop (mkF m 113 #[.val (.int p0), .val (.int p1), .val (.int p2), .val (.int p3), .val (.int p4), .val (.int p5), .val (.int v1), .val (.int v2), .val (.int v3), .val (.int v4), .val (.int v5), .val (.int v7), .val (.int v9), .val (.int v11), .val (.int v13), .unset, .unset, .unset, .unset, .unset, .unset, .unset, .unset, .unset, .unset, .unset, .unset, .unset] [(.int v15)])) _
    refine XS.istore X0.here hx rfl (hb hby at_113) rfl (l' := #[.val (.int p0), .val (.int p1), .val (.int p2), .val (.int p3), .val (.int p4), .val (.int p5), .val (.int v1), .val (.int v2), .val (.int v3), .val (.int v4), .val (.int v5), .val (.int v7), .val (.int v9), .val (.int v11), .val (.int v13), .val (.int v15), .unset, .unset, .unset, .unset, .unset, .unset, .unset, .unset, .unset, .unset, .unset, .unset]) rfl ?_
    show Steps p.tables e below (s₁.setTop (mkF m 115 #[.val (.int p0), .val (.int p1), .val (.int p2), .val (.int p3), .val (.int p4), .val (.int p5), .val (.int v1), .val (.int v2), .val (.int v3), .val (.int v4), .val (.int v5), .val (.int v7), .val (.int v9), .val (.int v11), .val (.int v13), .val (.int v15), .unset, .unset, .unset, .unset, .unset, .unset, .unset, .unset, .unset, .unset, .unset, .unset] [])) _
    refine XS.iload X0.here hx rfl (hb hby at_115) rfl ?_
    show Steps p.tables e below (s₁.setTop (mkF m 117 #[.val (.int p0), .val (.int p1), .val (.int p2), .val (.int p3), .val (.int p4), .val (.int p5), .val (.int v1), .val (.int v2), .val (.int v3), .val (.int v4), .val (.int v5), .val (.int v7), .val (.int v9), .val (.int v11), .val (.int v13), .val (.int v15), .unset, .unset, .unset, .unset, .unset, .unset, .unset, .unset, .unset, .unset, .unset, .unset] [(.int p5)])) _
    refine XS.bipush X0.here hx rfl (hb hby at_117) ?_
    show Steps p.tables e below (s₁.setTop (mkF m 119 #[.val (.int p0), .val (.int p1), .val (.int p2), .val (.int p3), .val (.int p4), .val (.int p5), .val (.int v1), .val (.int v2), .val (.int v3), .val (.int v4), .val (.int v5), .val (.int v7), .val (.int v9), .val (.int v11), .val (.int v13), .val (.int v15), .unset, .unset, .unset, .unset, .unset, .unset, .unset, .unset, .unset, .unset, .unset, .unset] [(.int (32 : Int32)), (.int p5)])) _
    refine XS.iand X0.here hx rfl (hb hby at_119) rfl ?_
    show Steps p.tables e below (s₁.setTop (mkF m 120 #[.val (.int p0), .val (.int p1), .val (.int p2), .val (.int p3), .val (.int p4), .val (.int p5), .val (.int v1), .val (.int v2), .val (.int v3), .val (.int v4), .val (.int v5), .val (.int v7), .val (.int v9), .val (.int v11), .val (.int v13), .val (.int v15), .unset, .unset, .unset, .unset, .unset, .unset, .unset, .unset, .unset, .unset, .unset, .unset] [(.int (p5 &&& (32 : Int32)))])) _
    refine own_dia (F := (mkF m 128 #[.val (.int p0), .val (.int p1), .val (.int p2), .val (.int p3), .val (.int p4), .val (.int p5), .val (.int v1), .val (.int v2), .val (.int v3), .val (.int v4), .val (.int v5), .val (.int v7), .val (.int v9), .val (.int v11), .val (.int v13), .val (.int v15), .unset, .unset, .unset, .unset, .unset, .unset, .unset, .unset, .unset, .unset, .unset, .unset] [(.int v17)])) ?_ ?_
    · intro kt
      by_cases hc16 : (p5 &&& (32 : Int32)) = (0 : Int32)
      · show Steps p.tables e below (s₁.setTop (mkF m 120 #[.val (.int p0), .val (.int p1), .val (.int p2), .val (.int p3), .val (.int p4), .val (.int p5), .val (.int v1), .val (.int v2), .val (.int v3), .val (.int v4), .val (.int v5), .val (.int v7), .val (.int v9), .val (.int v11), .val (.int v13), .val (.int v15), .unset, .unset, .unset, .unset, .unset, .unset, .unset, .unset, .unset, .unset, .unset, .unset] [(.int (p5 &&& (32 : Int32)))])) _
        refine XS.ifYes X0.here hx rfl (pc0 := 120) (pc' := 127) rfl (hb hby at_120) rfl ((if0 _ _).trans (teq hc16).1) (by decide) (by decide) ?_
        show Steps p.tables e below (s₁.setTop (mkF m 127 #[.val (.int p0), .val (.int p1), .val (.int p2), .val (.int p3), .val (.int p4), .val (.int p5), .val (.int v1), .val (.int v2), .val (.int v3), .val (.int v4), .val (.int v5), .val (.int v7), .val (.int v9), .val (.int v11), .val (.int v13), .val (.int v15), .unset, .unset, .unset, .unset, .unset, .unset, .unset, .unset, .unset, .unset, .unset, .unset] [])) _
        refine XS.iconst X0.here hx rfl (hb hby at_127) ?_
        exact castTop (by rw [hv17, if_pos hc16] <;> rfl) kt
      · show Steps p.tables e below (s₁.setTop (mkF m 120 #[.val (.int p0), .val (.int p1), .val (.int p2), .val (.int p3), .val (.int p4), .val (.int p5), .val (.int v1), .val (.int v2), .val (.int v3), .val (.int v4), .val (.int v5), .val (.int v7), .val (.int v9), .val (.int v11), .val (.int v13), .val (.int v15), .unset, .unset, .unset, .unset, .unset, .unset, .unset, .unset, .unset, .unset, .unset, .unset] [(.int (p5 &&& (32 : Int32)))])) _
        refine XS.ifNo X0.here hx rfl (hb hby at_120) rfl ((if0 _ _).trans (feq hc16).1) ?_
        show Steps p.tables e below (s₁.setTop (mkF m 123 #[.val (.int p0), .val (.int p1), .val (.int p2), .val (.int p3), .val (.int p4), .val (.int p5), .val (.int v1), .val (.int v2), .val (.int v3), .val (.int v4), .val (.int v5), .val (.int v7), .val (.int v9), .val (.int v11), .val (.int v13), .val (.int v15), .unset, .unset, .unset, .unset, .unset, .unset, .unset, .unset, .unset, .unset, .unset, .unset] [])) _
        refine XS.iconst X0.here hx rfl (hb hby at_123) ?_
        show Steps p.tables e below (s₁.setTop (mkF m 124 #[.val (.int p0), .val (.int p1), .val (.int p2), .val (.int p3), .val (.int p4), .val (.int p5), .val (.int v1), .val (.int v2), .val (.int v3), .val (.int v4), .val (.int v5), .val (.int v7), .val (.int v9), .val (.int v11), .val (.int v13), .val (.int v15), .unset, .unset, .unset, .unset, .unset, .unset, .unset, .unset, .unset, .unset, .unset, .unset] [(.int (1 : Int32))])) _
        refine XS.goto X0.here hx rfl (pc0 := 124) (pc' := 128) rfl (hb hby at_124) (by decide) (by decide) ?_
        exact castTop (by rw [hv17, if_neg hc16] <;> rfl) kt
    show Steps p.tables e below (s₁.setTop (mkF m 128 #[.val (.int p0), .val (.int p1), .val (.int p2), .val (.int p3), .val (.int p4), .val (.int p5), .val (.int v1), .val (.int v2), .val (.int v3), .val (.int v4), .val (.int v5), .val (.int v7), .val (.int v9), .val (.int v11), .val (.int v13), .val (.int v15), .unset, .unset, .unset, .unset, .unset, .unset, .unset, .unset, .unset, .unset, .unset, .unset] [(.int v17)])) _
    refine XS.istore X0.here hx rfl (hb hby at_128) rfl (l' := #[.val (.int p0), .val (.int p1), .val (.int p2), .val (.int p3), .val (.int p4), .val (.int p5), .val (.int v1), .val (.int v2), .val (.int v3), .val (.int v4), .val (.int v5), .val (.int v7), .val (.int v9), .val (.int v11), .val (.int v13), .val (.int v15), .val (.int v17), .unset, .unset, .unset, .unset, .unset, .unset, .unset, .unset, .unset, .unset, .unset]) rfl ?_
    show Steps p.tables e below (s₁.setTop (mkF m 130 #[.val (.int p0), .val (.int p1), .val (.int p2), .val (.int p3), .val (.int p4), .val (.int p5), .val (.int v1), .val (.int v2), .val (.int v3), .val (.int v4), .val (.int v5), .val (.int v7), .val (.int v9), .val (.int v11), .val (.int v13), .val (.int v15), .val (.int v17), .unset, .unset, .unset, .unset, .unset, .unset, .unset, .unset, .unset, .unset, .unset] [])) _
    refine XS.iload X0.here hx rfl (hb hby at_130) rfl ?_
    show Steps p.tables e below (s₁.setTop (mkF m 132 #[.val (.int p0), .val (.int p1), .val (.int p2), .val (.int p3), .val (.int p4), .val (.int p5), .val (.int v1), .val (.int v2), .val (.int v3), .val (.int v4), .val (.int v5), .val (.int v7), .val (.int v9), .val (.int v11), .val (.int v13), .val (.int v15), .val (.int v17), .unset, .unset, .unset, .unset, .unset, .unset, .unset, .unset, .unset, .unset, .unset] [(.int p5)])) _
    refine XS.bipush X0.here hx rfl (hb hby at_132) ?_
    show Steps p.tables e below (s₁.setTop (mkF m 134 #[.val (.int p0), .val (.int p1), .val (.int p2), .val (.int p3), .val (.int p4), .val (.int p5), .val (.int v1), .val (.int v2), .val (.int v3), .val (.int v4), .val (.int v5), .val (.int v7), .val (.int v9), .val (.int v11), .val (.int v13), .val (.int v15), .val (.int v17), .unset, .unset, .unset, .unset, .unset, .unset, .unset, .unset, .unset, .unset, .unset] [(.int (6 : Int32)), (.int p5)])) _
    refine XS.iushr X0.here hx rfl (hb hby at_134) rfl ?_
    show Steps p.tables e below (s₁.setTop (mkF m 135 #[.val (.int p0), .val (.int p1), .val (.int p2), .val (.int p3), .val (.int p4), .val (.int p5), .val (.int v1), .val (.int v2), .val (.int v3), .val (.int v4), .val (.int v5), .val (.int v7), .val (.int v9), .val (.int v11), .val (.int v13), .val (.int v15), .val (.int v17), .unset, .unset, .unset, .unset, .unset, .unset, .unset, .unset, .unset, .unset, .unset] [(.int ((p5.toUInt32 >>> ((6 : Int32) &&& 31).toUInt32).toInt32))])) _
    refine XS.iconst X0.here hx rfl (hb hby at_135) ?_
    show Steps p.tables e below (s₁.setTop (mkF m 136 #[.val (.int p0), .val (.int p1), .val (.int p2), .val (.int p3), .val (.int p4), .val (.int p5), .val (.int v1), .val (.int v2), .val (.int v3), .val (.int v4), .val (.int v5), .val (.int v7), .val (.int v9), .val (.int v11), .val (.int v13), .val (.int v15), .val (.int v17), .unset, .unset, .unset, .unset, .unset, .unset, .unset, .unset, .unset, .unset, .unset] [(.int (3 : Int32)), (.int ((p5.toUInt32 >>> ((6 : Int32) &&& 31).toUInt32).toInt32))])) _
    refine XS.iand X0.here hx rfl (hb hby at_136) rfl ?_
    show Steps p.tables e below (s₁.setTop (mkF m 137 #[.val (.int p0), .val (.int p1), .val (.int p2), .val (.int p3), .val (.int p4), .val (.int p5), .val (.int v1), .val (.int v2), .val (.int v3), .val (.int v4), .val (.int v5), .val (.int v7), .val (.int v9), .val (.int v11), .val (.int v13), .val (.int v15), .val (.int v17), .unset, .unset, .unset, .unset, .unset, .unset, .unset, .unset, .unset, .unset, .unset] [(.int (((p5.toUInt32 >>> ((6 : Int32) &&& 31).toUInt32).toInt32) &&& (3 : Int32)))])) _
    refine castTop (g' := (mkF m 137 #[.val (.int p0), .val (.int p1), .val (.int p2), .val (.int p3), .val (.int p4), .val (.int p5), .val (.int v1), .val (.int v2), .val (.int v3), .val (.int v4), .val (.int v5), .val (.int v7), .val (.int v9), .val (.int v11), .val (.int v13), .val (.int v15), .val (.int v17), .unset, .unset, .unset, .unset, .unset, .unset, .unset, .unset, .unset, .unset, .unset] [(.int v18)])) (by rw [hv18] <;> rfl) ?_
    show Steps p.tables e below (s₁.setTop (mkF m 137 #[.val (.int p0), .val (.int p1), .val (.int p2), .val (.int p3), .val (.int p4), .val (.int p5), .val (.int v1), .val (.int v2), .val (.int v3), .val (.int v4), .val (.int v5), .val (.int v7), .val (.int v9), .val (.int v11), .val (.int v13), .val (.int v15), .val (.int v17), .unset, .unset, .unset, .unset, .unset, .unset, .unset, .unset, .unset, .unset, .unset] [(.int v18)])) _
    refine XS.istore X0.here hx rfl (hb hby at_137) rfl (l' := #[.val (.int p0), .val (.int p1), .val (.int p2), .val (.int p3), .val (.int p4), .val (.int p5), .val (.int v1), .val (.int v2), .val (.int v3), .val (.int v4), .val (.int v5), .val (.int v7), .val (.int v9), .val (.int v11), .val (.int v13), .val (.int v15), .val (.int v17), .val (.int v18), .unset, .unset, .unset, .unset, .unset, .unset, .unset, .unset, .unset, .unset]) rfl ?_
    show Steps p.tables e below (s₁.setTop (mkF m 139 #[.val (.int p0), .val (.int p1), .val (.int p2), .val (.int p3), .val (.int p4), .val (.int p5), .val (.int v1), .val (.int v2), .val (.int v3), .val (.int v4), .val (.int v5), .val (.int v7), .val (.int v9), .val (.int v11), .val (.int v13), .val (.int v15), .val (.int v17), .val (.int v18), .unset, .unset, .unset, .unset, .unset, .unset, .unset, .unset, .unset, .unset] [])) _
    refine st19 _ ?_
    show Steps p.tables e below (T19.setTop (mkF m 142 #[.val (.int p0), .val (.int p1), .val (.int p2), .val (.int p3), .val (.int p4), .val (.int p5), .val (.int v1), .val (.int v2), .val (.int v3), .val (.int v4), .val (.int v5), .val (.int v7), .val (.int v9), .val (.int v11), .val (.int v13), .val (.int v15), .val (.int v17), .val (.int v18), .unset, .unset, .unset, .unset, .unset, .unset, .unset, .unset, .unset, .unset] [(.ref b19)])) _
    refine XS.dup X19.here hx rfl (hb hby at_142) rfl rfl ?_
    show Steps p.tables e below (T19.setTop (mkF m 143 #[.val (.int p0), .val (.int p1), .val (.int p2), .val (.int p3), .val (.int p4), .val (.int p5), .val (.int v1), .val (.int v2), .val (.int v3), .val (.int v4), .val (.int v5), .val (.int v7), .val (.int v9), .val (.int v11), .val (.int v13), .val (.int v15), .val (.int v17), .val (.int v18), .unset, .unset, .unset, .unset, .unset, .unset, .unset, .unset, .unset, .unset] [(.ref b19), (.ref b19)])) _
    refine st22 _ ?_
    show Steps p.tables e below (T22.setTop (mkF m 145 #[.val (.int p0), .val (.int p1), .val (.int p2), .val (.int p3), .val (.int p4), .val (.int p5), .val (.int v1), .val (.int v2), .val (.int v3), .val (.int v4), .val (.int v5), .val (.int v7), .val (.int v9), .val (.int v11), .val (.int v13), .val (.int v15), .val (.int v17), .val (.int v18), .unset, .unset, .unset, .unset, .unset, .unset, .unset, .unset, .unset, .unset] [(.ref as22), (.ref b19), (.ref b19)])) _
    refine st23 _ ?_
    show Steps p.tables e below (T23.setTop (mkF m 147 #[.val (.int p0), .val (.int p1), .val (.int p2), .val (.int p3), .val (.int p4), .val (.int p5), .val (.int v1), .val (.int v2), .val (.int v3), .val (.int v4), .val (.int v5), .val (.int v7), .val (.int v9), .val (.int v11), .val (.int v13), .val (.int v15), .val (.int v17), .val (.int v18), .unset, .unset, .unset, .unset, .unset, .unset, .unset, .unset, .unset, .unset] [(.ref as23), (.ref as22), (.ref b19), (.ref b19)])) _
    refine XS.aconstNull X23.here hx rfl (hb hby at_147) ?_
    show Steps p.tables e below (T23.setTop (mkF m 148 #[.val (.int p0), .val (.int p1), .val (.int p2), .val (.int p3), .val (.int p4), .val (.int p5), .val (.int v1), .val (.int v2), .val (.int v3), .val (.int v4), .val (.int v5), .val (.int v7), .val (.int v9), .val (.int v11), .val (.int v13), .val (.int v15), .val (.int v17), .val (.int v18), .unset, .unset, .unset, .unset, .unset, .unset, .unset, .unset, .unset, .unset] [.null, (.ref as23), (.ref as22), (.ref b19), (.ref b19)])) _
    refine XS.aconstNull X23.here hx rfl (hb hby at_148) ?_
    show Steps p.tables e below (T23.setTop (mkF m 149 #[.val (.int p0), .val (.int p1), .val (.int p2), .val (.int p3), .val (.int p4), .val (.int p5), .val (.int v1), .val (.int v2), .val (.int v3), .val (.int v4), .val (.int v5), .val (.int v7), .val (.int v9), .val (.int v11), .val (.int v13), .val (.int v15), .val (.int v17), .val (.int v18), .unset, .unset, .unset, .unset, .unset, .unset, .unset, .unset, .unset, .unset] [.null, .null, (.ref as23), (.ref as22), (.ref b19), (.ref b19)])) _
    refine XS.iconst X23.here hx rfl (hb hby at_149) ?_
    show Steps p.tables e below (T23.setTop (mkF m 150 #[.val (.int p0), .val (.int p1), .val (.int p2), .val (.int p3), .val (.int p4), .val (.int p5), .val (.int v1), .val (.int v2), .val (.int v3), .val (.int v4), .val (.int v5), .val (.int v7), .val (.int v9), .val (.int v11), .val (.int v13), .val (.int v15), .val (.int v17), .val (.int v18), .unset, .unset, .unset, .unset, .unset, .unset, .unset, .unset, .unset, .unset] [(.int (0 : Int32)), .null, .null, (.ref as23), (.ref as22), (.ref b19), (.ref b19)])) _
    refine st37.trans ?_
    show Steps p.tables e below (T37.setTop (mkF m 153 #[.val (.int p0), .val (.int p1), .val (.int p2), .val (.int p3), .val (.int p4), .val (.int p5), .val (.int v1), .val (.int v2), .val (.int v3), .val (.int v4), .val (.int v5), .val (.int v7), .val (.int v9), .val (.int v11), .val (.int v13), .val (.int v15), .val (.int v17), .val (.int v18), .unset, .unset, .unset, .unset, .unset, .unset, .unset, .unset, .unset, .unset] [(.ref b19)])) _
    refine XS.astore X37.here hx rfl (hb hby at_153) rfl rfl (l' := #[.val (.int p0), .val (.int p1), .val (.int p2), .val (.int p3), .val (.int p4), .val (.int p5), .val (.int v1), .val (.int v2), .val (.int v3), .val (.int v4), .val (.int v5), .val (.int v7), .val (.int v9), .val (.int v11), .val (.int v13), .val (.int v15), .val (.int v17), .val (.int v18), .val (.ref b19), .unset, .unset, .unset, .unset, .unset, .unset, .unset, .unset, .unset]) rfl ?_
    show Steps p.tables e below (T37.setTop (mkF m 155 #[.val (.int p0), .val (.int p1), .val (.int p2), .val (.int p3), .val (.int p4), .val (.int p5), .val (.int v1), .val (.int v2), .val (.int v3), .val (.int v4), .val (.int v5), .val (.int v7), .val (.int v9), .val (.int v11), .val (.int v13), .val (.int v15), .val (.int v17), .val (.int v18), .val (.ref b19), .unset, .unset, .unset, .unset, .unset, .unset, .unset, .unset, .unset] [])) _
    refine st38 _ ?_
    show Steps p.tables e below (T38.setTop (mkF m 158 #[.val (.int p0), .val (.int p1), .val (.int p2), .val (.int p3), .val (.int p4), .val (.int p5), .val (.int v1), .val (.int v2), .val (.int v3), .val (.int v4), .val (.int v5), .val (.int v7), .val (.int v9), .val (.int v11), .val (.int v13), .val (.int v15), .val (.int v17), .val (.int v18), .val (.ref b19), .unset, .unset, .unset, .unset, .unset, .unset, .unset, .unset, .unset] [(.ref b38)])) _
    refine XS.dup X38.here hx rfl (hb hby at_158) rfl rfl ?_
    show Steps p.tables e below (T38.setTop (mkF m 159 #[.val (.int p0), .val (.int p1), .val (.int p2), .val (.int p3), .val (.int p4), .val (.int p5), .val (.int v1), .val (.int v2), .val (.int v3), .val (.int v4), .val (.int v5), .val (.int v7), .val (.int v9), .val (.int v11), .val (.int v13), .val (.int v15), .val (.int v17), .val (.int v18), .val (.ref b19), .unset, .unset, .unset, .unset, .unset, .unset, .unset, .unset, .unset] [(.ref b38), (.ref b38)])) _
    refine st42 _ ?_
    show Steps p.tables e below (T42.setTop (mkF m 161 #[.val (.int p0), .val (.int p1), .val (.int p2), .val (.int p3), .val (.int p4), .val (.int p5), .val (.int v1), .val (.int v2), .val (.int v3), .val (.int v4), .val (.int v5), .val (.int v7), .val (.int v9), .val (.int v11), .val (.int v13), .val (.int v15), .val (.int v17), .val (.int v18), .val (.ref b19), .unset, .unset, .unset, .unset, .unset, .unset, .unset, .unset, .unset] [(.ref as42), (.ref b38), (.ref b38)])) _
    refine st43 _ ?_
    show Steps p.tables e below (T43.setTop (mkF m 163 #[.val (.int p0), .val (.int p1), .val (.int p2), .val (.int p3), .val (.int p4), .val (.int p5), .val (.int v1), .val (.int v2), .val (.int v3), .val (.int v4), .val (.int v5), .val (.int v7), .val (.int v9), .val (.int v11), .val (.int v13), .val (.int v15), .val (.int v17), .val (.int v18), .val (.ref b19), .unset, .unset, .unset, .unset, .unset, .unset, .unset, .unset, .unset] [(.ref as43), (.ref as42), (.ref b38), (.ref b38)])) _
    refine XS.aconstNull X43.here hx rfl (hb hby at_163) ?_
    show Steps p.tables e below (T43.setTop (mkF m 164 #[.val (.int p0), .val (.int p1), .val (.int p2), .val (.int p3), .val (.int p4), .val (.int p5), .val (.int v1), .val (.int v2), .val (.int v3), .val (.int v4), .val (.int v5), .val (.int v7), .val (.int v9), .val (.int v11), .val (.int v13), .val (.int v15), .val (.int v17), .val (.int v18), .val (.ref b19), .unset, .unset, .unset, .unset, .unset, .unset, .unset, .unset, .unset] [.null, (.ref as43), (.ref as42), (.ref b38), (.ref b38)])) _
    refine XS.aconstNull X43.here hx rfl (hb hby at_164) ?_
    show Steps p.tables e below (T43.setTop (mkF m 165 #[.val (.int p0), .val (.int p1), .val (.int p2), .val (.int p3), .val (.int p4), .val (.int p5), .val (.int v1), .val (.int v2), .val (.int v3), .val (.int v4), .val (.int v5), .val (.int v7), .val (.int v9), .val (.int v11), .val (.int v13), .val (.int v15), .val (.int v17), .val (.int v18), .val (.ref b19), .unset, .unset, .unset, .unset, .unset, .unset, .unset, .unset, .unset] [.null, .null, (.ref as43), (.ref as42), (.ref b38), (.ref b38)])) _
    refine XS.iconst X43.here hx rfl (hb hby at_165) ?_
    show Steps p.tables e below (T43.setTop (mkF m 166 #[.val (.int p0), .val (.int p1), .val (.int p2), .val (.int p3), .val (.int p4), .val (.int p5), .val (.int v1), .val (.int v2), .val (.int v3), .val (.int v4), .val (.int v5), .val (.int v7), .val (.int v9), .val (.int v11), .val (.int v13), .val (.int v15), .val (.int v17), .val (.int v18), .val (.ref b19), .unset, .unset, .unset, .unset, .unset, .unset, .unset, .unset, .unset] [(.int (0 : Int32)), .null, .null, (.ref as43), (.ref as42), (.ref b38), (.ref b38)])) _
    refine st57.trans ?_
    show Steps p.tables e below (T57.setTop (mkF m 169 #[.val (.int p0), .val (.int p1), .val (.int p2), .val (.int p3), .val (.int p4), .val (.int p5), .val (.int v1), .val (.int v2), .val (.int v3), .val (.int v4), .val (.int v5), .val (.int v7), .val (.int v9), .val (.int v11), .val (.int v13), .val (.int v15), .val (.int v17), .val (.int v18), .val (.ref b19), .unset, .unset, .unset, .unset, .unset, .unset, .unset, .unset, .unset] [(.ref b38)])) _
    refine XS.astore X57.here hx rfl (hb hby at_169) rfl rfl (l' := #[.val (.int p0), .val (.int p1), .val (.int p2), .val (.int p3), .val (.int p4), .val (.int p5), .val (.int v1), .val (.int v2), .val (.int v3), .val (.int v4), .val (.int v5), .val (.int v7), .val (.int v9), .val (.int v11), .val (.int v13), .val (.int v15), .val (.int v17), .val (.int v18), .val (.ref b19), .val (.ref b38), .unset, .unset, .unset, .unset, .unset, .unset, .unset, .unset]) rfl ?_
    show Steps p.tables e below (T57.setTop (mkF m 171 #[.val (.int p0), .val (.int p1), .val (.int p2), .val (.int p3), .val (.int p4), .val (.int p5), .val (.int v1), .val (.int v2), .val (.int v3), .val (.int v4), .val (.int v5), .val (.int v7), .val (.int v9), .val (.int v11), .val (.int v13), .val (.int v15), .val (.int v17), .val (.int v18), .val (.ref b19), .val (.ref b38), .unset, .unset, .unset, .unset, .unset, .unset, .unset, .unset] [])) _
    refine st59 _ ?_
    show Steps p.tables e below (T59.setTop (mkF m 174 #[.val (.int p0), .val (.int p1), .val (.int p2), .val (.int p3), .val (.int p4), .val (.int p5), .val (.int v1), .val (.int v2), .val (.int v3), .val (.int v4), .val (.int v5), .val (.int v7), .val (.int v9), .val (.int v11), .val (.int v13), .val (.int v15), .val (.int v17), .val (.int v18), .val (.ref b19), .val (.ref b38), .unset, .unset, .unset, .unset, .unset, .unset, .unset, .unset] [(.ref b59)])) _
    refine XS.dup X59.here hx rfl (hb hby at_174) rfl rfl ?_
    show Steps p.tables e below (T59.setTop (mkF m 175 #[.val (.int p0), .val (.int p1), .val (.int p2), .val (.int p3), .val (.int p4), .val (.int p5), .val (.int v1), .val (.int v2), .val (.int v3), .val (.int v4), .val (.int v5), .val (.int v7), .val (.int v9), .val (.int v11), .val (.int v13), .val (.int v15), .val (.int v17), .val (.int v18), .val (.ref b19), .val (.ref b38), .unset, .unset, .unset, .unset, .unset, .unset, .unset, .unset] [(.ref b59), (.ref b59)])) _
    refine st64 _ ?_
    show Steps p.tables e below (T64.setTop (mkF m 177 #[.val (.int p0), .val (.int p1), .val (.int p2), .val (.int p3), .val (.int p4), .val (.int p5), .val (.int v1), .val (.int v2), .val (.int v3), .val (.int v4), .val (.int v5), .val (.int v7), .val (.int v9), .val (.int v11), .val (.int v13), .val (.int v15), .val (.int v17), .val (.int v18), .val (.ref b19), .val (.ref b38), .unset, .unset, .unset, .unset, .unset, .unset, .unset, .unset] [(.ref as64), (.ref b59), (.ref b59)])) _
    refine st65 _ ?_
    show Steps p.tables e below (T65.setTop (mkF m 179 #[.val (.int p0), .val (.int p1), .val (.int p2), .val (.int p3), .val (.int p4), .val (.int p5), .val (.int v1), .val (.int v2), .val (.int v3), .val (.int v4), .val (.int v5), .val (.int v7), .val (.int v9), .val (.int v11), .val (.int v13), .val (.int v15), .val (.int v17), .val (.int v18), .val (.ref b19), .val (.ref b38), .unset, .unset, .unset, .unset, .unset, .unset, .unset, .unset] [(.ref as65), (.ref as64), (.ref b59), (.ref b59)])) _
    refine XS.aconstNull X65.here hx rfl (hb hby at_179) ?_
    show Steps p.tables e below (T65.setTop (mkF m 180 #[.val (.int p0), .val (.int p1), .val (.int p2), .val (.int p3), .val (.int p4), .val (.int p5), .val (.int v1), .val (.int v2), .val (.int v3), .val (.int v4), .val (.int v5), .val (.int v7), .val (.int v9), .val (.int v11), .val (.int v13), .val (.int v15), .val (.int v17), .val (.int v18), .val (.ref b19), .val (.ref b38), .unset, .unset, .unset, .unset, .unset, .unset, .unset, .unset] [.null, (.ref as65), (.ref as64), (.ref b59), (.ref b59)])) _
    refine XS.aconstNull X65.here hx rfl (hb hby at_180) ?_
    show Steps p.tables e below (T65.setTop (mkF m 181 #[.val (.int p0), .val (.int p1), .val (.int p2), .val (.int p3), .val (.int p4), .val (.int p5), .val (.int v1), .val (.int v2), .val (.int v3), .val (.int v4), .val (.int v5), .val (.int v7), .val (.int v9), .val (.int v11), .val (.int v13), .val (.int v15), .val (.int v17), .val (.int v18), .val (.ref b19), .val (.ref b38), .unset, .unset, .unset, .unset, .unset, .unset, .unset, .unset] [.null, .null, (.ref as65), (.ref as64), (.ref b59), (.ref b59)])) _
    refine XS.iconst X65.here hx rfl (hb hby at_181) ?_
    show Steps p.tables e below (T65.setTop (mkF m 182 #[.val (.int p0), .val (.int p1), .val (.int p2), .val (.int p3), .val (.int p4), .val (.int p5), .val (.int v1), .val (.int v2), .val (.int v3), .val (.int v4), .val (.int v5), .val (.int v7), .val (.int v9), .val (.int v11), .val (.int v13), .val (.int v15), .val (.int v17), .val (.int v18), .val (.ref b19), .val (.ref b38), .unset, .unset, .unset, .unset, .unset, .unset, .unset, .unset] [(.int (0 : Int32)), .null, .null, (.ref as65), (.ref as64), (.ref b59), (.ref b59)])) _
    refine st79.trans ?_
    show Steps p.tables e below (T79.setTop (mkF m 185 #[.val (.int p0), .val (.int p1), .val (.int p2), .val (.int p3), .val (.int p4), .val (.int p5), .val (.int v1), .val (.int v2), .val (.int v3), .val (.int v4), .val (.int v5), .val (.int v7), .val (.int v9), .val (.int v11), .val (.int v13), .val (.int v15), .val (.int v17), .val (.int v18), .val (.ref b19), .val (.ref b38), .unset, .unset, .unset, .unset, .unset, .unset, .unset, .unset] [(.ref b59)])) _
    refine XS.astore X79.here hx rfl (hb hby at_185) rfl rfl (l' := #[.val (.int p0), .val (.int p1), .val (.int p2), .val (.int p3), .val (.int p4), .val (.int p5), .val (.int v1), .val (.int v2), .val (.int v3), .val (.int v4), .val (.int v5), .val (.int v7), .val (.int v9), .val (.int v11), .val (.int v13), .val (.int v15), .val (.int v17), .val (.int v18), .val (.ref b19), .val (.ref b38), .val (.ref b59), .unset, .unset, .unset, .unset, .unset, .unset, .unset]) rfl ?_
    show Steps p.tables e below (T79.setTop (mkF m 187 #[.val (.int p0), .val (.int p1), .val (.int p2), .val (.int p3), .val (.int p4), .val (.int p5), .val (.int v1), .val (.int v2), .val (.int v3), .val (.int v4), .val (.int v5), .val (.int v7), .val (.int v9), .val (.int v11), .val (.int v13), .val (.int v15), .val (.int v17), .val (.int v18), .val (.ref b19), .val (.ref b38), .val (.ref b59), .unset, .unset, .unset, .unset, .unset, .unset, .unset] [])) _
    refine XS.iload X79.here hx rfl (hb hby at_187) rfl ?_
    show Steps p.tables e below (T79.setTop (mkF m 189 #[.val (.int p0), .val (.int p1), .val (.int p2), .val (.int p3), .val (.int p4), .val (.int p5), .val (.int v1), .val (.int v2), .val (.int v3), .val (.int v4), .val (.int v5), .val (.int v7), .val (.int v9), .val (.int v11), .val (.int v13), .val (.int v15), .val (.int v17), .val (.int v18), .val (.ref b19), .val (.ref b38), .val (.ref b59), .unset, .unset, .unset, .unset, .unset, .unset, .unset] [(.int v18)])) _
    refine own_dia (F := (mkF m 220 #[.val (.int p0), .val (.int p1), .val (.int p2), .val (.int p3), .val (.int p4), .val (.int p5), .val (.int v1), .val (.int v2), .val (.int v3), .val (.int v4), .val (.int v5), .val (.int v7), .val (.int v9), .val (.int v11), .val (.int v13), .val (.int v15), .val (.int v17), .val (.int v18), .val (.ref b19), .val (.ref b38), .val (.ref b59), .unset, .unset, .unset, .unset, .unset, .unset, .unset] [v87])) ?_ ?_
    · intro kt
      by_cases hc82 : v18 = (0 : Int32)
      · show Steps p.tables e below (T79.setTop (mkF m 189 #[.val (.int p0), .val (.int p1), .val (.int p2), .val (.int p3), .val (.int p4), .val (.int p5), .val (.int v1), .val (.int v2), .val (.int v3), .val (.int v4), .val (.int v5), .val (.int v7), .val (.int v9), .val (.int v11), .val (.int v13), .val (.int v15), .val (.int v17), .val (.int v18), .val (.ref b19), .val (.ref b38), .val (.ref b59), .unset, .unset, .unset, .unset, .unset, .unset, .unset] [(.int v18)])) _
        refine XS.ifNo X79.here hx rfl (hb hby at_189) rfl ((if0 _ _).trans (teq hc82).2) ?_
        show Steps p.tables e below (T79.setTop (mkF m 192 #[.val (.int p0), .val (.int p1), .val (.int p2), .val (.int p3), .val (.int p4), .val (.int p5), .val (.int v1), .val (.int v2), .val (.int v3), .val (.int v4), .val (.int v5), .val (.int v7), .val (.int v9), .val (.int v11), .val (.int v13), .val (.int v15), .val (.int v17), .val (.int v18), .val (.ref b19), .val (.ref b38), .val (.ref b59), .unset, .unset, .unset, .unset, .unset, .unset, .unset] [])) _
        refine XS.aconstNull X79.here hx rfl (hb hby at_192) ?_
        show Steps p.tables e below (T79.setTop (mkF m 193 #[.val (.int p0), .val (.int p1), .val (.int p2), .val (.int p3), .val (.int p4), .val (.int p5), .val (.int v1), .val (.int v2), .val (.int v3), .val (.int v4), .val (.int v5), .val (.int v7), .val (.int v9), .val (.int v11), .val (.int v13), .val (.int v15), .val (.int v17), .val (.int v18), .val (.ref b19), .val (.ref b38), .val (.ref b59), .unset, .unset, .unset, .unset, .unset, .unset, .unset] [.null])) _
        refine XS.goto X79.here hx rfl (pc0 := 193) (pc' := 220) rfl (hb hby at_193) (by decide) (by decide) ?_
        exact castTop (by rw [hv87, if_pos hc82] <;> rfl) kt
      · show Steps p.tables e below (T79.setTop (mkF m 189 #[.val (.int p0), .val (.int p1), .val (.int p2), .val (.int p3), .val (.int p4), .val (.int p5), .val (.int v1), .val (.int v2), .val (.int v3), .val (.int v4), .val (.int v5), .val (.int v7), .val (.int v9), .val (.int v11), .val (.int v13), .val (.int v15), .val (.int v17), .val (.int v18), .val (.ref b19), .val (.ref b38), .val (.ref b59), .unset, .unset, .unset, .unset, .unset, .unset, .unset] [(.int v18)])) _
        refine XS.ifYes X79.here hx rfl (pc0 := 189) (pc' := 196) rfl (hb hby at_189) rfl ((if0 _ _).trans (feq hc82).2) (by decide) (by decide) ?_
        show Steps p.tables e below (T79.setTop (mkF m 196 #[.val (.int p0), .val (.int p1), .val (.int p2), .val (.int p3), .val (.int p4), .val (.int p5), .val (.int v1), .val (.int v2), .val (.int v3), .val (.int v4), .val (.int v5), .val (.int v7), .val (.int v9), .val (.int v11), .val (.int v13), .val (.int v15), .val (.int v17), .val (.int v18), .val (.ref b19), .val (.ref b38), .val (.ref b59), .unset, .unset, .unset, .unset, .unset, .unset, .unset] [])) _
        refine XS.iload X79.here hx rfl (hb hby at_196) rfl ?_
        show Steps p.tables e below (T79.setTop (mkF m 198 #[.val (.int p0), .val (.int p1), .val (.int p2), .val (.int p3), .val (.int p4), .val (.int p5), .val (.int v1), .val (.int v2), .val (.int v3), .val (.int v4), .val (.int v5), .val (.int v7), .val (.int v9), .val (.int v11), .val (.int v13), .val (.int v15), .val (.int v17), .val (.int v18), .val (.ref b19), .val (.ref b38), .val (.ref b59), .unset, .unset, .unset, .unset, .unset, .unset, .unset] [(.int v18)])) _
        refine XS.iconst X79.here hx rfl (hb hby at_198) ?_
        show Steps p.tables e below (T79.setTop (mkF m 199 #[.val (.int p0), .val (.int p1), .val (.int p2), .val (.int p3), .val (.int p4), .val (.int p5), .val (.int v1), .val (.int v2), .val (.int v3), .val (.int v4), .val (.int v5), .val (.int v7), .val (.int v9), .val (.int v11), .val (.int v13), .val (.int v15), .val (.int v17), .val (.int v18), .val (.ref b19), .val (.ref b38), .val (.ref b59), .unset, .unset, .unset, .unset, .unset, .unset, .unset] [(.int (1 : Int32)), (.int v18)])) _
        refine own_dia (F := (mkF m 220 #[.val (.int p0), .val (.int p1), .val (.int p2), .val (.int p3), .val (.int p4), .val (.int p5), .val (.int v1), .val (.int v2), .val (.int v3), .val (.int v4), .val (.int v5), .val (.int v7), .val (.int v9), .val (.int v11), .val (.int v13), .val (.int v15), .val (.int v17), .val (.int v18), .val (.ref b19), .val (.ref b38), .val (.ref b59), .unset, .unset, .unset, .unset, .unset, .unset, .unset] [v86])) ?_ ?_
        · intro kt
          by_cases hc83 : v18 = (1 : Int32)
          · show Steps p.tables e below (T79.setTop (mkF m 199 #[.val (.int p0), .val (.int p1), .val (.int p2), .val (.int p3), .val (.int p4), .val (.int p5), .val (.int v1), .val (.int v2), .val (.int v3), .val (.int v4), .val (.int v5), .val (.int v7), .val (.int v9), .val (.int v11), .val (.int v13), .val (.int v15), .val (.int v17), .val (.int v18), .val (.ref b19), .val (.ref b38), .val (.ref b59), .unset, .unset, .unset, .unset, .unset, .unset, .unset] [(.int (1 : Int32)), (.int v18)])) _
            refine XS.icmpNo X79.here hx rfl (hb hby at_199) rfl (teq hc83).2 ?_
            show Steps p.tables e below (T79.setTop (mkF m 202 #[.val (.int p0), .val (.int p1), .val (.int p2), .val (.int p3), .val (.int p4), .val (.int p5), .val (.int v1), .val (.int v2), .val (.int v3), .val (.int v4), .val (.int v5), .val (.int v7), .val (.int v9), .val (.int v11), .val (.int v13), .val (.int v15), .val (.int v17), .val (.int v18), .val (.ref b19), .val (.ref b38), .val (.ref b59), .unset, .unset, .unset, .unset, .unset, .unset, .unset] [])) _
            refine XS.aload X79.here hx rfl (hb hby at_202) rfl rfl ?_
            show Steps p.tables e below (T79.setTop (mkF m 204 #[.val (.int p0), .val (.int p1), .val (.int p2), .val (.int p3), .val (.int p4), .val (.int p5), .val (.int v1), .val (.int v2), .val (.int v3), .val (.int v4), .val (.int v5), .val (.int v7), .val (.int v9), .val (.int v11), .val (.int v13), .val (.int v15), .val (.int v17), .val (.int v18), .val (.ref b19), .val (.ref b38), .val (.ref b59), .unset, .unset, .unset, .unset, .unset, .unset, .unset] [(.ref b19)])) _
            refine XS.goto X79.here hx rfl (pc0 := 204) (pc' := 220) rfl (hb hby at_204) (by decide) (by decide) ?_
            exact castTop (by rw [hv86, if_pos hc83] <;> rfl) kt
          · show Steps p.tables e below (T79.setTop (mkF m 199 #[.val (.int p0), .val (.int p1), .val (.int p2), .val (.int p3), .val (.int p4), .val (.int p5), .val (.int v1), .val (.int v2), .val (.int v3), .val (.int v4), .val (.int v5), .val (.int v7), .val (.int v9), .val (.int v11), .val (.int v13), .val (.int v15), .val (.int v17), .val (.int v18), .val (.ref b19), .val (.ref b38), .val (.ref b59), .unset, .unset, .unset, .unset, .unset, .unset, .unset] [(.int (1 : Int32)), (.int v18)])) _
            refine XS.icmpYes X79.here hx rfl (pc0 := 199) (pc' := 207) rfl (hb hby at_199) rfl (feq hc83).2 (by decide) (by decide) ?_
            show Steps p.tables e below (T79.setTop (mkF m 207 #[.val (.int p0), .val (.int p1), .val (.int p2), .val (.int p3), .val (.int p4), .val (.int p5), .val (.int v1), .val (.int v2), .val (.int v3), .val (.int v4), .val (.int v5), .val (.int v7), .val (.int v9), .val (.int v11), .val (.int v13), .val (.int v15), .val (.int v17), .val (.int v18), .val (.ref b19), .val (.ref b38), .val (.ref b59), .unset, .unset, .unset, .unset, .unset, .unset, .unset] [])) _
            refine XS.iload X79.here hx rfl (hb hby at_207) rfl ?_
            show Steps p.tables e below (T79.setTop (mkF m 209 #[.val (.int p0), .val (.int p1), .val (.int p2), .val (.int p3), .val (.int p4), .val (.int p5), .val (.int v1), .val (.int v2), .val (.int v3), .val (.int v4), .val (.int v5), .val (.int v7), .val (.int v9), .val (.int v11), .val (.int v13), .val (.int v15), .val (.int v17), .val (.int v18), .val (.ref b19), .val (.ref b38), .val (.ref b59), .unset, .unset, .unset, .unset, .unset, .unset, .unset] [(.int v18)])) _
            refine XS.iconst X79.here hx rfl (hb hby at_209) ?_
            show Steps p.tables e below (T79.setTop (mkF m 210 #[.val (.int p0), .val (.int p1), .val (.int p2), .val (.int p3), .val (.int p4), .val (.int p5), .val (.int v1), .val (.int v2), .val (.int v3), .val (.int v4), .val (.int v5), .val (.int v7), .val (.int v9), .val (.int v11), .val (.int v13), .val (.int v15), .val (.int v17), .val (.int v18), .val (.ref b19), .val (.ref b38), .val (.ref b59), .unset, .unset, .unset, .unset, .unset, .unset, .unset] [(.int (2 : Int32)), (.int v18)])) _
            refine own_dia (F := (mkF m 220 #[.val (.int p0), .val (.int p1), .val (.int p2), .val (.int p3), .val (.int p4), .val (.int p5), .val (.int v1), .val (.int v2), .val (.int v3), .val (.int v4), .val (.int v5), .val (.int v7), .val (.int v9), .val (.int v11), .val (.int v13), .val (.int v15), .val (.int v17), .val (.int v18), .val (.ref b19), .val (.ref b38), .val (.ref b59), .unset, .unset, .unset, .unset, .unset, .unset, .unset] [v85])) ?_ ?_
            · intro kt
              by_cases hc84 : v18 = (2 : Int32)
              · show Steps p.tables e below (T79.setTop (mkF m 210 #[.val (.int p0), .val (.int p1), .val (.int p2), .val (.int p3), .val (.int p4), .val (.int p5), .val (.int v1), .val (.int v2), .val (.int v3), .val (.int v4), .val (.int v5), .val (.int v7), .val (.int v9), .val (.int v11), .val (.int v13), .val (.int v15), .val (.int v17), .val (.int v18), .val (.ref b19), .val (.ref b38), .val (.ref b59), .unset, .unset, .unset, .unset, .unset, .unset, .unset] [(.int (2 : Int32)), (.int v18)])) _
                refine XS.icmpNo X79.here hx rfl (hb hby at_210) rfl (teq hc84).2 ?_
                show Steps p.tables e below (T79.setTop (mkF m 213 #[.val (.int p0), .val (.int p1), .val (.int p2), .val (.int p3), .val (.int p4), .val (.int p5), .val (.int v1), .val (.int v2), .val (.int v3), .val (.int v4), .val (.int v5), .val (.int v7), .val (.int v9), .val (.int v11), .val (.int v13), .val (.int v15), .val (.int v17), .val (.int v18), .val (.ref b19), .val (.ref b38), .val (.ref b59), .unset, .unset, .unset, .unset, .unset, .unset, .unset] [])) _
                refine XS.aload X79.here hx rfl (hb hby at_213) rfl rfl ?_
                show Steps p.tables e below (T79.setTop (mkF m 215 #[.val (.int p0), .val (.int p1), .val (.int p2), .val (.int p3), .val (.int p4), .val (.int p5), .val (.int v1), .val (.int v2), .val (.int v3), .val (.int v4), .val (.int v5), .val (.int v7), .val (.int v9), .val (.int v11), .val (.int v13), .val (.int v15), .val (.int v17), .val (.int v18), .val (.ref b19), .val (.ref b38), .val (.ref b59), .unset, .unset, .unset, .unset, .unset, .unset, .unset] [(.ref b38)])) _
                refine XS.goto X79.here hx rfl (pc0 := 215) (pc' := 220) rfl (hb hby at_215) (by decide) (by decide) ?_
                exact castTop (by rw [hv85, if_pos hc84] <;> rfl) kt
              · show Steps p.tables e below (T79.setTop (mkF m 210 #[.val (.int p0), .val (.int p1), .val (.int p2), .val (.int p3), .val (.int p4), .val (.int p5), .val (.int v1), .val (.int v2), .val (.int v3), .val (.int v4), .val (.int v5), .val (.int v7), .val (.int v9), .val (.int v11), .val (.int v13), .val (.int v15), .val (.int v17), .val (.int v18), .val (.ref b19), .val (.ref b38), .val (.ref b59), .unset, .unset, .unset, .unset, .unset, .unset, .unset] [(.int (2 : Int32)), (.int v18)])) _
                refine XS.icmpYes X79.here hx rfl (pc0 := 210) (pc' := 218) rfl (hb hby at_210) rfl (feq hc84).2 (by decide) (by decide) ?_
                show Steps p.tables e below (T79.setTop (mkF m 218 #[.val (.int p0), .val (.int p1), .val (.int p2), .val (.int p3), .val (.int p4), .val (.int p5), .val (.int v1), .val (.int v2), .val (.int v3), .val (.int v4), .val (.int v5), .val (.int v7), .val (.int v9), .val (.int v11), .val (.int v13), .val (.int v15), .val (.int v17), .val (.int v18), .val (.ref b19), .val (.ref b38), .val (.ref b59), .unset, .unset, .unset, .unset, .unset, .unset, .unset] [])) _
                refine XS.aload X79.here hx rfl (hb hby at_218) rfl rfl ?_
                exact castTop (by rw [hv85, if_neg hc84] <;> rfl) kt
            exact castTop (by rw [hv86, if_neg hc83] <;> rfl) kt
        exact castTop (by rw [hv87, if_neg hc82] <;> rfl) kt
    show Steps p.tables e below (T79.setTop (mkF m 220 #[.val (.int p0), .val (.int p1), .val (.int p2), .val (.int p3), .val (.int p4), .val (.int p5), .val (.int v1), .val (.int v2), .val (.int v3), .val (.int v4), .val (.int v5), .val (.int v7), .val (.int v9), .val (.int v11), .val (.int v13), .val (.int v15), .val (.int v17), .val (.int v18), .val (.ref b19), .val (.ref b38), .val (.ref b59), .unset, .unset, .unset, .unset, .unset, .unset, .unset] [v87])) _
    refine XS.astoreS X79.here hx rfl (hb hby at_220) rfl rv87 (own_cat rv87) rfl One.u ?_
    show Steps p.tables e below (T79.setTop (mkF m 222 #[.val (.int p0), .val (.int p1), .val (.int p2), .val (.int p3), .val (.int p4), .val (.int p5), .val (.int v1), .val (.int v2), .val (.int v3), .val (.int v4), .val (.int v5), .val (.int v7), .val (.int v9), .val (.int v11), .val (.int v13), .val (.int v15), .val (.int v17), .val (.int v18), .val (.ref b19), .val (.ref b38), .val (.ref b59), .val v87, .unset, .unset, .unset, .unset, .unset, .unset] [])) _
    refine st88 _ ?_
    show Steps p.tables e below (T88.setTop (mkF m 225 #[.val (.int p0), .val (.int p1), .val (.int p2), .val (.int p3), .val (.int p4), .val (.int p5), .val (.int v1), .val (.int v2), .val (.int v3), .val (.int v4), .val (.int v5), .val (.int v7), .val (.int v9), .val (.int v11), .val (.int v13), .val (.int v15), .val (.int v17), .val (.int v18), .val (.ref b19), .val (.ref b38), .val (.ref b59), .val v87, .unset, .unset, .unset, .unset, .unset, .unset] [(.ref b88)])) _
    refine XS.dup X88.here hx rfl (hb hby at_225) rfl rfl ?_
    show Steps p.tables e below (T88.setTop (mkF m 226 #[.val (.int p0), .val (.int p1), .val (.int p2), .val (.int p3), .val (.int p4), .val (.int p5), .val (.int v1), .val (.int v2), .val (.int v3), .val (.int v4), .val (.int v5), .val (.int v7), .val (.int v9), .val (.int v11), .val (.int v13), .val (.int v15), .val (.int v17), .val (.int v18), .val (.ref b19), .val (.ref b38), .val (.ref b59), .val v87, .unset, .unset, .unset, .unset, .unset, .unset] [(.ref b88), (.ref b88)])) _
    refine XS.iconst X88.here hx rfl (hb hby at_226) ?_
    show Steps p.tables e below (T88.setTop (mkF m 227 #[.val (.int p0), .val (.int p1), .val (.int p2), .val (.int p3), .val (.int p4), .val (.int p5), .val (.int v1), .val (.int v2), .val (.int v3), .val (.int v4), .val (.int v5), .val (.int v7), .val (.int v9), .val (.int v11), .val (.int v13), .val (.int v15), .val (.int v17), .val (.int v18), .val (.ref b19), .val (.ref b38), .val (.ref b59), .val v87, .unset, .unset, .unset, .unset, .unset, .unset] [(.int (3 : Int32)), (.ref b88), (.ref b88)])) _
    refine st92.trans ?_
    show Steps p.tables e below (T92.setTop (mkF m 230 #[.val (.int p0), .val (.int p1), .val (.int p2), .val (.int p3), .val (.int p4), .val (.int p5), .val (.int v1), .val (.int v2), .val (.int v3), .val (.int v4), .val (.int v5), .val (.int v7), .val (.int v9), .val (.int v11), .val (.int v13), .val (.int v15), .val (.int v17), .val (.int v18), .val (.ref b19), .val (.ref b38), .val (.ref b59), .val v87, .unset, .unset, .unset, .unset, .unset, .unset] [(.ref b88)])) _
    refine XS.astore X92.here hx rfl (hb hby at_230) rfl rfl (l' := #[.val (.int p0), .val (.int p1), .val (.int p2), .val (.int p3), .val (.int p4), .val (.int p5), .val (.int v1), .val (.int v2), .val (.int v3), .val (.int v4), .val (.int v5), .val (.int v7), .val (.int v9), .val (.int v11), .val (.int v13), .val (.int v15), .val (.int v17), .val (.int v18), .val (.ref b19), .val (.ref b38), .val (.ref b59), .val v87, .val (.ref b88), .unset, .unset, .unset, .unset, .unset]) rfl ?_
    show Steps p.tables e below (T92.setTop (mkF m 232 #[.val (.int p0), .val (.int p1), .val (.int p2), .val (.int p3), .val (.int p4), .val (.int p5), .val (.int v1), .val (.int v2), .val (.int v3), .val (.int v4), .val (.int v5), .val (.int v7), .val (.int v9), .val (.int v11), .val (.int v13), .val (.int v15), .val (.int v17), .val (.int v18), .val (.ref b19), .val (.ref b38), .val (.ref b59), .val v87, .val (.ref b88), .unset, .unset, .unset, .unset, .unset] [])) _
    refine XS.aconstNull X92.here hx rfl (hb hby at_232) ?_
    show Steps p.tables e below (T92.setTop (mkF m 233 #[.val (.int p0), .val (.int p1), .val (.int p2), .val (.int p3), .val (.int p4), .val (.int p5), .val (.int v1), .val (.int v2), .val (.int v3), .val (.int v4), .val (.int v5), .val (.int v7), .val (.int v9), .val (.int v11), .val (.int v13), .val (.int v15), .val (.int v17), .val (.int v18), .val (.ref b19), .val (.ref b38), .val (.ref b59), .val v87, .val (.ref b88), .unset, .unset, .unset, .unset, .unset] [.null])) _
    refine XS.astore X92.here hx rfl (hb hby at_233) rfl rfl (l' := #[.val (.int p0), .val (.int p1), .val (.int p2), .val (.int p3), .val (.int p4), .val (.int p5), .val (.int v1), .val (.int v2), .val (.int v3), .val (.int v4), .val (.int v5), .val (.int v7), .val (.int v9), .val (.int v11), .val (.int v13), .val (.int v15), .val (.int v17), .val (.int v18), .val (.ref b19), .val (.ref b38), .val (.ref b59), .val v87, .val (.ref b88), .val .null, .unset, .unset, .unset, .unset]) rfl ?_
    show Steps p.tables e below (T92.setTop (mkF m 235 #[.val (.int p0), .val (.int p1), .val (.int p2), .val (.int p3), .val (.int p4), .val (.int p5), .val (.int v1), .val (.int v2), .val (.int v3), .val (.int v4), .val (.int v5), .val (.int v7), .val (.int v9), .val (.int v11), .val (.int v13), .val (.int v15), .val (.int v17), .val (.int v18), .val (.ref b19), .val (.ref b38), .val (.ref b59), .val v87, .val (.ref b88), .val .null, .unset, .unset, .unset, .unset] [])) _
    refine XS.aconstNull X92.here hx rfl (hb hby at_235) ?_
    show Steps p.tables e below (T92.setTop (mkF m 236 #[.val (.int p0), .val (.int p1), .val (.int p2), .val (.int p3), .val (.int p4), .val (.int p5), .val (.int v1), .val (.int v2), .val (.int v3), .val (.int v4), .val (.int v5), .val (.int v7), .val (.int v9), .val (.int v11), .val (.int v13), .val (.int v15), .val (.int v17), .val (.int v18), .val (.ref b19), .val (.ref b38), .val (.ref b59), .val v87, .val (.ref b88), .val .null, .unset, .unset, .unset, .unset] [.null])) _
    refine XS.astore X92.here hx rfl (hb hby at_236) rfl rfl (l' := #[.val (.int p0), .val (.int p1), .val (.int p2), .val (.int p3), .val (.int p4), .val (.int p5), .val (.int v1), .val (.int v2), .val (.int v3), .val (.int v4), .val (.int v5), .val (.int v7), .val (.int v9), .val (.int v11), .val (.int v13), .val (.int v15), .val (.int v17), .val (.int v18), .val (.ref b19), .val (.ref b38), .val (.ref b59), .val v87, .val (.ref b88), .val .null, .val .null, .unset, .unset, .unset]) rfl ?_
    show Steps p.tables e below (T92.setTop (mkF m 238 #[.val (.int p0), .val (.int p1), .val (.int p2), .val (.int p3), .val (.int p4), .val (.int p5), .val (.int v1), .val (.int v2), .val (.int v3), .val (.int v4), .val (.int v5), .val (.int v7), .val (.int v9), .val (.int v11), .val (.int v13), .val (.int v15), .val (.int v17), .val (.int v18), .val (.ref b19), .val (.ref b38), .val (.ref b59), .val v87, .val (.ref b88), .val .null, .val .null, .unset, .unset, .unset] [])) _
    refine XS.iconst X92.here hx rfl (hb hby at_238) ?_
    show Steps p.tables e below (T92.setTop (mkF m 239 #[.val (.int p0), .val (.int p1), .val (.int p2), .val (.int p3), .val (.int p4), .val (.int p5), .val (.int v1), .val (.int v2), .val (.int v3), .val (.int v4), .val (.int v5), .val (.int v7), .val (.int v9), .val (.int v11), .val (.int v13), .val (.int v15), .val (.int v17), .val (.int v18), .val (.ref b19), .val (.ref b38), .val (.ref b59), .val v87, .val (.ref b88), .val .null, .val .null, .unset, .unset, .unset] [(.int (-1 : Int32))])) _
    refine XS.istore X92.here hx rfl (hb hby at_239) rfl (l' := #[.val (.int p0), .val (.int p1), .val (.int p2), .val (.int p3), .val (.int p4), .val (.int p5), .val (.int v1), .val (.int v2), .val (.int v3), .val (.int v4), .val (.int v5), .val (.int v7), .val (.int v9), .val (.int v11), .val (.int v13), .val (.int v15), .val (.int v17), .val (.int v18), .val (.ref b19), .val (.ref b38), .val (.ref b59), .val v87, .val (.ref b88), .val .null, .val .null, .val (.int (-1 : Int32)), .unset, .unset]) rfl ?_
    show Steps p.tables e below (T92.setTop (mkF m 241 #[.val (.int p0), .val (.int p1), .val (.int p2), .val (.int p3), .val (.int p4), .val (.int p5), .val (.int v1), .val (.int v2), .val (.int v3), .val (.int v4), .val (.int v5), .val (.int v7), .val (.int v9), .val (.int v11), .val (.int v13), .val (.int v15), .val (.int v17), .val (.int v18), .val (.ref b19), .val (.ref b38), .val (.ref b59), .val v87, .val (.ref b88), .val .null, .val .null, .val (.int (-1 : Int32)), .unset, .unset] [])) _
    refine XS.aconstNull X92.here hx rfl (hb hby at_241) ?_
    show Steps p.tables e below (T92.setTop (mkF m 242 #[.val (.int p0), .val (.int p1), .val (.int p2), .val (.int p3), .val (.int p4), .val (.int p5), .val (.int v1), .val (.int v2), .val (.int v3), .val (.int v4), .val (.int v5), .val (.int v7), .val (.int v9), .val (.int v11), .val (.int v13), .val (.int v15), .val (.int v17), .val (.int v18), .val (.ref b19), .val (.ref b38), .val (.ref b59), .val v87, .val (.ref b88), .val .null, .val .null, .val (.int (-1 : Int32)), .unset, .unset] [.null])) _
    refine XS.astore X92.here hx rfl (hb hby at_242) rfl rfl (l' := #[.val (.int p0), .val (.int p1), .val (.int p2), .val (.int p3), .val (.int p4), .val (.int p5), .val (.int v1), .val (.int v2), .val (.int v3), .val (.int v4), .val (.int v5), .val (.int v7), .val (.int v9), .val (.int v11), .val (.int v13), .val (.int v15), .val (.int v17), .val (.int v18), .val (.ref b19), .val (.ref b38), .val (.ref b59), .val v87, .val (.ref b88), .val .null, .val .null, .val (.int (-1 : Int32)), .val .null, .unset]) rfl ?_
    show Steps p.tables e below (T92.setTop (mkF m 244 #[.val (.int p0), .val (.int p1), .val (.int p2), .val (.int p3), .val (.int p4), .val (.int p5), .val (.int v1), .val (.int v2), .val (.int v3), .val (.int v4), .val (.int v5), .val (.int v7), .val (.int v9), .val (.int v11), .val (.int v13), .val (.int v15), .val (.int v17), .val (.int v18), .val (.ref b19), .val (.ref b38), .val (.ref b59), .val v87, .val (.ref b88), .val .null, .val .null, .val (.int (-1 : Int32)), .val .null, .unset] [])) _
    refine XS.iload X92.here hx rfl (hb hby at_244) rfl ?_
    exact kt
  have G107 : T79.heap.size ≤ T92.heap.size := (Nat.le_trans (Nat.le_trans LE79 E88.1) Kc92.1)
  obtain ⟨T105, h105, L105, fL105, fP105, vl105, vp105, be105, bv105, X105, N105, e105, K105, LE105, Ea105, Eb105, Ec105, Eo105, F1105, F2105, F3105, F4105, A1105, A2105, O1105, O2105, VL105, VP105, ql105, qp105, vb105, st105⟩ : ∃ (T' : State) (h' : Heap) (L' : List Loc) (fL' fP' : Nat → Value) (vl' vp' : Value) (be' : Int32) (bv' : Value), Stand p l e room_1 (s.setVm T79.vm) m #[(.int p0), (.int p1), (.int p2), (.int p3), (.int p4), (.int p5)] below meth c T' L' 27 124 ∧ Fr n0 L' ∧ T'.heap = h' ∧ Keep h0 h' [] ∧ T79.heap.size ≤ h'.size ∧ Exa Z h' b19 "com/example/uneven_ticks/uneventicks/check/TraceEvent" ∧ Exa Z h' b38 "com/example/uneven_ticks/uneventicks/check/TraceEvent" ∧ Exa Z h' b59 "com/example/uneven_ticks/uneventicks/check/TraceEvent" ∧ Exa Z h' b88 "com/example/uneven_ticks/uneventicks/check/Occurrences" ∧ Fld Z h' b88 "com/example/uneven_ticks/uneventicks/check/Occurrences" "latest" "[Lcom/example/uneven_ticks/uneventicks/check/TraceEvent;" (.ref b92_b3) ∧ Fld Z h' b88 "com/example/uneven_ticks/uneventicks/check/Occurrences" "previous" "[Lcom/example/uneven_ticks/uneventicks/check/TraceEvent;" (.ref b92_b8) ∧ Fld Z h' b88 "com/example/uneven_ticks/uneventicks/check/Occurrences" "boundEvent" "I" (.int be') ∧ Fld Z h' b88 "com/example/uneven_ticks/uneventicks/check/Occurrences" "bound" "Lcom/example/uneven_ticks/uneventicks/check/TraceEvent;" bv' ∧ AF Z h' b92_b3 (.object "com/example/uneven_ticks/uneventicks/check/TraceEvent") 3 fL' ∧ AF Z h' b92_b8 (.object "com/example/uneven_ticks/uneventicks/check/TraceEvent") 3 fP' ∧ OV Z h' b92_b3 "com/example/uneven_ticks/uneventicks/check/TraceEvent" ∧ OV Z h' b92_b8 "com/example/uneven_ticks/uneventicks/check/TraceEvent" ∧ (∀ j, own_V3 b19 b38 b59 (fL' j)) ∧ (∀ j, own_V3 b19 b38 b59 (fP' j)) ∧ vl' = fL' (v5).toNatClampNeg ∧ vp' = fP' (v5).toNatClampNeg ∧ own_V3 b19 b38 b59 bv' ∧ ∀ target, Steps p.tables e below (T'.setTop (mkF m 273 #[.val (.int p0), .val (.int p1), .val (.int p2), .val (.int p3), .val (.int p4), .val (.int p5), .val (.int v1), .val (.int v2), .val (.int v3), .val (.int v4), .val (.int v5), .val (.int v7), .val (.int v9), .val (.int v11), .val (.int v13), .val (.int v15), .val (.int v17), .val (.int v18), .val (.ref b19), .val (.ref b38), .val (.ref b59), .val v87, .val (.ref b88), .val vl', .val vp', .val (.int be'), .val bv', .unset] [])) target → Steps p.tables e below (T92.setTop (mkF m 246 #[.val (.int p0), .val (.int p1), .val (.int p2), .val (.int p3), .val (.int p4), .val (.int p5), .val (.int v1), .val (.int v2), .val (.int v3), .val (.int v4), .val (.int v5), .val (.int v7), .val (.int v9), .val (.int v11), .val (.int v13), .val (.int v15), .val (.int v17), .val (.int v18), .val (.ref b19), .val (.ref b38), .val (.ref b59), .val v87, .val (.ref b88), .val .null, .val .null, .val (.int (-1 : Int32)), .val .null, .unset] [(.int v7)])) target := by
    by_cases hb108 : v7 = (0 : Int32)
    · have G109 : Exa Z T92.heap b19 "com/example/uneven_ticks/uneventicks/check/TraceEvent" := (G102.keep Kc92)
      have G110 : Exa Z T92.heap b38 "com/example/uneven_ticks/uneventicks/check/TraceEvent" := (G103.keep Kc92)
      have G111 : Exa Z T92.heap b59 "com/example/uneven_ticks/uneventicks/check/TraceEvent" := (G104.keep Kc92)
      refine ⟨T92, _, _, (fun _ => Value.null), (fun _ => Value.null), .null, .null, (-1 : Int32), .null, X92, N92, rfl, K92, G107, G109, G110, G111, P93, P95, P96, P94, P97, P98, P100, P99, P101, VL0, VL0, ql0, ql0, (own_V3n b19 b38 b59), fun target kt => ?_⟩
      show Steps p.tables e below (T92.setTop (mkF m 246 #[.val (.int p0), .val (.int p1), .val (.int p2), .val (.int p3), .val (.int p4), .val (.int p5), .val (.int v1), .val (.int v2), .val (.int v3), .val (.int v4), .val (.int v5), .val (.int v7), .val (.int v9), .val (.int v11), .val (.int v13), .val (.int v15), .val (.int v17), .val (.int v18), .val (.ref b19), .val (.ref b38), .val (.ref b59), .val v87, .val (.ref b88), .val .null, .val .null, .val (.int (-1 : Int32)), .val .null, .unset] [(.int v7)])) _
      refine XS.ifYes X92.here hx rfl (pc0 := 246) (pc' := 273) rfl (hb hby at_246) rfl ((if0 _ _).trans (teq hb108).1) (by decide) (by decide) ?_
      exact kt
    · have G112 : Exa Z T92.heap b19 "com/example/uneven_ticks/uneventicks/check/TraceEvent" := (G102.keep Kc92)
      have G113 : Exa Z T92.heap b38 "com/example/uneven_ticks/uneventicks/check/TraceEvent" := (G103.keep Kc92)
      have G114 : Exa Z T92.heap b59 "com/example/uneven_ticks/uneventicks/check/TraceEvent" := (G104.keep Kc92)
      have hp115 : ∀ j : Nat, own_V3 b19 b38 b59 ((fun _ => Value.null) j) := VL0
      have hp116 : own_in v1 3 := M6.2.2
      have hp117 : own_in v1 3 := M6.2.2
      have hp118 : own_in v1 3 := M6.2.2
      obtain ⟨cq119, kq119, q119a, q119b, q119c⟩ := isOf hZ79 rfl P93
      obtain ⟨_, _, ⟨T119, L119, k119, n119⟩, -, X119, ⟨Lc119, hQ119, l119, y119, z119⟩, st119⟩ := X92.virtualBack hx (y := (⟨"com/example/uneven_ticks/uneventicks/check/Occurrences", "occur", "(ILcom/example/uneven_ticks/uneventicks/check/TraceEvent;)V"⟩ : MethodName)) (z := (⟨"com/example/uneven_ticks/uneventicks/check/Occurrences", "occur", "(ILcom/example/uneven_ticks/uneventicks/check/TraceEvent;)V"⟩ : MethodName)) hown79 (mvT hZ79 (hw _ (List.mem_of_getElem? (i := 132) rfl))) (mvT hZ79 (hw _ (List.mem_of_getElem? (i := 133) rfl))) (notFace_of_selects (args := #[]) (mvT hZ79 (hw _ (List.mem_of_getElem? (i := 135) rfl)))) (mvT hZ79 (hw _ (List.mem_of_getElem? (i := 135) rfl))) (mvT hZ79 (hw _ (List.mem_of_getElem? (i := 134) rfl))) (by decide) (backOf (W := 0) (rm19 l Z A0 hw [] b88 v1 b19 (-1 : Int32) b92_b3 b92_b8 .null b19 b38 b59 (fun _ => Value.null) (fun _ => Value.null) T92.heap n0 (Nat.le_trans Z0 K92.1) P93 P94 P95 P96 P97 G112 G113 G114 P98 P100 P101 nw_b92_b8 ne_b88_b92_b8 ne_b92_b3_b92_b8 P99 G112 nw_b92_b3 hp115 hp116 hp117 hp118) hZ79 (hw _ (List.mem_of_getElem? (i := 136) rfl)) (hw _ (List.mem_of_getElem? (i := 119) rfl)) (by decide) (by decide)) q119a q119c (g := (mkF m 255 #[.val (.int p0), .val (.int p1), .val (.int p2), .val (.int p3), .val (.int p4), .val (.int p5), .val (.int v1), .val (.int v2), .val (.int v3), .val (.int v4), .val (.int v5), .val (.int v7), .val (.int v9), .val (.int v11), .val (.int v13), .val (.int v15), .val (.int v17), .val (.int v18), .val (.ref b19), .val (.ref b38), .val (.ref b59), .val v87, .val (.ref b88), .val .null, .val .null, .val (.int (-1 : Int32)), .val .null, .unset] [(.ref b19), (.int v1), (.ref b88)])) rfl (by rw [hml]; rfl) (Steps.refl _) (argsL := [(.int v1), (.ref b19)]) (rest := []) (lenOf pd_17 rfl) rfl (by show 2 * 0 + _ ≤ _; exact Nat.le_of_eq rfl) (hb hby at_255) (fun _ _ => ⟨rfl, rfl, (by decide : 27 + 0 ≤ _), (by decide : 124 + 0 ≤ _)⟩)
      dsimp only [Pt.U, Pt.locs, Pt.cells, Pt.slots] at X119 l119 y119 z119 st119 hQ119
      subst l119 y119 z119
      obtain ⟨rfl, N119q, Kc119, P120, P121, P122, P123⟩ := hQ119
      have K119 : Keep h0 T119.heap [] := K92.trans Kc119 (allS (Or.inr sq_b92_b8) (allS (Or.inr sq_b92_b3) all0))
      have N119 := Fr.app N92 N119q
      have ck124 : ∀ t, Steps p.tables e below (T119.setTop (mkF m 262 #[.val (.int p0), .val (.int p1), .val (.int p2), .val (.int p3), .val (.int p4), .val (.int p5), .val (.int v1), .val (.int v2), .val (.int v3), .val (.int v4), .val (.int v5), .val (.int v7), .val (.int v9), .val (.int v11), .val (.int v13), .val (.int v15), .val (.int v17), .val (.int v18), .val (.ref b19), .val (.ref b38), .val (.ref b59), .val v87, .val (.ref b88), .val .null, .val .null, .val (.int (-1 : Int32)), .val .null, .unset] [(.int v5), (.int v1)])) t → Steps p.tables e below (T92.setTop (mkF m 246 #[.val (.int p0), .val (.int p1), .val (.int p2), .val (.int p3), .val (.int p4), .val (.int p5), .val (.int v1), .val (.int v2), .val (.int v3), .val (.int v4), .val (.int v5), .val (.int v7), .val (.int v9), .val (.int v11), .val (.int v13), .val (.int v15), .val (.int v17), .val (.int v18), .val (.ref b19), .val (.ref b38), .val (.ref b59), .val v87, .val (.ref b88), .val .null, .val .null, .val (.int (-1 : Int32)), .val .null, .unset] [(.int v7)])) t := by
        intro t kt
        show Steps p.tables e below (T92.setTop (mkF m 246 #[.val (.int p0), .val (.int p1), .val (.int p2), .val (.int p3), .val (.int p4), .val (.int p5), .val (.int v1), .val (.int v2), .val (.int v3), .val (.int v4), .val (.int v5), .val (.int v7), .val (.int v9), .val (.int v11), .val (.int v13), .val (.int v15), .val (.int v17), .val (.int v18), .val (.ref b19), .val (.ref b38), .val (.ref b59), .val v87, .val (.ref b88), .val .null, .val .null, .val (.int (-1 : Int32)), .val .null, .unset] [(.int v7)])) _
        refine XS.ifNo X92.here hx rfl (hb hby at_246) rfl ((if0 _ _).trans (feq hb108).1) ?_
        show Steps p.tables e below (T92.setTop (mkF m 249 #[.val (.int p0), .val (.int p1), .val (.int p2), .val (.int p3), .val (.int p4), .val (.int p5), .val (.int v1), .val (.int v2), .val (.int v3), .val (.int v4), .val (.int v5), .val (.int v7), .val (.int v9), .val (.int v11), .val (.int v13), .val (.int v15), .val (.int v17), .val (.int v18), .val (.ref b19), .val (.ref b38), .val (.ref b59), .val v87, .val (.ref b88), .val .null, .val .null, .val (.int (-1 : Int32)), .val .null, .unset] [])) _
        refine XS.aload X92.here hx rfl (hb hby at_249) rfl rfl ?_
        show Steps p.tables e below (T92.setTop (mkF m 251 #[.val (.int p0), .val (.int p1), .val (.int p2), .val (.int p3), .val (.int p4), .val (.int p5), .val (.int v1), .val (.int v2), .val (.int v3), .val (.int v4), .val (.int v5), .val (.int v7), .val (.int v9), .val (.int v11), .val (.int v13), .val (.int v15), .val (.int v17), .val (.int v18), .val (.ref b19), .val (.ref b38), .val (.ref b59), .val v87, .val (.ref b88), .val .null, .val .null, .val (.int (-1 : Int32)), .val .null, .unset] [(.ref b88)])) _
        refine XS.iload X92.here hx rfl (hb hby at_251) rfl ?_
        show Steps p.tables e below (T92.setTop (mkF m 253 #[.val (.int p0), .val (.int p1), .val (.int p2), .val (.int p3), .val (.int p4), .val (.int p5), .val (.int v1), .val (.int v2), .val (.int v3), .val (.int v4), .val (.int v5), .val (.int v7), .val (.int v9), .val (.int v11), .val (.int v13), .val (.int v15), .val (.int v17), .val (.int v18), .val (.ref b19), .val (.ref b38), .val (.ref b59), .val v87, .val (.ref b88), .val .null, .val .null, .val (.int (-1 : Int32)), .val .null, .unset] [(.int v1), (.ref b88)])) _
        refine XS.aload X92.here hx rfl (hb hby at_253) rfl rfl ?_
        show Steps p.tables e below (T92.setTop (mkF m 255 #[.val (.int p0), .val (.int p1), .val (.int p2), .val (.int p3), .val (.int p4), .val (.int p5), .val (.int v1), .val (.int v2), .val (.int v3), .val (.int v4), .val (.int v5), .val (.int v7), .val (.int v9), .val (.int v11), .val (.int v13), .val (.int v15), .val (.int v17), .val (.int v18), .val (.ref b19), .val (.ref b38), .val (.ref b59), .val v87, .val (.ref b88), .val .null, .val .null, .val (.int (-1 : Int32)), .val .null, .unset] [(.ref b19), (.int v1), (.ref b88)])) _
        refine st119.trans ?_
        show Steps p.tables e below (T119.setTop (mkF m 258 #[.val (.int p0), .val (.int p1), .val (.int p2), .val (.int p3), .val (.int p4), .val (.int p5), .val (.int v1), .val (.int v2), .val (.int v3), .val (.int v4), .val (.int v5), .val (.int v7), .val (.int v9), .val (.int v11), .val (.int v13), .val (.int v15), .val (.int v17), .val (.int v18), .val (.ref b19), .val (.ref b38), .val (.ref b59), .val v87, .val (.ref b88), .val .null, .val .null, .val (.int (-1 : Int32)), .val .null, .unset] [])) _
        refine XS.iload X119.here hx rfl (hb hby at_258) rfl ?_
        show Steps p.tables e below (T119.setTop (mkF m 260 #[.val (.int p0), .val (.int p1), .val (.int p2), .val (.int p3), .val (.int p4), .val (.int p5), .val (.int v1), .val (.int v2), .val (.int v3), .val (.int v4), .val (.int v5), .val (.int v7), .val (.int v9), .val (.int v11), .val (.int v13), .val (.int v15), .val (.int v17), .val (.int v18), .val (.ref b19), .val (.ref b38), .val (.ref b59), .val v87, .val (.ref b88), .val .null, .val .null, .val (.int (-1 : Int32)), .val .null, .unset] [(.int v1)])) _
        refine XS.iload X119.here hx rfl (hb hby at_260) rfl ?_
        exact kt
      by_cases hs1 : v1 = v5
      · have G125 : Exa Z T119.heap b19 "com/example/uneven_ticks/uneventicks/check/TraceEvent" := (G112.keep Kc119)
        have G126 : Exa Z T119.heap b38 "com/example/uneven_ticks/uneventicks/check/TraceEvent" := (G113.keep Kc119)
        have G127 : Exa Z T119.heap b59 "com/example/uneven_ticks/uneventicks/check/TraceEvent" := (G114.keep Kc119)
        have G128 : Exa Z T119.heap b88 "com/example/uneven_ticks/uneventicks/check/Occurrences" := (P93.keep Kc119)
        have G129 : Fld Z T119.heap b88 "com/example/uneven_ticks/uneventicks/check/Occurrences" "latest" "[Lcom/example/uneven_ticks/uneventicks/check/TraceEvent;" (.ref b92_b3) := (P95.keep Kc119 (ninS ne_b88_b92_b8 (ninS ne_b88_b92_b3 nin0)))
        have G130 : Fld Z T119.heap b88 "com/example/uneven_ticks/uneventicks/check/Occurrences" "previous" "[Lcom/example/uneven_ticks/uneventicks/check/TraceEvent;" (.ref b92_b8) := (P96.keep Kc119 (ninS ne_b88_b92_b8 (ninS ne_b88_b92_b3 nin0)))
        have G131 : Fld Z T119.heap b88 "com/example/uneven_ticks/uneventicks/check/Occurrences" "boundEvent" "I" (.int (-1 : Int32)) := (P94.keep Kc119 (ninS ne_b88_b92_b8 (ninS ne_b88_b92_b3 nin0)))
        have G132 : Fld Z T119.heap b88 "com/example/uneven_ticks/uneventicks/check/Occurrences" "bound" "Lcom/example/uneven_ticks/uneventicks/check/TraceEvent;" .null := (P97.keep Kc119 (ninS ne_b88_b92_b8 (ninS ne_b88_b92_b3 nin0)))
        have G133 : T79.heap.size ≤ T119.heap.size := (Nat.le_trans G107 Kc119.1)
        have U1134 : ∀ j : Nat, own_V3 b19 b38 b59 (((fun i => if i = (v1).toNatClampNeg then (.ref b19) else (fun _ => Value.null) i) : Nat → Value) j) := by first | exact own_V3set (f := (fun _ => Value.null)) VL0 (own_V31 b19 b38 b59) _ | (intro j; dsimp only; split <;> first | exact own_V31 b19 b38 b59 | exact VL0 j)
        have U2134 : ∀ j : Nat, own_V3 b19 b38 b59 (((fun i => if i = (v1).toNatClampNeg then ((fun _ => Value.null) (v1).toNatClampNeg) else (fun _ => Value.null) i) : Nat → Value) j) := by first | exact own_V3set (f := (fun _ => Value.null)) VL0 (VL0 (v1).toNatClampNeg) _ | (intro j; dsimp only; split <;> first | exact VL0 (v1).toNatClampNeg | exact VL0 j)
        have U3134 : ((.ref b19) : Value) = ((fun i => if i = (v1).toNatClampNeg then (.ref b19) else (fun _ => Value.null) i) : Nat → Value) (v5).toNatClampNeg := by first | exact own_ae (f := (fun _ => Value.null)) hs1 | exact (if_pos (by rw [hs1])).symm | simp [hs1]
        have U4134 : (.null : Value) = ((fun i => if i = (v1).toNatClampNeg then ((fun _ => Value.null) (v1).toNatClampNeg) else (fun _ => Value.null) i) : Nat → Value) (v5).toNatClampNeg := by first | exact own_ae2 (f := (fun _ => Value.null)) (g := (fun _ => Value.null)) hs1 ql0 | exact ql0.trans ((if_pos (by rw [hs1])).trans (by rw [hs1])).symm | simp [hs1, ql0]
        refine ⟨T119, _, _, (fun i => if i = (v1).toNatClampNeg then (.ref b19) else (fun _ => Value.null) i), (fun i => if i = (v1).toNatClampNeg then ((fun _ => Value.null) (v1).toNatClampNeg) else (fun _ => Value.null) i), (.ref b19), .null, (-1 : Int32), .null, X119, N119, rfl, K119, G133, G125, G126, G127, G128, G129, G130, G131, G132, P120, P121, P123, P122, U1134, U2134, U3134, U4134, (own_V3n b19 b38 b59), fun target kt => ?_⟩
        refine ck124 _ ?_
        show Steps p.tables e below (T119.setTop (mkF m 262 #[.val (.int p0), .val (.int p1), .val (.int p2), .val (.int p3), .val (.int p4), .val (.int p5), .val (.int v1), .val (.int v2), .val (.int v3), .val (.int v4), .val (.int v5), .val (.int v7), .val (.int v9), .val (.int v11), .val (.int v13), .val (.int v15), .val (.int v17), .val (.int v18), .val (.ref b19), .val (.ref b38), .val (.ref b59), .val v87, .val (.ref b88), .val .null, .val .null, .val (.int (-1 : Int32)), .val .null, .unset] [(.int v5), (.int v1)])) _
        refine XS.icmpNo X119.here hx rfl (hb hby at_262) rfl (teq hs1).2 ?_
        show Steps p.tables e below (T119.setTop (mkF m 265 #[.val (.int p0), .val (.int p1), .val (.int p2), .val (.int p3), .val (.int p4), .val (.int p5), .val (.int v1), .val (.int v2), .val (.int v3), .val (.int v4), .val (.int v5), .val (.int v7), .val (.int v9), .val (.int v11), .val (.int v13), .val (.int v15), .val (.int v17), .val (.int v18), .val (.ref b19), .val (.ref b38), .val (.ref b59), .val v87, .val (.ref b88), .val .null, .val .null, .val (.int (-1 : Int32)), .val .null, .unset] [])) _
        refine XS.aload X119.here hx rfl (hb hby at_265) rfl rfl ?_
        show Steps p.tables e below (T119.setTop (mkF m 267 #[.val (.int p0), .val (.int p1), .val (.int p2), .val (.int p3), .val (.int p4), .val (.int p5), .val (.int v1), .val (.int v2), .val (.int v3), .val (.int v4), .val (.int v5), .val (.int v7), .val (.int v9), .val (.int v11), .val (.int v13), .val (.int v15), .val (.int v17), .val (.int v18), .val (.ref b19), .val (.ref b38), .val (.ref b59), .val v87, .val (.ref b88), .val .null, .val .null, .val (.int (-1 : Int32)), .val .null, .unset] [.null])) _
        refine XS.astore X119.here hx rfl (hb hby at_267) rfl rfl (l' := #[.val (.int p0), .val (.int p1), .val (.int p2), .val (.int p3), .val (.int p4), .val (.int p5), .val (.int v1), .val (.int v2), .val (.int v3), .val (.int v4), .val (.int v5), .val (.int v7), .val (.int v9), .val (.int v11), .val (.int v13), .val (.int v15), .val (.int v17), .val (.int v18), .val (.ref b19), .val (.ref b38), .val (.ref b59), .val v87, .val (.ref b88), .val .null, .val .null, .val (.int (-1 : Int32)), .val .null, .unset]) rfl ?_
        show Steps p.tables e below (T119.setTop (mkF m 269 #[.val (.int p0), .val (.int p1), .val (.int p2), .val (.int p3), .val (.int p4), .val (.int p5), .val (.int v1), .val (.int v2), .val (.int v3), .val (.int v4), .val (.int v5), .val (.int v7), .val (.int v9), .val (.int v11), .val (.int v13), .val (.int v15), .val (.int v17), .val (.int v18), .val (.ref b19), .val (.ref b38), .val (.ref b59), .val v87, .val (.ref b88), .val .null, .val .null, .val (.int (-1 : Int32)), .val .null, .unset] [])) _
        refine XS.aload X119.here hx rfl (hb hby at_269) rfl rfl ?_
        show Steps p.tables e below (T119.setTop (mkF m 271 #[.val (.int p0), .val (.int p1), .val (.int p2), .val (.int p3), .val (.int p4), .val (.int p5), .val (.int v1), .val (.int v2), .val (.int v3), .val (.int v4), .val (.int v5), .val (.int v7), .val (.int v9), .val (.int v11), .val (.int v13), .val (.int v15), .val (.int v17), .val (.int v18), .val (.ref b19), .val (.ref b38), .val (.ref b59), .val v87, .val (.ref b88), .val .null, .val .null, .val (.int (-1 : Int32)), .val .null, .unset] [(.ref b19)])) _
        refine XS.astore X119.here hx rfl (hb hby at_271) rfl rfl (l' := #[.val (.int p0), .val (.int p1), .val (.int p2), .val (.int p3), .val (.int p4), .val (.int p5), .val (.int v1), .val (.int v2), .val (.int v3), .val (.int v4), .val (.int v5), .val (.int v7), .val (.int v9), .val (.int v11), .val (.int v13), .val (.int v15), .val (.int v17), .val (.int v18), .val (.ref b19), .val (.ref b38), .val (.ref b59), .val v87, .val (.ref b88), .val (.ref b19), .val .null, .val (.int (-1 : Int32)), .val .null, .unset]) rfl ?_
        exact kt
      · have G135 : Exa Z T119.heap b19 "com/example/uneven_ticks/uneventicks/check/TraceEvent" := (G112.keep Kc119)
        have G136 : Exa Z T119.heap b38 "com/example/uneven_ticks/uneventicks/check/TraceEvent" := (G113.keep Kc119)
        have G137 : Exa Z T119.heap b59 "com/example/uneven_ticks/uneventicks/check/TraceEvent" := (G114.keep Kc119)
        have G138 : Exa Z T119.heap b88 "com/example/uneven_ticks/uneventicks/check/Occurrences" := (P93.keep Kc119)
        have G139 : Fld Z T119.heap b88 "com/example/uneven_ticks/uneventicks/check/Occurrences" "latest" "[Lcom/example/uneven_ticks/uneventicks/check/TraceEvent;" (.ref b92_b3) := (P95.keep Kc119 (ninS ne_b88_b92_b8 (ninS ne_b88_b92_b3 nin0)))
        have G140 : Fld Z T119.heap b88 "com/example/uneven_ticks/uneventicks/check/Occurrences" "previous" "[Lcom/example/uneven_ticks/uneventicks/check/TraceEvent;" (.ref b92_b8) := (P96.keep Kc119 (ninS ne_b88_b92_b8 (ninS ne_b88_b92_b3 nin0)))
        have G141 : Fld Z T119.heap b88 "com/example/uneven_ticks/uneventicks/check/Occurrences" "boundEvent" "I" (.int (-1 : Int32)) := (P94.keep Kc119 (ninS ne_b88_b92_b8 (ninS ne_b88_b92_b3 nin0)))
        have G142 : Fld Z T119.heap b88 "com/example/uneven_ticks/uneventicks/check/Occurrences" "bound" "Lcom/example/uneven_ticks/uneventicks/check/TraceEvent;" .null := (P97.keep Kc119 (ninS ne_b88_b92_b8 (ninS ne_b88_b92_b3 nin0)))
        have G143 : T79.heap.size ≤ T119.heap.size := (Nat.le_trans G107 Kc119.1)
        have U1144 : ∀ j : Nat, own_V3 b19 b38 b59 (((fun i => if i = (v1).toNatClampNeg then (.ref b19) else (fun _ => Value.null) i) : Nat → Value) j) := by first | exact own_V3set (f := (fun _ => Value.null)) VL0 (own_V31 b19 b38 b59) _ | (intro j; dsimp only; split <;> first | exact own_V31 b19 b38 b59 | exact VL0 j)
        have U2144 : ∀ j : Nat, own_V3 b19 b38 b59 (((fun i => if i = (v1).toNatClampNeg then ((fun _ => Value.null) (v1).toNatClampNeg) else (fun _ => Value.null) i) : Nat → Value) j) := by first | exact own_V3set (f := (fun _ => Value.null)) VL0 (VL0 (v1).toNatClampNeg) _ | (intro j; dsimp only; split <;> first | exact VL0 (v1).toNatClampNeg | exact VL0 j)
        have U3144 : (.null : Value) = ((fun i => if i = (v1).toNatClampNeg then (.ref b19) else (fun _ => Value.null) i) : Nat → Value) (v5).toNatClampNeg := by first | exact own_an (f := (fun _ => Value.null)) M6.1 M10.1 hs1 ql0 | exact ql0.trans (if_neg (fun z => hs1 (own_cl M6.1 M10.1 z.symm))).symm
        have U4144 : (.null : Value) = ((fun i => if i = (v1).toNatClampNeg then ((fun _ => Value.null) (v1).toNatClampNeg) else (fun _ => Value.null) i) : Nat → Value) (v5).toNatClampNeg := by first | exact own_an (f := (fun _ => Value.null)) M6.1 M10.1 hs1 ql0 | exact ql0.trans (if_neg (fun z => hs1 (own_cl M6.1 M10.1 z.symm))).symm
        refine ⟨T119, _, _, (fun i => if i = (v1).toNatClampNeg then (.ref b19) else (fun _ => Value.null) i), (fun i => if i = (v1).toNatClampNeg then ((fun _ => Value.null) (v1).toNatClampNeg) else (fun _ => Value.null) i), .null, .null, (-1 : Int32), .null, X119, N119, rfl, K119, G143, G135, G136, G137, G138, G139, G140, G141, G142, P120, P121, P123, P122, U1144, U2144, U3144, U4144, (own_V3n b19 b38 b59), fun target kt => ?_⟩
        refine ck124 _ ?_
        show Steps p.tables e below (T119.setTop (mkF m 262 #[.val (.int p0), .val (.int p1), .val (.int p2), .val (.int p3), .val (.int p4), .val (.int p5), .val (.int v1), .val (.int v2), .val (.int v3), .val (.int v4), .val (.int v5), .val (.int v7), .val (.int v9), .val (.int v11), .val (.int v13), .val (.int v15), .val (.int v17), .val (.int v18), .val (.ref b19), .val (.ref b38), .val (.ref b59), .val v87, .val (.ref b88), .val .null, .val .null, .val (.int (-1 : Int32)), .val .null, .unset] [(.int v5), (.int v1)])) _
        refine XS.icmpYes X119.here hx rfl (pc0 := 262) (pc' := 273) rfl (hb hby at_262) rfl (feq hs1).2 (by decide) (by decide) ?_
        exact kt
  have rl105 : vl105.isRef = true := by rw [ql105]; exact own_v3r (VL105 _)
  have rp105 : vp105.isRef = true := by rw [qp105]; exact own_v3r (VP105 _)
  have rb105 : bv105.isRef = true := own_v3r vb105
  have ck146 : ∀ t, Steps p.tables e below (T105.setTop (mkF m 275 #[.val (.int p0), .val (.int p1), .val (.int p2), .val (.int p3), .val (.int p4), .val (.int p5), .val (.int v1), .val (.int v2), .val (.int v3), .val (.int v4), .val (.int v5), .val (.int v7), .val (.int v9), .val (.int v11), .val (.int v13), .val (.int v15), .val (.int v17), .val (.int v18), .val (.ref b19), .val (.ref b38), .val (.ref b59), .val v87, .val (.ref b88), .val vl105, .val vp105, .val (.int be105), .val bv105, .unset] [(.int v9)])) t → Steps p.tables e below (T92.setTop (mkF m 246 #[.val (.int p0), .val (.int p1), .val (.int p2), .val (.int p3), .val (.int p4), .val (.int p5), .val (.int v1), .val (.int v2), .val (.int v3), .val (.int v4), .val (.int v5), .val (.int v7), .val (.int v9), .val (.int v11), .val (.int v13), .val (.int v15), .val (.int v17), .val (.int v18), .val (.ref b19), .val (.ref b38), .val (.ref b59), .val v87, .val (.ref b88), .val .null, .val .null, .val (.int (-1 : Int32)), .val .null, .unset] [(.int v7)])) t := by
    intro t kt
    show Steps p.tables e below (T92.setTop (mkF m 246 #[.val (.int p0), .val (.int p1), .val (.int p2), .val (.int p3), .val (.int p4), .val (.int p5), .val (.int v1), .val (.int v2), .val (.int v3), .val (.int v4), .val (.int v5), .val (.int v7), .val (.int v9), .val (.int v11), .val (.int v13), .val (.int v15), .val (.int v17), .val (.int v18), .val (.ref b19), .val (.ref b38), .val (.ref b59), .val v87, .val (.ref b88), .val .null, .val .null, .val (.int (-1 : Int32)), .val .null, .unset] [(.int v7)])) _
    refine st105 _ ?_
    show Steps p.tables e below (T105.setTop (mkF m 273 #[.val (.int p0), .val (.int p1), .val (.int p2), .val (.int p3), .val (.int p4), .val (.int p5), .val (.int v1), .val (.int v2), .val (.int v3), .val (.int v4), .val (.int v5), .val (.int v7), .val (.int v9), .val (.int v11), .val (.int v13), .val (.int v15), .val (.int v17), .val (.int v18), .val (.ref b19), .val (.ref b38), .val (.ref b59), .val v87, .val (.ref b88), .val vl105, .val vp105, .val (.int be105), .val bv105, .unset] [])) _
    refine XS.iload X105.here hx rfl (hb hby at_273) rfl ?_
    exact kt
  obtain ⟨T145, h145, L145, fL145, fP145, vl145, vp145, be145, bv145, X145, N145, e145, K145, LE145, Ea145, Eb145, Ec145, Eo145, F1145, F2145, F3145, F4145, A1145, A2145, O1145, O2145, VL145, VP145, ql145, qp145, vb145, st145⟩ : ∃ (T' : State) (h' : Heap) (L' : List Loc) (fL' fP' : Nat → Value) (vl' vp' : Value) (be' : Int32) (bv' : Value), Stand p l e room_1 (s.setVm T79.vm) m #[(.int p0), (.int p1), (.int p2), (.int p3), (.int p4), (.int p5)] below meth c T' L' 27 124 ∧ Fr n0 L' ∧ T'.heap = h' ∧ Keep h0 h' [] ∧ T79.heap.size ≤ h'.size ∧ Exa Z h' b19 "com/example/uneven_ticks/uneventicks/check/TraceEvent" ∧ Exa Z h' b38 "com/example/uneven_ticks/uneventicks/check/TraceEvent" ∧ Exa Z h' b59 "com/example/uneven_ticks/uneventicks/check/TraceEvent" ∧ Exa Z h' b88 "com/example/uneven_ticks/uneventicks/check/Occurrences" ∧ Fld Z h' b88 "com/example/uneven_ticks/uneventicks/check/Occurrences" "latest" "[Lcom/example/uneven_ticks/uneventicks/check/TraceEvent;" (.ref b92_b3) ∧ Fld Z h' b88 "com/example/uneven_ticks/uneventicks/check/Occurrences" "previous" "[Lcom/example/uneven_ticks/uneventicks/check/TraceEvent;" (.ref b92_b8) ∧ Fld Z h' b88 "com/example/uneven_ticks/uneventicks/check/Occurrences" "boundEvent" "I" (.int be') ∧ Fld Z h' b88 "com/example/uneven_ticks/uneventicks/check/Occurrences" "bound" "Lcom/example/uneven_ticks/uneventicks/check/TraceEvent;" bv' ∧ AF Z h' b92_b3 (.object "com/example/uneven_ticks/uneventicks/check/TraceEvent") 3 fL' ∧ AF Z h' b92_b8 (.object "com/example/uneven_ticks/uneventicks/check/TraceEvent") 3 fP' ∧ OV Z h' b92_b3 "com/example/uneven_ticks/uneventicks/check/TraceEvent" ∧ OV Z h' b92_b8 "com/example/uneven_ticks/uneventicks/check/TraceEvent" ∧ (∀ j, own_V3 b19 b38 b59 (fL' j)) ∧ (∀ j, own_V3 b19 b38 b59 (fP' j)) ∧ vl' = fL' (v5).toNatClampNeg ∧ vp' = fP' (v5).toNatClampNeg ∧ own_V3 b19 b38 b59 bv' ∧ ∀ target, Steps p.tables e below (T'.setTop (mkF m 302 #[.val (.int p0), .val (.int p1), .val (.int p2), .val (.int p3), .val (.int p4), .val (.int p5), .val (.int v1), .val (.int v2), .val (.int v3), .val (.int v4), .val (.int v5), .val (.int v7), .val (.int v9), .val (.int v11), .val (.int v13), .val (.int v15), .val (.int v17), .val (.int v18), .val (.ref b19), .val (.ref b38), .val (.ref b59), .val v87, .val (.ref b88), .val vl', .val vp', .val (.int be'), .val bv', .unset] [])) target → Steps p.tables e below (T105.setTop (mkF m 275 #[.val (.int p0), .val (.int p1), .val (.int p2), .val (.int p3), .val (.int p4), .val (.int p5), .val (.int v1), .val (.int v2), .val (.int v3), .val (.int v4), .val (.int v5), .val (.int v7), .val (.int v9), .val (.int v11), .val (.int v13), .val (.int v15), .val (.int v17), .val (.int v18), .val (.ref b19), .val (.ref b38), .val (.ref b59), .val v87, .val (.ref b88), .val vl105, .val vp105, .val (.int be105), .val bv105, .unset] [(.int v9)])) target := by
    by_cases hb147 : v9 = (0 : Int32)
    · refine ⟨T105, _, _, fL105, fP105, vl105, vp105, be105, bv105, X105, N105, e105, K105, LE105, Ea105, Eb105, Ec105, Eo105, F1105, F2105, F3105, F4105, A1105, A2105, O1105, O2105, VL105, VP105, ql105, qp105, vb105, fun target kt => ?_⟩
      show Steps p.tables e below (T105.setTop (mkF m 275 #[.val (.int p0), .val (.int p1), .val (.int p2), .val (.int p3), .val (.int p4), .val (.int p5), .val (.int v1), .val (.int v2), .val (.int v3), .val (.int v4), .val (.int v5), .val (.int v7), .val (.int v9), .val (.int v11), .val (.int v13), .val (.int v15), .val (.int v17), .val (.int v18), .val (.ref b19), .val (.ref b38), .val (.ref b59), .val v87, .val (.ref b88), .val vl105, .val vp105, .val (.int be105), .val bv105, .unset] [(.int v9)])) _
      refine XS.ifYes X105.here hx rfl (pc0 := 275) (pc' := 302) rfl (hb hby at_275) rfl ((if0 _ _).trans (teq hb147).1) (by decide) (by decide) ?_
      exact kt
    · have hp148 : ∀ j : Nat, own_V3 b19 b38 b59 (fL105 j) := VL105
      have hp149 : own_in v2 3 := M7.2.2
      have hp150 : own_in v2 3 := M7.2.2
      have hp151 : own_in v2 3 := M7.2.2
      obtain ⟨cq152, kq152, q152a, q152b, q152c⟩ := isOf hZ79 e105 Eo105
      obtain ⟨_, _, ⟨T152, L152, k152, n152⟩, -, X152, ⟨Lc152, hQ152, l152, y152, z152⟩, st152⟩ := X105.virtualBack hx (y := (⟨"com/example/uneven_ticks/uneventicks/check/Occurrences", "occur", "(ILcom/example/uneven_ticks/uneventicks/check/TraceEvent;)V"⟩ : MethodName)) (z := (⟨"com/example/uneven_ticks/uneventicks/check/Occurrences", "occur", "(ILcom/example/uneven_ticks/uneventicks/check/TraceEvent;)V"⟩ : MethodName)) hown79 (mvT hZ79 (hw _ (List.mem_of_getElem? (i := 132) rfl))) (mvT hZ79 (hw _ (List.mem_of_getElem? (i := 133) rfl))) (notFace_of_selects (args := #[]) (mvT hZ79 (hw _ (List.mem_of_getElem? (i := 135) rfl)))) (mvT hZ79 (hw _ (List.mem_of_getElem? (i := 135) rfl))) (mvT hZ79 (hw _ (List.mem_of_getElem? (i := 134) rfl))) (by decide) (backOf (W := 0) (rm19 l Z A0 hw [] b88 v2 b38 be105 b92_b3 b92_b8 bv105 b19 b38 b59 fL105 fP105 h105 n0 (Nat.le_trans Z0 K105.1) Eo105 F3105 F1105 F2105 F4105 Ea105 Eb105 Ec105 A1105 A2105 O2105 nw_b92_b8 ne_b88_b92_b8 ne_b92_b3_b92_b8 O1105 Eb105 nw_b92_b3 hp148 hp149 hp150 hp151) hZ79 (hw _ (List.mem_of_getElem? (i := 136) rfl)) (hw _ (List.mem_of_getElem? (i := 119) rfl)) (by decide) (by decide)) q152a q152c (g := (mkF m 284 #[.val (.int p0), .val (.int p1), .val (.int p2), .val (.int p3), .val (.int p4), .val (.int p5), .val (.int v1), .val (.int v2), .val (.int v3), .val (.int v4), .val (.int v5), .val (.int v7), .val (.int v9), .val (.int v11), .val (.int v13), .val (.int v15), .val (.int v17), .val (.int v18), .val (.ref b19), .val (.ref b38), .val (.ref b59), .val v87, .val (.ref b88), .val vl105, .val vp105, .val (.int be105), .val bv105, .unset] [(.ref b38), (.int v2), (.ref b88)])) rfl (by rw [hml]; rfl) (Steps.refl _) (argsL := [(.int v2), (.ref b38)]) (rest := []) (lenOf pd_17 rfl) rfl (by show 2 * 0 + _ ≤ _; exact Nat.le_of_eq rfl) (hb hby at_284) (fun _ _ => ⟨rfl, e105, (by decide : 27 + 0 ≤ _), (by decide : 124 + 0 ≤ _)⟩)
      dsimp only [Pt.U, Pt.locs, Pt.cells, Pt.slots] at X152 l152 y152 z152 st152 hQ152
      subst l152 y152 z152
      obtain ⟨rfl, N152q, Kc152, P153, P154, P155, P156⟩ := hQ152
      have K152 : Keep h0 T152.heap [] := K105.trans Kc152 (allS (Or.inr sq_b92_b8) (allS (Or.inr sq_b92_b3) all0))
      have N152 := Fr.app N105 N152q
      have ck157 : ∀ t, Steps p.tables e below (T152.setTop (mkF m 291 #[.val (.int p0), .val (.int p1), .val (.int p2), .val (.int p3), .val (.int p4), .val (.int p5), .val (.int v1), .val (.int v2), .val (.int v3), .val (.int v4), .val (.int v5), .val (.int v7), .val (.int v9), .val (.int v11), .val (.int v13), .val (.int v15), .val (.int v17), .val (.int v18), .val (.ref b19), .val (.ref b38), .val (.ref b59), .val v87, .val (.ref b88), .val vl105, .val vp105, .val (.int be105), .val bv105, .unset] [(.int v5), (.int v2)])) t → Steps p.tables e below (T105.setTop (mkF m 275 #[.val (.int p0), .val (.int p1), .val (.int p2), .val (.int p3), .val (.int p4), .val (.int p5), .val (.int v1), .val (.int v2), .val (.int v3), .val (.int v4), .val (.int v5), .val (.int v7), .val (.int v9), .val (.int v11), .val (.int v13), .val (.int v15), .val (.int v17), .val (.int v18), .val (.ref b19), .val (.ref b38), .val (.ref b59), .val v87, .val (.ref b88), .val vl105, .val vp105, .val (.int be105), .val bv105, .unset] [(.int v9)])) t := by
        intro t kt
        show Steps p.tables e below (T105.setTop (mkF m 275 #[.val (.int p0), .val (.int p1), .val (.int p2), .val (.int p3), .val (.int p4), .val (.int p5), .val (.int v1), .val (.int v2), .val (.int v3), .val (.int v4), .val (.int v5), .val (.int v7), .val (.int v9), .val (.int v11), .val (.int v13), .val (.int v15), .val (.int v17), .val (.int v18), .val (.ref b19), .val (.ref b38), .val (.ref b59), .val v87, .val (.ref b88), .val vl105, .val vp105, .val (.int be105), .val bv105, .unset] [(.int v9)])) _
        refine XS.ifNo X105.here hx rfl (hb hby at_275) rfl ((if0 _ _).trans (feq hb147).1) ?_
        show Steps p.tables e below (T105.setTop (mkF m 278 #[.val (.int p0), .val (.int p1), .val (.int p2), .val (.int p3), .val (.int p4), .val (.int p5), .val (.int v1), .val (.int v2), .val (.int v3), .val (.int v4), .val (.int v5), .val (.int v7), .val (.int v9), .val (.int v11), .val (.int v13), .val (.int v15), .val (.int v17), .val (.int v18), .val (.ref b19), .val (.ref b38), .val (.ref b59), .val v87, .val (.ref b88), .val vl105, .val vp105, .val (.int be105), .val bv105, .unset] [])) _
        refine XS.aload X105.here hx rfl (hb hby at_278) rfl rfl ?_
        show Steps p.tables e below (T105.setTop (mkF m 280 #[.val (.int p0), .val (.int p1), .val (.int p2), .val (.int p3), .val (.int p4), .val (.int p5), .val (.int v1), .val (.int v2), .val (.int v3), .val (.int v4), .val (.int v5), .val (.int v7), .val (.int v9), .val (.int v11), .val (.int v13), .val (.int v15), .val (.int v17), .val (.int v18), .val (.ref b19), .val (.ref b38), .val (.ref b59), .val v87, .val (.ref b88), .val vl105, .val vp105, .val (.int be105), .val bv105, .unset] [(.ref b88)])) _
        refine XS.iload X105.here hx rfl (hb hby at_280) rfl ?_
        show Steps p.tables e below (T105.setTop (mkF m 282 #[.val (.int p0), .val (.int p1), .val (.int p2), .val (.int p3), .val (.int p4), .val (.int p5), .val (.int v1), .val (.int v2), .val (.int v3), .val (.int v4), .val (.int v5), .val (.int v7), .val (.int v9), .val (.int v11), .val (.int v13), .val (.int v15), .val (.int v17), .val (.int v18), .val (.ref b19), .val (.ref b38), .val (.ref b59), .val v87, .val (.ref b88), .val vl105, .val vp105, .val (.int be105), .val bv105, .unset] [(.int v2), (.ref b88)])) _
        refine XS.aload X105.here hx rfl (hb hby at_282) rfl rfl ?_
        show Steps p.tables e below (T105.setTop (mkF m 284 #[.val (.int p0), .val (.int p1), .val (.int p2), .val (.int p3), .val (.int p4), .val (.int p5), .val (.int v1), .val (.int v2), .val (.int v3), .val (.int v4), .val (.int v5), .val (.int v7), .val (.int v9), .val (.int v11), .val (.int v13), .val (.int v15), .val (.int v17), .val (.int v18), .val (.ref b19), .val (.ref b38), .val (.ref b59), .val v87, .val (.ref b88), .val vl105, .val vp105, .val (.int be105), .val bv105, .unset] [(.ref b38), (.int v2), (.ref b88)])) _
        refine st152.trans ?_
        show Steps p.tables e below (T152.setTop (mkF m 287 #[.val (.int p0), .val (.int p1), .val (.int p2), .val (.int p3), .val (.int p4), .val (.int p5), .val (.int v1), .val (.int v2), .val (.int v3), .val (.int v4), .val (.int v5), .val (.int v7), .val (.int v9), .val (.int v11), .val (.int v13), .val (.int v15), .val (.int v17), .val (.int v18), .val (.ref b19), .val (.ref b38), .val (.ref b59), .val v87, .val (.ref b88), .val vl105, .val vp105, .val (.int be105), .val bv105, .unset] [])) _
        refine XS.iload X152.here hx rfl (hb hby at_287) rfl ?_
        show Steps p.tables e below (T152.setTop (mkF m 289 #[.val (.int p0), .val (.int p1), .val (.int p2), .val (.int p3), .val (.int p4), .val (.int p5), .val (.int v1), .val (.int v2), .val (.int v3), .val (.int v4), .val (.int v5), .val (.int v7), .val (.int v9), .val (.int v11), .val (.int v13), .val (.int v15), .val (.int v17), .val (.int v18), .val (.ref b19), .val (.ref b38), .val (.ref b59), .val v87, .val (.ref b88), .val vl105, .val vp105, .val (.int be105), .val bv105, .unset] [(.int v2)])) _
        refine XS.iload X152.here hx rfl (hb hby at_289) rfl ?_
        exact kt
      by_cases hs2 : v2 = v5
      · have G158 : Exa Z T152.heap b19 "com/example/uneven_ticks/uneventicks/check/TraceEvent" := (Ea105.keep Kc152)
        have G159 : Exa Z T152.heap b38 "com/example/uneven_ticks/uneventicks/check/TraceEvent" := (Eb105.keep Kc152)
        have G160 : Exa Z T152.heap b59 "com/example/uneven_ticks/uneventicks/check/TraceEvent" := (Ec105.keep Kc152)
        have G161 : Exa Z T152.heap b88 "com/example/uneven_ticks/uneventicks/check/Occurrences" := (Eo105.keep Kc152)
        have G162 : Fld Z T152.heap b88 "com/example/uneven_ticks/uneventicks/check/Occurrences" "latest" "[Lcom/example/uneven_ticks/uneventicks/check/TraceEvent;" (.ref b92_b3) := (F1105.keep Kc152 (ninS ne_b88_b92_b8 (ninS ne_b88_b92_b3 nin0)))
        have G163 : Fld Z T152.heap b88 "com/example/uneven_ticks/uneventicks/check/Occurrences" "previous" "[Lcom/example/uneven_ticks/uneventicks/check/TraceEvent;" (.ref b92_b8) := (F2105.keep Kc152 (ninS ne_b88_b92_b8 (ninS ne_b88_b92_b3 nin0)))
        have G164 : Fld Z T152.heap b88 "com/example/uneven_ticks/uneventicks/check/Occurrences" "boundEvent" "I" (.int be105) := (F3105.keep Kc152 (ninS ne_b88_b92_b8 (ninS ne_b88_b92_b3 nin0)))
        have G165 : Fld Z T152.heap b88 "com/example/uneven_ticks/uneventicks/check/Occurrences" "bound" "Lcom/example/uneven_ticks/uneventicks/check/TraceEvent;" bv105 := (F4105.keep Kc152 (ninS ne_b88_b92_b8 (ninS ne_b88_b92_b3 nin0)))
        have G166 : T79.heap.size ≤ T152.heap.size := (Nat.le_trans LE105 Kc152.1)
        have U1167 : ∀ j : Nat, own_V3 b19 b38 b59 (((fun i => if i = (v2).toNatClampNeg then (.ref b38) else fL105 i) : Nat → Value) j) := by first | exact own_V3set (f := fL105) VL105 (own_V32 b19 b38 b59) _ | (intro j; dsimp only; split <;> first | exact own_V32 b19 b38 b59 | exact VL105 j)
        have U2167 : ∀ j : Nat, own_V3 b19 b38 b59 (((fun i => if i = (v2).toNatClampNeg then (fL105 (v2).toNatClampNeg) else fP105 i) : Nat → Value) j) := by first | exact own_V3set (f := fP105) VP105 (VL105 (v2).toNatClampNeg) _ | (intro j; dsimp only; split <;> first | exact VL105 (v2).toNatClampNeg | exact VP105 j)
        have U3167 : ((.ref b38) : Value) = ((fun i => if i = (v2).toNatClampNeg then (.ref b38) else fL105 i) : Nat → Value) (v5).toNatClampNeg := by first | exact own_ae (f := fL105) hs2 | exact (if_pos (by rw [hs2])).symm | simp [hs2]
        have U4167 : (vl105 : Value) = ((fun i => if i = (v2).toNatClampNeg then (fL105 (v2).toNatClampNeg) else fP105 i) : Nat → Value) (v5).toNatClampNeg := by first | exact own_ae2 (f := fL105) (g := fP105) hs2 ql105 | exact ql105.trans ((if_pos (by rw [hs2])).trans (by rw [hs2])).symm | simp [hs2, ql105]
        refine ⟨T152, _, _, (fun i => if i = (v2).toNatClampNeg then (.ref b38) else fL105 i), (fun i => if i = (v2).toNatClampNeg then (fL105 (v2).toNatClampNeg) else fP105 i), (.ref b38), vl105, be105, bv105, X152, N152, rfl, K152, G166, G158, G159, G160, G161, G162, G163, G164, G165, P153, P154, P156, P155, U1167, U2167, U3167, U4167, vb105, fun target kt => ?_⟩
        refine ck157 _ ?_
        show Steps p.tables e below (T152.setTop (mkF m 291 #[.val (.int p0), .val (.int p1), .val (.int p2), .val (.int p3), .val (.int p4), .val (.int p5), .val (.int v1), .val (.int v2), .val (.int v3), .val (.int v4), .val (.int v5), .val (.int v7), .val (.int v9), .val (.int v11), .val (.int v13), .val (.int v15), .val (.int v17), .val (.int v18), .val (.ref b19), .val (.ref b38), .val (.ref b59), .val v87, .val (.ref b88), .val vl105, .val vp105, .val (.int be105), .val bv105, .unset] [(.int v5), (.int v2)])) _
        refine XS.icmpNo X152.here hx rfl (hb hby at_291) rfl (teq hs2).2 ?_
        show Steps p.tables e below (T152.setTop (mkF m 294 #[.val (.int p0), .val (.int p1), .val (.int p2), .val (.int p3), .val (.int p4), .val (.int p5), .val (.int v1), .val (.int v2), .val (.int v3), .val (.int v4), .val (.int v5), .val (.int v7), .val (.int v9), .val (.int v11), .val (.int v13), .val (.int v15), .val (.int v17), .val (.int v18), .val (.ref b19), .val (.ref b38), .val (.ref b59), .val v87, .val (.ref b88), .val vl105, .val vp105, .val (.int be105), .val bv105, .unset] [])) _
        refine XS.aload X152.here hx rfl (hb hby at_294) rfl rl105 ?_
        show Steps p.tables e below (T152.setTop (mkF m 296 #[.val (.int p0), .val (.int p1), .val (.int p2), .val (.int p3), .val (.int p4), .val (.int p5), .val (.int v1), .val (.int v2), .val (.int v3), .val (.int v4), .val (.int v5), .val (.int v7), .val (.int v9), .val (.int v11), .val (.int v13), .val (.int v15), .val (.int v17), .val (.int v18), .val (.ref b19), .val (.ref b38), .val (.ref b59), .val v87, .val (.ref b88), .val vl105, .val vp105, .val (.int be105), .val bv105, .unset] [vl105])) _
        refine XS.astoreS X152.here hx rfl (hb hby at_296) rfl rl105 (own_cat rl105) rfl (One.val (own_cat rp105)) ?_
        show Steps p.tables e below (T152.setTop (mkF m 298 #[.val (.int p0), .val (.int p1), .val (.int p2), .val (.int p3), .val (.int p4), .val (.int p5), .val (.int v1), .val (.int v2), .val (.int v3), .val (.int v4), .val (.int v5), .val (.int v7), .val (.int v9), .val (.int v11), .val (.int v13), .val (.int v15), .val (.int v17), .val (.int v18), .val (.ref b19), .val (.ref b38), .val (.ref b59), .val v87, .val (.ref b88), .val vl105, .val vl105, .val (.int be105), .val bv105, .unset] [])) _
        refine XS.aload X152.here hx rfl (hb hby at_298) rfl rfl ?_
        show Steps p.tables e below (T152.setTop (mkF m 300 #[.val (.int p0), .val (.int p1), .val (.int p2), .val (.int p3), .val (.int p4), .val (.int p5), .val (.int v1), .val (.int v2), .val (.int v3), .val (.int v4), .val (.int v5), .val (.int v7), .val (.int v9), .val (.int v11), .val (.int v13), .val (.int v15), .val (.int v17), .val (.int v18), .val (.ref b19), .val (.ref b38), .val (.ref b59), .val v87, .val (.ref b88), .val vl105, .val vl105, .val (.int be105), .val bv105, .unset] [(.ref b38)])) _
        refine XS.astoreS X152.here hx rfl (hb hby at_300) rfl rfl rfl rfl (One.val (own_cat rl105)) ?_
        exact kt
      · have G168 : Exa Z T152.heap b19 "com/example/uneven_ticks/uneventicks/check/TraceEvent" := (Ea105.keep Kc152)
        have G169 : Exa Z T152.heap b38 "com/example/uneven_ticks/uneventicks/check/TraceEvent" := (Eb105.keep Kc152)
        have G170 : Exa Z T152.heap b59 "com/example/uneven_ticks/uneventicks/check/TraceEvent" := (Ec105.keep Kc152)
        have G171 : Exa Z T152.heap b88 "com/example/uneven_ticks/uneventicks/check/Occurrences" := (Eo105.keep Kc152)
        have G172 : Fld Z T152.heap b88 "com/example/uneven_ticks/uneventicks/check/Occurrences" "latest" "[Lcom/example/uneven_ticks/uneventicks/check/TraceEvent;" (.ref b92_b3) := (F1105.keep Kc152 (ninS ne_b88_b92_b8 (ninS ne_b88_b92_b3 nin0)))
        have G173 : Fld Z T152.heap b88 "com/example/uneven_ticks/uneventicks/check/Occurrences" "previous" "[Lcom/example/uneven_ticks/uneventicks/check/TraceEvent;" (.ref b92_b8) := (F2105.keep Kc152 (ninS ne_b88_b92_b8 (ninS ne_b88_b92_b3 nin0)))
        have G174 : Fld Z T152.heap b88 "com/example/uneven_ticks/uneventicks/check/Occurrences" "boundEvent" "I" (.int be105) := (F3105.keep Kc152 (ninS ne_b88_b92_b8 (ninS ne_b88_b92_b3 nin0)))
        have G175 : Fld Z T152.heap b88 "com/example/uneven_ticks/uneventicks/check/Occurrences" "bound" "Lcom/example/uneven_ticks/uneventicks/check/TraceEvent;" bv105 := (F4105.keep Kc152 (ninS ne_b88_b92_b8 (ninS ne_b88_b92_b3 nin0)))
        have G176 : T79.heap.size ≤ T152.heap.size := (Nat.le_trans LE105 Kc152.1)
        have U1177 : ∀ j : Nat, own_V3 b19 b38 b59 (((fun i => if i = (v2).toNatClampNeg then (.ref b38) else fL105 i) : Nat → Value) j) := by first | exact own_V3set (f := fL105) VL105 (own_V32 b19 b38 b59) _ | (intro j; dsimp only; split <;> first | exact own_V32 b19 b38 b59 | exact VL105 j)
        have U2177 : ∀ j : Nat, own_V3 b19 b38 b59 (((fun i => if i = (v2).toNatClampNeg then (fL105 (v2).toNatClampNeg) else fP105 i) : Nat → Value) j) := by first | exact own_V3set (f := fP105) VP105 (VL105 (v2).toNatClampNeg) _ | (intro j; dsimp only; split <;> first | exact VL105 (v2).toNatClampNeg | exact VP105 j)
        have U3177 : (vl105 : Value) = ((fun i => if i = (v2).toNatClampNeg then (.ref b38) else fL105 i) : Nat → Value) (v5).toNatClampNeg := by first | exact own_an (f := fL105) M7.1 M10.1 hs2 ql105 | exact ql105.trans (if_neg (fun z => hs2 (own_cl M7.1 M10.1 z.symm))).symm
        have U4177 : (vp105 : Value) = ((fun i => if i = (v2).toNatClampNeg then (fL105 (v2).toNatClampNeg) else fP105 i) : Nat → Value) (v5).toNatClampNeg := by first | exact own_an (f := fP105) M7.1 M10.1 hs2 qp105 | exact qp105.trans (if_neg (fun z => hs2 (own_cl M7.1 M10.1 z.symm))).symm
        refine ⟨T152, _, _, (fun i => if i = (v2).toNatClampNeg then (.ref b38) else fL105 i), (fun i => if i = (v2).toNatClampNeg then (fL105 (v2).toNatClampNeg) else fP105 i), vl105, vp105, be105, bv105, X152, N152, rfl, K152, G176, G168, G169, G170, G171, G172, G173, G174, G175, P153, P154, P156, P155, U1177, U2177, U3177, U4177, vb105, fun target kt => ?_⟩
        refine ck157 _ ?_
        show Steps p.tables e below (T152.setTop (mkF m 291 #[.val (.int p0), .val (.int p1), .val (.int p2), .val (.int p3), .val (.int p4), .val (.int p5), .val (.int v1), .val (.int v2), .val (.int v3), .val (.int v4), .val (.int v5), .val (.int v7), .val (.int v9), .val (.int v11), .val (.int v13), .val (.int v15), .val (.int v17), .val (.int v18), .val (.ref b19), .val (.ref b38), .val (.ref b59), .val v87, .val (.ref b88), .val vl105, .val vp105, .val (.int be105), .val bv105, .unset] [(.int v5), (.int v2)])) _
        refine XS.icmpYes X152.here hx rfl (pc0 := 291) (pc' := 302) rfl (hb hby at_291) rfl (feq hs2).2 (by decide) (by decide) ?_
        exact kt
  have rl145 : vl145.isRef = true := by rw [ql145]; exact own_v3r (VL145 _)
  have rp145 : vp145.isRef = true := by rw [qp145]; exact own_v3r (VP145 _)
  have rb145 : bv145.isRef = true := own_v3r vb145
  have ck179 : ∀ t, Steps p.tables e below (T145.setTop (mkF m 304 #[.val (.int p0), .val (.int p1), .val (.int p2), .val (.int p3), .val (.int p4), .val (.int p5), .val (.int v1), .val (.int v2), .val (.int v3), .val (.int v4), .val (.int v5), .val (.int v7), .val (.int v9), .val (.int v11), .val (.int v13), .val (.int v15), .val (.int v17), .val (.int v18), .val (.ref b19), .val (.ref b38), .val (.ref b59), .val v87, .val (.ref b88), .val vl145, .val vp145, .val (.int be145), .val bv145, .unset] [(.int v11)])) t → Steps p.tables e below (T105.setTop (mkF m 275 #[.val (.int p0), .val (.int p1), .val (.int p2), .val (.int p3), .val (.int p4), .val (.int p5), .val (.int v1), .val (.int v2), .val (.int v3), .val (.int v4), .val (.int v5), .val (.int v7), .val (.int v9), .val (.int v11), .val (.int v13), .val (.int v15), .val (.int v17), .val (.int v18), .val (.ref b19), .val (.ref b38), .val (.ref b59), .val v87, .val (.ref b88), .val vl105, .val vp105, .val (.int be105), .val bv105, .unset] [(.int v9)])) t := by
    intro t kt
    show Steps p.tables e below (T105.setTop (mkF m 275 #[.val (.int p0), .val (.int p1), .val (.int p2), .val (.int p3), .val (.int p4), .val (.int p5), .val (.int v1), .val (.int v2), .val (.int v3), .val (.int v4), .val (.int v5), .val (.int v7), .val (.int v9), .val (.int v11), .val (.int v13), .val (.int v15), .val (.int v17), .val (.int v18), .val (.ref b19), .val (.ref b38), .val (.ref b59), .val v87, .val (.ref b88), .val vl105, .val vp105, .val (.int be105), .val bv105, .unset] [(.int v9)])) _
    refine st145 _ ?_
    show Steps p.tables e below (T145.setTop (mkF m 302 #[.val (.int p0), .val (.int p1), .val (.int p2), .val (.int p3), .val (.int p4), .val (.int p5), .val (.int v1), .val (.int v2), .val (.int v3), .val (.int v4), .val (.int v5), .val (.int v7), .val (.int v9), .val (.int v11), .val (.int v13), .val (.int v15), .val (.int v17), .val (.int v18), .val (.ref b19), .val (.ref b38), .val (.ref b59), .val v87, .val (.ref b88), .val vl145, .val vp145, .val (.int be145), .val bv145, .unset] [])) _
    refine XS.iload X145.here hx rfl (hb hby at_302) rfl ?_
    exact kt
  obtain ⟨T178, h178, L178, fL178, fP178, vl178, vp178, be178, bv178, X178, N178, e178, K178, LE178, Ea178, Eb178, Ec178, Eo178, F1178, F2178, F3178, F4178, A1178, A2178, O1178, O2178, VL178, VP178, ql178, qp178, vb178, st178⟩ : ∃ (T' : State) (h' : Heap) (L' : List Loc) (fL' fP' : Nat → Value) (vl' vp' : Value) (be' : Int32) (bv' : Value), Stand p l e room_1 (s.setVm T79.vm) m #[(.int p0), (.int p1), (.int p2), (.int p3), (.int p4), (.int p5)] below meth c T' L' 27 124 ∧ Fr n0 L' ∧ T'.heap = h' ∧ Keep h0 h' [] ∧ T79.heap.size ≤ h'.size ∧ Exa Z h' b19 "com/example/uneven_ticks/uneventicks/check/TraceEvent" ∧ Exa Z h' b38 "com/example/uneven_ticks/uneventicks/check/TraceEvent" ∧ Exa Z h' b59 "com/example/uneven_ticks/uneventicks/check/TraceEvent" ∧ Exa Z h' b88 "com/example/uneven_ticks/uneventicks/check/Occurrences" ∧ Fld Z h' b88 "com/example/uneven_ticks/uneventicks/check/Occurrences" "latest" "[Lcom/example/uneven_ticks/uneventicks/check/TraceEvent;" (.ref b92_b3) ∧ Fld Z h' b88 "com/example/uneven_ticks/uneventicks/check/Occurrences" "previous" "[Lcom/example/uneven_ticks/uneventicks/check/TraceEvent;" (.ref b92_b8) ∧ Fld Z h' b88 "com/example/uneven_ticks/uneventicks/check/Occurrences" "boundEvent" "I" (.int be') ∧ Fld Z h' b88 "com/example/uneven_ticks/uneventicks/check/Occurrences" "bound" "Lcom/example/uneven_ticks/uneventicks/check/TraceEvent;" bv' ∧ AF Z h' b92_b3 (.object "com/example/uneven_ticks/uneventicks/check/TraceEvent") 3 fL' ∧ AF Z h' b92_b8 (.object "com/example/uneven_ticks/uneventicks/check/TraceEvent") 3 fP' ∧ OV Z h' b92_b3 "com/example/uneven_ticks/uneventicks/check/TraceEvent" ∧ OV Z h' b92_b8 "com/example/uneven_ticks/uneventicks/check/TraceEvent" ∧ (∀ j, own_V3 b19 b38 b59 (fL' j)) ∧ (∀ j, own_V3 b19 b38 b59 (fP' j)) ∧ vl' = fL' (v5).toNatClampNeg ∧ vp' = fP' (v5).toNatClampNeg ∧ own_V3 b19 b38 b59 bv' ∧ ∀ target, Steps p.tables e below (T'.setTop (mkF m 324 #[.val (.int p0), .val (.int p1), .val (.int p2), .val (.int p3), .val (.int p4), .val (.int p5), .val (.int v1), .val (.int v2), .val (.int v3), .val (.int v4), .val (.int v5), .val (.int v7), .val (.int v9), .val (.int v11), .val (.int v13), .val (.int v15), .val (.int v17), .val (.int v18), .val (.ref b19), .val (.ref b38), .val (.ref b59), .val v87, .val (.ref b88), .val vl', .val vp', .val (.int be'), .val bv', .unset] [])) target → Steps p.tables e below (T145.setTop (mkF m 304 #[.val (.int p0), .val (.int p1), .val (.int p2), .val (.int p3), .val (.int p4), .val (.int p5), .val (.int v1), .val (.int v2), .val (.int v3), .val (.int v4), .val (.int v5), .val (.int v7), .val (.int v9), .val (.int v11), .val (.int v13), .val (.int v15), .val (.int v17), .val (.int v18), .val (.ref b19), .val (.ref b38), .val (.ref b59), .val v87, .val (.ref b88), .val vl145, .val vp145, .val (.int be145), .val bv145, .unset] [(.int v11)])) target := by
    by_cases hb180 : v11 = (0 : Int32)
    · refine ⟨T145, _, _, fL145, fP145, vl145, vp145, be145, bv145, X145, N145, e145, K145, LE145, Ea145, Eb145, Ec145, Eo145, F1145, F2145, F3145, F4145, A1145, A2145, O1145, O2145, VL145, VP145, ql145, qp145, vb145, fun target kt => ?_⟩
      show Steps p.tables e below (T145.setTop (mkF m 304 #[.val (.int p0), .val (.int p1), .val (.int p2), .val (.int p3), .val (.int p4), .val (.int p5), .val (.int v1), .val (.int v2), .val (.int v3), .val (.int v4), .val (.int v5), .val (.int v7), .val (.int v9), .val (.int v11), .val (.int v13), .val (.int v15), .val (.int v17), .val (.int v18), .val (.ref b19), .val (.ref b38), .val (.ref b59), .val v87, .val (.ref b88), .val vl145, .val vp145, .val (.int be145), .val bv145, .unset] [(.int v11)])) _
      refine XS.ifYes X145.here hx rfl (pc0 := 304) (pc' := 324) rfl (hb hby at_304) rfl ((if0 _ _).trans (teq hb180).1) (by decide) (by decide) ?_
      exact kt
    · have hp181 : v87.isRef = true := (own_v3r VC)
      obtain ⟨cq182, kq182, q182a, q182b, q182c⟩ := isOf hZ79 e145 Eo145
      obtain ⟨_, _, ⟨T182, L182, k182, n182⟩, -, X182, ⟨Lc182, hQ182, l182, y182, z182⟩, st182⟩ := X145.virtualBack hx (y := (⟨"com/example/uneven_ticks/uneventicks/check/Occurrences", "bind", "(ILcom/example/uneven_ticks/uneventicks/check/TraceEvent;)V"⟩ : MethodName)) (z := (⟨"com/example/uneven_ticks/uneventicks/check/Occurrences", "bind", "(ILcom/example/uneven_ticks/uneventicks/check/TraceEvent;)V"⟩ : MethodName)) hown79 (mvT hZ79 (hw _ (List.mem_of_getElem? (i := 143) rfl))) (mvT hZ79 (hw _ (List.mem_of_getElem? (i := 144) rfl))) (notFace_of_selects (args := #[]) (mvT hZ79 (hw _ (List.mem_of_getElem? (i := 146) rfl)))) (mvT hZ79 (hw _ (List.mem_of_getElem? (i := 146) rfl))) (mvT hZ79 (hw _ (List.mem_of_getElem? (i := 145) rfl))) (by decide) (backOf (W := 0) (rm21 l Z A0 hw [] b88 v4 v87 be145 (.ref b92_b3) (.ref b92_b8) bv145 h145 n0 (Nat.le_trans Z0 K145.1) Eo145 F3145 F1145 F2145 F4145 nw_b88 hp181) hZ79 (hw _ (List.mem_of_getElem? (i := 147) rfl)) (hw _ (List.mem_of_getElem? (i := 119) rfl)) (by decide) (by decide)) q182a q182c (g := (mkF m 313 #[.val (.int p0), .val (.int p1), .val (.int p2), .val (.int p3), .val (.int p4), .val (.int p5), .val (.int v1), .val (.int v2), .val (.int v3), .val (.int v4), .val (.int v5), .val (.int v7), .val (.int v9), .val (.int v11), .val (.int v13), .val (.int v15), .val (.int v17), .val (.int v18), .val (.ref b19), .val (.ref b38), .val (.ref b59), .val v87, .val (.ref b88), .val vl145, .val vp145, .val (.int be145), .val bv145, .unset] [v87, (.int v4), (.ref b88)])) rfl (by rw [hml]; rfl) (Steps.refl _) (argsL := [(.int v4), v87]) (rest := []) (lenOf pd_17 rfl) rfl (by show 2 * 0 + _ ≤ _; exact Nat.le_of_eq rfl) (hb hby at_313) (fun _ _ => ⟨rfl, e145, (by decide : 27 + 0 ≤ _), (by decide : 124 + 0 ≤ _)⟩)
      dsimp only [Pt.U, Pt.locs, Pt.cells, Pt.slots] at X182 l182 y182 z182 st182 hQ182
      subst l182 y182 z182
      obtain ⟨rfl, N182q, Kc182, P183, P184, P185, P186, P187⟩ := hQ182
      have K182 : Keep h0 T182.heap [] := K145.trans Kc182 (allS (Or.inr sz_b88) all0)
      have N182 := Fr.app N145 N182q
      have G188 : Exa Z T182.heap b19 "com/example/uneven_ticks/uneventicks/check/TraceEvent" := (Ea145.keep Kc182)
      have G189 : Exa Z T182.heap b38 "com/example/uneven_ticks/uneventicks/check/TraceEvent" := (Eb145.keep Kc182)
      have G190 : Exa Z T182.heap b59 "com/example/uneven_ticks/uneventicks/check/TraceEvent" := (Ec145.keep Kc182)
      have G191 : AF Z T182.heap b92_b3 (.object "com/example/uneven_ticks/uneventicks/check/TraceEvent") 3 fL145 := (A1145.keep Kc182 (ninS (Ne.symm ne_b88_b92_b3) nin0))
      have G192 : AF Z T182.heap b92_b8 (.object "com/example/uneven_ticks/uneventicks/check/TraceEvent") 3 fP145 := (A2145.keep Kc182 (ninS (Ne.symm ne_b88_b92_b8) nin0))
      have G193 : OV Z T182.heap b92_b3 "com/example/uneven_ticks/uneventicks/check/TraceEvent" := (O1145.keep Kc182)
      have G194 : OV Z T182.heap b92_b8 "com/example/uneven_ticks/uneventicks/check/TraceEvent" := (O2145.keep Kc182)
      have G195 : T79.heap.size ≤ T182.heap.size := (Nat.le_trans LE145 Kc182.1)
      refine ⟨T182, _, _, fL145, fP145, vl145, vp145, v4, v87, X182, N182, rfl, K182, G195, G188, G189, G190, P183, P185, P186, P184, P187, G191, G192, G193, G194, VL145, VP145, ql145, qp145, VC, fun target kt => ?_⟩
      show Steps p.tables e below (T145.setTop (mkF m 304 #[.val (.int p0), .val (.int p1), .val (.int p2), .val (.int p3), .val (.int p4), .val (.int p5), .val (.int v1), .val (.int v2), .val (.int v3), .val (.int v4), .val (.int v5), .val (.int v7), .val (.int v9), .val (.int v11), .val (.int v13), .val (.int v15), .val (.int v17), .val (.int v18), .val (.ref b19), .val (.ref b38), .val (.ref b59), .val v87, .val (.ref b88), .val vl145, .val vp145, .val (.int be145), .val bv145, .unset] [(.int v11)])) _
      refine XS.ifNo X145.here hx rfl (hb hby at_304) rfl ((if0 _ _).trans (feq hb180).1) ?_
      show Steps p.tables e below (T145.setTop (mkF m 307 #[.val (.int p0), .val (.int p1), .val (.int p2), .val (.int p3), .val (.int p4), .val (.int p5), .val (.int v1), .val (.int v2), .val (.int v3), .val (.int v4), .val (.int v5), .val (.int v7), .val (.int v9), .val (.int v11), .val (.int v13), .val (.int v15), .val (.int v17), .val (.int v18), .val (.ref b19), .val (.ref b38), .val (.ref b59), .val v87, .val (.ref b88), .val vl145, .val vp145, .val (.int be145), .val bv145, .unset] [])) _
      refine XS.aload X145.here hx rfl (hb hby at_307) rfl rfl ?_
      show Steps p.tables e below (T145.setTop (mkF m 309 #[.val (.int p0), .val (.int p1), .val (.int p2), .val (.int p3), .val (.int p4), .val (.int p5), .val (.int v1), .val (.int v2), .val (.int v3), .val (.int v4), .val (.int v5), .val (.int v7), .val (.int v9), .val (.int v11), .val (.int v13), .val (.int v15), .val (.int v17), .val (.int v18), .val (.ref b19), .val (.ref b38), .val (.ref b59), .val v87, .val (.ref b88), .val vl145, .val vp145, .val (.int be145), .val bv145, .unset] [(.ref b88)])) _
      refine XS.iload X145.here hx rfl (hb hby at_309) rfl ?_
      show Steps p.tables e below (T145.setTop (mkF m 311 #[.val (.int p0), .val (.int p1), .val (.int p2), .val (.int p3), .val (.int p4), .val (.int p5), .val (.int v1), .val (.int v2), .val (.int v3), .val (.int v4), .val (.int v5), .val (.int v7), .val (.int v9), .val (.int v11), .val (.int v13), .val (.int v15), .val (.int v17), .val (.int v18), .val (.ref b19), .val (.ref b38), .val (.ref b59), .val v87, .val (.ref b88), .val vl145, .val vp145, .val (.int be145), .val bv145, .unset] [(.int v4), (.ref b88)])) _
      refine XS.aload X145.here hx rfl (hb hby at_311) rfl rv87 ?_
      show Steps p.tables e below (T145.setTop (mkF m 313 #[.val (.int p0), .val (.int p1), .val (.int p2), .val (.int p3), .val (.int p4), .val (.int p5), .val (.int v1), .val (.int v2), .val (.int v3), .val (.int v4), .val (.int v5), .val (.int v7), .val (.int v9), .val (.int v11), .val (.int v13), .val (.int v15), .val (.int v17), .val (.int v18), .val (.ref b19), .val (.ref b38), .val (.ref b59), .val v87, .val (.ref b88), .val vl145, .val vp145, .val (.int be145), .val bv145, .unset] [v87, (.int v4), (.ref b88)])) _
      refine st182.trans ?_
      show Steps p.tables e below (T182.setTop (mkF m 316 #[.val (.int p0), .val (.int p1), .val (.int p2), .val (.int p3), .val (.int p4), .val (.int p5), .val (.int v1), .val (.int v2), .val (.int v3), .val (.int v4), .val (.int v5), .val (.int v7), .val (.int v9), .val (.int v11), .val (.int v13), .val (.int v15), .val (.int v17), .val (.int v18), .val (.ref b19), .val (.ref b38), .val (.ref b59), .val v87, .val (.ref b88), .val vl145, .val vp145, .val (.int be145), .val bv145, .unset] [])) _
      refine XS.iload X182.here hx rfl (hb hby at_316) rfl ?_
      show Steps p.tables e below (T182.setTop (mkF m 318 #[.val (.int p0), .val (.int p1), .val (.int p2), .val (.int p3), .val (.int p4), .val (.int p5), .val (.int v1), .val (.int v2), .val (.int v3), .val (.int v4), .val (.int v5), .val (.int v7), .val (.int v9), .val (.int v11), .val (.int v13), .val (.int v15), .val (.int v17), .val (.int v18), .val (.ref b19), .val (.ref b38), .val (.ref b59), .val v87, .val (.ref b88), .val vl145, .val vp145, .val (.int be145), .val bv145, .unset] [(.int v4)])) _
      refine XS.istore X182.here hx rfl (hb hby at_318) rfl (l' := #[.val (.int p0), .val (.int p1), .val (.int p2), .val (.int p3), .val (.int p4), .val (.int p5), .val (.int v1), .val (.int v2), .val (.int v3), .val (.int v4), .val (.int v5), .val (.int v7), .val (.int v9), .val (.int v11), .val (.int v13), .val (.int v15), .val (.int v17), .val (.int v18), .val (.ref b19), .val (.ref b38), .val (.ref b59), .val v87, .val (.ref b88), .val vl145, .val vp145, .val (.int v4), .val bv145, .unset]) rfl ?_
      show Steps p.tables e below (T182.setTop (mkF m 320 #[.val (.int p0), .val (.int p1), .val (.int p2), .val (.int p3), .val (.int p4), .val (.int p5), .val (.int v1), .val (.int v2), .val (.int v3), .val (.int v4), .val (.int v5), .val (.int v7), .val (.int v9), .val (.int v11), .val (.int v13), .val (.int v15), .val (.int v17), .val (.int v18), .val (.ref b19), .val (.ref b38), .val (.ref b59), .val v87, .val (.ref b88), .val vl145, .val vp145, .val (.int v4), .val bv145, .unset] [])) _
      refine XS.aload X182.here hx rfl (hb hby at_320) rfl rv87 ?_
      show Steps p.tables e below (T182.setTop (mkF m 322 #[.val (.int p0), .val (.int p1), .val (.int p2), .val (.int p3), .val (.int p4), .val (.int p5), .val (.int v1), .val (.int v2), .val (.int v3), .val (.int v4), .val (.int v5), .val (.int v7), .val (.int v9), .val (.int v11), .val (.int v13), .val (.int v15), .val (.int v17), .val (.int v18), .val (.ref b19), .val (.ref b38), .val (.ref b59), .val v87, .val (.ref b88), .val vl145, .val vp145, .val (.int v4), .val bv145, .unset] [v87])) _
      refine XS.astoreS X182.here hx rfl (hb hby at_322) rfl rv87 (own_cat rv87) rfl (One.val (own_cat rb145)) ?_
      exact kt
  have rl178 : vl178.isRef = true := by rw [ql178]; exact own_v3r (VL178 _)
  have rp178 : vp178.isRef = true := by rw [qp178]; exact own_v3r (VP178 _)
  have rb178 : bv178.isRef = true := own_v3r vb178
  have ck197 : ∀ t, Steps p.tables e below (T178.setTop (mkF m 326 #[.val (.int p0), .val (.int p1), .val (.int p2), .val (.int p3), .val (.int p4), .val (.int p5), .val (.int v1), .val (.int v2), .val (.int v3), .val (.int v4), .val (.int v5), .val (.int v7), .val (.int v9), .val (.int v11), .val (.int v13), .val (.int v15), .val (.int v17), .val (.int v18), .val (.ref b19), .val (.ref b38), .val (.ref b59), .val v87, .val (.ref b88), .val vl178, .val vp178, .val (.int be178), .val bv178, .unset] [(.int v13)])) t → Steps p.tables e below (T145.setTop (mkF m 304 #[.val (.int p0), .val (.int p1), .val (.int p2), .val (.int p3), .val (.int p4), .val (.int p5), .val (.int v1), .val (.int v2), .val (.int v3), .val (.int v4), .val (.int v5), .val (.int v7), .val (.int v9), .val (.int v11), .val (.int v13), .val (.int v15), .val (.int v17), .val (.int v18), .val (.ref b19), .val (.ref b38), .val (.ref b59), .val v87, .val (.ref b88), .val vl145, .val vp145, .val (.int be145), .val bv145, .unset] [(.int v11)])) t := by
    intro t kt
    show Steps p.tables e below (T145.setTop (mkF m 304 #[.val (.int p0), .val (.int p1), .val (.int p2), .val (.int p3), .val (.int p4), .val (.int p5), .val (.int v1), .val (.int v2), .val (.int v3), .val (.int v4), .val (.int v5), .val (.int v7), .val (.int v9), .val (.int v11), .val (.int v13), .val (.int v15), .val (.int v17), .val (.int v18), .val (.ref b19), .val (.ref b38), .val (.ref b59), .val v87, .val (.ref b88), .val vl145, .val vp145, .val (.int be145), .val bv145, .unset] [(.int v11)])) _
    refine st178 _ ?_
    show Steps p.tables e below (T178.setTop (mkF m 324 #[.val (.int p0), .val (.int p1), .val (.int p2), .val (.int p3), .val (.int p4), .val (.int p5), .val (.int v1), .val (.int v2), .val (.int v3), .val (.int v4), .val (.int v5), .val (.int v7), .val (.int v9), .val (.int v11), .val (.int v13), .val (.int v15), .val (.int v17), .val (.int v18), .val (.ref b19), .val (.ref b38), .val (.ref b59), .val v87, .val (.ref b88), .val vl178, .val vp178, .val (.int be178), .val bv178, .unset] [])) _
    refine XS.iload X178.here hx rfl (hb hby at_324) rfl ?_
    exact kt
  obtain ⟨T196, h196, L196, fL196, fP196, vl196, vp196, be196, bv196, X196, N196, e196, K196, LE196, Ea196, Eb196, Ec196, Eo196, F1196, F2196, F3196, F4196, A1196, A2196, O1196, O2196, VL196, VP196, ql196, qp196, vb196, st196⟩ : ∃ (T' : State) (h' : Heap) (L' : List Loc) (fL' fP' : Nat → Value) (vl' vp' : Value) (be' : Int32) (bv' : Value), Stand p l e room_1 (s.setVm T79.vm) m #[(.int p0), (.int p1), (.int p2), (.int p3), (.int p4), (.int p5)] below meth c T' L' 27 124 ∧ Fr n0 L' ∧ T'.heap = h' ∧ Keep h0 h' [] ∧ T79.heap.size ≤ h'.size ∧ Exa Z h' b19 "com/example/uneven_ticks/uneventicks/check/TraceEvent" ∧ Exa Z h' b38 "com/example/uneven_ticks/uneventicks/check/TraceEvent" ∧ Exa Z h' b59 "com/example/uneven_ticks/uneventicks/check/TraceEvent" ∧ Exa Z h' b88 "com/example/uneven_ticks/uneventicks/check/Occurrences" ∧ Fld Z h' b88 "com/example/uneven_ticks/uneventicks/check/Occurrences" "latest" "[Lcom/example/uneven_ticks/uneventicks/check/TraceEvent;" (.ref b92_b3) ∧ Fld Z h' b88 "com/example/uneven_ticks/uneventicks/check/Occurrences" "previous" "[Lcom/example/uneven_ticks/uneventicks/check/TraceEvent;" (.ref b92_b8) ∧ Fld Z h' b88 "com/example/uneven_ticks/uneventicks/check/Occurrences" "boundEvent" "I" (.int be') ∧ Fld Z h' b88 "com/example/uneven_ticks/uneventicks/check/Occurrences" "bound" "Lcom/example/uneven_ticks/uneventicks/check/TraceEvent;" bv' ∧ AF Z h' b92_b3 (.object "com/example/uneven_ticks/uneventicks/check/TraceEvent") 3 fL' ∧ AF Z h' b92_b8 (.object "com/example/uneven_ticks/uneventicks/check/TraceEvent") 3 fP' ∧ OV Z h' b92_b3 "com/example/uneven_ticks/uneventicks/check/TraceEvent" ∧ OV Z h' b92_b8 "com/example/uneven_ticks/uneventicks/check/TraceEvent" ∧ (∀ j, own_V3 b19 b38 b59 (fL' j)) ∧ (∀ j, own_V3 b19 b38 b59 (fP' j)) ∧ vl' = fL' (v5).toNatClampNeg ∧ vp' = fP' (v5).toNatClampNeg ∧ own_V3 b19 b38 b59 bv' ∧ ∀ target, Steps p.tables e below (T'.setTop (mkF m 353 #[.val (.int p0), .val (.int p1), .val (.int p2), .val (.int p3), .val (.int p4), .val (.int p5), .val (.int v1), .val (.int v2), .val (.int v3), .val (.int v4), .val (.int v5), .val (.int v7), .val (.int v9), .val (.int v11), .val (.int v13), .val (.int v15), .val (.int v17), .val (.int v18), .val (.ref b19), .val (.ref b38), .val (.ref b59), .val v87, .val (.ref b88), .val vl', .val vp', .val (.int be'), .val bv', .unset] [])) target → Steps p.tables e below (T178.setTop (mkF m 326 #[.val (.int p0), .val (.int p1), .val (.int p2), .val (.int p3), .val (.int p4), .val (.int p5), .val (.int v1), .val (.int v2), .val (.int v3), .val (.int v4), .val (.int v5), .val (.int v7), .val (.int v9), .val (.int v11), .val (.int v13), .val (.int v15), .val (.int v17), .val (.int v18), .val (.ref b19), .val (.ref b38), .val (.ref b59), .val v87, .val (.ref b88), .val vl178, .val vp178, .val (.int be178), .val bv178, .unset] [(.int v13)])) target := by
    by_cases hb198 : v13 = (0 : Int32)
    · refine ⟨T178, _, _, fL178, fP178, vl178, vp178, be178, bv178, X178, N178, e178, K178, LE178, Ea178, Eb178, Ec178, Eo178, F1178, F2178, F3178, F4178, A1178, A2178, O1178, O2178, VL178, VP178, ql178, qp178, vb178, fun target kt => ?_⟩
      show Steps p.tables e below (T178.setTop (mkF m 326 #[.val (.int p0), .val (.int p1), .val (.int p2), .val (.int p3), .val (.int p4), .val (.int p5), .val (.int v1), .val (.int v2), .val (.int v3), .val (.int v4), .val (.int v5), .val (.int v7), .val (.int v9), .val (.int v11), .val (.int v13), .val (.int v15), .val (.int v17), .val (.int v18), .val (.ref b19), .val (.ref b38), .val (.ref b59), .val v87, .val (.ref b88), .val vl178, .val vp178, .val (.int be178), .val bv178, .unset] [(.int v13)])) _
      refine XS.ifYes X178.here hx rfl (pc0 := 326) (pc' := 353) rfl (hb hby at_326) rfl ((if0 _ _).trans (teq hb198).1) (by decide) (by decide) ?_
      exact kt
    · have hp199 : ∀ j : Nat, own_V3 b19 b38 b59 (fL178 j) := VL178
      have hp200 : own_in v3 3 := M8.2.2
      have hp201 : own_in v3 3 := M8.2.2
      have hp202 : own_in v3 3 := M8.2.2
      obtain ⟨cq203, kq203, q203a, q203b, q203c⟩ := isOf hZ79 e178 Eo178
      obtain ⟨_, _, ⟨T203, L203, k203, n203⟩, -, X203, ⟨Lc203, hQ203, l203, y203, z203⟩, st203⟩ := X178.virtualBack hx (y := (⟨"com/example/uneven_ticks/uneventicks/check/Occurrences", "occur", "(ILcom/example/uneven_ticks/uneventicks/check/TraceEvent;)V"⟩ : MethodName)) (z := (⟨"com/example/uneven_ticks/uneventicks/check/Occurrences", "occur", "(ILcom/example/uneven_ticks/uneventicks/check/TraceEvent;)V"⟩ : MethodName)) hown79 (mvT hZ79 (hw _ (List.mem_of_getElem? (i := 132) rfl))) (mvT hZ79 (hw _ (List.mem_of_getElem? (i := 133) rfl))) (notFace_of_selects (args := #[]) (mvT hZ79 (hw _ (List.mem_of_getElem? (i := 135) rfl)))) (mvT hZ79 (hw _ (List.mem_of_getElem? (i := 135) rfl))) (mvT hZ79 (hw _ (List.mem_of_getElem? (i := 134) rfl))) (by decide) (backOf (W := 0) (rm19 l Z A0 hw [] b88 v3 b59 be178 b92_b3 b92_b8 bv178 b19 b38 b59 fL178 fP178 h178 n0 (Nat.le_trans Z0 K178.1) Eo178 F3178 F1178 F2178 F4178 Ea178 Eb178 Ec178 A1178 A2178 O2178 nw_b92_b8 ne_b88_b92_b8 ne_b92_b3_b92_b8 O1178 Ec178 nw_b92_b3 hp199 hp200 hp201 hp202) hZ79 (hw _ (List.mem_of_getElem? (i := 136) rfl)) (hw _ (List.mem_of_getElem? (i := 119) rfl)) (by decide) (by decide)) q203a q203c (g := (mkF m 335 #[.val (.int p0), .val (.int p1), .val (.int p2), .val (.int p3), .val (.int p4), .val (.int p5), .val (.int v1), .val (.int v2), .val (.int v3), .val (.int v4), .val (.int v5), .val (.int v7), .val (.int v9), .val (.int v11), .val (.int v13), .val (.int v15), .val (.int v17), .val (.int v18), .val (.ref b19), .val (.ref b38), .val (.ref b59), .val v87, .val (.ref b88), .val vl178, .val vp178, .val (.int be178), .val bv178, .unset] [(.ref b59), (.int v3), (.ref b88)])) rfl (by rw [hml]; rfl) (Steps.refl _) (argsL := [(.int v3), (.ref b59)]) (rest := []) (lenOf pd_17 rfl) rfl (by show 2 * 0 + _ ≤ _; exact Nat.le_of_eq rfl) (hb hby at_335) (fun _ _ => ⟨rfl, e178, (by decide : 27 + 0 ≤ _), (by decide : 124 + 0 ≤ _)⟩)
      dsimp only [Pt.U, Pt.locs, Pt.cells, Pt.slots] at X203 l203 y203 z203 st203 hQ203
      subst l203 y203 z203
      obtain ⟨rfl, N203q, Kc203, P204, P205, P206, P207⟩ := hQ203
      have K203 : Keep h0 T203.heap [] := K178.trans Kc203 (allS (Or.inr sq_b92_b8) (allS (Or.inr sq_b92_b3) all0))
      have N203 := Fr.app N178 N203q
      have ck208 : ∀ t, Steps p.tables e below (T203.setTop (mkF m 342 #[.val (.int p0), .val (.int p1), .val (.int p2), .val (.int p3), .val (.int p4), .val (.int p5), .val (.int v1), .val (.int v2), .val (.int v3), .val (.int v4), .val (.int v5), .val (.int v7), .val (.int v9), .val (.int v11), .val (.int v13), .val (.int v15), .val (.int v17), .val (.int v18), .val (.ref b19), .val (.ref b38), .val (.ref b59), .val v87, .val (.ref b88), .val vl178, .val vp178, .val (.int be178), .val bv178, .unset] [(.int v5), (.int v3)])) t → Steps p.tables e below (T178.setTop (mkF m 326 #[.val (.int p0), .val (.int p1), .val (.int p2), .val (.int p3), .val (.int p4), .val (.int p5), .val (.int v1), .val (.int v2), .val (.int v3), .val (.int v4), .val (.int v5), .val (.int v7), .val (.int v9), .val (.int v11), .val (.int v13), .val (.int v15), .val (.int v17), .val (.int v18), .val (.ref b19), .val (.ref b38), .val (.ref b59), .val v87, .val (.ref b88), .val vl178, .val vp178, .val (.int be178), .val bv178, .unset] [(.int v13)])) t := by
        intro t kt
        show Steps p.tables e below (T178.setTop (mkF m 326 #[.val (.int p0), .val (.int p1), .val (.int p2), .val (.int p3), .val (.int p4), .val (.int p5), .val (.int v1), .val (.int v2), .val (.int v3), .val (.int v4), .val (.int v5), .val (.int v7), .val (.int v9), .val (.int v11), .val (.int v13), .val (.int v15), .val (.int v17), .val (.int v18), .val (.ref b19), .val (.ref b38), .val (.ref b59), .val v87, .val (.ref b88), .val vl178, .val vp178, .val (.int be178), .val bv178, .unset] [(.int v13)])) _
        refine XS.ifNo X178.here hx rfl (hb hby at_326) rfl ((if0 _ _).trans (feq hb198).1) ?_
        show Steps p.tables e below (T178.setTop (mkF m 329 #[.val (.int p0), .val (.int p1), .val (.int p2), .val (.int p3), .val (.int p4), .val (.int p5), .val (.int v1), .val (.int v2), .val (.int v3), .val (.int v4), .val (.int v5), .val (.int v7), .val (.int v9), .val (.int v11), .val (.int v13), .val (.int v15), .val (.int v17), .val (.int v18), .val (.ref b19), .val (.ref b38), .val (.ref b59), .val v87, .val (.ref b88), .val vl178, .val vp178, .val (.int be178), .val bv178, .unset] [])) _
        refine XS.aload X178.here hx rfl (hb hby at_329) rfl rfl ?_
        show Steps p.tables e below (T178.setTop (mkF m 331 #[.val (.int p0), .val (.int p1), .val (.int p2), .val (.int p3), .val (.int p4), .val (.int p5), .val (.int v1), .val (.int v2), .val (.int v3), .val (.int v4), .val (.int v5), .val (.int v7), .val (.int v9), .val (.int v11), .val (.int v13), .val (.int v15), .val (.int v17), .val (.int v18), .val (.ref b19), .val (.ref b38), .val (.ref b59), .val v87, .val (.ref b88), .val vl178, .val vp178, .val (.int be178), .val bv178, .unset] [(.ref b88)])) _
        refine XS.iload X178.here hx rfl (hb hby at_331) rfl ?_
        show Steps p.tables e below (T178.setTop (mkF m 333 #[.val (.int p0), .val (.int p1), .val (.int p2), .val (.int p3), .val (.int p4), .val (.int p5), .val (.int v1), .val (.int v2), .val (.int v3), .val (.int v4), .val (.int v5), .val (.int v7), .val (.int v9), .val (.int v11), .val (.int v13), .val (.int v15), .val (.int v17), .val (.int v18), .val (.ref b19), .val (.ref b38), .val (.ref b59), .val v87, .val (.ref b88), .val vl178, .val vp178, .val (.int be178), .val bv178, .unset] [(.int v3), (.ref b88)])) _
        refine XS.aload X178.here hx rfl (hb hby at_333) rfl rfl ?_
        show Steps p.tables e below (T178.setTop (mkF m 335 #[.val (.int p0), .val (.int p1), .val (.int p2), .val (.int p3), .val (.int p4), .val (.int p5), .val (.int v1), .val (.int v2), .val (.int v3), .val (.int v4), .val (.int v5), .val (.int v7), .val (.int v9), .val (.int v11), .val (.int v13), .val (.int v15), .val (.int v17), .val (.int v18), .val (.ref b19), .val (.ref b38), .val (.ref b59), .val v87, .val (.ref b88), .val vl178, .val vp178, .val (.int be178), .val bv178, .unset] [(.ref b59), (.int v3), (.ref b88)])) _
        refine st203.trans ?_
        show Steps p.tables e below (T203.setTop (mkF m 338 #[.val (.int p0), .val (.int p1), .val (.int p2), .val (.int p3), .val (.int p4), .val (.int p5), .val (.int v1), .val (.int v2), .val (.int v3), .val (.int v4), .val (.int v5), .val (.int v7), .val (.int v9), .val (.int v11), .val (.int v13), .val (.int v15), .val (.int v17), .val (.int v18), .val (.ref b19), .val (.ref b38), .val (.ref b59), .val v87, .val (.ref b88), .val vl178, .val vp178, .val (.int be178), .val bv178, .unset] [])) _
        refine XS.iload X203.here hx rfl (hb hby at_338) rfl ?_
        show Steps p.tables e below (T203.setTop (mkF m 340 #[.val (.int p0), .val (.int p1), .val (.int p2), .val (.int p3), .val (.int p4), .val (.int p5), .val (.int v1), .val (.int v2), .val (.int v3), .val (.int v4), .val (.int v5), .val (.int v7), .val (.int v9), .val (.int v11), .val (.int v13), .val (.int v15), .val (.int v17), .val (.int v18), .val (.ref b19), .val (.ref b38), .val (.ref b59), .val v87, .val (.ref b88), .val vl178, .val vp178, .val (.int be178), .val bv178, .unset] [(.int v3)])) _
        refine XS.iload X203.here hx rfl (hb hby at_340) rfl ?_
        exact kt
      by_cases hs3 : v3 = v5
      · have G209 : Exa Z T203.heap b19 "com/example/uneven_ticks/uneventicks/check/TraceEvent" := (Ea178.keep Kc203)
        have G210 : Exa Z T203.heap b38 "com/example/uneven_ticks/uneventicks/check/TraceEvent" := (Eb178.keep Kc203)
        have G211 : Exa Z T203.heap b59 "com/example/uneven_ticks/uneventicks/check/TraceEvent" := (Ec178.keep Kc203)
        have G212 : Exa Z T203.heap b88 "com/example/uneven_ticks/uneventicks/check/Occurrences" := (Eo178.keep Kc203)
        have G213 : Fld Z T203.heap b88 "com/example/uneven_ticks/uneventicks/check/Occurrences" "latest" "[Lcom/example/uneven_ticks/uneventicks/check/TraceEvent;" (.ref b92_b3) := (F1178.keep Kc203 (ninS ne_b88_b92_b8 (ninS ne_b88_b92_b3 nin0)))
        have G214 : Fld Z T203.heap b88 "com/example/uneven_ticks/uneventicks/check/Occurrences" "previous" "[Lcom/example/uneven_ticks/uneventicks/check/TraceEvent;" (.ref b92_b8) := (F2178.keep Kc203 (ninS ne_b88_b92_b8 (ninS ne_b88_b92_b3 nin0)))
        have G215 : Fld Z T203.heap b88 "com/example/uneven_ticks/uneventicks/check/Occurrences" "boundEvent" "I" (.int be178) := (F3178.keep Kc203 (ninS ne_b88_b92_b8 (ninS ne_b88_b92_b3 nin0)))
        have G216 : Fld Z T203.heap b88 "com/example/uneven_ticks/uneventicks/check/Occurrences" "bound" "Lcom/example/uneven_ticks/uneventicks/check/TraceEvent;" bv178 := (F4178.keep Kc203 (ninS ne_b88_b92_b8 (ninS ne_b88_b92_b3 nin0)))
        have G217 : T79.heap.size ≤ T203.heap.size := (Nat.le_trans LE178 Kc203.1)
        have U1218 : ∀ j : Nat, own_V3 b19 b38 b59 (((fun i => if i = (v3).toNatClampNeg then (.ref b59) else fL178 i) : Nat → Value) j) := by first | exact own_V3set (f := fL178) VL178 (own_V33 b19 b38 b59) _ | (intro j; dsimp only; split <;> first | exact own_V33 b19 b38 b59 | exact VL178 j)
        have U2218 : ∀ j : Nat, own_V3 b19 b38 b59 (((fun i => if i = (v3).toNatClampNeg then (fL178 (v3).toNatClampNeg) else fP178 i) : Nat → Value) j) := by first | exact own_V3set (f := fP178) VP178 (VL178 (v3).toNatClampNeg) _ | (intro j; dsimp only; split <;> first | exact VL178 (v3).toNatClampNeg | exact VP178 j)
        have U3218 : ((.ref b59) : Value) = ((fun i => if i = (v3).toNatClampNeg then (.ref b59) else fL178 i) : Nat → Value) (v5).toNatClampNeg := by first | exact own_ae (f := fL178) hs3 | exact (if_pos (by rw [hs3])).symm | simp [hs3]
        have U4218 : (vl178 : Value) = ((fun i => if i = (v3).toNatClampNeg then (fL178 (v3).toNatClampNeg) else fP178 i) : Nat → Value) (v5).toNatClampNeg := by first | exact own_ae2 (f := fL178) (g := fP178) hs3 ql178 | exact ql178.trans ((if_pos (by rw [hs3])).trans (by rw [hs3])).symm | simp [hs3, ql178]
        refine ⟨T203, _, _, (fun i => if i = (v3).toNatClampNeg then (.ref b59) else fL178 i), (fun i => if i = (v3).toNatClampNeg then (fL178 (v3).toNatClampNeg) else fP178 i), (.ref b59), vl178, be178, bv178, X203, N203, rfl, K203, G217, G209, G210, G211, G212, G213, G214, G215, G216, P204, P205, P207, P206, U1218, U2218, U3218, U4218, vb178, fun target kt => ?_⟩
        refine ck208 _ ?_
        show Steps p.tables e below (T203.setTop (mkF m 342 #[.val (.int p0), .val (.int p1), .val (.int p2), .val (.int p3), .val (.int p4), .val (.int p5), .val (.int v1), .val (.int v2), .val (.int v3), .val (.int v4), .val (.int v5), .val (.int v7), .val (.int v9), .val (.int v11), .val (.int v13), .val (.int v15), .val (.int v17), .val (.int v18), .val (.ref b19), .val (.ref b38), .val (.ref b59), .val v87, .val (.ref b88), .val vl178, .val vp178, .val (.int be178), .val bv178, .unset] [(.int v5), (.int v3)])) _
        refine XS.icmpNo X203.here hx rfl (hb hby at_342) rfl (teq hs3).2 ?_
        show Steps p.tables e below (T203.setTop (mkF m 345 #[.val (.int p0), .val (.int p1), .val (.int p2), .val (.int p3), .val (.int p4), .val (.int p5), .val (.int v1), .val (.int v2), .val (.int v3), .val (.int v4), .val (.int v5), .val (.int v7), .val (.int v9), .val (.int v11), .val (.int v13), .val (.int v15), .val (.int v17), .val (.int v18), .val (.ref b19), .val (.ref b38), .val (.ref b59), .val v87, .val (.ref b88), .val vl178, .val vp178, .val (.int be178), .val bv178, .unset] [])) _
        refine XS.aload X203.here hx rfl (hb hby at_345) rfl rl178 ?_
        show Steps p.tables e below (T203.setTop (mkF m 347 #[.val (.int p0), .val (.int p1), .val (.int p2), .val (.int p3), .val (.int p4), .val (.int p5), .val (.int v1), .val (.int v2), .val (.int v3), .val (.int v4), .val (.int v5), .val (.int v7), .val (.int v9), .val (.int v11), .val (.int v13), .val (.int v15), .val (.int v17), .val (.int v18), .val (.ref b19), .val (.ref b38), .val (.ref b59), .val v87, .val (.ref b88), .val vl178, .val vp178, .val (.int be178), .val bv178, .unset] [vl178])) _
        refine XS.astoreS X203.here hx rfl (hb hby at_347) rfl rl178 (own_cat rl178) rfl (One.val (own_cat rp178)) ?_
        show Steps p.tables e below (T203.setTop (mkF m 349 #[.val (.int p0), .val (.int p1), .val (.int p2), .val (.int p3), .val (.int p4), .val (.int p5), .val (.int v1), .val (.int v2), .val (.int v3), .val (.int v4), .val (.int v5), .val (.int v7), .val (.int v9), .val (.int v11), .val (.int v13), .val (.int v15), .val (.int v17), .val (.int v18), .val (.ref b19), .val (.ref b38), .val (.ref b59), .val v87, .val (.ref b88), .val vl178, .val vl178, .val (.int be178), .val bv178, .unset] [])) _
        refine XS.aload X203.here hx rfl (hb hby at_349) rfl rfl ?_
        show Steps p.tables e below (T203.setTop (mkF m 351 #[.val (.int p0), .val (.int p1), .val (.int p2), .val (.int p3), .val (.int p4), .val (.int p5), .val (.int v1), .val (.int v2), .val (.int v3), .val (.int v4), .val (.int v5), .val (.int v7), .val (.int v9), .val (.int v11), .val (.int v13), .val (.int v15), .val (.int v17), .val (.int v18), .val (.ref b19), .val (.ref b38), .val (.ref b59), .val v87, .val (.ref b88), .val vl178, .val vl178, .val (.int be178), .val bv178, .unset] [(.ref b59)])) _
        refine XS.astoreS X203.here hx rfl (hb hby at_351) rfl rfl rfl rfl (One.val (own_cat rl178)) ?_
        exact kt
      · have G219 : Exa Z T203.heap b19 "com/example/uneven_ticks/uneventicks/check/TraceEvent" := (Ea178.keep Kc203)
        have G220 : Exa Z T203.heap b38 "com/example/uneven_ticks/uneventicks/check/TraceEvent" := (Eb178.keep Kc203)
        have G221 : Exa Z T203.heap b59 "com/example/uneven_ticks/uneventicks/check/TraceEvent" := (Ec178.keep Kc203)
        have G222 : Exa Z T203.heap b88 "com/example/uneven_ticks/uneventicks/check/Occurrences" := (Eo178.keep Kc203)
        have G223 : Fld Z T203.heap b88 "com/example/uneven_ticks/uneventicks/check/Occurrences" "latest" "[Lcom/example/uneven_ticks/uneventicks/check/TraceEvent;" (.ref b92_b3) := (F1178.keep Kc203 (ninS ne_b88_b92_b8 (ninS ne_b88_b92_b3 nin0)))
        have G224 : Fld Z T203.heap b88 "com/example/uneven_ticks/uneventicks/check/Occurrences" "previous" "[Lcom/example/uneven_ticks/uneventicks/check/TraceEvent;" (.ref b92_b8) := (F2178.keep Kc203 (ninS ne_b88_b92_b8 (ninS ne_b88_b92_b3 nin0)))
        have G225 : Fld Z T203.heap b88 "com/example/uneven_ticks/uneventicks/check/Occurrences" "boundEvent" "I" (.int be178) := (F3178.keep Kc203 (ninS ne_b88_b92_b8 (ninS ne_b88_b92_b3 nin0)))
        have G226 : Fld Z T203.heap b88 "com/example/uneven_ticks/uneventicks/check/Occurrences" "bound" "Lcom/example/uneven_ticks/uneventicks/check/TraceEvent;" bv178 := (F4178.keep Kc203 (ninS ne_b88_b92_b8 (ninS ne_b88_b92_b3 nin0)))
        have G227 : T79.heap.size ≤ T203.heap.size := (Nat.le_trans LE178 Kc203.1)
        have U1228 : ∀ j : Nat, own_V3 b19 b38 b59 (((fun i => if i = (v3).toNatClampNeg then (.ref b59) else fL178 i) : Nat → Value) j) := by first | exact own_V3set (f := fL178) VL178 (own_V33 b19 b38 b59) _ | (intro j; dsimp only; split <;> first | exact own_V33 b19 b38 b59 | exact VL178 j)
        have U2228 : ∀ j : Nat, own_V3 b19 b38 b59 (((fun i => if i = (v3).toNatClampNeg then (fL178 (v3).toNatClampNeg) else fP178 i) : Nat → Value) j) := by first | exact own_V3set (f := fP178) VP178 (VL178 (v3).toNatClampNeg) _ | (intro j; dsimp only; split <;> first | exact VL178 (v3).toNatClampNeg | exact VP178 j)
        have U3228 : (vl178 : Value) = ((fun i => if i = (v3).toNatClampNeg then (.ref b59) else fL178 i) : Nat → Value) (v5).toNatClampNeg := by first | exact own_an (f := fL178) M8.1 M10.1 hs3 ql178 | exact ql178.trans (if_neg (fun z => hs3 (own_cl M8.1 M10.1 z.symm))).symm
        have U4228 : (vp178 : Value) = ((fun i => if i = (v3).toNatClampNeg then (fL178 (v3).toNatClampNeg) else fP178 i) : Nat → Value) (v5).toNatClampNeg := by first | exact own_an (f := fP178) M8.1 M10.1 hs3 qp178 | exact qp178.trans (if_neg (fun z => hs3 (own_cl M8.1 M10.1 z.symm))).symm
        refine ⟨T203, _, _, (fun i => if i = (v3).toNatClampNeg then (.ref b59) else fL178 i), (fun i => if i = (v3).toNatClampNeg then (fL178 (v3).toNatClampNeg) else fP178 i), vl178, vp178, be178, bv178, X203, N203, rfl, K203, G227, G219, G220, G221, G222, G223, G224, G225, G226, P204, P205, P207, P206, U1228, U2228, U3228, U4228, vb178, fun target kt => ?_⟩
        refine ck208 _ ?_
        show Steps p.tables e below (T203.setTop (mkF m 342 #[.val (.int p0), .val (.int p1), .val (.int p2), .val (.int p3), .val (.int p4), .val (.int p5), .val (.int v1), .val (.int v2), .val (.int v3), .val (.int v4), .val (.int v5), .val (.int v7), .val (.int v9), .val (.int v11), .val (.int v13), .val (.int v15), .val (.int v17), .val (.int v18), .val (.ref b19), .val (.ref b38), .val (.ref b59), .val v87, .val (.ref b88), .val vl178, .val vp178, .val (.int be178), .val bv178, .unset] [(.int v5), (.int v3)])) _
        refine XS.icmpYes X203.here hx rfl (pc0 := 342) (pc' := 353) rfl (hb hby at_342) rfl (feq hs3).2 (by decide) (by decide) ?_
        exact kt
  have rl196 : vl196.isRef = true := by rw [ql196]; exact own_v3r (VL196 _)
  have rp196 : vp196.isRef = true := by rw [qp196]; exact own_v3r (VP196 _)
  have rb196 : bv196.isRef = true := own_v3r vb196
  have ck230 : ∀ t, Steps p.tables e below (T196.setTop (mkF m 355 #[.val (.int p0), .val (.int p1), .val (.int p2), .val (.int p3), .val (.int p4), .val (.int p5), .val (.int v1), .val (.int v2), .val (.int v3), .val (.int v4), .val (.int v5), .val (.int v7), .val (.int v9), .val (.int v11), .val (.int v13), .val (.int v15), .val (.int v17), .val (.int v18), .val (.ref b19), .val (.ref b38), .val (.ref b59), .val v87, .val (.ref b88), .val vl196, .val vp196, .val (.int be196), .val bv196, .unset] [(.int v15)])) t → Steps p.tables e below (T178.setTop (mkF m 326 #[.val (.int p0), .val (.int p1), .val (.int p2), .val (.int p3), .val (.int p4), .val (.int p5), .val (.int v1), .val (.int v2), .val (.int v3), .val (.int v4), .val (.int v5), .val (.int v7), .val (.int v9), .val (.int v11), .val (.int v13), .val (.int v15), .val (.int v17), .val (.int v18), .val (.ref b19), .val (.ref b38), .val (.ref b59), .val v87, .val (.ref b88), .val vl178, .val vp178, .val (.int be178), .val bv178, .unset] [(.int v13)])) t := by
    intro t kt
    show Steps p.tables e below (T178.setTop (mkF m 326 #[.val (.int p0), .val (.int p1), .val (.int p2), .val (.int p3), .val (.int p4), .val (.int p5), .val (.int v1), .val (.int v2), .val (.int v3), .val (.int v4), .val (.int v5), .val (.int v7), .val (.int v9), .val (.int v11), .val (.int v13), .val (.int v15), .val (.int v17), .val (.int v18), .val (.ref b19), .val (.ref b38), .val (.ref b59), .val v87, .val (.ref b88), .val vl178, .val vp178, .val (.int be178), .val bv178, .unset] [(.int v13)])) _
    refine st196 _ ?_
    show Steps p.tables e below (T196.setTop (mkF m 353 #[.val (.int p0), .val (.int p1), .val (.int p2), .val (.int p3), .val (.int p4), .val (.int p5), .val (.int v1), .val (.int v2), .val (.int v3), .val (.int v4), .val (.int v5), .val (.int v7), .val (.int v9), .val (.int v11), .val (.int v13), .val (.int v15), .val (.int v17), .val (.int v18), .val (.ref b19), .val (.ref b38), .val (.ref b59), .val v87, .val (.ref b88), .val vl196, .val vp196, .val (.int be196), .val bv196, .unset] [])) _
    refine XS.iload X196.here hx rfl (hb hby at_353) rfl ?_
    exact kt
  obtain ⟨T229, h229, L229, fL229, fP229, vl229, vp229, be229, bv229, X229, N229, e229, K229, LE229, Ea229, Eb229, Ec229, Eo229, F1229, F2229, F3229, F4229, A1229, A2229, O1229, O2229, VL229, VP229, ql229, qp229, vb229, st229⟩ : ∃ (T' : State) (h' : Heap) (L' : List Loc) (fL' fP' : Nat → Value) (vl' vp' : Value) (be' : Int32) (bv' : Value), Stand p l e room_1 (s.setVm T79.vm) m #[(.int p0), (.int p1), (.int p2), (.int p3), (.int p4), (.int p5)] below meth c T' L' 27 124 ∧ Fr n0 L' ∧ T'.heap = h' ∧ Keep h0 h' [] ∧ T79.heap.size ≤ h'.size ∧ Exa Z h' b19 "com/example/uneven_ticks/uneventicks/check/TraceEvent" ∧ Exa Z h' b38 "com/example/uneven_ticks/uneventicks/check/TraceEvent" ∧ Exa Z h' b59 "com/example/uneven_ticks/uneventicks/check/TraceEvent" ∧ Exa Z h' b88 "com/example/uneven_ticks/uneventicks/check/Occurrences" ∧ Fld Z h' b88 "com/example/uneven_ticks/uneventicks/check/Occurrences" "latest" "[Lcom/example/uneven_ticks/uneventicks/check/TraceEvent;" (.ref b92_b3) ∧ Fld Z h' b88 "com/example/uneven_ticks/uneventicks/check/Occurrences" "previous" "[Lcom/example/uneven_ticks/uneventicks/check/TraceEvent;" (.ref b92_b8) ∧ Fld Z h' b88 "com/example/uneven_ticks/uneventicks/check/Occurrences" "boundEvent" "I" (.int be') ∧ Fld Z h' b88 "com/example/uneven_ticks/uneventicks/check/Occurrences" "bound" "Lcom/example/uneven_ticks/uneventicks/check/TraceEvent;" bv' ∧ AF Z h' b92_b3 (.object "com/example/uneven_ticks/uneventicks/check/TraceEvent") 3 fL' ∧ AF Z h' b92_b8 (.object "com/example/uneven_ticks/uneventicks/check/TraceEvent") 3 fP' ∧ OV Z h' b92_b3 "com/example/uneven_ticks/uneventicks/check/TraceEvent" ∧ OV Z h' b92_b8 "com/example/uneven_ticks/uneventicks/check/TraceEvent" ∧ (∀ j, own_V3 b19 b38 b59 (fL' j)) ∧ (∀ j, own_V3 b19 b38 b59 (fP' j)) ∧ vl' = fL' (v5).toNatClampNeg ∧ vp' = fP' (v5).toNatClampNeg ∧ own_V3 b19 b38 b59 bv' ∧ ∀ target, Steps p.tables e below (T'.setTop (mkF m 369 #[.val (.int p0), .val (.int p1), .val (.int p2), .val (.int p3), .val (.int p4), .val (.int p5), .val (.int v1), .val (.int v2), .val (.int v3), .val (.int v4), .val (.int v5), .val (.int v7), .val (.int v9), .val (.int v11), .val (.int v13), .val (.int v15), .val (.int v17), .val (.int v18), .val (.ref b19), .val (.ref b38), .val (.ref b59), .val v87, .val (.ref b88), .val vl', .val vp', .val (.int be'), .val bv', .unset] [])) target → Steps p.tables e below (T196.setTop (mkF m 355 #[.val (.int p0), .val (.int p1), .val (.int p2), .val (.int p3), .val (.int p4), .val (.int p5), .val (.int v1), .val (.int v2), .val (.int v3), .val (.int v4), .val (.int v5), .val (.int v7), .val (.int v9), .val (.int v11), .val (.int v13), .val (.int v15), .val (.int v17), .val (.int v18), .val (.ref b19), .val (.ref b38), .val (.ref b59), .val v87, .val (.ref b88), .val vl196, .val vp196, .val (.int be196), .val bv196, .unset] [(.int v15)])) target := by
    by_cases hb231 : v15 = (0 : Int32)
    · refine ⟨T196, _, _, fL196, fP196, vl196, vp196, be196, bv196, X196, N196, e196, K196, LE196, Ea196, Eb196, Ec196, Eo196, F1196, F2196, F3196, F4196, A1196, A2196, O1196, O2196, VL196, VP196, ql196, qp196, vb196, fun target kt => ?_⟩
      show Steps p.tables e below (T196.setTop (mkF m 355 #[.val (.int p0), .val (.int p1), .val (.int p2), .val (.int p3), .val (.int p4), .val (.int p5), .val (.int v1), .val (.int v2), .val (.int v3), .val (.int v4), .val (.int v5), .val (.int v7), .val (.int v9), .val (.int v11), .val (.int v13), .val (.int v15), .val (.int v17), .val (.int v18), .val (.ref b19), .val (.ref b38), .val (.ref b59), .val v87, .val (.ref b88), .val vl196, .val vp196, .val (.int be196), .val bv196, .unset] [(.int v15)])) _
      refine XS.ifYes X196.here hx rfl (pc0 := 355) (pc' := 369) rfl (hb hby at_355) rfl ((if0 _ _).trans (teq hb231).1) (by decide) (by decide) ?_
      exact kt
    · obtain ⟨cq232, kq232, q232a, q232b, q232c⟩ := isOf hZ79 e196 Eo196
      obtain ⟨_, _, ⟨T232, L232, k232, n232⟩, -, X232, ⟨Lc232, hQ232, l232, y232, z232⟩, st232⟩ := X196.virtualBack hx (y := (⟨"com/example/uneven_ticks/uneventicks/check/Occurrences", "unbind", "()V"⟩ : MethodName)) (z := (⟨"com/example/uneven_ticks/uneventicks/check/Occurrences", "unbind", "()V"⟩ : MethodName)) hown79 (mvT hZ79 (hw _ (List.mem_of_getElem? (i := 150) rfl))) (mvT hZ79 (hw _ (List.mem_of_getElem? (i := 151) rfl))) (notFace_of_selects (args := #[]) (mvT hZ79 (hw _ (List.mem_of_getElem? (i := 153) rfl)))) (mvT hZ79 (hw _ (List.mem_of_getElem? (i := 153) rfl))) (mvT hZ79 (hw _ (List.mem_of_getElem? (i := 152) rfl))) (by decide) (backOf (W := 0) (rm22 l Z A0 hw [] b88 be196 (.ref b92_b3) (.ref b92_b8) bv196 h196 n0 (Nat.le_trans Z0 K196.1) Eo196 F3196 F1196 F2196 F4196 nw_b88) hZ79 (hw _ (List.mem_of_getElem? (i := 154) rfl)) (hw _ (List.mem_of_getElem? (i := 119) rfl)) (by decide) (by decide)) q232a q232c (g := (mkF m 360 #[.val (.int p0), .val (.int p1), .val (.int p2), .val (.int p3), .val (.int p4), .val (.int p5), .val (.int v1), .val (.int v2), .val (.int v3), .val (.int v4), .val (.int v5), .val (.int v7), .val (.int v9), .val (.int v11), .val (.int v13), .val (.int v15), .val (.int v17), .val (.int v18), .val (.ref b19), .val (.ref b38), .val (.ref b59), .val v87, .val (.ref b88), .val vl196, .val vp196, .val (.int be196), .val bv196, .unset] [(.ref b88)])) rfl (by rw [hml]; rfl) (Steps.refl _) (argsL := []) (rest := []) (lenOf pd_1 rfl) rfl (by show 2 * 0 + _ ≤ _; exact Nat.le_of_eq rfl) (hb hby at_360) (fun _ _ => ⟨rfl, e196, (by decide : 27 + 0 ≤ _), (by decide : 124 + 0 ≤ _)⟩)
      dsimp only [Pt.U, Pt.locs, Pt.cells, Pt.slots] at X232 l232 y232 z232 st232 hQ232
      subst l232 y232 z232
      obtain ⟨rfl, N232q, Kc232, P233, P234, P235, P236, P237⟩ := hQ232
      have K232 : Keep h0 T232.heap [] := K196.trans Kc232 (allS (Or.inr sz_b88) all0)
      have N232 := Fr.app N196 N232q
      have G238 : Exa Z T232.heap b19 "com/example/uneven_ticks/uneventicks/check/TraceEvent" := (Ea196.keep Kc232)
      have G239 : Exa Z T232.heap b38 "com/example/uneven_ticks/uneventicks/check/TraceEvent" := (Eb196.keep Kc232)
      have G240 : Exa Z T232.heap b59 "com/example/uneven_ticks/uneventicks/check/TraceEvent" := (Ec196.keep Kc232)
      have G241 : AF Z T232.heap b92_b3 (.object "com/example/uneven_ticks/uneventicks/check/TraceEvent") 3 fL196 := (A1196.keep Kc232 (ninS (Ne.symm ne_b88_b92_b3) nin0))
      have G242 : AF Z T232.heap b92_b8 (.object "com/example/uneven_ticks/uneventicks/check/TraceEvent") 3 fP196 := (A2196.keep Kc232 (ninS (Ne.symm ne_b88_b92_b8) nin0))
      have G243 : OV Z T232.heap b92_b3 "com/example/uneven_ticks/uneventicks/check/TraceEvent" := (O1196.keep Kc232)
      have G244 : OV Z T232.heap b92_b8 "com/example/uneven_ticks/uneventicks/check/TraceEvent" := (O2196.keep Kc232)
      have G245 : T79.heap.size ≤ T232.heap.size := (Nat.le_trans LE196 Kc232.1)
      refine ⟨T232, _, _, fL196, fP196, vl196, vp196, (-1 : Int32), .null, X232, N232, rfl, K232, G245, G238, G239, G240, P233, P235, P236, P234, P237, G241, G242, G243, G244, VL196, VP196, ql196, qp196, (own_V3n b19 b38 b59), fun target kt => ?_⟩
      show Steps p.tables e below (T196.setTop (mkF m 355 #[.val (.int p0), .val (.int p1), .val (.int p2), .val (.int p3), .val (.int p4), .val (.int p5), .val (.int v1), .val (.int v2), .val (.int v3), .val (.int v4), .val (.int v5), .val (.int v7), .val (.int v9), .val (.int v11), .val (.int v13), .val (.int v15), .val (.int v17), .val (.int v18), .val (.ref b19), .val (.ref b38), .val (.ref b59), .val v87, .val (.ref b88), .val vl196, .val vp196, .val (.int be196), .val bv196, .unset] [(.int v15)])) _
      refine XS.ifNo X196.here hx rfl (hb hby at_355) rfl ((if0 _ _).trans (feq hb231).1) ?_
      show Steps p.tables e below (T196.setTop (mkF m 358 #[.val (.int p0), .val (.int p1), .val (.int p2), .val (.int p3), .val (.int p4), .val (.int p5), .val (.int v1), .val (.int v2), .val (.int v3), .val (.int v4), .val (.int v5), .val (.int v7), .val (.int v9), .val (.int v11), .val (.int v13), .val (.int v15), .val (.int v17), .val (.int v18), .val (.ref b19), .val (.ref b38), .val (.ref b59), .val v87, .val (.ref b88), .val vl196, .val vp196, .val (.int be196), .val bv196, .unset] [])) _
      refine XS.aload X196.here hx rfl (hb hby at_358) rfl rfl ?_
      show Steps p.tables e below (T196.setTop (mkF m 360 #[.val (.int p0), .val (.int p1), .val (.int p2), .val (.int p3), .val (.int p4), .val (.int p5), .val (.int v1), .val (.int v2), .val (.int v3), .val (.int v4), .val (.int v5), .val (.int v7), .val (.int v9), .val (.int v11), .val (.int v13), .val (.int v15), .val (.int v17), .val (.int v18), .val (.ref b19), .val (.ref b38), .val (.ref b59), .val v87, .val (.ref b88), .val vl196, .val vp196, .val (.int be196), .val bv196, .unset] [(.ref b88)])) _
      refine st232.trans ?_
      show Steps p.tables e below (T232.setTop (mkF m 363 #[.val (.int p0), .val (.int p1), .val (.int p2), .val (.int p3), .val (.int p4), .val (.int p5), .val (.int v1), .val (.int v2), .val (.int v3), .val (.int v4), .val (.int v5), .val (.int v7), .val (.int v9), .val (.int v11), .val (.int v13), .val (.int v15), .val (.int v17), .val (.int v18), .val (.ref b19), .val (.ref b38), .val (.ref b59), .val v87, .val (.ref b88), .val vl196, .val vp196, .val (.int be196), .val bv196, .unset] [])) _
      refine XS.iconst X232.here hx rfl (hb hby at_363) ?_
      show Steps p.tables e below (T232.setTop (mkF m 364 #[.val (.int p0), .val (.int p1), .val (.int p2), .val (.int p3), .val (.int p4), .val (.int p5), .val (.int v1), .val (.int v2), .val (.int v3), .val (.int v4), .val (.int v5), .val (.int v7), .val (.int v9), .val (.int v11), .val (.int v13), .val (.int v15), .val (.int v17), .val (.int v18), .val (.ref b19), .val (.ref b38), .val (.ref b59), .val v87, .val (.ref b88), .val vl196, .val vp196, .val (.int be196), .val bv196, .unset] [(.int (-1 : Int32))])) _
      refine XS.istore X232.here hx rfl (hb hby at_364) rfl (l' := #[.val (.int p0), .val (.int p1), .val (.int p2), .val (.int p3), .val (.int p4), .val (.int p5), .val (.int v1), .val (.int v2), .val (.int v3), .val (.int v4), .val (.int v5), .val (.int v7), .val (.int v9), .val (.int v11), .val (.int v13), .val (.int v15), .val (.int v17), .val (.int v18), .val (.ref b19), .val (.ref b38), .val (.ref b59), .val v87, .val (.ref b88), .val vl196, .val vp196, .val (.int (-1 : Int32)), .val bv196, .unset]) rfl ?_
      show Steps p.tables e below (T232.setTop (mkF m 366 #[.val (.int p0), .val (.int p1), .val (.int p2), .val (.int p3), .val (.int p4), .val (.int p5), .val (.int v1), .val (.int v2), .val (.int v3), .val (.int v4), .val (.int v5), .val (.int v7), .val (.int v9), .val (.int v11), .val (.int v13), .val (.int v15), .val (.int v17), .val (.int v18), .val (.ref b19), .val (.ref b38), .val (.ref b59), .val v87, .val (.ref b88), .val vl196, .val vp196, .val (.int (-1 : Int32)), .val bv196, .unset] [])) _
      refine XS.aconstNull X232.here hx rfl (hb hby at_366) ?_
      show Steps p.tables e below (T232.setTop (mkF m 367 #[.val (.int p0), .val (.int p1), .val (.int p2), .val (.int p3), .val (.int p4), .val (.int p5), .val (.int v1), .val (.int v2), .val (.int v3), .val (.int v4), .val (.int v5), .val (.int v7), .val (.int v9), .val (.int v11), .val (.int v13), .val (.int v15), .val (.int v17), .val (.int v18), .val (.ref b19), .val (.ref b38), .val (.ref b59), .val v87, .val (.ref b88), .val vl196, .val vp196, .val (.int (-1 : Int32)), .val bv196, .unset] [.null])) _
      refine XS.astoreS X232.here hx rfl (hb hby at_367) rfl rfl rfl rfl (One.val (own_cat rb196)) ?_
      exact kt
  have rl229 : vl229.isRef = true := by rw [ql229]; exact own_v3r (VL229 _)
  have rp229 : vp229.isRef = true := by rw [qp229]; exact own_v3r (VP229 _)
  have rb229 : bv229.isRef = true := own_v3r vb229
  obtain ⟨v248, hv248⟩ : ∃ z : Value, z = if v5 = be229 then bv229 else vl229 := ⟨_, rfl⟩
  have rv248 : v248.isRef = true := by rw [hv248]; split <;> first | rfl | assumption
  obtain ⟨v249, hv249⟩ : ∃ z : Value, z = if v17 = (0 : Int32) then v248 else vp229 := ⟨_, rfl⟩
  have rv249 : v249.isRef = true := by rw [hv249]; split <;> first | rfl | assumption
  have hp250 : ∀ j : Nat, own_V3 b19 b38 b59 (fL229 j) := VL229
  have hp251 : ∀ j : Nat, own_V3 b19 b38 b59 (fP229 j) := VP229
  have hp252 : bv229.isRef = true := (own_v3r vb229)
  have hp253 : own_in v5 3 := M10.2.2
  have hp254 : own_in v5 3 := M10.2.2
  obtain ⟨cq255, kq255, q255a, q255b, q255c⟩ := isOf hZ79 e229 Eo229
  obtain ⟨_, _, ⟨T255, L255, k255, n255⟩, -, X255, ⟨Lc255, hQ255, l255, y255, z255⟩, st255⟩ := X229.virtualBack hx (y := (⟨"com/example/uneven_ticks/uneventicks/check/Occurrences", "get", "(IZ)Lcom/example/uneven_ticks/uneventicks/check/TraceEvent;"⟩ : MethodName)) (z := (⟨"com/example/uneven_ticks/uneventicks/check/Occurrences", "get", "(IZ)Lcom/example/uneven_ticks/uneventicks/check/TraceEvent;"⟩ : MethodName)) hown79 (mvT hZ79 (hw _ (List.mem_of_getElem? (i := 138) rfl))) (mvT hZ79 (hw _ (List.mem_of_getElem? (i := 139) rfl))) (notFace_of_selects (args := #[]) (mvT hZ79 (hw _ (List.mem_of_getElem? (i := 141) rfl)))) (mvT hZ79 (hw _ (List.mem_of_getElem? (i := 141) rfl))) (mvT hZ79 (hw _ (List.mem_of_getElem? (i := 140) rfl))) (by decide) (backOf (W := 0) (rm20 l Z A0 hw [] b88 v5 v17 be229 b92_b3 b92_b8 bv229 b19 b38 b59 fL229 fP229 h229 n0 (Nat.le_trans Z0 K229.1) Eo229 F3229 F1229 F2229 F4229 Ea229 Eb229 Ec229 A1229 A2229 hp250 hp251 hp252 hp253 hp254) hZ79 (hw _ (List.mem_of_getElem? (i := 142) rfl)) (hw _ (List.mem_of_getElem? (i := 119) rfl)) (by decide) (by decide)) q255a q255c (g := (mkF m 405 #[.val (.int p0), .val (.int p1), .val (.int p2), .val (.int p3), .val (.int p4), .val (.int p5), .val (.int v1), .val (.int v2), .val (.int v3), .val (.int v4), .val (.int v5), .val (.int v7), .val (.int v9), .val (.int v11), .val (.int v13), .val (.int v15), .val (.int v17), .val (.int v18), .val (.ref b19), .val (.ref b38), .val (.ref b59), .val v87, .val (.ref b88), .val vl229, .val vp229, .val (.int be229), .val bv229, .val v249] [(.int v17), (.int v5), (.ref b88)])) rfl (by rw [hml]; rfl) (Steps.refl _) (argsL := [(.int v5), (.int v17)]) (rest := []) (lenOf pd_18 rfl) rfl (by show 2 * 0 + _ ≤ _; exact Nat.le_of_eq rfl) (hb hby at_405) (fun _ _ => ⟨rfl, e229, (by decide : 27 + 0 ≤ _), (by decide : 124 + 0 ≤ _)⟩)
  dsimp only [Pt.U, Pt.locs, Pt.cells, Pt.slots] at X255 l255 y255 z255 st255 hQ255
  subst l255 y255 z255
  obtain ⟨rfl, N255q, e255⟩ := hQ255
  have N255 := Fr.app N229 N255q
  have hq256 : (if v17 = (0 : Int32) then (if v5 = be229 then bv229 else (fL229 (v5).toNatClampNeg)) else (fP229 (v5).toNatClampNeg)) = v249 := by rw [hv249, hv248, ql229, qp229]
  have hq256r : ((if v17 = (0 : Int32) then (if v5 = be229 then bv229 else (fL229 (v5).toNatClampNeg)) else (fP229 (v5).toNatClampNeg))).isRef = true := by rw [hq256]; exact rv249
  obtain ⟨fs, hr, hrun, hended, hRW⟩ := X255.leaveW SI79 (by rw [e255]; exact LE229) (v := some (.int (1 : Int32))) (fun h => by rw [Bd.returns] at h; cases h)
  refine ⟨_, _, pre0 _ (ck106 _ (ck146 _ (ck179 _ (ck197 _ (ck230 _ ?_))))), hrun, hended, _, _, rfl, ?_, hRW.1, hRW.2.1, hRW.2.2.1, hRW.2.2.2.mono (by decide) (by decide)⟩
  · show Steps p.tables e below (T196.setTop (mkF m 355 #[.val (.int p0), .val (.int p1), .val (.int p2), .val (.int p3), .val (.int p4), .val (.int p5), .val (.int v1), .val (.int v2), .val (.int v3), .val (.int v4), .val (.int v5), .val (.int v7), .val (.int v9), .val (.int v11), .val (.int v13), .val (.int v15), .val (.int v17), .val (.int v18), .val (.ref b19), .val (.ref b38), .val (.ref b59), .val v87, .val (.ref b88), .val vl196, .val vp196, .val (.int be196), .val bv196, .unset] [(.int v15)])) _
    refine st229 _ ?_
    show Steps p.tables e below (T229.setTop (mkF m 369 #[.val (.int p0), .val (.int p1), .val (.int p2), .val (.int p3), .val (.int p4), .val (.int p5), .val (.int v1), .val (.int v2), .val (.int v3), .val (.int v4), .val (.int v5), .val (.int v7), .val (.int v9), .val (.int v11), .val (.int v13), .val (.int v15), .val (.int v17), .val (.int v18), .val (.ref b19), .val (.ref b38), .val (.ref b59), .val v87, .val (.ref b88), .val vl229, .val vp229, .val (.int be229), .val bv229, .unset] [])) _
    refine XS.iload X229.here hx rfl (hb hby at_369) rfl ?_
    show Steps p.tables e below (T229.setTop (mkF m 371 #[.val (.int p0), .val (.int p1), .val (.int p2), .val (.int p3), .val (.int p4), .val (.int p5), .val (.int v1), .val (.int v2), .val (.int v3), .val (.int v4), .val (.int v5), .val (.int v7), .val (.int v9), .val (.int v11), .val (.int v13), .val (.int v15), .val (.int v17), .val (.int v18), .val (.ref b19), .val (.ref b38), .val (.ref b59), .val v87, .val (.ref b88), .val vl229, .val vp229, .val (.int be229), .val bv229, .unset] [(.int v17)])) _
    refine own_dia (F := (mkF m 399 #[.val (.int p0), .val (.int p1), .val (.int p2), .val (.int p3), .val (.int p4), .val (.int p5), .val (.int v1), .val (.int v2), .val (.int v3), .val (.int v4), .val (.int v5), .val (.int v7), .val (.int v9), .val (.int v11), .val (.int v13), .val (.int v15), .val (.int v17), .val (.int v18), .val (.ref b19), .val (.ref b38), .val (.ref b59), .val v87, .val (.ref b88), .val vl229, .val vp229, .val (.int be229), .val bv229, .val v249] [])) ?_ ?_
    · intro kt
      by_cases hc246 : v17 = (0 : Int32)
      · show Steps p.tables e below (T229.setTop (mkF m 371 #[.val (.int p0), .val (.int p1), .val (.int p2), .val (.int p3), .val (.int p4), .val (.int p5), .val (.int v1), .val (.int v2), .val (.int v3), .val (.int v4), .val (.int v5), .val (.int v7), .val (.int v9), .val (.int v11), .val (.int v13), .val (.int v15), .val (.int v17), .val (.int v18), .val (.ref b19), .val (.ref b38), .val (.ref b59), .val v87, .val (.ref b88), .val vl229, .val vp229, .val (.int be229), .val bv229, .unset] [(.int v17)])) _
        refine XS.ifYes X229.here hx rfl (pc0 := 371) (pc' := 381) rfl (hb hby at_371) rfl ((if0 _ _).trans (teq hc246).1) (by decide) (by decide) ?_
        show Steps p.tables e below (T229.setTop (mkF m 381 #[.val (.int p0), .val (.int p1), .val (.int p2), .val (.int p3), .val (.int p4), .val (.int p5), .val (.int v1), .val (.int v2), .val (.int v3), .val (.int v4), .val (.int v5), .val (.int v7), .val (.int v9), .val (.int v11), .val (.int v13), .val (.int v15), .val (.int v17), .val (.int v18), .val (.ref b19), .val (.ref b38), .val (.ref b59), .val v87, .val (.ref b88), .val vl229, .val vp229, .val (.int be229), .val bv229, .unset] [])) _
        refine XS.iload X229.here hx rfl (hb hby at_381) rfl ?_
        show Steps p.tables e below (T229.setTop (mkF m 383 #[.val (.int p0), .val (.int p1), .val (.int p2), .val (.int p3), .val (.int p4), .val (.int p5), .val (.int v1), .val (.int v2), .val (.int v3), .val (.int v4), .val (.int v5), .val (.int v7), .val (.int v9), .val (.int v11), .val (.int v13), .val (.int v15), .val (.int v17), .val (.int v18), .val (.ref b19), .val (.ref b38), .val (.ref b59), .val v87, .val (.ref b88), .val vl229, .val vp229, .val (.int be229), .val bv229, .unset] [(.int v5)])) _
        refine XS.iload X229.here hx rfl (hb hby at_383) rfl ?_
        show Steps p.tables e below (T229.setTop (mkF m 385 #[.val (.int p0), .val (.int p1), .val (.int p2), .val (.int p3), .val (.int p4), .val (.int p5), .val (.int v1), .val (.int v2), .val (.int v3), .val (.int v4), .val (.int v5), .val (.int v7), .val (.int v9), .val (.int v11), .val (.int v13), .val (.int v15), .val (.int v17), .val (.int v18), .val (.ref b19), .val (.ref b38), .val (.ref b59), .val v87, .val (.ref b88), .val vl229, .val vp229, .val (.int be229), .val bv229, .unset] [(.int be229), (.int v5)])) _
        refine own_dia (F := (mkF m 399 #[.val (.int p0), .val (.int p1), .val (.int p2), .val (.int p3), .val (.int p4), .val (.int p5), .val (.int v1), .val (.int v2), .val (.int v3), .val (.int v4), .val (.int v5), .val (.int v7), .val (.int v9), .val (.int v11), .val (.int v13), .val (.int v15), .val (.int v17), .val (.int v18), .val (.ref b19), .val (.ref b38), .val (.ref b59), .val v87, .val (.ref b88), .val vl229, .val vp229, .val (.int be229), .val bv229, .val v248] [])) ?_ ?_
        · intro kt
          by_cases hc247 : v5 = be229
          · show Steps p.tables e below (T229.setTop (mkF m 385 #[.val (.int p0), .val (.int p1), .val (.int p2), .val (.int p3), .val (.int p4), .val (.int p5), .val (.int v1), .val (.int v2), .val (.int v3), .val (.int v4), .val (.int v5), .val (.int v7), .val (.int v9), .val (.int v11), .val (.int v13), .val (.int v15), .val (.int v17), .val (.int v18), .val (.ref b19), .val (.ref b38), .val (.ref b59), .val v87, .val (.ref b88), .val vl229, .val vp229, .val (.int be229), .val bv229, .unset] [(.int be229), (.int v5)])) _
            refine XS.icmpNo X229.here hx rfl (hb hby at_385) rfl (teq hc247).2 ?_
            show Steps p.tables e below (T229.setTop (mkF m 388 #[.val (.int p0), .val (.int p1), .val (.int p2), .val (.int p3), .val (.int p4), .val (.int p5), .val (.int v1), .val (.int v2), .val (.int v3), .val (.int v4), .val (.int v5), .val (.int v7), .val (.int v9), .val (.int v11), .val (.int v13), .val (.int v15), .val (.int v17), .val (.int v18), .val (.ref b19), .val (.ref b38), .val (.ref b59), .val v87, .val (.ref b88), .val vl229, .val vp229, .val (.int be229), .val bv229, .unset] [])) _
            refine XS.aload X229.here hx rfl (hb hby at_388) rfl rb229 ?_
            show Steps p.tables e below (T229.setTop (mkF m 390 #[.val (.int p0), .val (.int p1), .val (.int p2), .val (.int p3), .val (.int p4), .val (.int p5), .val (.int v1), .val (.int v2), .val (.int v3), .val (.int v4), .val (.int v5), .val (.int v7), .val (.int v9), .val (.int v11), .val (.int v13), .val (.int v15), .val (.int v17), .val (.int v18), .val (.ref b19), .val (.ref b38), .val (.ref b59), .val v87, .val (.ref b88), .val vl229, .val vp229, .val (.int be229), .val bv229, .unset] [bv229])) _
            refine XS.astoreS X229.here hx rfl (hb hby at_390) rfl rb229 (own_cat rb229) rfl One.u ?_
            show Steps p.tables e below (T229.setTop (mkF m 392 #[.val (.int p0), .val (.int p1), .val (.int p2), .val (.int p3), .val (.int p4), .val (.int p5), .val (.int v1), .val (.int v2), .val (.int v3), .val (.int v4), .val (.int v5), .val (.int v7), .val (.int v9), .val (.int v11), .val (.int v13), .val (.int v15), .val (.int v17), .val (.int v18), .val (.ref b19), .val (.ref b38), .val (.ref b59), .val v87, .val (.ref b88), .val vl229, .val vp229, .val (.int be229), .val bv229, .val bv229] [])) _
            refine XS.goto X229.here hx rfl (pc0 := 392) (pc' := 399) rfl (hb hby at_392) (by decide) (by decide) ?_
            exact castTop (by rw [hv248, if_pos hc247] <;> rfl) kt
          · show Steps p.tables e below (T229.setTop (mkF m 385 #[.val (.int p0), .val (.int p1), .val (.int p2), .val (.int p3), .val (.int p4), .val (.int p5), .val (.int v1), .val (.int v2), .val (.int v3), .val (.int v4), .val (.int v5), .val (.int v7), .val (.int v9), .val (.int v11), .val (.int v13), .val (.int v15), .val (.int v17), .val (.int v18), .val (.ref b19), .val (.ref b38), .val (.ref b59), .val v87, .val (.ref b88), .val vl229, .val vp229, .val (.int be229), .val bv229, .unset] [(.int be229), (.int v5)])) _
            refine XS.icmpYes X229.here hx rfl (pc0 := 385) (pc' := 395) rfl (hb hby at_385) rfl (feq hc247).2 (by decide) (by decide) ?_
            show Steps p.tables e below (T229.setTop (mkF m 395 #[.val (.int p0), .val (.int p1), .val (.int p2), .val (.int p3), .val (.int p4), .val (.int p5), .val (.int v1), .val (.int v2), .val (.int v3), .val (.int v4), .val (.int v5), .val (.int v7), .val (.int v9), .val (.int v11), .val (.int v13), .val (.int v15), .val (.int v17), .val (.int v18), .val (.ref b19), .val (.ref b38), .val (.ref b59), .val v87, .val (.ref b88), .val vl229, .val vp229, .val (.int be229), .val bv229, .unset] [])) _
            refine XS.aload X229.here hx rfl (hb hby at_395) rfl rl229 ?_
            show Steps p.tables e below (T229.setTop (mkF m 397 #[.val (.int p0), .val (.int p1), .val (.int p2), .val (.int p3), .val (.int p4), .val (.int p5), .val (.int v1), .val (.int v2), .val (.int v3), .val (.int v4), .val (.int v5), .val (.int v7), .val (.int v9), .val (.int v11), .val (.int v13), .val (.int v15), .val (.int v17), .val (.int v18), .val (.ref b19), .val (.ref b38), .val (.ref b59), .val v87, .val (.ref b88), .val vl229, .val vp229, .val (.int be229), .val bv229, .unset] [vl229])) _
            refine XS.astoreS X229.here hx rfl (hb hby at_397) rfl rl229 (own_cat rl229) rfl One.u ?_
            exact castTop (by rw [hv248, if_neg hc247] <;> rfl) kt
        exact castTop (by rw [hv249, if_pos hc246] <;> rfl) kt
      · show Steps p.tables e below (T229.setTop (mkF m 371 #[.val (.int p0), .val (.int p1), .val (.int p2), .val (.int p3), .val (.int p4), .val (.int p5), .val (.int v1), .val (.int v2), .val (.int v3), .val (.int v4), .val (.int v5), .val (.int v7), .val (.int v9), .val (.int v11), .val (.int v13), .val (.int v15), .val (.int v17), .val (.int v18), .val (.ref b19), .val (.ref b38), .val (.ref b59), .val v87, .val (.ref b88), .val vl229, .val vp229, .val (.int be229), .val bv229, .unset] [(.int v17)])) _
        refine XS.ifNo X229.here hx rfl (hb hby at_371) rfl ((if0 _ _).trans (feq hc246).1) ?_
        show Steps p.tables e below (T229.setTop (mkF m 374 #[.val (.int p0), .val (.int p1), .val (.int p2), .val (.int p3), .val (.int p4), .val (.int p5), .val (.int v1), .val (.int v2), .val (.int v3), .val (.int v4), .val (.int v5), .val (.int v7), .val (.int v9), .val (.int v11), .val (.int v13), .val (.int v15), .val (.int v17), .val (.int v18), .val (.ref b19), .val (.ref b38), .val (.ref b59), .val v87, .val (.ref b88), .val vl229, .val vp229, .val (.int be229), .val bv229, .unset] [])) _
        refine XS.aload X229.here hx rfl (hb hby at_374) rfl rp229 ?_
        show Steps p.tables e below (T229.setTop (mkF m 376 #[.val (.int p0), .val (.int p1), .val (.int p2), .val (.int p3), .val (.int p4), .val (.int p5), .val (.int v1), .val (.int v2), .val (.int v3), .val (.int v4), .val (.int v5), .val (.int v7), .val (.int v9), .val (.int v11), .val (.int v13), .val (.int v15), .val (.int v17), .val (.int v18), .val (.ref b19), .val (.ref b38), .val (.ref b59), .val v87, .val (.ref b88), .val vl229, .val vp229, .val (.int be229), .val bv229, .unset] [vp229])) _
        refine XS.astoreS X229.here hx rfl (hb hby at_376) rfl rp229 (own_cat rp229) rfl One.u ?_
        show Steps p.tables e below (T229.setTop (mkF m 378 #[.val (.int p0), .val (.int p1), .val (.int p2), .val (.int p3), .val (.int p4), .val (.int p5), .val (.int v1), .val (.int v2), .val (.int v3), .val (.int v4), .val (.int v5), .val (.int v7), .val (.int v9), .val (.int v11), .val (.int v13), .val (.int v15), .val (.int v17), .val (.int v18), .val (.ref b19), .val (.ref b38), .val (.ref b59), .val v87, .val (.ref b88), .val vl229, .val vp229, .val (.int be229), .val bv229, .val vp229] [])) _
        refine XS.goto X229.here hx rfl (pc0 := 378) (pc' := 399) rfl (hb hby at_378) (by decide) (by decide) ?_
        exact castTop (by rw [hv249, if_neg hc246] <;> rfl) kt
    show Steps p.tables e below (T229.setTop (mkF m 399 #[.val (.int p0), .val (.int p1), .val (.int p2), .val (.int p3), .val (.int p4), .val (.int p5), .val (.int v1), .val (.int v2), .val (.int v3), .val (.int v4), .val (.int v5), .val (.int v7), .val (.int v9), .val (.int v11), .val (.int v13), .val (.int v15), .val (.int v17), .val (.int v18), .val (.ref b19), .val (.ref b38), .val (.ref b59), .val v87, .val (.ref b88), .val vl229, .val vp229, .val (.int be229), .val bv229, .val v249] [])) _
    refine XS.aload X229.here hx rfl (hb hby at_399) rfl rfl ?_
    show Steps p.tables e below (T229.setTop (mkF m 401 #[.val (.int p0), .val (.int p1), .val (.int p2), .val (.int p3), .val (.int p4), .val (.int p5), .val (.int v1), .val (.int v2), .val (.int v3), .val (.int v4), .val (.int v5), .val (.int v7), .val (.int v9), .val (.int v11), .val (.int v13), .val (.int v15), .val (.int v17), .val (.int v18), .val (.ref b19), .val (.ref b38), .val (.ref b59), .val v87, .val (.ref b88), .val vl229, .val vp229, .val (.int be229), .val bv229, .val v249] [(.ref b88)])) _
    refine XS.iload X229.here hx rfl (hb hby at_401) rfl ?_
    show Steps p.tables e below (T229.setTop (mkF m 403 #[.val (.int p0), .val (.int p1), .val (.int p2), .val (.int p3), .val (.int p4), .val (.int p5), .val (.int v1), .val (.int v2), .val (.int v3), .val (.int v4), .val (.int v5), .val (.int v7), .val (.int v9), .val (.int v11), .val (.int v13), .val (.int v15), .val (.int v17), .val (.int v18), .val (.ref b19), .val (.ref b38), .val (.ref b59), .val v87, .val (.ref b88), .val vl229, .val vp229, .val (.int be229), .val bv229, .val v249] [(.int v5), (.ref b88)])) _
    refine XS.iload X229.here hx rfl (hb hby at_403) rfl ?_
    show Steps p.tables e below (T229.setTop (mkF m 405 #[.val (.int p0), .val (.int p1), .val (.int p2), .val (.int p3), .val (.int p4), .val (.int p5), .val (.int v1), .val (.int v2), .val (.int v3), .val (.int v4), .val (.int v5), .val (.int v7), .val (.int v9), .val (.int v11), .val (.int v13), .val (.int v15), .val (.int v17), .val (.int v18), .val (.ref b19), .val (.ref b38), .val (.ref b59), .val v87, .val (.ref b88), .val vl229, .val vp229, .val (.int be229), .val bv229, .val v249] [(.int v17), (.int v5), (.ref b88)])) _
    refine st255.trans ?_
    show Steps p.tables e below (T255.setTop (mkF m 408 #[.val (.int p0), .val (.int p1), .val (.int p2), .val (.int p3), .val (.int p4), .val (.int p5), .val (.int v1), .val (.int v2), .val (.int v3), .val (.int v4), .val (.int v5), .val (.int v7), .val (.int v9), .val (.int v11), .val (.int v13), .val (.int v15), .val (.int v17), .val (.int v18), .val (.ref b19), .val (.ref b38), .val (.ref b59), .val v87, .val (.ref b88), .val vl229, .val vp229, .val (.int be229), .val bv229, .val v249] [(if v17 = (0 : Int32) then (if v5 = be229 then bv229 else (fL229 (v5).toNatClampNeg)) else (fP229 (v5).toNatClampNeg))])) _
    refine XS.aload X255.here hx rfl (hb hby at_408) rfl rv249 ?_
    show Steps p.tables e below (T255.setTop (mkF m 410 #[.val (.int p0), .val (.int p1), .val (.int p2), .val (.int p3), .val (.int p4), .val (.int p5), .val (.int v1), .val (.int v2), .val (.int v3), .val (.int v4), .val (.int v5), .val (.int v7), .val (.int v9), .val (.int v11), .val (.int v13), .val (.int v15), .val (.int v17), .val (.int v18), .val (.ref b19), .val (.ref b38), .val (.ref b59), .val v87, .val (.ref b88), .val vl229, .val vp229, .val (.int be229), .val bv229, .val v249] [v249, (if v17 = (0 : Int32) then (if v5 = be229 then bv229 else (fL229 (v5).toNatClampNeg)) else (fP229 (v5).toNatClampNeg))])) _
    refine Jvm.RoadKit.acmp X255 hx rfl (cd := .ne) hq256r rv249 (pc0 := 410) (pc' := 413) rfl (hb hby at_410) rfl (same := true) (decide_eq_true hq256) (by decide) (by rfl) ?_
    show Steps p.tables e below (T255.setTop (mkF m 413 #[.val (.int p0), .val (.int p1), .val (.int p2), .val (.int p3), .val (.int p4), .val (.int p5), .val (.int v1), .val (.int v2), .val (.int v3), .val (.int v4), .val (.int v5), .val (.int v7), .val (.int v9), .val (.int v11), .val (.int v13), .val (.int v15), .val (.int v17), .val (.int v18), .val (.ref b19), .val (.ref b38), .val (.ref b59), .val v87, .val (.ref b88), .val vl229, .val vp229, .val (.int be229), .val bv229, .val v249] [])) _
    refine XS.iconst X255.here hx rfl (hb hby at_413) ?_
    show Steps p.tables e below (T255.setTop (mkF m 414 #[.val (.int p0), .val (.int p1), .val (.int p2), .val (.int p3), .val (.int p4), .val (.int p5), .val (.int v1), .val (.int v2), .val (.int v3), .val (.int v4), .val (.int v5), .val (.int v7), .val (.int v9), .val (.int v11), .val (.int v13), .val (.int v15), .val (.int v17), .val (.int v18), .val (.ref b19), .val (.ref b38), .val (.ref b59), .val v87, .val (.ref b88), .val vl229, .val vp229, .val (.int be229), .val bv229, .val v249] [(.int (1 : Int32))])) _
    refine XS.goto X255.here hx rfl (pc0 := 414) (pc' := 418) rfl (hb hby at_414) (by decide) (by decide) ?_
    show Steps p.tables e below (T255.setTop (mkF m 418 #[.val (.int p0), .val (.int p1), .val (.int p2), .val (.int p3), .val (.int p4), .val (.int p5), .val (.int v1), .val (.int v2), .val (.int v3), .val (.int v4), .val (.int v5), .val (.int v7), .val (.int v9), .val (.int v11), .val (.int v13), .val (.int v15), .val (.int v17), .val (.int v18), .val (.ref b19), .val (.ref b38), .val (.ref b59), .val v87, .val (.ref b88), .val vl229, .val vp229, .val (.int be229), .val bv229, .val v249] [(.int (1 : Int32))])) _
    exact retN X255 hx (t := .boolean) Bd.returns (by simp) (hb hby at_418) hr
  · show Q0 h0 n0 _ T255.heap _
    exact ⟨rfl, N255⟩
set_option maxRecDepth 65536 in
set_option maxHeartbeats 40000000 in
theorem comes_1 {Post : Tables → Env → Array Value → State → Outcome → State → Prop} (hpost : ∀ tb e args s v u, (limb_1_1.after args s (.returned v) u = true ∧ limb_1_2.after args s (.returned v) u = true ∧ True) → ReturnedEndW s (.returned v) u (Jvm.fieldLocs frame_1_writes args s ++ Jvm.arrayLocs frame_1_arrays args s ++ Jvm.staticLocs frame_1_statics s) 40 7424 → Post tb e args s (.returned v) u) :
    ArmFor flags0 classFile x code maxLocals ret World_1 tables_1 room_1 Calls_1 rest_1 Pre_1 Post := by
  intro l hfl _ _ p e ha hc hk s m args below hf hA hF happ hP
  obtain ⟨hcalls, hrest, hpre⟩ := hP
  obtain ⟨-, -, -, hnamed, -, -, -, hat⟩ := (Spec.applies_iff hf).mp happ
  obtain ⟨hg, hn⟩ := and_e (Cond.before_iff.mp (show (Jvm.Cond.and given_1 narrow_1).before args s = true from hpre))
  obtain ⟨gg1, gg2⟩ := and_e hg
  obtain ⟨gg3, gg4⟩ := and_e gg2
  obtain ⟨gg5, gg6⟩ := and_e gg4
  obtain ⟨gg7, gg8⟩ := and_e gg6
  obtain ⟨gg9, gg10⟩ := and_e gg8
  obtain ⟨gg11, gg12⟩ := and_e gg10
  obtain ⟨w0, w1, w2, w3, w4, w5, rfl⟩ : ∃ w0 w1 w2 w3 w4 w5 : Value, args = #[w0, w1, w2, w3, w4, w5] := by
    have hs : args.size = 6 := by simpa [Cond.value, given_1] using gg1
    obtain ⟨L⟩ := args
    match L, hs with
    | [w0, w1, w2, w3, w4, w5], _ => exact ⟨w0, w1, w2, w3, w4, w5, rfl⟩
  have hw := fun d (hd : d ∈ tables_1) => atoms_spec (ws := Jvm.Cond.code x code maxLocals ret :: tables_1) hat d (List.mem_cons_of_mem _ hd)
  have hfit : Fit s := fun {y c} hc i hi => by
    obtain ⟨ha, rfl⟩ := Array.getElem?_eq_some_iff.mp hc
    have q := List.all_eq_true.mp ((Array.all_eq_true_iff_forall_mem.mp hF) _ (Array.getElem_mem ha)) i (List.mem_range.mpr hi)
    simpa [Array.getElem?_eq_getElem hi] using q
  obtain ⟨hsets, hown0⟩ := atoms_of _ (rest_1_c_eq ▸ (show rest_1_c.before _ s = true from hrest))
  have hr0 := Cond.before_iff.mp hown0
  obtain ⟨i0, ei0⟩ := is_v gg3
  obtain rfl : w0 = (.int i0) := Option.some.inj ei0
  obtain ⟨i1, ei1⟩ := is_v gg5
  obtain rfl : w1 = (.int i1) := Option.some.inj ei1
  obtain ⟨i2, ei2⟩ := is_v gg7
  obtain rfl : w2 = (.int i2) := Option.some.inj ei2
  obtain ⟨i3, ei3⟩ := is_v gg9
  obtain rfl : w3 = (.int i3) := Option.some.inj ei3
  obtain ⟨i4, ei4⟩ := is_v gg11
  obtain rfl : w4 = (.int i4) := Option.some.inj ei4
  obtain ⟨i5, ei5⟩ := is_v gg12
  obtain rfl : w5 = (.int i5) := Option.some.inj ei5
  obtain ⟨cz, ecz⟩ := is_v (Cond.before_iff.mp (hsets _ (List.mem_of_getElem? (i := 1) rfl)))
  have nv := not_v (Cond.before_iff.mp (hsets _ (List.mem_of_getElem? (i := 2) rfl)))
  have hcz : ¬ (cz = (0 : Int32)) := fun z => by
    subst z
    have q := eq_i ecz (Term.int_eval 0) rfl
    rw [q] at nv
    cases nv
  obtain ⟨fz, efz, rfz⟩ := isR_v (Cond.before_iff.mp (hsets _ (List.mem_of_getElem? (i := 8) rfl)))
  have SS1 : Sta s s.heap "java/lang/String" "COMPACT_STRINGS" "Z" (.int cz) := Sta.start ecz (Or.inl (hsets _ (List.mem_of_getElem? (i := 0) rfl)))
  have SS2 : Sta s s.heap "jdk/internal/util/Preconditions" "SIOOBE_FORMATTER" "Ljava/util/function/BiFunction;" fz := Sta.start efz (Or.inl (hsets _ (List.mem_of_getElem? (i := 7) rfl)))
  have hEL : EW s _ consts_1 := (EW.cons (hw _ (List.mem_of_getElem? (i := 23) rfl)) (by decide) (EW.cons (hw _ (List.mem_of_getElem? (i := 4) rfl)) (by decide) (EW.cons (hw _ (List.mem_of_getElem? (i := 12) rfl)) (by decide) (EW.cons (hw _ (List.mem_of_getElem? (i := 113) rfl)) (by decide) (EW.cons (hw _ (List.mem_of_getElem? (i := 114) rfl)) (by decide) (EW.cons (hw _ (List.mem_of_getElem? (i := 115) rfl)) (by decide) (EW.cons (hw _ (List.mem_of_getElem? (i := 116) rfl)) (by decide) EW.nil)))))))
  have hCH0 : CHv s consts_1 s.vm s.heap := CHv.start hEL (fun p hp => hcalls.1 p hp) (hsets _ (List.mem_of_getElem? (i := 2) rfl)) (hw _ (List.mem_of_getElem? (i := 7) rfl)) (hw _ (List.mem_of_getElem? (i := 6) rfl))
  obtain ⟨n, o, h1, h2, h3, _, L, rfl, ⟨rfl, N⟩, hq⟩ := rm0 l s _ hw tables_1 i0 i1 i2 i3 i4 i5 cz fz s.heap s.heap.size (Nat.le_refl _) ⟨SS1, Old.start s⟩ ⟨SS2, Old.start s⟩ rfl hEL hCH0 rfz hcz p e ha hc hk s m _ below hf ((Spec.applies_iff_loose hf).mp happ).1 ⟨rfl, rfl, rfl⟩ trivial
  refine ⟨n, _, h1, h2, h3, hpost _ _ _ _ _ _ ⟨Cond.after_iff.mpr rfl, Cond.after_iff.mpr (eq_i res_at (Term.int_eval (1)) rfl), trivial⟩ ⟨hq.1, hq.2.1, hq.2.2.1, (hq.2.2.2.sift fun y hy => Or.inr (N y hy)).mono (by decide) (by decide)⟩⟩
theorem main_1_1 : Claimed_1_1 := comes_1 fun _ _ _ _ _ _ h hF => ⟨h.1, hF⟩
theorem main_1_2 : Claimed_1_2 := comes_1 fun _ _ _ _ _ _ h hF => ⟨h.2.1, hF⟩
end Jvm.Pilot.@@N@@
namespace Jvm.Pilot.@@N@@
open Jvm Jvm.ClassFile Sem Op Lib Jvm.Free Jvm.Stand Jvm.Pilot.@@N@@.Jvm.D
/-! MADE BY PROGRAM (witnessworld.py) out of the Statement's table words and the real class files: 21 classes; the members and pool entries that the words name. The judged class is class 1, her method 1. -/
namespace start1
open Jvm.ClassFile
def u (s : String) : CpInfo := .utf8 (stringToUtf16 s)
/-- a pool by its gaps: so many unusable entries, then the entry; so many at the end -/
def gap : Nat → List CpInfo → List CpInfo
  | 0, r => r
  | n + 1, r => .unusable :: gap n r
def poolList (es : List (Nat × CpInfo)) (last : Nat) : List CpInfo := es.foldr (fun e r => gap e.1 (e.2 :: r)) (gap last [])
def pool (es : List (Nat × CpInfo)) (last : Nat) : Array CpInfo := ⟨poolList es last⟩
def fileOf (pool : Array CpInfo) (this : Nat) (attrs : Array Attribute := #[]) (ms : Array MethodInfo := #[]) (fl : Nat := 33) (sup : Nat := 0) (ifs : Array Nat := #[]) (fds : Array FieldInfo := #[]) : ClassFile where
  minorVersion := 0
  majorVersion := 65
  constantPool := pool
  accessFlags := fl
  thisClass := this
  superClass := sup
  interfaces := ifs
  fields := fds
  methods := ms
  attributes := attrs
def plain (name : String) (sup : Option ClassId) : Class where
  name := name
  kind := .ordinary
  loader := none
  accessFlags := 33
  super := sup
  interfaces := #[]
  cf := none
  fields := #[]
  methods := #[]
  instanceTypes := #[]
  staticTypes := #[]
  resolved := #[]
  callSites := []
  init := .initialized
  statics := none
  mirror := none

def pool0 : Array CpInfo := pool [(5, u "<init>"), (0, u "()V"), (1, .class_ 10), (1, u "java/lang/Object")] 113

def k0c0 : Code := { maxStack := 0, maxLocals := 1, code := object_method_1_code, exceptionTable := #[], attributes := #[] }
def k0m0 : Method := { name := "<init>", desc := "()V", sig := { parameters := [], returnType := none }, accessFlags := 1, code := some k0c0 }
/-- java/lang/Object -/
def k0 : Class := { plain "java/lang/Object" none with
  accessFlags := 33
  interfaces := #[]
  cf := some (fileOf pool0 8 #[] #[{ accessFlags := 1, nameIndex := 5, descriptorIndex := 6, attributes := #[] }] 33 0 #[] #[])
  fields := #[]
  methods := #[k0m0]
  instanceTypes := #[]
  staticTypes := #[]
  resolved := Array.replicate 124 none
  statics := none }

def pool1 : Array CpInfo := pool [(2, .class_ 4), (1, u "java/lang/Object"), (0, u "<init>"), (0, u "()V"), (0, .integer 2147483647), (0, .class_ 9), (0, u "com/example/uneven_ticks/uneventicks/check/TraceEvent"), (0, .string 11), (0, u "1"), (0, .string 13), (0, u "a"), (0, .methodref 8 15), (0, .nameAndType 5 16), (0, u "(Ljava/lang/String;Ljava/lang/String;Ljava/lang/String;[II)V"), (0, .string 18), (0, u "2"), (0, .string 20), (0, u "b"), (0, .string 22), (0, u "3"), (0, .string 24), (0, u "c"), (0, .class_ 26), (0, u "com/example/uneven_ticks/uneventicks/check/Occurrences"), (0, .methodref 25 28), (0, .nameAndType 5 29), (0, u "(I)V"), (0, .methodref 25 31), (0, .nameAndType 32 33), (0, u "occur"), (0, u "(ILcom/example/uneven_ticks/uneventicks/check/TraceEvent;)V"), (0, .methodref 25 35), (0, .nameAndType 36 33), (0, u "bind"), (0, .methodref 25 38), (0, .nameAndType 39 6), (0, u "unbind"), (0, .methodref 25 41), (0, .nameAndType 42 43), (0, u "get"), (0, u "(IZ)Lcom/example/uneven_ticks/uneventicks/check/TraceEvent;"), (0, .class_ 45), (0, u "com/example/uneven_ticks/uneventicks/check/OccurrencesGetPinLaw"), (2, u "law"), (0, u "(IIIIII)Z")] 3

def k1m0 : Method := { name := "<init>", desc := "()V", sig := { parameters := [], returnType := none }, accessFlags := 1, code := none }
def k1c1 : Code := { maxStack := 7, maxLocals := 28, code := code, exceptionTable := #[], attributes := #[] }
def k1m1 : Method := { name := "law", desc := "(IIIIII)Z", sig := { parameters := [.int, .int, .int, .int, .int, .int], returnType := some .boolean }, accessFlags := 9, code := some k1c1 }
/-- com/example/uneven_ticks/uneventicks/check/OccurrencesGetPinLaw -/
def k1 : Class := { plain "com/example/uneven_ticks/uneventicks/check/OccurrencesGetPinLaw" (some 0) with
  accessFlags := 49
  interfaces := #[]
  cf := some (fileOf pool1 44 #[] #[{ accessFlags := 1, nameIndex := 5, descriptorIndex := 6, attributes := #[] }, { accessFlags := 9, nameIndex := 48, descriptorIndex := 49, attributes := #[] }] 49 2 #[] #[])
  fields := #[]
  methods := #[k1m0, k1m1]
  instanceTypes := #[]
  staticTypes := #[]
  resolved := Array.replicate 53 none
  statics := none }

def pool2 : Array CpInfo := pool [(2, .class_ 4), (1, u "com/example/uneven_ticks/uneventicks/check/TraceEvent"), (1, u "(Ljava/lang/String;)Lcom/example/uneven_ticks/uneventicks/check/DecimalText;"), (4, u "<init>"), (10, .methodref 23 24), (0, .class_ 25), (0, .nameAndType 11 26), (0, u "java/lang/Object"), (0, u "()V"), (0, .fieldref 2 28), (0, .nameAndType 29 30), (0, u "writtenTime"), (0, u "Lcom/example/uneven_ticks/uneventicks/check/DecimalText;"), (2, u "time"), (0, u "Ljava/math/BigDecimal;"), (0, .fieldref 2 36), (0, .nameAndType 37 38), (0, u "name"), (0, u "Ljava/lang/String;"), (2, u "attributes"), (0, u "Ljava/util/Map;"), (0, .fieldref 2 44), (0, .nameAndType 45 38), (0, u "line"), (0, .fieldref 2 47), (0, .nameAndType 48 49), (0, u "attributeBounds"), (0, u "[I"), (0, .fieldref 2 51), (0, .nameAndType 52 53), (0, u "attributeCount"), (0, u "I"), (0, .methodref 55 56), (0, .class_ 57), (0, .nameAndType 58 6), (0, u "com/example/uneven_ticks/uneventicks/check/DecimalText"), (0, u "parse"), (68, u "numbers"), (39, u "(Ljava/lang/String;Ljava/lang/String;Ljava/lang/String;[II)V")] 32

def k2c0 : Code := { maxStack := 2, maxLocals := 6, code := prog_24_method_3_code, exceptionTable := #[], attributes := #[] }
def k2m0 : Method := { name := "<init>", desc := "(Ljava/lang/String;Ljava/lang/String;Ljava/lang/String;[II)V", sig := { parameters := [(.object "java/lang/String"), (.object "java/lang/String"), (.object "java/lang/String"), (.array .int), .int], returnType := none }, accessFlags := 0, code := some k2c0 }
/-- com/example/uneven_ticks/uneventicks/check/TraceEvent -/
def k2 : Class := { plain "com/example/uneven_ticks/uneventicks/check/TraceEvent" (some 0) with
  accessFlags := 33
  interfaces := #[]
  cf := some (fileOf pool2 2 #[] #[{ accessFlags := 0, nameIndex := 11, descriptorIndex := 167, attributes := #[] }] 33 23 #[] #[{ accessFlags := 18, nameIndex := 29, descriptorIndex := 30, attributes := #[] }, { accessFlags := 18, nameIndex := 37, descriptorIndex := 38, attributes := #[] }, { accessFlags := 18, nameIndex := 45, descriptorIndex := 38, attributes := #[] }, { accessFlags := 18, nameIndex := 48, descriptorIndex := 49, attributes := #[] }, { accessFlags := 18, nameIndex := 52, descriptorIndex := 53, attributes := #[] }, { accessFlags := 2, nameIndex := 33, descriptorIndex := 34, attributes := #[] }, { accessFlags := 2, nameIndex := 41, descriptorIndex := 42, attributes := #[] }, { accessFlags := 2, nameIndex := 127, descriptorIndex := 42, attributes := #[] }])
  fields := #[{ name := "writtenTime", type := (.object "com/example/uneven_ticks/uneventicks/check/DecimalText"), accessFlags := 18, slot := 0, constantValue := 0 }, { name := "name", type := (.object "java/lang/String"), accessFlags := 18, slot := 1, constantValue := 0 }, { name := "line", type := (.object "java/lang/String"), accessFlags := 18, slot := 2, constantValue := 0 }, { name := "attributeBounds", type := (.array .int), accessFlags := 18, slot := 3, constantValue := 0 }, { name := "attributeCount", type := .int, accessFlags := 18, slot := 4, constantValue := 0 }, { name := "time", type := (.object "java/math/BigDecimal"), accessFlags := 2, slot := 5, constantValue := 0 }, { name := "attributes", type := (.object "java/util/Map"), accessFlags := 2, slot := 6, constantValue := 0 }, { name := "numbers", type := (.object "java/util/Map"), accessFlags := 2, slot := 7, constantValue := 0 }]
  methods := #[k2m0]
  instanceTypes := #[(.object "com/example/uneven_ticks/uneventicks/check/DecimalText"), (.object "java/lang/String"), (.object "java/lang/String"), (.array .int), .int, (.object "java/math/BigDecimal"), (.object "java/util/Map"), (.object "java/util/Map")]
  staticTypes := #[]
  resolved := Array.replicate 200 none
  statics := none }

def pool3 : Array CpInfo := pool [(1, .class_ 2), (0, u "java/io/Serializable"), (0, .class_ 4), (0, u "java/lang/Object")] 2

/-- java/io/Serializable -/
def k3 : Class := { plain "java/io/Serializable" (some 0) with
  accessFlags := 1537
  interfaces := #[]
  cf := some (fileOf pool3 1 #[] #[] 1537 3 #[] #[])
  fields := #[]
  methods := #[]
  instanceTypes := #[]
  staticTypes := #[]
  resolved := Array.replicate 7 none
  statics := none }

def pool4 : Array CpInfo := pool [(1, .class_ 2), (0, u "java/lang/Comparable"), (0, .class_ 4), (0, u "java/lang/Object")] 7

/-- java/lang/Comparable -/
def k4 : Class := { plain "java/lang/Comparable" (some 0) with
  accessFlags := 1537
  interfaces := #[]
  cf := some (fileOf pool4 1 #[] #[] 1537 3 #[] #[])
  fields := #[]
  methods := #[]
  instanceTypes := #[]
  staticTypes := #[]
  resolved := Array.replicate 12 none
  statics := none }

def pool5 : Array CpInfo := pool [(2, .class_ 4), (1, u "java/lang/CharSequence"), (42, .class_ 48), (0, u "java/lang/CharSequence$1CodePointIterator"), (10, .class_ 60), (0, u "java/lang/CharSequence$1CharIterator"), (5, .class_ 67), (0, u "java/lang/Object")] 63

/-- java/lang/CharSequence -/
def k5 : Class := { plain "java/lang/CharSequence" (some 0) with
  accessFlags := 1537
  interfaces := #[]
  cf := some (fileOf pool5 2 #[.nestMembers #[47, 59]] #[] 1537 66 #[] #[])
  fields := #[]
  methods := #[]
  instanceTypes := #[]
  staticTypes := #[]
  resolved := Array.replicate 131 none
  statics := none }

def pool6 : Array CpInfo := pool [(1, .class_ 2), (0, u "java/lang/constant/Constable"), (0, .class_ 4), (0, u "java/lang/Object")] 6

/-- java/lang/constant/Constable -/
def k6 : Class := { plain "java/lang/constant/Constable" (some 0) with
  accessFlags := 1537
  interfaces := #[]
  cf := some (fileOf pool6 1 #[] #[] 1537 3 #[] #[])
  fields := #[]
  methods := #[]
  instanceTypes := #[]
  staticTypes := #[]
  resolved := Array.replicate 11 none
  statics := none }

def pool7 : Array CpInfo := pool [(1, .class_ 2), (0, u "java/lang/constant/ConstantDesc"), (0, .class_ 4), (0, u "java/lang/Object")] 32

/-- java/lang/constant/ConstantDesc -/
def k7 : Class := { plain "java/lang/constant/ConstantDesc" (some 0) with
  accessFlags := 1537
  interfaces := #[]
  cf := some (fileOf pool7 1 #[] #[] 1537 3 #[] #[])
  fields := #[]
  methods := #[]
  instanceTypes := #[]
  staticTypes := #[]
  resolved := Array.replicate 37 none
  statics := none }

def pool8 : Array CpInfo := pool [(2, .class_ 4), (1, u "java/lang/Object"), (0, u "<init>"), (0, u "()V"), (2, .fieldref 10 11), (0, .class_ 12), (0, .nameAndType 13 14), (0, u "java/lang/String"), (0, u "value"), (0, u "[B"), (0, .fieldref 10 16), (0, .nameAndType 17 18), (0, u "coder"), (0, u "B"), (2, u "hash"), (0, u "I"), (2, u "hashIsZero"), (0, u "Z"), (11, .fieldref 10 39), (0, .nameAndType 40 26), (0, u "COMPACT_STRINGS"), (66, .class_ 109), (1, u "java/lang/StringLatin1"), (32, u "()Z"), (191, u "()I"), (0, .methodref 10 336), (0, .nameAndType 17 337), (0, u "()B"), (25, u "([BI)C"), (12, u "([BI[BII)I"), (14, u "(II)V"), (35, u "(I)C"), (64, .methodref 10 493), (0, .nameAndType 494 142), (0, u "isLatin1"), (0, .methodref 107 496), (0, .nameAndType 497 363), (0, u "charAt"), (3, u "checkIndex"), (3, .methodref 10 506), (0, .nameAndType 507 334), (0, u "length"), (51, .class_ 561), (1, u "jdk/internal/util/ArraysSupport"), (0, u "mismatch"), (12, .class_ 576), (0, u "java/lang/CharSequence"), (22, u "CASE_INSENSITIVE_ORDER"), (0, u "Ljava/util/Comparator;"), (6, .methodref 559 608), (0, .nameAndType 562 376), (15, .methodref 10 625), (0, .nameAndType 626 627), (0, u "startsWith"), (0, u "(Ljava/lang/String;I)Z"), (425, .fieldref 1054 1055), (0, .class_ 1056), (0, .nameAndType 1057 1058), (0, u "jdk/internal/util/Preconditions"), (0, u "SIOOBE_FORMATTER"), (0, u "Ljava/util/function/BiFunction;"), (0, .methodref 1054 1060), (0, .nameAndType 501 1061), (0, u "(IILjava/util/function/BiFunction;)I"), (39, u "serialPersistentFields"), (0, u "[Ljava/io/ObjectStreamField;"), (0, .class_ 1104), (0, u "java/lang/String$CaseInsensitiveComparator"), (1, .class_ 1107), (0, u "java/io/Serializable"), (0, .class_ 1109), (0, u "java/lang/Comparable"), (0, .class_ 1111), (0, u "java/lang/constant/Constable"), (0, .class_ 1113), (0, u "java/lang/constant/ConstantDesc"), (2, u "serialVersionUID"), (0, u "J"), (3, u "REPL"), (0, u "C"), (2, u "LATIN1"), (1, u "UTF16"), (129, u "(Ljava/lang/String;)Z")] 193

def k8m0 : Method := { name := "<init>", desc := "()V", sig := { parameters := [], returnType := none }, accessFlags := 1, code := none }
def k8c1 : Code := { maxStack := 2, maxLocals := 1, code := jdk_42_method_54_code, exceptionTable := #[], attributes := #[] }
def k8m1 : Method := { name := "length", desc := "()I", sig := { parameters := [], returnType := some .int }, accessFlags := 1, code := some k8c1 }
def k8c2 : Code := { maxStack := 2, maxLocals := 2, code := jdk_42_method_56_code, exceptionTable := #[], attributes := #[] }
def k8m2 : Method := { name := "charAt", desc := "(I)C", sig := { parameters := [.int], returnType := some .char }, accessFlags := 1, code := some k8c2 }
def k8c3 : Code := { maxStack := 5, maxLocals := 8, code := jdk_42_method_75_code, exceptionTable := #[], attributes := #[] }
def k8m3 : Method := { name := "startsWith", desc := "(Ljava/lang/String;I)Z", sig := { parameters := [(.object "java/lang/String"), .int], returnType := some .boolean }, accessFlags := 1, code := some k8c3 }
def k8c4 : Code := { maxStack := 3, maxLocals := 2, code := jdk_42_method_76_code, exceptionTable := #[], attributes := #[] }
def k8m4 : Method := { name := "startsWith", desc := "(Ljava/lang/String;)Z", sig := { parameters := [(.object "java/lang/String")], returnType := some .boolean }, accessFlags := 1, code := some k8c4 }
def k8c5 : Code := { maxStack := 1, maxLocals := 1, code := jdk_42_method_152_code, exceptionTable := #[], attributes := #[] }
def k8m5 : Method := { name := "coder", desc := "()B", sig := { parameters := [], returnType := some .byte }, accessFlags := 0, code := some k8c5 }
def k8c6 : Code := { maxStack := 1, maxLocals := 1, code := jdk_42_method_154_code, exceptionTable := #[], attributes := #[] }
def k8m6 : Method := { name := "isLatin1", desc := "()Z", sig := { parameters := [], returnType := some .boolean }, accessFlags := 0, code := some k8c6 }
def k8c7 : Code := { maxStack := 3, maxLocals := 2, code := jdk_42_method_155_code, exceptionTable := #[], attributes := #[] }
def k8m7 : Method := { name := "checkIndex", desc := "(II)V", sig := { parameters := [.int, .int], returnType := none }, accessFlags := 8, code := some k8c7 }
/-- java/lang/String -/
def k8 : Class := { plain "java/lang/String" (some 0) with
  accessFlags := 49
  interfaces := #[3, 4, 5, 6, 7]
  cf := some (fileOf pool8 10 #[.nestMembers #[1103]] #[{ accessFlags := 1, nameIndex := 5, descriptorIndex := 6, attributes := #[] }, { accessFlags := 1, nameIndex := 507, descriptorIndex := 334, attributes := #[] }, { accessFlags := 1, nameIndex := 497, descriptorIndex := 427, attributes := #[] }, { accessFlags := 1, nameIndex := 626, descriptorIndex := 627, attributes := #[] }, { accessFlags := 1, nameIndex := 626, descriptorIndex := 1257, attributes := #[] }, { accessFlags := 0, nameIndex := 17, descriptorIndex := 337, attributes := #[] }, { accessFlags := 0, nameIndex := 494, descriptorIndex := 142, attributes := #[] }, { accessFlags := 8, nameIndex := 501, descriptorIndex := 391, attributes := #[] }] 49 2 #[1106, 1108, 575, 1110, 1112] #[{ accessFlags := 18, nameIndex := 13, descriptorIndex := 14, attributes := #[] }, { accessFlags := 18, nameIndex := 17, descriptorIndex := 18, attributes := #[] }, { accessFlags := 2, nameIndex := 21, descriptorIndex := 22, attributes := #[] }, { accessFlags := 2, nameIndex := 25, descriptorIndex := 26, attributes := #[] }, { accessFlags := 26, nameIndex := 1116, descriptorIndex := 1117, attributes := #[] }, { accessFlags := 24, nameIndex := 40, descriptorIndex := 26, attributes := #[] }, { accessFlags := 26, nameIndex := 1101, descriptorIndex := 1102, attributes := #[] }, { accessFlags := 26, nameIndex := 1121, descriptorIndex := 1122, attributes := #[] }, { accessFlags := 25, nameIndex := 599, descriptorIndex := 600, attributes := #[] }, { accessFlags := 24, nameIndex := 1125, descriptorIndex := 18, attributes := #[] }, { accessFlags := 24, nameIndex := 1127, descriptorIndex := 18, attributes := #[] }])
  fields := #[{ name := "value", type := (.array .byte), accessFlags := 18, slot := 0, constantValue := 0 }, { name := "coder", type := .byte, accessFlags := 18, slot := 1, constantValue := 0 }, { name := "hash", type := .int, accessFlags := 2, slot := 2, constantValue := 0 }, { name := "hashIsZero", type := .boolean, accessFlags := 2, slot := 3, constantValue := 0 }, { name := "serialVersionUID", type := .long, accessFlags := 26, slot := 0, constantValue := 0 }, { name := "COMPACT_STRINGS", type := .boolean, accessFlags := 24, slot := 1, constantValue := 0 }, { name := "serialPersistentFields", type := (.array (.object "java/io/ObjectStreamField")), accessFlags := 26, slot := 2, constantValue := 0 }, { name := "REPL", type := .char, accessFlags := 26, slot := 3, constantValue := 0 }, { name := "CASE_INSENSITIVE_ORDER", type := (.object "java/util/Comparator"), accessFlags := 25, slot := 4, constantValue := 0 }, { name := "LATIN1", type := .byte, accessFlags := 24, slot := 5, constantValue := 0 }, { name := "UTF16", type := .byte, accessFlags := 24, slot := 6, constantValue := 0 }]
  methods := #[k8m0, k8m1, k8m2, k8m3, k8m4, k8m5, k8m6, k8m7]
  instanceTypes := #[(.array .byte), .byte, .int, .boolean]
  staticTypes := #[.long, .boolean, (.array (.object "java/io/ObjectStreamField")), .char, (.object "java/util/Comparator"), .byte, .byte]
  resolved := Array.replicate 1451 none
  statics := some 0 }

def pool9 : Array CpInfo := pool [(1, .methodref 2 3), (0, .class_ 4), (0, .nameAndType 5 6), (0, u "java/lang/Object"), (0, u "<init>"), (0, u "()V"), (0, .fieldref 8 9), (0, .class_ 10), (0, .nameAndType 11 12), (0, u "com/example/uneven_ticks/uneventicks/check/DecimalText"), (0, u "text"), (0, u "Ljava/lang/String;"), (0, .fieldref 8 14), (0, .nameAndType 15 16), (0, u "point"), (0, u "I"), (0, .methodref 18 19), (0, .class_ 20), (0, .nameAndType 21 22), (0, u "java/lang/String"), (0, u "charAt"), (0, u "(I)C"), (0, .fieldref 8 24), (0, .nameAndType 25 16), (0, u "wholeStart"), (0, .methodref 18 27), (0, .nameAndType 28 29), (0, u "length"), (0, u "()I"), (0, .methodref 8 31), (0, .nameAndType 32 29), (0, u "fractionStart"), (0, .fieldref 8 34), (0, .nameAndType 35 16), (0, u "fractionEnd"), (0, .fieldref 8 37), (0, .nameAndType 38 16), (0, u "leadingFractionZeros"), (0, .fieldref 8 40), (0, .nameAndType 41 16), (0, u "sign"), (0, .string 43), (0, u "-"), (0, .methodref 18 45), (0, .nameAndType 46 47), (0, u "startsWith"), (0, u "(Ljava/lang/String;)Z"), (0, .methodref 8 49), (0, .nameAndType 50 51), (0, u "digitsEnd"), (0, u "(Ljava/lang/String;I)I"), (0, .methodref 8 53), (0, .nameAndType 5 54), (0, u "(Ljava/lang/String;II)V"), (5, u "(II)I"), (17, u "parse"), (0, u "(Ljava/lang/String;)Lcom/example/uneven_ticks/uneventicks/check/DecimalText;"), (15, .class_ 97), (1, u "java/lang/Math"), (15, .methodref 95 114), (0, .nameAndType 115 60), (0, u "min")] 34

def k9c0 : Code := { maxStack := 3, maxLocals := 7, code := prog_9_method_1_code, exceptionTable := #[], attributes := #[] }
def k9m0 : Method := { name := "<init>", desc := "(Ljava/lang/String;II)V", sig := { parameters := [(.object "java/lang/String"), .int, .int], returnType := none }, accessFlags := 2, code := some k9c0 }
def k9c1 : Code := { maxStack := 5, maxLocals := 4, code := prog_9_method_2_code, exceptionTable := #[], attributes := #[] }
def k9m1 : Method := { name := "parse", desc := "(Ljava/lang/String;)Lcom/example/uneven_ticks/uneventicks/check/DecimalText;", sig := { parameters := [(.object "java/lang/String")], returnType := some (.object "com/example/uneven_ticks/uneventicks/check/DecimalText") }, accessFlags := 8, code := some k9c1 }
def k9c2 : Code := { maxStack := 2, maxLocals := 1, code := prog_9_method_12_code, exceptionTable := #[], attributes := #[] }
def k9m2 : Method := { name := "fractionStart", desc := "()I", sig := { parameters := [], returnType := some .int }, accessFlags := 2, code := some k9c2 }
def k9c3 : Code := { maxStack := 2, maxLocals := 3, code := prog_9_method_14_code, exceptionTable := #[], attributes := #[] }
def k9m3 : Method := { name := "digitsEnd", desc := "(Ljava/lang/String;I)I", sig := { parameters := [(.object "java/lang/String"), .int], returnType := some .int }, accessFlags := 10, code := some k9c3 }
/-- com/example/uneven_ticks/uneventicks/check/DecimalText -/
def k9 : Class := { plain "com/example/uneven_ticks/uneventicks/check/DecimalText" (some 0) with
  accessFlags := 32
  interfaces := #[]
  cf := some (fileOf pool9 8 #[] #[{ accessFlags := 2, nameIndex := 5, descriptorIndex := 54, attributes := #[] }, { accessFlags := 8, nameIndex := 78, descriptorIndex := 79, attributes := #[] }, { accessFlags := 2, nameIndex := 32, descriptorIndex := 29, attributes := #[] }, { accessFlags := 10, nameIndex := 50, descriptorIndex := 51, attributes := #[] }] 32 2 #[] #[{ accessFlags := 18, nameIndex := 11, descriptorIndex := 12, attributes := #[] }, { accessFlags := 18, nameIndex := 41, descriptorIndex := 16, attributes := #[] }, { accessFlags := 18, nameIndex := 25, descriptorIndex := 16, attributes := #[] }, { accessFlags := 18, nameIndex := 15, descriptorIndex := 16, attributes := #[] }, { accessFlags := 18, nameIndex := 35, descriptorIndex := 16, attributes := #[] }, { accessFlags := 18, nameIndex := 38, descriptorIndex := 16, attributes := #[] }])
  fields := #[{ name := "text", type := (.object "java/lang/String"), accessFlags := 18, slot := 0, constantValue := 0 }, { name := "sign", type := .int, accessFlags := 18, slot := 1, constantValue := 0 }, { name := "wholeStart", type := .int, accessFlags := 18, slot := 2, constantValue := 0 }, { name := "point", type := .int, accessFlags := 18, slot := 3, constantValue := 0 }, { name := "fractionEnd", type := .int, accessFlags := 18, slot := 4, constantValue := 0 }, { name := "leadingFractionZeros", type := .int, accessFlags := 18, slot := 5, constantValue := 0 }]
  methods := #[k9m0, k9m1, k9m2, k9m3]
  instanceTypes := #[(.object "java/lang/String"), .int, .int, .int, .int, .int]
  staticTypes := #[]
  resolved := Array.replicate 150 none
  statics := none }

def pool10 : Array CpInfo := pool [(9, u "<init>"), (6, .class_ 18), (1, u "java/lang/Object"), (0, u "()V"), (1, .class_ 23), (1, u "jdk/internal/util/ArraysSupport"), (0, u "LOG2_ARRAY_LONG_INDEX_SCALE"), (0, u "I"), (2, u "U"), (0, u "Ljdk/internal/misc/Unsafe;"), (8, u "BIG_ENDIAN"), (0, u "Z"), (8, u "LOG2_BYTE_BIT_SIZE"), (4, u "LOG2_ARRAY_INT_INDEX_SCALE"), (54, u "JLA"), (0, u "Ljdk/internal/access/JavaLangAccess;"), (11, u "LOG2_ARRAY_BOOLEAN_INDEX_SCALE"), (9, u "LOG2_ARRAY_BYTE_INDEX_SCALE"), (5, u "LOG2_ARRAY_CHAR_INDEX_SCALE"), (5, u "LOG2_ARRAY_SHORT_INDEX_SCALE"), (5, u "mismatch"), (12, u "LOG2_ARRAY_FLOAT_INDEX_SCALE"), (24, u "LOG2_ARRAY_DOUBLE_INDEX_SCALE"), (89, u "T_BOOLEAN"), (2, u "T_CHAR"), (1, u "T_FLOAT"), (1, u "T_DOUBLE"), (1, u "T_BYTE"), (1, u "T_SHORT"), (1, u "T_INT"), (1, u "T_LONG"), (1, u "SOFT_MAX_ARRAY_LENGTH"), (42, u "([BI[BII)I")] 40

def k10m0 : Method := { name := "<init>", desc := "()V", sig := { parameters := [], returnType := none }, accessFlags := 2, code := none }
def k10c1 : Code := { maxStack := 8, maxLocals := 8, code := jdk_48_method_14_code, exceptionTable := #[], attributes := #[] }
def k10m1 : Method := { name := "mismatch", desc := "([BI[BII)I", sig := { parameters := [(.array .byte), .int, (.array .byte), .int, .int], returnType := some .int }, accessFlags := 9, code := some k10c1 }
/-- jdk/internal/util/ArraysSupport -/
def k10 : Class := { plain "jdk/internal/util/ArraysSupport" (some 0) with
  accessFlags := 33
  interfaces := #[]
  cf := some (fileOf pool10 21 #[] #[{ accessFlags := 2, nameIndex := 9, descriptorIndex := 19, attributes := #[] }, { accessFlags := 9, nameIndex := 149, descriptorIndex := 337, attributes := #[] }] 33 16 #[] #[{ accessFlags := 24, nameIndex := 28, descriptorIndex := 29, attributes := #[] }, { accessFlags := 26, nameIndex := 38, descriptorIndex := 39, attributes := #[] }, { accessFlags := 25, nameIndex := 121, descriptorIndex := 25, attributes := #[] }, { accessFlags := 25, nameIndex := 131, descriptorIndex := 25, attributes := #[] }, { accessFlags := 25, nameIndex := 137, descriptorIndex := 25, attributes := #[] }, { accessFlags := 25, nameIndex := 143, descriptorIndex := 25, attributes := #[] }, { accessFlags := 25, nameIndex := 53, descriptorIndex := 25, attributes := #[] }, { accessFlags := 25, nameIndex := 24, descriptorIndex := 25, attributes := #[] }, { accessFlags := 25, nameIndex := 162, descriptorIndex := 25, attributes := #[] }, { accessFlags := 25, nameIndex := 187, descriptorIndex := 25, attributes := #[] }, { accessFlags := 26, nameIndex := 48, descriptorIndex := 25, attributes := #[] }, { accessFlags := 25, nameIndex := 277, descriptorIndex := 25, attributes := #[] }, { accessFlags := 25, nameIndex := 280, descriptorIndex := 25, attributes := #[] }, { accessFlags := 25, nameIndex := 282, descriptorIndex := 25, attributes := #[] }, { accessFlags := 25, nameIndex := 284, descriptorIndex := 25, attributes := #[] }, { accessFlags := 25, nameIndex := 286, descriptorIndex := 25, attributes := #[] }, { accessFlags := 25, nameIndex := 288, descriptorIndex := 25, attributes := #[] }, { accessFlags := 25, nameIndex := 290, descriptorIndex := 25, attributes := #[] }, { accessFlags := 25, nameIndex := 292, descriptorIndex := 25, attributes := #[] }, { accessFlags := 26, nameIndex := 108, descriptorIndex := 109, attributes := #[] }, { accessFlags := 25, nameIndex := 294, descriptorIndex := 25, attributes := #[] }])
  fields := #[{ name := "U", type := (.object "jdk/internal/misc/Unsafe"), accessFlags := 24, slot := 0, constantValue := 0 }, { name := "BIG_ENDIAN", type := .boolean, accessFlags := 26, slot := 1, constantValue := 0 }, { name := "LOG2_ARRAY_BOOLEAN_INDEX_SCALE", type := .int, accessFlags := 25, slot := 2, constantValue := 0 }, { name := "LOG2_ARRAY_BYTE_INDEX_SCALE", type := .int, accessFlags := 25, slot := 3, constantValue := 0 }, { name := "LOG2_ARRAY_CHAR_INDEX_SCALE", type := .int, accessFlags := 25, slot := 4, constantValue := 0 }, { name := "LOG2_ARRAY_SHORT_INDEX_SCALE", type := .int, accessFlags := 25, slot := 5, constantValue := 0 }, { name := "LOG2_ARRAY_INT_INDEX_SCALE", type := .int, accessFlags := 25, slot := 6, constantValue := 0 }, { name := "LOG2_ARRAY_LONG_INDEX_SCALE", type := .int, accessFlags := 25, slot := 7, constantValue := 0 }, { name := "LOG2_ARRAY_FLOAT_INDEX_SCALE", type := .int, accessFlags := 25, slot := 8, constantValue := 0 }, { name := "LOG2_ARRAY_DOUBLE_INDEX_SCALE", type := .int, accessFlags := 25, slot := 9, constantValue := 0 }, { name := "LOG2_BYTE_BIT_SIZE", type := .int, accessFlags := 26, slot := 10, constantValue := 0 }, { name := "T_BOOLEAN", type := .int, accessFlags := 25, slot := 11, constantValue := 0 }, { name := "T_CHAR", type := .int, accessFlags := 25, slot := 12, constantValue := 0 }, { name := "T_FLOAT", type := .int, accessFlags := 25, slot := 13, constantValue := 0 }, { name := "T_DOUBLE", type := .int, accessFlags := 25, slot := 14, constantValue := 0 }, { name := "T_BYTE", type := .int, accessFlags := 25, slot := 15, constantValue := 0 }, { name := "T_SHORT", type := .int, accessFlags := 25, slot := 16, constantValue := 0 }, { name := "T_INT", type := .int, accessFlags := 25, slot := 17, constantValue := 0 }, { name := "T_LONG", type := .int, accessFlags := 25, slot := 18, constantValue := 0 }, { name := "JLA", type := (.object "jdk/internal/access/JavaLangAccess"), accessFlags := 26, slot := 19, constantValue := 0 }, { name := "SOFT_MAX_ARRAY_LENGTH", type := .int, accessFlags := 25, slot := 20, constantValue := 0 }]
  methods := #[k10m0, k10m1]
  instanceTypes := #[]
  staticTypes := #[(.object "jdk/internal/misc/Unsafe"), .boolean, .int, .int, .int, .int, .int, .int, .int, .int, .int, .int, .int, .int, .int, .int, .int, .int, .int, (.object "jdk/internal/access/JavaLangAccess"), .int]
  resolved := Array.replicate 378 none
  statics := none }

def pool11 : Array CpInfo := pool [(1, .class_ 2), (0, u "java/lang/String"), (1, .class_ 6), (1, u "java/lang/Object"), (0, u "<init>"), (0, u "()V"), (0, .methodref 1 10), (0, .nameAndType 11 12), (0, u "checkIndex"), (0, u "(II)V"), (1, .class_ 16), (1, u "java/lang/StringLatin1"), (36, u "([BI)C"), (67, u "$assertionsDisabled"), (0, u "Z"), (98, .class_ 223), (1, u "java/lang/StringLatin1$LinesSpliterator"), (28, u "charAt"), (137, .class_ 391), (0, u "java/lang/StringLatin1$CharsSpliterator")] 3

def k11m0 : Method := { name := "<init>", desc := "()V", sig := { parameters := [], returnType := none }, accessFlags := 0, code := none }
def k11c1 : Code := { maxStack := 2, maxLocals := 2, code := jdk_43_method_2_code, exceptionTable := #[], attributes := #[] }
def k11m1 : Method := { name := "charAt", desc := "([BI)C", sig := { parameters := [(.array .byte), .int], returnType := some .char }, accessFlags := 9, code := some k11c1 }
/-- java/lang/StringLatin1 -/
def k11 : Class := { plain "java/lang/StringLatin1" (some 0) with
  accessFlags := 48
  interfaces := #[]
  cf := some (fileOf pool11 14 #[.nestMembers #[390, 221]] #[{ accessFlags := 0, nameIndex := 7, descriptorIndex := 8, attributes := #[] }, { accessFlags := 9, nameIndex := 252, descriptorIndex := 53, attributes := #[] }] 48 4 #[] #[{ accessFlags := 4120, nameIndex := 121, descriptorIndex := 122, attributes := #[] }])
  fields := #[{ name := "$assertionsDisabled", type := .boolean, accessFlags := 4120, slot := 0, constantValue := 0 }]
  methods := #[k11m0, k11m1]
  instanceTypes := #[]
  staticTypes := #[.boolean]
  resolved := Array.replicate 395 none
  statics := none }

def pool12 : Array CpInfo := pool [(2, .class_ 4), (1, u "java/lang/Object"), (0, u "<init>"), (0, u "()V"), (17, .class_ 26), (1, u "jdk/internal/util/Preconditions"), (6, u "checkIndex"), (21, .class_ 56), (0, u "jdk/internal/util/Preconditions$4"), (57, .class_ 115), (0, u "jdk/internal/util/Preconditions$1"), (7, u "SIOOBE_FORMATTER"), (0, u "Ljava/util/function/BiFunction;"), (0, .class_ 126), (0, u "jdk/internal/util/Preconditions$2"), (3, u "AIOOBE_FORMATTER"), (0, .class_ 132), (0, u "jdk/internal/util/Preconditions$3"), (3, u "IOOBE_FORMATTER"), (41, u "(IILjava/util/function/BiFunction;)I")] 15

def k12m0 : Method := { name := "<init>", desc := "()V", sig := { parameters := [], returnType := none }, accessFlags := 1, code := none }
def k12c1 : Code := { maxStack := 3, maxLocals := 3, code := jdk_41_method_11_code, exceptionTable := #[], attributes := #[] }
def k12m1 : Method := { name := "checkIndex", desc := "(IILjava/util/function/BiFunction;)I", sig := { parameters := [.int, .int, (.object "java/util/function/BiFunction")], returnType := some .int }, accessFlags := 9, code := some k12c1 }
/-- jdk/internal/util/Preconditions -/
def k12 : Class := { plain "jdk/internal/util/Preconditions" (some 0) with
  accessFlags := 33
  interfaces := #[]
  cf := some (fileOf pool12 24 #[.nestMembers #[55, 131, 125, 114]] #[{ accessFlags := 1, nameIndex := 5, descriptorIndex := 6, attributes := #[] }, { accessFlags := 9, nameIndex := 33, descriptorIndex := 178, attributes := #[] }] 33 2 #[] #[{ accessFlags := 25, nameIndex := 123, descriptorIndex := 124, attributes := #[] }, { accessFlags := 25, nameIndex := 130, descriptorIndex := 124, attributes := #[] }, { accessFlags := 25, nameIndex := 136, descriptorIndex := 124, attributes := #[] }])
  fields := #[{ name := "SIOOBE_FORMATTER", type := (.object "java/util/function/BiFunction"), accessFlags := 25, slot := 0, constantValue := 0 }, { name := "AIOOBE_FORMATTER", type := (.object "java/util/function/BiFunction"), accessFlags := 25, slot := 1, constantValue := 0 }, { name := "IOOBE_FORMATTER", type := (.object "java/util/function/BiFunction"), accessFlags := 25, slot := 2, constantValue := 0 }]
  methods := #[k12m0, k12m1]
  instanceTypes := #[]
  staticTypes := #[(.object "java/util/function/BiFunction"), (.object "java/util/function/BiFunction"), (.object "java/util/function/BiFunction")]
  resolved := Array.replicate 194 none
  statics := some 1 }

def pool13 : Array CpInfo := pool [(1, .class_ 2), (0, u "java/lang/Math"), (1, .class_ 6), (1, u "java/lang/Object"), (0, u "<init>"), (0, u "()V"), (89, .class_ 100), (1, u "java/lang/Math$RandomNumberGeneratorHolder"), (71, u "negativeZeroFloatBits"), (0, u "J"), (2, u "negativeZeroDoubleBits"), (24, u "min"), (43, u "$assertionsDisabled"), (0, u "Z"), (88, u "(II)I"), (2, u "twoToTheDoubleScaleDown"), (0, u "D"), (4, u "twoToTheDoubleScaleUp"), (9, u "E"), (3, u "PI"), (2, u "TAU"), (2, u "DEGREES_TO_RADIANS"), (0, u "RADIANS_TO_DEGREES")] 94

def k13m0 : Method := { name := "<init>", desc := "()V", sig := { parameters := [], returnType := none }, accessFlags := 2, code := none }
def k13c1 : Code := { maxStack := 2, maxLocals := 2, code := jdk_29_method_69_code, exceptionTable := #[], attributes := #[] }
def k13m1 : Method := { name := "min", desc := "(II)I", sig := { parameters := [.int, .int], returnType := some .int }, accessFlags := 9, code := some k13c1 }
/-- java/lang/Math -/
def k13 : Class := { plain "java/lang/Math" (some 0) with
  accessFlags := 49
  interfaces := #[]
  cf := some (fileOf pool13 1 #[.nestMembers #[98]] #[{ accessFlags := 2, nameIndex := 7, descriptorIndex := 8, attributes := #[] }, { accessFlags := 9, nameIndex := 201, descriptorIndex := 335, attributes := #[] }] 49 4 #[] #[{ accessFlags := 25, nameIndex := 354, descriptorIndex := 339, attributes := #[] }, { accessFlags := 25, nameIndex := 358, descriptorIndex := 339, attributes := #[] }, { accessFlags := 25, nameIndex := 361, descriptorIndex := 339, attributes := #[] }, { accessFlags := 26, nameIndex := 364, descriptorIndex := 339, attributes := #[] }, { accessFlags := 26, nameIndex := 365, descriptorIndex := 339, attributes := #[] }, { accessFlags := 26, nameIndex := 172, descriptorIndex := 173, attributes := #[] }, { accessFlags := 26, nameIndex := 176, descriptorIndex := 173, attributes := #[] }, { accessFlags := 8, nameIndex := 344, descriptorIndex := 339, attributes := #[] }, { accessFlags := 8, nameIndex := 338, descriptorIndex := 339, attributes := #[] }, { accessFlags := 4120, nameIndex := 245, descriptorIndex := 246, attributes := #[] }])
  fields := #[{ name := "E", type := .double, accessFlags := 25, slot := 0, constantValue := 0 }, { name := "PI", type := .double, accessFlags := 25, slot := 1, constantValue := 0 }, { name := "TAU", type := .double, accessFlags := 25, slot := 2, constantValue := 0 }, { name := "DEGREES_TO_RADIANS", type := .double, accessFlags := 26, slot := 3, constantValue := 0 }, { name := "RADIANS_TO_DEGREES", type := .double, accessFlags := 26, slot := 4, constantValue := 0 }, { name := "negativeZeroFloatBits", type := .long, accessFlags := 26, slot := 5, constantValue := 0 }, { name := "negativeZeroDoubleBits", type := .long, accessFlags := 26, slot := 6, constantValue := 0 }, { name := "twoToTheDoubleScaleUp", type := .double, accessFlags := 8, slot := 7, constantValue := 0 }, { name := "twoToTheDoubleScaleDown", type := .double, accessFlags := 8, slot := 8, constantValue := 0 }, { name := "$assertionsDisabled", type := .boolean, accessFlags := 4120, slot := 9, constantValue := 0 }]
  methods := #[k13m0, k13m1]
  instanceTypes := #[]
  staticTypes := #[.double, .double, .double, .double, .double, .long, .long, .double, .double, .boolean]
  resolved := Array.replicate 460 none
  statics := none }

def pool14 : Array CpInfo := pool [(1, .methodref 2 3), (0, .class_ 4), (0, .nameAndType 5 6), (0, u "java/lang/Object"), (0, u "<init>"), (0, u "()V"), (0, .fieldref 8 9), (0, .class_ 10), (0, .nameAndType 11 12), (0, u "com/example/uneven_ticks/uneventicks/check/Occurrences"), (0, u "boundEvent"), (0, u "I"), (0, .class_ 14), (0, u "com/example/uneven_ticks/uneventicks/check/TraceEvent"), (0, .fieldref 8 16), (0, .nameAndType 17 18), (0, u "latest"), (0, u "[Lcom/example/uneven_ticks/uneventicks/check/TraceEvent;"), (0, .fieldref 8 20), (0, .nameAndType 21 18), (0, u "previous"), (0, .fieldref 8 23), (0, .nameAndType 24 25), (0, u "bound"), (0, u "Lcom/example/uneven_ticks/uneventicks/check/TraceEvent;"), (0, u "(I)V"), (2, u "occur"), (0, u "(ILcom/example/uneven_ticks/uneventicks/check/TraceEvent;)V"), (0, u "get"), (0, u "(IZ)Lcom/example/uneven_ticks/uneventicks/check/TraceEvent;"), (1, u "bind"), (0, u "unbind")] 2

def k14c0 : Code := { maxStack := 2, maxLocals := 2, code := prog_18_method_1_code, exceptionTable := #[], attributes := #[] }
def k14m0 : Method := { name := "<init>", desc := "(I)V", sig := { parameters := [.int], returnType := none }, accessFlags := 0, code := some k14c0 }
def k14c1 : Code := { maxStack := 4, maxLocals := 3, code := prog_18_method_2_code, exceptionTable := #[], attributes := #[] }
def k14m1 : Method := { name := "occur", desc := "(ILcom/example/uneven_ticks/uneventicks/check/TraceEvent;)V", sig := { parameters := [.int, (.object "com/example/uneven_ticks/uneventicks/check/TraceEvent")], returnType := none }, accessFlags := 0, code := some k14c1 }
def k14c2 : Code := { maxStack := 2, maxLocals := 4, code := prog_18_method_3_code, exceptionTable := #[], attributes := #[] }
def k14m2 : Method := { name := "get", desc := "(IZ)Lcom/example/uneven_ticks/uneventicks/check/TraceEvent;", sig := { parameters := [.int, .boolean], returnType := some (.object "com/example/uneven_ticks/uneventicks/check/TraceEvent") }, accessFlags := 0, code := some k14c2 }
def k14c3 : Code := { maxStack := 2, maxLocals := 3, code := prog_18_method_4_code, exceptionTable := #[], attributes := #[] }
def k14m3 : Method := { name := "bind", desc := "(ILcom/example/uneven_ticks/uneventicks/check/TraceEvent;)V", sig := { parameters := [.int, (.object "com/example/uneven_ticks/uneventicks/check/TraceEvent")], returnType := none }, accessFlags := 0, code := some k14c3 }
def k14c4 : Code := { maxStack := 2, maxLocals := 1, code := prog_18_method_5_code, exceptionTable := #[], attributes := #[] }
def k14m4 : Method := { name := "unbind", desc := "()V", sig := { parameters := [], returnType := none }, accessFlags := 0, code := some k14c4 }
/-- com/example/uneven_ticks/uneventicks/check/Occurrences -/
def k14 : Class := { plain "com/example/uneven_ticks/uneventicks/check/Occurrences" (some 0) with
  accessFlags := 32
  interfaces := #[]
  cf := some (fileOf pool14 8 #[] #[{ accessFlags := 0, nameIndex := 5, descriptorIndex := 26, attributes := #[] }, { accessFlags := 0, nameIndex := 29, descriptorIndex := 30, attributes := #[] }, { accessFlags := 0, nameIndex := 31, descriptorIndex := 32, attributes := #[] }, { accessFlags := 0, nameIndex := 34, descriptorIndex := 30, attributes := #[] }, { accessFlags := 0, nameIndex := 35, descriptorIndex := 6, attributes := #[] }] 32 2 #[] #[{ accessFlags := 18, nameIndex := 17, descriptorIndex := 18, attributes := #[] }, { accessFlags := 18, nameIndex := 21, descriptorIndex := 18, attributes := #[] }, { accessFlags := 2, nameIndex := 11, descriptorIndex := 12, attributes := #[] }, { accessFlags := 2, nameIndex := 24, descriptorIndex := 25, attributes := #[] }])
  fields := #[{ name := "latest", type := (.array (.object "com/example/uneven_ticks/uneventicks/check/TraceEvent")), accessFlags := 18, slot := 0, constantValue := 0 }, { name := "previous", type := (.array (.object "com/example/uneven_ticks/uneventicks/check/TraceEvent")), accessFlags := 18, slot := 1, constantValue := 0 }, { name := "boundEvent", type := .int, accessFlags := 2, slot := 2, constantValue := 0 }, { name := "bound", type := (.object "com/example/uneven_ticks/uneventicks/check/TraceEvent"), accessFlags := 2, slot := 3, constantValue := 0 }]
  methods := #[k14m0, k14m1, k14m2, k14m3, k14m4]
  instanceTypes := #[(.array (.object "com/example/uneven_ticks/uneventicks/check/TraceEvent")), (.array (.object "com/example/uneven_ticks/uneventicks/check/TraceEvent")), .int, (.object "com/example/uneven_ticks/uneventicks/check/TraceEvent")]
  staticTypes := #[]
  resolved := Array.replicate 38 none
  statics := none }

def pool15 : Array CpInfo := pool [(1, u "java/lang/Cloneable"), (0, .class_ 1), (0, u "java/lang/Object"), (0, .class_ 3)] 3

/-- java/lang/Cloneable -/
def k15 : Class := { plain "java/lang/Cloneable" (some 0) with
  accessFlags := 1537
  interfaces := #[]
  cf := some (fileOf pool15 2 #[] #[] 1537 4 #[] #[])
  fields := #[]
  methods := #[]
  instanceTypes := #[]
  staticTypes := #[]
  resolved := Array.replicate 8 none
  statics := none }

/-- the primitive byte -/
def k16 : Class := { plain "byte" none with kind := .primitive 'B', accessFlags := 0x411 }
/-- [B -/
def k17 : Class := { plain "[B" (some 0) with kind := .array 16 .byte, interfaces := #[15, 3], accessFlags := 1041 }

/-- the primitive int -/
def k18 : Class := { plain "int" none with kind := .primitive 'I', accessFlags := 0x411 }
/-- [I -/
def k19 : Class := { plain "[I" (some 0) with kind := .array 18 .int, interfaces := #[15, 3], accessFlags := 1041 }

/-- [Lcom/example/uneven_ticks/uneventicks/check/TraceEvent; -/
def k20 : Class := { plain "[Lcom/example/uneven_ticks/uneventicks/check/TraceEvent;" (some 0) with kind := .array 2 (.object "com/example/uneven_ticks/uneventicks/check/TraceEvent"), interfaces := #[15, 3], accessFlags := 1041 }

def heap : Heap := #[{ cls := 8, slots := #[.long 0, .int 1, .null, .int 0, .null, .int 0, .int 0], vm := .statics 8 },
  { cls := 12, slots := #[.null, .null, .null], vm := .statics 12 }]
def classes : Array Class := #[k0, k1, k2, k3, k4, k5, k6, k7, k8, k9, k10, k11, k12, k13, k14, k15, k16, k17, k18, k19, k20]
def interned : List (Array UInt16 × Addr) := []
def slotsUsed : Nat := 10
def theMethod : MethodId := ⟨1, 1⟩
def args0 : Array Value := #[.int 5, .int 5, .int 5, .int 5, .int 5, .int 5]
def aboutOver (below : List Frame) : State where
  vm := { classes := classes, interned := interned.toArray }
  heap := heap
  slotsUsed := slotsUsed
  threads := #[{ frames := .invoking theMethod args0 :: below }]
def below0 : List Frame := [.native { method := ⟨0, 0⟩, args := #[] }]
def about1 : State := aboutOver below0
def p0 : Program := .bare "" "" ""
def e0 : Env := launch0.env 0 0 0
theorem w_frames : about1.frames = Frame.invoking theMethod args0 :: below0 := rfl
set_option maxRecDepth 65536 in
theorem w_args : argsFit about1.vm theMethod args0 = true := by decide +kernel
set_option maxRecDepth 65536 in
theorem w_heap : heapFits about1 = true := by decide +kernel
set_option maxRecDepth 65536 in
theorem w_runnable : about1.curStatus? = some .runnable := by decide +kernel
set_option maxRecDepth 65536 in
theorem w_alone : about1.alone = true := by decide +kernel
set_option maxRecDepth 65536 in
theorem w_named : about1.methodNamed? x = some theMethod := by decide +kernel
set_option maxRecDepth 65536 in
theorem w_hears : about1.hears theMethod below0 = true := by decide +kernel
set_option maxRecDepth 65536 in
theorem w_ripe : about1.ripe theMethod args0 below0 = true := by decide +kernel
theorem w_running : about1.status = .running := rfl
set_option maxRecDepth 65536 in
theorem w_room : about1.hasRoom e0.platform room_1 = true :=
  launch0.hasRoom_least _ room_1 (by decide +kernel) (by decide +kernel) (by decide +kernel) (by decide +kernel) (by decide +kernel) (by decide +kernel)
theorem allAtoms_all (ts : List Jvm.Cond) (a : Array Jvm.Value) (st : Jvm.State) : (allAtoms ts).before a st = ts.all (fun c => c.before a st) := by
  induction ts with
  | nil => rfl
  | cons c t ih =>
    show (Jvm.Cond.and c (allAtoms t)).before a st = _
    rw [Jvm.Cond.before_and, ih, List.all_cons]
def words1 : List Jvm.Cond := Jvm.Cond.code x code maxLocals ret :: tables_1
/-- a 'code' word, met by the world's own term for the bytes: nothing is compared byte by byte -/
theorem code_word {y : MethodName} {bytes : ByteArray} {mx : Nat} {rt : Option FieldType} {a : Array Value} {s : State} {m : MethodId} {meth : Method} {c : Code} (h1 : s.methodNamed? y = some m) (h2 : s.vm.method? m = some meth) (h3 : meth.code = some c) (h4 : c.code = bytes)
    (h5 : (c.maxLocals == mx && c.exceptionTable.isEmpty && decide (c.maxStack ≤ mostOperands) && decide (meth.sig.returnType = rt) && !meth.locks && decide (parseMethodDescriptor y.desc = some meth.sig)) = true) : (Jvm.Cond.code y bytes mx rt).before a s = true := by
  simp only [Bool.and_eq_true, beq_iff_eq, Bool.not_eq_true', decide_eq_true_eq] at h5
  obtain ⟨⟨⟨⟨⟨g1, g2⟩, g3⟩, g4⟩, g5⟩, g6⟩ := h5
  simp [Cond.before, Cond.holds, Cond.value, h1, h2, h3, h4, g1, g2, g3, g4, g5, g6]
def isCode : Jvm.Cond → Bool
  | .code _ _ _ _ => true
  | _ => false
theorem all_split {L : List Jvm.Cond} {P : Jvm.Cond → Bool} (h1 : L.all (fun c => isCode c || P c) = true) (h2 : ∀ c ∈ L.filter isCode, P c = true) : L.all P = true := by
  refine List.all_eq_true.mpr fun c hc => ?_
  have h := List.all_eq_true.mp h1 c hc
  rcases Bool.eq_false_or_eq_true (isCode c) with hi | hi
  · exact h2 c (List.mem_filter.mpr ⟨hc, hi⟩)
  · simpa [hi] using h
set_option maxRecDepth 65536 in
theorem w_c0 : (Jvm.Cond.code x code maxLocals ret).before args0 about1 = true := code_word (m := ⟨1, 1⟩) (meth := k1m1) (c := k1c1) (by decide +kernel) rfl rfl rfl (by decide +kernel)
set_option maxRecDepth 65536 in
theorem w_c1 : (Jvm.Cond.code ({ cls := "com/example/uneven_ticks/uneventicks/check/TraceEvent", name := "<init>", desc := "(Ljava/lang/String;Ljava/lang/String;Ljava/lang/String;[II)V" } : Jvm.MethodName) prog_24_method_3_code (6 : Nat) (Option.none : Option Jvm.ClassFile.FieldType)).before args0 about1 = true := code_word (m := ⟨2, 0⟩) (meth := k2m0) (c := k2c0) (by decide +kernel) rfl rfl rfl (by decide +kernel)
set_option maxRecDepth 65536 in
theorem w_c2 : (Jvm.Cond.code ({ cls := "java/lang/Object", name := "<init>", desc := "()V" } : Jvm.MethodName) object_method_1_code (1 : Nat) (Option.none : Option Jvm.ClassFile.FieldType)).before args0 about1 = true := code_word (m := ⟨0, 0⟩) (meth := k0m0) (c := k0c0) (by decide +kernel) rfl rfl rfl (by decide +kernel)
set_option maxRecDepth 65536 in
theorem w_c3 : (Jvm.Cond.code ({ cls := "com/example/uneven_ticks/uneventicks/check/DecimalText", name := "parse", desc := "(Ljava/lang/String;)Lcom/example/uneven_ticks/uneventicks/check/DecimalText;" } : Jvm.MethodName) prog_9_method_2_code (4 : Nat) (Option.some (Jvm.ClassFile.FieldType.object "com/example/uneven_ticks/uneventicks/check/DecimalText"))).before args0 about1 = true := code_word (m := ⟨9, 1⟩) (meth := k9m1) (c := k9c1) (by decide +kernel) rfl rfl rfl (by decide +kernel)
set_option maxRecDepth 65536 in
theorem w_c4 : (Jvm.Cond.code ({ cls := "java/lang/String", name := "startsWith", desc := "(Ljava/lang/String;)Z" } : Jvm.MethodName) jdk_42_method_76_code (2 : Nat) (Option.some Jvm.ClassFile.FieldType.boolean)).before args0 about1 = true := code_word (m := ⟨8, 4⟩) (meth := k8m4) (c := k8c4) (by decide +kernel) rfl rfl rfl (by decide +kernel)
set_option maxRecDepth 65536 in
theorem w_c5 : (Jvm.Cond.code ({ cls := "java/lang/String", name := "startsWith", desc := "(Ljava/lang/String;I)Z" } : Jvm.MethodName) jdk_42_method_75_code (8 : Nat) (Option.some Jvm.ClassFile.FieldType.boolean)).before args0 about1 = true := code_word (m := ⟨8, 3⟩) (meth := k8m3) (c := k8c3) (by decide +kernel) rfl rfl rfl (by decide +kernel)
set_option maxRecDepth 65536 in
theorem w_c6 : (Jvm.Cond.code ({ cls := "java/lang/String", name := "length", desc := "()I" } : Jvm.MethodName) jdk_42_method_54_code (1 : Nat) (Option.some Jvm.ClassFile.FieldType.int)).before args0 about1 = true := code_word (m := ⟨8, 1⟩) (meth := k8m1) (c := k8c1) (by decide +kernel) rfl rfl rfl (by decide +kernel)
set_option maxRecDepth 65536 in
theorem w_c7 : (Jvm.Cond.code ({ cls := "java/lang/String", name := "coder", desc := "()B" } : Jvm.MethodName) jdk_42_method_152_code (1 : Nat) (Option.some Jvm.ClassFile.FieldType.byte)).before args0 about1 = true := code_word (m := ⟨8, 5⟩) (meth := k8m5) (c := k8c5) (by decide +kernel) rfl rfl rfl (by decide +kernel)
set_option maxRecDepth 65536 in
theorem w_c8 : (Jvm.Cond.code ({ cls := "jdk/internal/util/ArraysSupport", name := "mismatch", desc := "([BI[BII)I" } : Jvm.MethodName) jdk_48_method_14_code (8 : Nat) (Option.some Jvm.ClassFile.FieldType.int)).before args0 about1 = true := code_word (m := ⟨10, 1⟩) (meth := k10m1) (c := k10c1) (by decide +kernel) rfl rfl rfl (by decide +kernel)
set_option maxRecDepth 65536 in
theorem w_c9 : (Jvm.Cond.code ({ cls := "com/example/uneven_ticks/uneventicks/check/DecimalText", name := "digitsEnd", desc := "(Ljava/lang/String;I)I" } : Jvm.MethodName) prog_9_method_14_code (3 : Nat) (Option.some Jvm.ClassFile.FieldType.int)).before args0 about1 = true := code_word (m := ⟨9, 3⟩) (meth := k9m3) (c := k9c3) (by decide +kernel) rfl rfl rfl (by decide +kernel)
set_option maxRecDepth 65536 in
theorem w_c10 : (Jvm.Cond.code ({ cls := "java/lang/String", name := "charAt", desc := "(I)C" } : Jvm.MethodName) jdk_42_method_56_code (2 : Nat) (Option.some Jvm.ClassFile.FieldType.char)).before args0 about1 = true := code_word (m := ⟨8, 2⟩) (meth := k8m2) (c := k8c2) (by decide +kernel) rfl rfl rfl (by decide +kernel)
set_option maxRecDepth 65536 in
theorem w_c11 : (Jvm.Cond.code ({ cls := "java/lang/String", name := "isLatin1", desc := "()Z" } : Jvm.MethodName) jdk_42_method_154_code (1 : Nat) (Option.some Jvm.ClassFile.FieldType.boolean)).before args0 about1 = true := code_word (m := ⟨8, 6⟩) (meth := k8m6) (c := k8c6) (by decide +kernel) rfl rfl rfl (by decide +kernel)
set_option maxRecDepth 65536 in
theorem w_c12 : (Jvm.Cond.code ({ cls := "java/lang/StringLatin1", name := "charAt", desc := "([BI)C" } : Jvm.MethodName) jdk_43_method_2_code (2 : Nat) (Option.some Jvm.ClassFile.FieldType.char)).before args0 about1 = true := code_word (m := ⟨11, 1⟩) (meth := k11m1) (c := k11c1) (by decide +kernel) rfl rfl rfl (by decide +kernel)
set_option maxRecDepth 65536 in
theorem w_c13 : (Jvm.Cond.code ({ cls := "java/lang/String", name := "checkIndex", desc := "(II)V" } : Jvm.MethodName) jdk_42_method_155_code (2 : Nat) (Option.none : Option Jvm.ClassFile.FieldType)).before args0 about1 = true := code_word (m := ⟨8, 7⟩) (meth := k8m7) (c := k8c7) (by decide +kernel) rfl rfl rfl (by decide +kernel)
set_option maxRecDepth 65536 in
theorem w_c14 : (Jvm.Cond.code ({ cls := "jdk/internal/util/Preconditions", name := "checkIndex", desc := "(IILjava/util/function/BiFunction;)I" } : Jvm.MethodName) jdk_41_method_11_code (3 : Nat) (Option.some Jvm.ClassFile.FieldType.int)).before args0 about1 = true := code_word (m := ⟨12, 1⟩) (meth := k12m1) (c := k12c1) (by decide +kernel) rfl rfl rfl (by decide +kernel)
set_option maxRecDepth 65536 in
theorem w_c15 : (Jvm.Cond.code ({ cls := "com/example/uneven_ticks/uneventicks/check/DecimalText", name := "<init>", desc := "(Ljava/lang/String;II)V" } : Jvm.MethodName) prog_9_method_1_code (7 : Nat) (Option.none : Option Jvm.ClassFile.FieldType)).before args0 about1 = true := code_word (m := ⟨9, 0⟩) (meth := k9m0) (c := k9c0) (by decide +kernel) rfl rfl rfl (by decide +kernel)
set_option maxRecDepth 65536 in
theorem w_c16 : (Jvm.Cond.code ({ cls := "com/example/uneven_ticks/uneventicks/check/DecimalText", name := "fractionStart", desc := "()I" } : Jvm.MethodName) prog_9_method_12_code (1 : Nat) (Option.some Jvm.ClassFile.FieldType.int)).before args0 about1 = true := code_word (m := ⟨9, 2⟩) (meth := k9m2) (c := k9c2) (by decide +kernel) rfl rfl rfl (by decide +kernel)
set_option maxRecDepth 65536 in
theorem w_c17 : (Jvm.Cond.code ({ cls := "java/lang/Math", name := "min", desc := "(II)I" } : Jvm.MethodName) jdk_29_method_69_code (2 : Nat) (Option.some Jvm.ClassFile.FieldType.int)).before args0 about1 = true := code_word (m := ⟨13, 1⟩) (meth := k13m1) (c := k13c1) (by decide +kernel) rfl rfl rfl (by decide +kernel)
set_option maxRecDepth 65536 in
theorem w_c18 : (Jvm.Cond.code ({ cls := "com/example/uneven_ticks/uneventicks/check/Occurrences", name := "<init>", desc := "(I)V" } : Jvm.MethodName) prog_18_method_1_code (2 : Nat) (Option.none : Option Jvm.ClassFile.FieldType)).before args0 about1 = true := code_word (m := ⟨14, 0⟩) (meth := k14m0) (c := k14c0) (by decide +kernel) rfl rfl rfl (by decide +kernel)
set_option maxRecDepth 65536 in
theorem w_c19 : (Jvm.Cond.code ({ cls := "com/example/uneven_ticks/uneventicks/check/Occurrences", name := "occur", desc := "(ILcom/example/uneven_ticks/uneventicks/check/TraceEvent;)V" } : Jvm.MethodName) prog_18_method_2_code (3 : Nat) (Option.none : Option Jvm.ClassFile.FieldType)).before args0 about1 = true := code_word (m := ⟨14, 1⟩) (meth := k14m1) (c := k14c1) (by decide +kernel) rfl rfl rfl (by decide +kernel)
set_option maxRecDepth 65536 in
theorem w_c20 : (Jvm.Cond.code ({ cls := "com/example/uneven_ticks/uneventicks/check/Occurrences", name := "get", desc := "(IZ)Lcom/example/uneven_ticks/uneventicks/check/TraceEvent;" } : Jvm.MethodName) prog_18_method_3_code (4 : Nat) (Option.some (Jvm.ClassFile.FieldType.object "com/example/uneven_ticks/uneventicks/check/TraceEvent"))).before args0 about1 = true := code_word (m := ⟨14, 2⟩) (meth := k14m2) (c := k14c2) (by decide +kernel) rfl rfl rfl (by decide +kernel)
set_option maxRecDepth 65536 in
theorem w_c21 : (Jvm.Cond.code ({ cls := "com/example/uneven_ticks/uneventicks/check/Occurrences", name := "bind", desc := "(ILcom/example/uneven_ticks/uneventicks/check/TraceEvent;)V" } : Jvm.MethodName) prog_18_method_4_code (3 : Nat) (Option.none : Option Jvm.ClassFile.FieldType)).before args0 about1 = true := code_word (m := ⟨14, 3⟩) (meth := k14m3) (c := k14c3) (by decide +kernel) rfl rfl rfl (by decide +kernel)
set_option maxRecDepth 65536 in
theorem w_c22 : (Jvm.Cond.code ({ cls := "com/example/uneven_ticks/uneventicks/check/Occurrences", name := "unbind", desc := "()V" } : Jvm.MethodName) prog_18_method_5_code (1 : Nat) (Option.none : Option Jvm.ClassFile.FieldType)).before args0 about1 = true := code_word (m := ⟨14, 4⟩) (meth := k14m4) (c := k14c4) (by decide +kernel) rfl rfl rfl (by decide +kernel)
def codes1 : List Jvm.Cond := [Jvm.Cond.code x code maxLocals ret, Jvm.Cond.code ({ cls := "com/example/uneven_ticks/uneventicks/check/TraceEvent", name := "<init>", desc := "(Ljava/lang/String;Ljava/lang/String;Ljava/lang/String;[II)V" } : Jvm.MethodName) prog_24_method_3_code (6 : Nat) (Option.none : Option Jvm.ClassFile.FieldType), Jvm.Cond.code ({ cls := "java/lang/Object", name := "<init>", desc := "()V" } : Jvm.MethodName) object_method_1_code (1 : Nat) (Option.none : Option Jvm.ClassFile.FieldType), Jvm.Cond.code ({ cls := "com/example/uneven_ticks/uneventicks/check/DecimalText", name := "parse", desc := "(Ljava/lang/String;)Lcom/example/uneven_ticks/uneventicks/check/DecimalText;" } : Jvm.MethodName) prog_9_method_2_code (4 : Nat) (Option.some (Jvm.ClassFile.FieldType.object "com/example/uneven_ticks/uneventicks/check/DecimalText")), Jvm.Cond.code ({ cls := "java/lang/String", name := "startsWith", desc := "(Ljava/lang/String;)Z" } : Jvm.MethodName) jdk_42_method_76_code (2 : Nat) (Option.some Jvm.ClassFile.FieldType.boolean), Jvm.Cond.code ({ cls := "java/lang/String", name := "startsWith", desc := "(Ljava/lang/String;I)Z" } : Jvm.MethodName) jdk_42_method_75_code (8 : Nat) (Option.some Jvm.ClassFile.FieldType.boolean), Jvm.Cond.code ({ cls := "java/lang/String", name := "length", desc := "()I" } : Jvm.MethodName) jdk_42_method_54_code (1 : Nat) (Option.some Jvm.ClassFile.FieldType.int), Jvm.Cond.code ({ cls := "java/lang/String", name := "coder", desc := "()B" } : Jvm.MethodName) jdk_42_method_152_code (1 : Nat) (Option.some Jvm.ClassFile.FieldType.byte), Jvm.Cond.code ({ cls := "jdk/internal/util/ArraysSupport", name := "mismatch", desc := "([BI[BII)I" } : Jvm.MethodName) jdk_48_method_14_code (8 : Nat) (Option.some Jvm.ClassFile.FieldType.int), Jvm.Cond.code ({ cls := "com/example/uneven_ticks/uneventicks/check/DecimalText", name := "digitsEnd", desc := "(Ljava/lang/String;I)I" } : Jvm.MethodName) prog_9_method_14_code (3 : Nat) (Option.some Jvm.ClassFile.FieldType.int), Jvm.Cond.code ({ cls := "java/lang/String", name := "charAt", desc := "(I)C" } : Jvm.MethodName) jdk_42_method_56_code (2 : Nat) (Option.some Jvm.ClassFile.FieldType.char), Jvm.Cond.code ({ cls := "java/lang/String", name := "isLatin1", desc := "()Z" } : Jvm.MethodName) jdk_42_method_154_code (1 : Nat) (Option.some Jvm.ClassFile.FieldType.boolean), Jvm.Cond.code ({ cls := "java/lang/StringLatin1", name := "charAt", desc := "([BI)C" } : Jvm.MethodName) jdk_43_method_2_code (2 : Nat) (Option.some Jvm.ClassFile.FieldType.char), Jvm.Cond.code ({ cls := "java/lang/String", name := "checkIndex", desc := "(II)V" } : Jvm.MethodName) jdk_42_method_155_code (2 : Nat) (Option.none : Option Jvm.ClassFile.FieldType), Jvm.Cond.code ({ cls := "jdk/internal/util/Preconditions", name := "checkIndex", desc := "(IILjava/util/function/BiFunction;)I" } : Jvm.MethodName) jdk_41_method_11_code (3 : Nat) (Option.some Jvm.ClassFile.FieldType.int), Jvm.Cond.code ({ cls := "com/example/uneven_ticks/uneventicks/check/DecimalText", name := "<init>", desc := "(Ljava/lang/String;II)V" } : Jvm.MethodName) prog_9_method_1_code (7 : Nat) (Option.none : Option Jvm.ClassFile.FieldType), Jvm.Cond.code ({ cls := "com/example/uneven_ticks/uneventicks/check/DecimalText", name := "fractionStart", desc := "()I" } : Jvm.MethodName) prog_9_method_12_code (1 : Nat) (Option.some Jvm.ClassFile.FieldType.int), Jvm.Cond.code ({ cls := "java/lang/Math", name := "min", desc := "(II)I" } : Jvm.MethodName) jdk_29_method_69_code (2 : Nat) (Option.some Jvm.ClassFile.FieldType.int), Jvm.Cond.code ({ cls := "com/example/uneven_ticks/uneventicks/check/Occurrences", name := "<init>", desc := "(I)V" } : Jvm.MethodName) prog_18_method_1_code (2 : Nat) (Option.none : Option Jvm.ClassFile.FieldType), Jvm.Cond.code ({ cls := "com/example/uneven_ticks/uneventicks/check/Occurrences", name := "occur", desc := "(ILcom/example/uneven_ticks/uneventicks/check/TraceEvent;)V" } : Jvm.MethodName) prog_18_method_2_code (3 : Nat) (Option.none : Option Jvm.ClassFile.FieldType), Jvm.Cond.code ({ cls := "com/example/uneven_ticks/uneventicks/check/Occurrences", name := "get", desc := "(IZ)Lcom/example/uneven_ticks/uneventicks/check/TraceEvent;" } : Jvm.MethodName) prog_18_method_3_code (4 : Nat) (Option.some (Jvm.ClassFile.FieldType.object "com/example/uneven_ticks/uneventicks/check/TraceEvent")), Jvm.Cond.code ({ cls := "com/example/uneven_ticks/uneventicks/check/Occurrences", name := "bind", desc := "(ILcom/example/uneven_ticks/uneventicks/check/TraceEvent;)V" } : Jvm.MethodName) prog_18_method_4_code (3 : Nat) (Option.none : Option Jvm.ClassFile.FieldType), Jvm.Cond.code ({ cls := "com/example/uneven_ticks/uneventicks/check/Occurrences", name := "unbind", desc := "()V" } : Jvm.MethodName) prog_18_method_5_code (1 : Nat) (Option.none : Option Jvm.ClassFile.FieldType)]
set_option maxRecDepth 65536 in
theorem codes_eq : words1.filter isCode = codes1 := rfl
theorem w_codes : ∀ c ∈ words1.filter isCode, c.before args0 about1 = true := by
  rw [codes_eq]
  intro c hc
  simp only [codes1, List.mem_cons, List.not_mem_nil, or_false] at hc
  rcases hc with rfl | rfl | rfl | rfl | rfl | rfl | rfl | rfl | rfl | rfl | rfl | rfl | rfl | rfl | rfl | rfl | rfl | rfl | rfl | rfl | rfl | rfl | rfl
  · exact w_c0
  · exact w_c1
  · exact w_c2
  · exact w_c3
  · exact w_c4
  · exact w_c5
  · exact w_c6
  · exact w_c7
  · exact w_c8
  · exact w_c9
  · exact w_c10
  · exact w_c11
  · exact w_c12
  · exact w_c13
  · exact w_c14
  · exact w_c15
  · exact w_c16
  · exact w_c17
  · exact w_c18
  · exact w_c19
  · exact w_c20
  · exact w_c21
  · exact w_c22
set_option maxRecDepth 65536 in
theorem w_t1 : (words1.take 24).all (fun c => isCode c || c.before args0 about1) = true := by decide +kernel
set_option maxRecDepth 65536 in
theorem w_t2 : ((words1.drop 24).take 24).all (fun c => isCode c || c.before args0 about1) = true := by decide +kernel
set_option maxRecDepth 65536 in
theorem w_t3 : (((words1.drop 24).drop 24).take 24).all (fun c => isCode c || c.before args0 about1) = true := by decide +kernel
set_option maxRecDepth 65536 in
theorem w_t4 : ((((words1.drop 24).drop 24).drop 24).take 24).all (fun c => isCode c || c.before args0 about1) = true := by decide +kernel
set_option maxRecDepth 65536 in
theorem w_t5 : (((((words1.drop 24).drop 24).drop 24).drop 24).take 24).all (fun c => isCode c || c.before args0 about1) = true := by decide +kernel
set_option maxRecDepth 65536 in
theorem w_t6 : ((((((words1.drop 24).drop 24).drop 24).drop 24).drop 24).take 24).all (fun c => isCode c || c.before args0 about1) = true := by decide +kernel
set_option maxRecDepth 65536 in
theorem w_t7 : ((((((words1.drop 24).drop 24).drop 24).drop 24).drop 24).drop 24).all (fun c => isCode c || c.before args0 about1) = true := by decide +kernel
theorem w_tables : (allAtoms (Jvm.Cond.code x code maxLocals ret :: tables_1)).before args0 about1 = true := by
  rw [allAtoms_all]
  show words1.all (fun c => c.before args0 about1) = true
  refine all_split ?_ w_codes
  rw [← List.take_append_drop 24 words1, List.all_append, w_t1, ← List.take_append_drop 24 (words1.drop 24), List.all_append, w_t2, ← List.take_append_drop 24 ((words1.drop 24).drop 24), List.all_append, w_t3, ← List.take_append_drop 24 (((words1.drop 24).drop 24).drop 24), List.all_append, w_t4, ← List.take_append_drop 24 ((((words1.drop 24).drop 24).drop 24).drop 24), List.all_append, w_t5, ← List.take_append_drop 24 (((((words1.drop 24).drop 24).drop 24).drop 24).drop 24), List.all_append, w_t6, w_t7]
  rfl
set_option maxRecDepth 65536 in
theorem w_rest : rest_1_c.before args0 about1 = true := by decide +kernel
set_option maxRecDepth 65536 in
theorem w_case : (Jvm.Cond.and given_1 narrow_1).before args0 about1 = true := by decide +kernel
set_option maxRecDepth 65536 in
theorem w_consts : constsHeld consts_1 about1 := Jvm.Lit.constsHeldB_iff.mp (by decide +kernel)
theorem w_applies : (headSpec (Jvm.Cond.code x code maxLocals ret :: tables_1) room_1).applies x e0.platform about1 = true :=
  (Spec.applies_iff w_frames).mpr ⟨w_running, w_runnable, w_alone, w_named, w_hears, w_ripe, w_room, w_tables⟩
theorem atStart : AtStart classFile x code maxLocals ret World_1 tables_1 room_1 Calls_1 rest_1 Pre_1 launch0 p0 e0 about1 theMethod args0 below0 :=
  ⟨lists_1, trivial, launch0.admits_env _ _ _, launch0.least_env, fairChoices_fair.cas, fairChoices_fair.clock, w_frames, w_args, w_heap, w_applies, ⟨w_consts, trivial⟩, w_rest, w_case⟩
end start1
theorem witness_1 : WitnessClaimed_1 := ⟨start1.p0, start1.e0, start1.about1, start1.theMethod, start1.args0, start1.below0, start1.atStart⟩
end Jvm.Pilot.@@N@@
