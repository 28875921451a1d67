import JvmDerived
import JvmDerived.Pilot.@@N@@Statement
import JvmDerived.Pilot.@@N@@Code
set_option linter.unusedVariables false
set_option linter.unusedSimpArgs false
namespace Jvm.Pilot.@@N@@
open Jvm Jvm.ClassFile Sem Op Lib Jvm.Free Jvm.Stand Jvm.LawKit Jvm.RoadKit Bundle Jvm.Pilot.@@N@@.Jvm.D
section OwnKit
variable {p : Program} {l : Launch} {e : Env} {R : Room} {s : State} {m : MethodId} {args : Array Value} {below : List Frame} {meth : Method} {c : Code} {T : State} {locs : List Loc} {cells slots : Nat} {Z : State} {h h' : Heap} {a b : Addr} {ty : FieldType} {n : Nat} {f f' : Nat → Value} {sl : Nat} {v : Value} {ws : List Addr}
theorem own_dia {t : State} {B F : JFrame} (hh : Steps p.tables e below (T.setTop F) t → Steps p.tables e below (T.setTop B) t) (k : Steps p.tables e below (T.setTop F) t) : Steps p.tables e below (T.setTop B) t := hh k
/-- the place j lies in an array of n places -/
abbrev own_in (j : Int32) (n : Nat) : Prop := 0 ≤ j.toInt ∧ j.toInt < n
theorem own_in_nat {j : Int32} (hj : own_in j n) : j.toNatClampNeg < n := by simp only [Int32.toNatClampNeg]; omega
theorem own_in_arr {cl : Cell} {j : Int32} (hs : cl.slots.size = n) (hj : own_in j n) : ¬ (j < 0 ∨ cl.slots.size ≤ j.toNatClampNeg) := by
  have := own_in_nat hj
  have k0 : (0 : Int32).toInt = 0 := by decide
  rw [Int32.lt_iff_toInt_lt, hs, k0]; omega
/-- an array: its kind, its length, and what each place holds -/
def AF (Z : State) (h : Heap) (a : Addr) (ty : FieldType) (n : Nat) (f : Nat → Value) : Prop := ∃ c : Cell, Arr Z h a c ty ∧ c.slots.size = n ∧ n < 2147483648 ∧ ∀ j, j < n → c.slots[j]? = some (f j)
theorem AF.lt (F : AF Z h a ty n f) : a < h.size := by obtain ⟨c, A, -⟩ := F; exact A.lt
theorem AF.small (F : AF Z h a ty n f) : n < 2147483648 := by obtain ⟨c, -, -, q, -⟩ := F; exact q
theorem AF.ext (F : AF Z h a ty n f) (E : Ext h h') : AF Z h' a ty n f := by obtain ⟨c, A, r⟩ := F; exact ⟨c, A.ext E, r⟩
theorem AF.other (F : AF Z h b ty n f) (W : Wr h h' a sl v) (q : b ≠ a) : AF Z h' b ty n f := by obtain ⟨c, A, r⟩ := F; exact ⟨c, A.other W q, r⟩
theorem AF.keep (F : AF Z h a ty n f) (K : Keep h h' ws) (q : a ∉ ws) : AF Z h' a ty n f := by obtain ⟨c, A, r⟩ := F; exact ⟨c, ⟨K.2.1 a c A.1 q, A.2⟩, r⟩
theorem AF.cong (F : AF Z h a ty n f) (q : ∀ j, j < n → f j = f' j) : AF Z h a ty n f' := by obtain ⟨c, A, r1, r2, r3⟩ := F; exact ⟨c, A, r1, r2, fun j hj => by rw [← q j hj]; exact r3 j hj⟩
theorem AF.new {k : ClassId} {z : Int32} (A : Arr Z h a (newA k ty z) ty) (q : ¬ z < 0) : AF Z h a ty z.toNatClampNeg (fun _ => defaultValue ty) := ⟨_, A, sz_new _ _ _, (back32 q).2, fun j hj => by simp [newA, hj]⟩
theorem AF.set (F : AF Z h a ty n f) {k : Nat} (W : Wr h h' a k v) : AF Z h' a ty n (fun i => if i = k then v else f i) := by
  obtain ⟨c, A, r1, r2, r3⟩ := F
  refine ⟨_, Arr.same W A, by rw [sz_set]; exact r1, r2, fun j hj => ?_⟩
  obtain ⟨cell, h1, -, h3, -⟩ := W
  cases h1.symm.trans A.1
  by_cases q : j = k
  · subst q; simp [Cell.setSlot, h3]
  · have q' : ¬ k = j := fun z => q z.symm
    simp only [Cell.setSlot, Array.getElem?_setIfInBounds, if_neg q, if_neg q']; exact r3 j hj
theorem own_updI {g fN : Nat → Int32} {x : Int32} {J k : Nat} (hk : k = J) (hf : fN = fun i => if i = J then x else g i) : ∀ j, j < n → (if j = k then Value.int x else Value.int (g j)) = Value.int (fN j) := by
  subst hk hf; intro j _; by_cases q : j = k <;> simp [q]
theorem own_updJ {g fN : Nat → Int64} {x : Int64} {J k : Nat} (hk : k = J) (hf : fN = fun i => if i = J then x else g i) : ∀ j, j < n → (if j = k then Value.long x else Value.long (g j)) = Value.long (fN j) := by
  subst hk hf; intro j _; by_cases q : j = k <;> simp [q]
theorem AF.ldI (X : Stand p l e R s m args below meth c T locs cells slots) (hx : p.tables.exec = Jvm.exec) (hZ : Z.Warmed39 s.vm) (eT : T.heap = h) {f : Nat → Int32} (A : AF Z h a .int n (fun j => .int (f j))) {j : Int32} (hj : own_in j n) {g : JFrame} (hg : g.method = m) {rest : List Value} (hs : g.stack = .int j :: .ref a :: rest) (hd : decode c.code g.pc = .ok (.iaload, 1)) (target : State)
    (k : Steps p.tables e below (T.setTop { g with pc := g.pc + 1, stack := .int (f j.toNatClampNeg) :: rest }) target) : Steps p.tables e below (T.setTop g) target := by
  obtain ⟨cl, A, r1, r2, r3⟩ := A
  exact X.iaload hx (j := j) (v := .int (f j.toNatClampNeg)) (by rw [eT]; exact A.1) (State.isArrayOf_alike hZ.alike A.2.1) A.2.2 (own_in_arr r1 hj) (r3 _ (own_in_nat hj)) hg hs hd _ k
theorem AF.ldJ (X : Stand p l e R s m args below meth c T locs cells slots) (hx : p.tables.exec = Jvm.exec) (hZ : Z.Warmed39 s.vm) (eT : T.heap = h) {f : Nat → Int64} (A : AF Z h a .long n (fun j => .long (f j))) {j : Int32} (hj : own_in j n) {g : JFrame} (hg : g.method = m) {rest : List Value} (hs : g.stack = .int j :: .ref a :: rest) (hd : decode c.code g.pc = .ok (.laload, 1)) (target : State)
    (k : Steps p.tables e below (T.setTop { g with pc := g.pc + 1, stack := .long (f j.toNatClampNeg) :: rest }) target) : Steps p.tables e below (T.setTop g) target := by
  obtain ⟨cl, A, r1, r2, r3⟩ := A
  exact X.laload hx (j := j) (v := .long (f j.toNatClampNeg)) (by rw [eT]; exact A.1) (State.isArrayOf_alike hZ.alike A.2.1) A.2.2 (own_in_arr r1 hj) (r3 _ (own_in_nat hj)) hg hs hd _ k
theorem AF.ldB (X : Stand p l e R s m args below meth c T locs cells slots) (hx : p.tables.exec = Jvm.exec) (hZ : Z.Warmed39 s.vm) (eT : T.heap = h) {f : Nat → Int32} (A : AF Z h a .byte n (fun j => .int (f j))) {j : Int32} (hj : own_in j n) {g : JFrame} (hg : g.method = m) {rest : List Value} (hs : g.stack = .int j :: .ref a :: rest) (hd : decode c.code g.pc = .ok (.baload, 1)) (target : State)
    (k : Steps p.tables e below (T.setTop { g with pc := g.pc + 1, stack := .int (f j.toNatClampNeg) :: rest }) target) : Steps p.tables e below (T.setTop g) target := by
  obtain ⟨cl, A, r1, r2, r3⟩ := A
  exact X.baloadBytes hx (j := j) (v := .int (f j.toNatClampNeg)) (by rw [eT]; exact A.1) (State.isArrayOf_alike hZ.alike A.2.1) A.2.2 (own_in_arr r1 hj) (r3 _ (own_in_nat hj)) hg hs hd _ k
theorem AF.len (X : Stand p l e R s m args below meth c T locs cells slots) (hx : p.tables.exec = Jvm.exec) (hZ : Z.Warmed39 s.vm) (eT : T.heap = h) (A : AF Z h a ty n f) {g : JFrame} (hg : g.method = m) {rest : List Value} (hs : g.stack = .ref a :: rest) (hd : decode c.code g.pc = .ok (.arraylength, 1)) (target : State)
    (k : Steps p.tables e below (T.setTop { g with pc := g.pc + 1, stack := .int (Int32.ofNat n) :: rest }) target) : Steps p.tables e below (T.setTop g) target := by
  obtain ⟨cl, A, r1, r2, r3⟩ := A
  subst r1
  exact X.arraylength hx (by rw [eT]; exact A.1) (State.isArrayOf_alike hZ.alike A.2.1) hg hs hd _ k
theorem AF.stI (X : Stand p l e R s m args below meth c T locs cells slots) (hx : p.tables.exec = Jvm.exec) (hZ : Z.Warmed39 s.vm) (eT : T.heap = h) (A : AF Z h a .int n f) {j x : Int32} (hj : own_in j n) {g : JFrame} (hg : g.method = m) {rest : List Value} (hs : g.stack = .int x :: .int j :: .ref a :: rest) (hd : decode c.code g.pc = .ok (.iastore, 1)) :
    ∃ T' h', Stand p l e R s m args below meth c T' (locs ++ [⟨a, j.toNatClampNeg⟩]) cells slots ∧ T'.heap = h' ∧ Wr h h' a j.toNatClampNeg (.int x) ∧ AF Z h' a .int n (fun i => if i = j.toNatClampNeg then .int x else f i) ∧ ∀ target, Steps p.tables e below (T'.setTop { g with pc := g.pc + 1, stack := rest }) target → Steps p.tables e below (T.setTop g) target := by
  have A0 := A
  obtain ⟨cl, A, r1, r2, r3⟩ := A
  obtain ⟨T', h', X', e', W, st⟩ := Jvm.RoadKit.stI X hx hZ eT A (j := j) (own_in_arr r1 hj) hg hs hd
  exact ⟨T', h', X', e', W, A0.set W, st⟩
theorem AF.stJ (X : Stand p l e R s m args below meth c T locs cells slots) (hx : p.tables.exec = Jvm.exec) (hZ : Z.Warmed39 s.vm) (eT : T.heap = h) (A : AF Z h a .long n f) {j : Int32} {x : Int64} (hj : own_in j n) {g : JFrame} (hg : g.method = m) {rest : List Value} (hs : g.stack = .long x :: .int j :: .ref a :: rest) (hd : decode c.code g.pc = .ok (.lastore, 1)) :
    ∃ T' h', Stand p l e R s m args below meth c T' (locs ++ [⟨a, j.toNatClampNeg⟩]) cells slots ∧ T'.heap = h' ∧ Wr h h' a j.toNatClampNeg (.long x) ∧ AF Z h' a .long n (fun i => if i = j.toNatClampNeg then .long x else f i) ∧ ∀ target, Steps p.tables e below (T'.setTop { g with pc := g.pc + 1, stack := rest }) target → Steps p.tables e below (T.setTop g) target := by
  have A0 := A
  obtain ⟨cl, A, r1, r2, r3⟩ := A
  obtain ⟨T', h', X', e', W, st⟩ := Jvm.RoadKit.stJ X hx hZ eT A (j := j) (own_in_arr r1 hj) hg hs hd
  exact ⟨T', h', X', e', W, A0.set W, st⟩
theorem AF.stB (X : Stand p l e R s m args below meth c T locs cells slots) (hx : p.tables.exec = Jvm.exec) (hZ : Z.Warmed39 s.vm) (eT : T.heap = h) (A : AF Z h a .byte n f) {j x : Int32} (hj : own_in j n) {g : JFrame} (hg : g.method = m) {rest : List Value} (hs : g.stack = .int x :: .int j :: .ref a :: rest) (hd : decode c.code g.pc = .ok (.bastore, 1)) :
    ∃ T' h', Stand p l e R s m args below meth c T' (locs ++ [⟨a, j.toNatClampNeg⟩]) cells slots ∧ T'.heap = h' ∧ Wr h h' a j.toNatClampNeg (.int x.toInt8.toInt32) ∧ AF Z h' a .byte n (fun i => if i = j.toNatClampNeg then .int x.toInt8.toInt32 else f i) ∧ ∀ target, Steps p.tables e below (T'.setTop { g with pc := g.pc + 1, stack := rest }) target → Steps p.tables e below (T.setTop g) target := by
  have A0 := A
  obtain ⟨cl, A, r1, r2, r3⟩ := A
  obtain ⟨T', h', X', e', W, st⟩ := Jvm.RoadKit.stB X hx hZ eT A (j := j) (own_in_arr r1 hj) hg hs hd
  exact ⟨T', h', X', e', W, A0.set W, st⟩
theorem own_cpyI {f g fN : Nat → Int32} {k : Nat} (hf : fN = fun j => if j < k then f j else g j) : ∀ j, j < n → (if j < k then Value.int (f j) else Value.int (g j)) = Value.int (fN j) := by
  subst hf; intro j _; by_cases q : j < k <;> simp [q]
theorem own_cpyJ {f g fN : Nat → Int64} {k : Nat} (hf : fN = fun j => if j < k then f j else g j) : ∀ j, j < n → (if j < k then Value.long (f j) else Value.long (g j)) = Value.long (fN j) := by
  subst hf; intro j _; by_cases q : j < k <;> simp [q]
theorem own_acW {own : String} {index : Nat} (h1 : (Jvm.Cond.methodLink own index Jvm.Stand.acN).before args s = true) (h2 : (Jvm.Cond.native Jvm.Stand.acN).before args s = true) (h3 : (Jvm.Cond.static Jvm.Stand.acN).before args s = true) (h4 : (Jvm.Cond.initialized "java/lang/System").before args s = true) : ∀ w ∈ Jvm.Free.XT.acW own index, w.before args s = true := by
  intro w hw
  change w ∈ [Jvm.Cond.methodLink own index Jvm.Stand.acN, Jvm.Cond.native Jvm.Stand.acN, Jvm.Cond.static Jvm.Stand.acN, Jvm.Cond.initialized "java/lang/System"] at hw
  simp only [List.mem_cons, List.not_mem_nil, or_false] at hw
  rcases hw with rfl | rfl | rfl | rfl
  · exact h1
  · exact h2
  · exact h3
  · exact h4
theorem own_isArr {c c' : Cell} (q : Z.isArrayOf c ty) (h1 : c'.cls = c.cls) (h2 : c'.vm = c.vm) : Z.isArrayOf c' ty := by
  obtain ⟨q1, k, q2, q3⟩ := q
  exact ⟨by rw [h2]; exact q1, k, by rw [h1]; exact q2, q3⟩
theorem AF.copy (X : Stand p l e R s m args below meth c T locs cells slots) (hx : p.tables.exec = Jvm.exec) (hZ : Z.Warmed39 s.vm) {own : String} {index : Nat} (hown : s.vm.findClass own = some m.cls) (hw : ∀ w ∈ Jvm.Free.XT.acW own index, w.before args s = true)
    (eT : T.heap = h) {k : Nat} {f' : Nat → Value} (A : AF Z h a ty n f) (B : AF Z h b ty k f') (hp : ty.isReference = false) {cnt : Nat} (hfit : ∀ j, j < cnt → fits ty (f j) = true) (h1 : cnt ≤ n) (h2 : cnt ≤ k) {jn : Int32} (hn : jn = Int32.ofNat cnt)
    {g : JFrame} (hg : g.method = m) (hsize : g.locals.size = c.maxLocals) {rest : List Value} (hs : g.stack = .int jn :: .int 0 :: .ref b :: .int 0 :: .ref a :: rest) (hd : decode c.code g.pc = .ok (.invokestatic index, 3))
    {W : Nat} (hW : 2 * g.monitorRoom + (rest.map fun v => v.category).sum ≤ W) (hfr : 1 ≤ R.frames) (hlo : W + 40 ≤ R.locals) :
    ∃ (T' : State) (h' : Heap) (L' : List Loc), Stand p l e R s m args below meth c T' (locs ++ L') cells slots ∧ T'.heap = h' ∧ (∀ y ∈ L', y.base = b) ∧ Keep h h' [b] ∧ AF Z h' b ty k (fun j => if j < cnt then f j else f' j) ∧
      ∀ target, Steps p.tables e below (T'.setTop { g with pc := g.pc + 3, stack := rest }) target → Steps p.tables e below (T.setTop g) target := by
  obtain ⟨ca, A, a1, a2, a3⟩ := A
  obtain ⟨cb, B, b1, b2, b3⟩ := B
  have tA : Jvm.Free.XT.Arr ty a ca T := ⟨by rw [eT]; exact A.1, State.isArrayOf_alike X.warmed.alike (State.isArrayOf_alike hZ.alike A.2.1), A.2.2, by omega⟩
  have tB : Jvm.Free.XT.Arr ty b cb T := ⟨by rw [eT]; exact B.1, State.isArrayOf_alike X.warmed.alike (State.isArrayOf_alike hZ.alike B.2.1), B.2.2, by omega⟩
  have ga : ∀ j, j < n → ca.slots.getD j .null = f j := fun j hj => by
    have q := a3 j hj
    rw [Array.getD_eq_getD_getElem?, q]; rfl
  obtain ⟨T', B', X', P, q1, q2, q3, q4, st⟩ := X.acopy hx (o := 0) (q := 0) (n := cnt) (jo := 0) (jq := 0) hown hw tA tB (by simp) rfl rfl hn (by omega) (by omega)
    (fun i hi => ⟨by rw [Nat.zero_add, ga i (by omega)]; exact hfit i hi, fun z => by rw [hp] at z; cases z⟩) hg hsize hs hd hW hfr hlo
  refine ⟨T', _, _, X', rfl, fun y hy => ?_, ⟨by rw [P.2.2, eT]; exact Nat.le_refl _, fun x cx hx' hn' => ?_, fun x cx hx' => ?_⟩, ⟨B', ⟨P.1, own_isArr B.2.1 q1 q2, by rw [q2]; exact B.2.2⟩, q3.trans b1, b2, fun j hj => ?_⟩, st⟩
  · simp only [copyLocs, List.mem_map] at hy
    obtain ⟨i, -, rfl⟩ := hy
    rfl
  · rw [P.2.1 x (fun z => hn' (by simp [z])), eT]; exact hx'
  · by_cases z : x = b
    · subst z
      cases hx'.symm.trans B.1
      exact ⟨B', P.1, q1, q2, q3⟩
    · exact ⟨cx, by rw [P.2.1 x z, eT]; exact hx', rfl, rfl, rfl⟩
  · show _ = some (if j < cnt then f j else f' j)
    rw [q4 j]
    by_cases z : j < cnt
    · rw [if_pos (by omega), if_pos z]
      have : 0 + (j - 0) = j := by omega
      rw [this, ga j (by omega)]
    · rw [if_neg (by omega), if_neg z]; exact b3 j hj
theorem own_nb (x : Int32) : nar .boolean x = x &&& 1 := rfl
theorem own_nar1 : nar .boolean 1 = 1 := rfl
theorem own_nar0 : nar .boolean 0 = 0 := rfl
theorem own_nbyte (x : Int32) : nar .byte x = x.toInt8.toInt32 := rfl
theorem own_nar_ite (q : Prop) [Decidable q] (x y : Int32) : nar .boolean (if q then x else y) = if q then nar .boolean x else nar .boolean y := by split <;> rfl
theorem own_pos_ne {x : Int64} (q : 0 < x) : x ≠ 0 := fun z => by subst z; exact absurd q (by decide)
theorem own_cat {w : Value} (q : w.isRef = true) : w.category = 1 := by cases w <;> first | rfl | (simp [Value.isRef] at q)
theorem own_fits_ref {ty : FieldType} {w : Value} (q : w.isRef = true) (ht : ty.isReference = true := by rfl) : fits ty w = true := by
  cases w <;> cases ty <;> first | rfl | (exact absurd q (by decide)) | (exact absurd ht (by decide)) | (cases q) | (cases ht)
/-- a static field that holds v, in a heap that keeps all that was old at the start -/
def SO (Z : State) (n0 : Nat) (h : Heap) (C n d : String) (v : Value) : Prop := Sta Z Z.heap C n d v ∧ Old Z n0 h
theorem SO.ext {n0 : Nat} {C nm d : String} (F : SO Z n0 h C nm d v) (E : Ext h h') : SO Z n0 h' C nm d v := ⟨F.1, F.2.ext E⟩
theorem SO.wr {n0 : Nat} {C nm d : String} {w : Value} (F : SO Z n0 h C nm d v) (W : Wr h h' a sl w) (q : n0 ≤ a) : SO Z n0 h' C nm d v := ⟨F.1, F.2.wr W q⟩
theorem SO.keep {n0 : Nat} {C nm d : String} (F : SO Z n0 h C nm d v) (K : Keep h h' ws) (q : ∀ x ∈ ws, n0 ≤ x) : SO Z n0 h' C nm d v := ⟨F.1, F.2.keep K q⟩
theorem SO.sta {n0 : Nat} {C nm d : String} (F : SO Z n0 h C nm d v) : Sta Z h C nm d v := F.1.ext F.2.2
theorem own_selp {y : MethodName} {n : Nat} (wi : (Jvm.Cond.instantiable y.cls n).before args s = true) (hpriv : s.PrivateAt y) (hinst : (Jvm.Cond.instanceMethod y).before args s = true) (hy : y.cls ≠ "java/lang/invoke/MethodHandle" ∧ y.cls ≠ "java/lang/invoke/VarHandle") : (Jvm.Cond.selects y.cls y y).before args s = true := by
  obtain ⟨c, k, h1, h2, -, h4, -⟩ := Cond.instantiable_spec wi
  exact Jvm.Stand.selects_self_of_private h1 h2 (by simp only [Bool.or_eq_false_iff] at h4; exact h4.1) hpriv hinst hy
end OwnKit

theorem pn_0 : plainName "com/example/uneven_ticks/uneventicks/core/RunStateAdvancePinLaw" = true := by first | (simp [plainName, overriddenIn]; done) | decide +kernel
theorem d1_0 : decode method_4_code 0 = .ok (.iload_n 0, 1) := by decide +kernel
theorem d1_1 : decode method_4_code 1 = .ok (.ifCond .ne 7, 3) := by decide +kernel
theorem d1_4 : decode method_4_code 4 = .ok (.iconst 0, 1) := by decide +kernel
theorem d1_5 : decode method_4_code 5 = .ok (.newarray .int, 2) := by decide +kernel
theorem d1_7 : decode method_4_code 7 = .ok (.areturn, 1) := by decide +kernel
theorem d1_8 : decode method_4_code 8 = .ok (.iload_n 0, 1) := by decide +kernel
theorem d1_9 : decode method_4_code 9 = .ok (.iconst 1, 1) := by decide +kernel
theorem d1_10 : decode method_4_code 10 = .ok (.if_icmp .ne 11, 3) := by decide +kernel
theorem d1_13 : decode method_4_code 13 = .ok (.iconst 1, 1) := by decide +kernel
theorem d1_14 : decode method_4_code 14 = .ok (.newarray .int, 2) := by decide +kernel
theorem d1_16 : decode method_4_code 16 = .ok (.dup, 1) := by decide +kernel
theorem d1_17 : decode method_4_code 17 = .ok (.iconst 0, 1) := by decide +kernel
theorem d1_18 : decode method_4_code 18 = .ok (.iconst 0, 1) := by decide +kernel
theorem d1_19 : decode method_4_code 19 = .ok (.iastore, 1) := by decide +kernel
theorem d1_20 : decode method_4_code 20 = .ok (.areturn, 1) := by decide +kernel
theorem d1_21 : decode method_4_code 21 = .ok (.iload_n 0, 1) := by decide +kernel
theorem d1_22 : decode method_4_code 22 = .ok (.iconst 2, 1) := by decide +kernel
theorem d1_23 : decode method_4_code 23 = .ok (.if_icmp .ne 11, 3) := by decide +kernel
theorem d1_26 : decode method_4_code 26 = .ok (.iconst 1, 1) := by decide +kernel
theorem d1_27 : decode method_4_code 27 = .ok (.newarray .int, 2) := by decide +kernel
theorem d1_29 : decode method_4_code 29 = .ok (.dup, 1) := by decide +kernel
theorem d1_30 : decode method_4_code 30 = .ok (.iconst 0, 1) := by decide +kernel
theorem d1_31 : decode method_4_code 31 = .ok (.iconst 1, 1) := by decide +kernel
theorem d1_32 : decode method_4_code 32 = .ok (.iastore, 1) := by decide +kernel
theorem d1_33 : decode method_4_code 33 = .ok (.areturn, 1) := by decide +kernel
theorem d1_34 : decode method_4_code 34 = .ok (.iload_n 0, 1) := by decide +kernel
theorem d1_35 : decode method_4_code 35 = .ok (.iconst 4, 1) := by decide +kernel
theorem d1_36 : decode method_4_code 36 = .ok (.if_icmp .ne 11, 3) := by decide +kernel
theorem d1_39 : decode method_4_code 39 = .ok (.iconst 1, 1) := by decide +kernel
theorem d1_40 : decode method_4_code 40 = .ok (.newarray .int, 2) := by decide +kernel
theorem d1_42 : decode method_4_code 42 = .ok (.dup, 1) := by decide +kernel
theorem d1_43 : decode method_4_code 43 = .ok (.iconst 0, 1) := by decide +kernel
theorem d1_44 : decode method_4_code 44 = .ok (.iconst 2, 1) := by decide +kernel
theorem d1_45 : decode method_4_code 45 = .ok (.iastore, 1) := by decide +kernel
theorem d1_46 : decode method_4_code 46 = .ok (.areturn, 1) := by decide +kernel
theorem d1_47 : decode method_4_code 47 = .ok (.iload_n 0, 1) := by decide +kernel
theorem d1_48 : decode method_4_code 48 = .ok (.iconst 3, 1) := by decide +kernel
theorem d1_49 : decode method_4_code 49 = .ok (.if_icmp .ne 33, 3) := by decide +kernel
theorem d1_52 : decode method_4_code 52 = .ok (.iload_n 1, 1) := by decide +kernel
theorem d1_53 : decode method_4_code 53 = .ok (.ifCond .eq 17, 3) := by decide +kernel
theorem d1_56 : decode method_4_code 56 = .ok (.iconst 2, 1) := by decide +kernel
theorem d1_57 : decode method_4_code 57 = .ok (.newarray .int, 2) := by decide +kernel
theorem d1_59 : decode method_4_code 59 = .ok (.dup, 1) := by decide +kernel
theorem d1_60 : decode method_4_code 60 = .ok (.iconst 0, 1) := by decide +kernel
theorem d1_61 : decode method_4_code 61 = .ok (.iconst 1, 1) := by decide +kernel
theorem d1_62 : decode method_4_code 62 = .ok (.iastore, 1) := by decide +kernel
theorem d1_63 : decode method_4_code 63 = .ok (.dup, 1) := by decide +kernel
theorem d1_64 : decode method_4_code 64 = .ok (.iconst 1, 1) := by decide +kernel
theorem d1_65 : decode method_4_code 65 = .ok (.iconst 0, 1) := by decide +kernel
theorem d1_66 : decode method_4_code 66 = .ok (.iastore, 1) := by decide +kernel
theorem d1_67 : decode method_4_code 67 = .ok (.goto 14, 3) := by decide +kernel
theorem d1_70 : decode method_4_code 70 = .ok (.iconst 2, 1) := by decide +kernel
theorem d1_71 : decode method_4_code 71 = .ok (.newarray .int, 2) := by decide +kernel
theorem d1_73 : decode method_4_code 73 = .ok (.dup, 1) := by decide +kernel
theorem d1_74 : decode method_4_code 74 = .ok (.iconst 0, 1) := by decide +kernel
theorem d1_75 : decode method_4_code 75 = .ok (.iconst 0, 1) := by decide +kernel
theorem d1_76 : decode method_4_code 76 = .ok (.iastore, 1) := by decide +kernel
theorem d1_77 : decode method_4_code 77 = .ok (.dup, 1) := by decide +kernel
theorem d1_78 : decode method_4_code 78 = .ok (.iconst 1, 1) := by decide +kernel
theorem d1_79 : decode method_4_code 79 = .ok (.iconst 1, 1) := by decide +kernel
theorem d1_80 : decode method_4_code 80 = .ok (.iastore, 1) := by decide +kernel
theorem d1_81 : decode method_4_code 81 = .ok (.areturn, 1) := by decide +kernel
theorem d1_82 : decode method_4_code 82 = .ok (.iload_n 0, 1) := by decide +kernel
theorem d1_83 : decode method_4_code 83 = .ok (.iconst 5, 1) := by decide +kernel
theorem d1_84 : decode method_4_code 84 = .ok (.if_icmp .ne 33, 3) := by decide +kernel
theorem d1_87 : decode method_4_code 87 = .ok (.iload_n 1, 1) := by decide +kernel
theorem d1_88 : decode method_4_code 88 = .ok (.ifCond .eq 17, 3) := by decide +kernel
theorem d1_91 : decode method_4_code 91 = .ok (.iconst 2, 1) := by decide +kernel
theorem d1_92 : decode method_4_code 92 = .ok (.newarray .int, 2) := by decide +kernel
theorem d1_94 : decode method_4_code 94 = .ok (.dup, 1) := by decide +kernel
theorem d1_95 : decode method_4_code 95 = .ok (.iconst 0, 1) := by decide +kernel
theorem d1_96 : decode method_4_code 96 = .ok (.iconst 2, 1) := by decide +kernel
theorem d1_97 : decode method_4_code 97 = .ok (.iastore, 1) := by decide +kernel
theorem d1_98 : decode method_4_code 98 = .ok (.dup, 1) := by decide +kernel
theorem d1_99 : decode method_4_code 99 = .ok (.iconst 1, 1) := by decide +kernel
theorem d1_100 : decode method_4_code 100 = .ok (.iconst 0, 1) := by decide +kernel
theorem d1_101 : decode method_4_code 101 = .ok (.iastore, 1) := by decide +kernel
theorem d1_102 : decode method_4_code 102 = .ok (.goto 14, 3) := by decide +kernel
theorem d1_105 : decode method_4_code 105 = .ok (.iconst 2, 1) := by decide +kernel
theorem d1_106 : decode method_4_code 106 = .ok (.newarray .int, 2) := by decide +kernel
theorem d1_108 : decode method_4_code 108 = .ok (.dup, 1) := by decide +kernel
theorem d1_109 : decode method_4_code 109 = .ok (.iconst 0, 1) := by decide +kernel
theorem d1_110 : decode method_4_code 110 = .ok (.iconst 0, 1) := by decide +kernel
theorem d1_111 : decode method_4_code 111 = .ok (.iastore, 1) := by decide +kernel
theorem d1_112 : decode method_4_code 112 = .ok (.dup, 1) := by decide +kernel
theorem d1_113 : decode method_4_code 113 = .ok (.iconst 1, 1) := by decide +kernel
theorem d1_114 : decode method_4_code 114 = .ok (.iconst 2, 1) := by decide +kernel
theorem d1_115 : decode method_4_code 115 = .ok (.iastore, 1) := by decide +kernel
theorem d1_116 : decode method_4_code 116 = .ok (.areturn, 1) := by decide +kernel
theorem d1_117 : decode method_4_code 117 = .ok (.iload_n 0, 1) := by decide +kernel
theorem d1_118 : decode method_4_code 118 = .ok (.bipush 6, 2) := by decide +kernel
theorem d1_120 : decode method_4_code 120 = .ok (.if_icmp .ne 33, 3) := by decide +kernel
theorem d1_123 : decode method_4_code 123 = .ok (.iload_n 1, 1) := by decide +kernel
theorem d1_124 : decode method_4_code 124 = .ok (.ifCond .eq 17, 3) := by decide +kernel
theorem d1_127 : decode method_4_code 127 = .ok (.iconst 2, 1) := by decide +kernel
theorem d1_128 : decode method_4_code 128 = .ok (.newarray .int, 2) := by decide +kernel
theorem d1_130 : decode method_4_code 130 = .ok (.dup, 1) := by decide +kernel
theorem d1_131 : decode method_4_code 131 = .ok (.iconst 0, 1) := by decide +kernel
theorem d1_132 : decode method_4_code 132 = .ok (.iconst 2, 1) := by decide +kernel
theorem d1_133 : decode method_4_code 133 = .ok (.iastore, 1) := by decide +kernel
theorem d1_134 : decode method_4_code 134 = .ok (.dup, 1) := by decide +kernel
theorem d1_135 : decode method_4_code 135 = .ok (.iconst 1, 1) := by decide +kernel
theorem d1_136 : decode method_4_code 136 = .ok (.iconst 1, 1) := by decide +kernel
theorem d1_137 : decode method_4_code 137 = .ok (.iastore, 1) := by decide +kernel
theorem d1_138 : decode method_4_code 138 = .ok (.goto 14, 3) := by decide +kernel
theorem d1_141 : decode method_4_code 141 = .ok (.iconst 2, 1) := by decide +kernel
theorem d1_142 : decode method_4_code 142 = .ok (.newarray .int, 2) := by decide +kernel
theorem d1_144 : decode method_4_code 144 = .ok (.dup, 1) := by decide +kernel
theorem d1_145 : decode method_4_code 145 = .ok (.iconst 0, 1) := by decide +kernel
theorem d1_146 : decode method_4_code 146 = .ok (.iconst 1, 1) := by decide +kernel
theorem d1_147 : decode method_4_code 147 = .ok (.iastore, 1) := by decide +kernel
theorem d1_148 : decode method_4_code 148 = .ok (.dup, 1) := by decide +kernel
theorem d1_149 : decode method_4_code 149 = .ok (.iconst 1, 1) := by decide +kernel
theorem d1_150 : decode method_4_code 150 = .ok (.iconst 2, 1) := by decide +kernel
theorem d1_151 : decode method_4_code 151 = .ok (.iastore, 1) := by decide +kernel
theorem d1_152 : decode method_4_code 152 = .ok (.areturn, 1) := by decide +kernel
theorem d1_153 : decode method_4_code 153 = .ok (.iload_n 1, 1) := by decide +kernel
theorem d1_154 : decode method_4_code 154 = .ok (.ifCond .eq 21, 3) := by decide +kernel
theorem d1_157 : decode method_4_code 157 = .ok (.iconst 3, 1) := by decide +kernel
theorem d1_158 : decode method_4_code 158 = .ok (.newarray .int, 2) := by decide +kernel
theorem d1_160 : decode method_4_code 160 = .ok (.dup, 1) := by decide +kernel
theorem d1_161 : decode method_4_code 161 = .ok (.iconst 0, 1) := by decide +kernel
theorem d1_162 : decode method_4_code 162 = .ok (.iconst 2, 1) := by decide +kernel
theorem d1_163 : decode method_4_code 163 = .ok (.iastore, 1) := by decide +kernel
theorem d1_164 : decode method_4_code 164 = .ok (.dup, 1) := by decide +kernel
theorem d1_165 : decode method_4_code 165 = .ok (.iconst 1, 1) := by decide +kernel
theorem d1_166 : decode method_4_code 166 = .ok (.iconst 1, 1) := by decide +kernel
theorem d1_167 : decode method_4_code 167 = .ok (.iastore, 1) := by decide +kernel
theorem d1_168 : decode method_4_code 168 = .ok (.dup, 1) := by decide +kernel
theorem d1_169 : decode method_4_code 169 = .ok (.iconst 2, 1) := by decide +kernel
theorem d1_170 : decode method_4_code 170 = .ok (.iconst 0, 1) := by decide +kernel
theorem d1_171 : decode method_4_code 171 = .ok (.iastore, 1) := by decide +kernel
theorem d1_172 : decode method_4_code 172 = .ok (.goto 18, 3) := by decide +kernel
theorem d1_175 : decode method_4_code 175 = .ok (.iconst 3, 1) := by decide +kernel
theorem d1_176 : decode method_4_code 176 = .ok (.newarray .int, 2) := by decide +kernel
theorem d1_178 : decode method_4_code 178 = .ok (.dup, 1) := by decide +kernel
theorem d1_179 : decode method_4_code 179 = .ok (.iconst 0, 1) := by decide +kernel
theorem d1_180 : decode method_4_code 180 = .ok (.iconst 0, 1) := by decide +kernel
theorem d1_181 : decode method_4_code 181 = .ok (.iastore, 1) := by decide +kernel
theorem d1_182 : decode method_4_code 182 = .ok (.dup, 1) := by decide +kernel
theorem d1_183 : decode method_4_code 183 = .ok (.iconst 1, 1) := by decide +kernel
theorem d1_184 : decode method_4_code 184 = .ok (.iconst 1, 1) := by decide +kernel
theorem d1_185 : decode method_4_code 185 = .ok (.iastore, 1) := by decide +kernel
theorem d1_186 : decode method_4_code 186 = .ok (.dup, 1) := by decide +kernel
theorem d1_187 : decode method_4_code 187 = .ok (.iconst 2, 1) := by decide +kernel
theorem d1_188 : decode method_4_code 188 = .ok (.iconst 2, 1) := by decide +kernel
theorem d1_189 : decode method_4_code 189 = .ok (.iastore, 1) := by decide +kernel
theorem d1_190 : decode method_4_code 190 = .ok (.areturn, 1) := by decide +kernel
theorem pn_1 : plainName "com/example/uneven_ticks/uneventicks/core/RunStateAdvancePinLaw" = true := by first | (simp [plainName, overriddenIn]; done) | decide +kernel
theorem d2_0 : decode prog_45_method_1_code 0 = .ok (.aload_n 0, 1) := by decide +kernel
theorem d2_1 : decode prog_45_method_1_code 1 = .ok (.invokespecial 1, 3) := by decide +kernel
theorem d2_4 : decode prog_45_method_1_code 4 = .ok (.aload_n 0, 1) := by decide +kernel
theorem d2_5 : decode prog_45_method_1_code 5 = .ok (.iload_n 1, 1) := by decide +kernel
theorem d2_6 : decode prog_45_method_1_code 6 = .ok (.newarray .long, 2) := by decide +kernel
theorem d2_8 : decode prog_45_method_1_code 8 = .ok (.putfield 7, 3) := by decide +kernel
theorem d2_11 : decode prog_45_method_1_code 11 = .ok (.aload_n 0, 1) := by decide +kernel
theorem d2_12 : decode prog_45_method_1_code 12 = .ok (.iload_n 1, 1) := by decide +kernel
theorem d2_13 : decode prog_45_method_1_code 13 = .ok (.newarray .long, 2) := by decide +kernel
theorem d2_15 : decode prog_45_method_1_code 15 = .ok (.putfield 13, 3) := by decide +kernel
theorem d2_18 : decode prog_45_method_1_code 18 = .ok (.return_, 1) := by decide +kernel
theorem pn_2 : plainName "com/example/uneven_ticks/uneventicks/core/RunState" = true := by first | (simp [plainName, overriddenIn]; done) | decide +kernel
theorem d4_0 : decode prog_45_method_5_code 0 = .ok (.aload_n 0, 1) := by decide +kernel
theorem d4_1 : decode prog_45_method_5_code 1 = .ok (.dup, 1) := by decide +kernel
theorem d4_2 : decode prog_45_method_5_code 2 = .ok (.getfield 16, 3) := by decide +kernel
theorem d4_5 : decode prog_45_method_5_code 5 = .ok (.lconst 1, 1) := by decide +kernel
theorem d4_6 : decode prog_45_method_5_code 6 = .ok (.ladd, 1) := by decide +kernel
theorem d4_7 : decode prog_45_method_5_code 7 = .ok (.putfield 16, 3) := by decide +kernel
theorem d4_10 : decode prog_45_method_5_code 10 = .ok (.aload_n 1, 1) := by decide +kernel
theorem d4_11 : decode prog_45_method_5_code 11 = .ok (.astore_n 2, 1) := by decide +kernel
theorem d4_12 : decode prog_45_method_5_code 12 = .ok (.aload_n 2, 1) := by decide +kernel
theorem d4_13 : decode prog_45_method_5_code 13 = .ok (.arraylength, 1) := by decide +kernel
theorem d4_14 : decode prog_45_method_5_code 14 = .ok (.istore_n 3, 1) := by decide +kernel
theorem d4_15 : decode prog_45_method_5_code 15 = .ok (.iconst 0, 1) := by decide +kernel
theorem d4_16 : decode prog_45_method_5_code 16 = .ok (.istore 4, 2) := by decide +kernel
theorem d4_18 : decode prog_45_method_5_code 18 = .ok (.iload 4, 2) := by decide +kernel
theorem d4_20 : decode prog_45_method_5_code 20 = .ok (.iload_n 3, 1) := by decide +kernel
theorem d4_21 : decode prog_45_method_5_code 21 = .ok (.if_icmp .ge 37, 3) := by decide +kernel
theorem d4_24 : decode prog_45_method_5_code 24 = .ok (.aload_n 2, 1) := by decide +kernel
theorem d4_25 : decode prog_45_method_5_code 25 = .ok (.iload 4, 2) := by decide +kernel
theorem d4_27 : decode prog_45_method_5_code 27 = .ok (.iaload, 1) := by decide +kernel
theorem d4_28 : decode prog_45_method_5_code 28 = .ok (.istore 5, 2) := by decide +kernel
theorem d4_30 : decode prog_45_method_5_code 30 = .ok (.aload_n 0, 1) := by decide +kernel
theorem d4_31 : decode prog_45_method_5_code 31 = .ok (.getfield 7, 3) := by decide +kernel
theorem d4_34 : decode prog_45_method_5_code 34 = .ok (.iload 5, 2) := by decide +kernel
theorem d4_36 : decode prog_45_method_5_code 36 = .ok (.dup2, 1) := by decide +kernel
theorem d4_37 : decode prog_45_method_5_code 37 = .ok (.laload, 1) := by decide +kernel
theorem d4_38 : decode prog_45_method_5_code 38 = .ok (.lconst 1, 1) := by decide +kernel
theorem d4_39 : decode prog_45_method_5_code 39 = .ok (.ladd, 1) := by decide +kernel
theorem d4_40 : decode prog_45_method_5_code 40 = .ok (.lastore, 1) := by decide +kernel
theorem d4_41 : decode prog_45_method_5_code 41 = .ok (.aload_n 0, 1) := by decide +kernel
theorem d4_42 : decode prog_45_method_5_code 42 = .ok (.getfield 13, 3) := by decide +kernel
theorem d4_45 : decode prog_45_method_5_code 45 = .ok (.iload 5, 2) := by decide +kernel
theorem d4_47 : decode prog_45_method_5_code 47 = .ok (.aload_n 0, 1) := by decide +kernel
theorem d4_48 : decode prog_45_method_5_code 48 = .ok (.getfield 16, 3) := by decide +kernel
theorem d4_51 : decode prog_45_method_5_code 51 = .ok (.lastore, 1) := by decide +kernel
theorem d4_52 : decode prog_45_method_5_code 52 = .ok (.iinc 4 1, 3) := by decide +kernel
theorem d4_55 : decode prog_45_method_5_code 55 = .ok (.goto (-37), 3) := by decide +kernel
theorem d4_58 : decode prog_45_method_5_code 58 = .ok (.return_, 1) := by decide +kernel
theorem pn_4 : plainName "com/example/uneven_ticks/uneventicks/core/RunState" = true := by first | (simp [plainName, overriddenIn]; done) | decide +kernel
theorem d5_0 : decode prog_45_method_2_code 0 = .ok (.aload_n 0, 1) := by decide +kernel
theorem d5_1 : decode prog_45_method_2_code 1 = .ok (.getfield 16, 3) := by decide +kernel
theorem d5_4 : decode prog_45_method_2_code 4 = .ok (.lreturn, 1) := by decide +kernel
theorem pn_5 : plainName "com/example/uneven_ticks/uneventicks/core/RunState" = true := by first | (simp [plainName, overriddenIn]; done) | decide +kernel
theorem d6_0 : decode method_3_code 0 = .ok (.iload_n 2, 1) := by decide +kernel
theorem d6_1 : decode method_3_code 1 = .ok (.iload_n 1, 1) := by decide +kernel
theorem d6_2 : decode method_3_code 2 = .ok (.ishr, 1) := by decide +kernel
theorem d6_3 : decode method_3_code 3 = .ok (.iconst 1, 1) := by decide +kernel
theorem d6_4 : decode method_3_code 4 = .ok (.iand, 1) := by decide +kernel
theorem d6_5 : decode method_3_code 5 = .ok (.ifCond .eq 7, 3) := by decide +kernel
theorem d6_8 : decode method_3_code 8 = .ok (.iconst 1, 1) := by decide +kernel
theorem d6_9 : decode method_3_code 9 = .ok (.goto 4, 3) := by decide +kernel
theorem d6_12 : decode method_3_code 12 = .ok (.iconst 0, 1) := by decide +kernel
theorem d6_13 : decode method_3_code 13 = .ok (.istore 4, 2) := by decide +kernel
theorem d6_15 : decode method_3_code 15 = .ok (.iload_n 3, 1) := by decide +kernel
theorem d6_16 : decode method_3_code 16 = .ok (.iload_n 1, 1) := by decide +kernel
theorem d6_17 : decode method_3_code 17 = .ok (.ishr, 1) := by decide +kernel
theorem d6_18 : decode method_3_code 18 = .ok (.iconst 1, 1) := by decide +kernel
theorem d6_19 : decode method_3_code 19 = .ok (.iand, 1) := by decide +kernel
theorem d6_20 : decode method_3_code 20 = .ok (.ifCond .eq 7, 3) := by decide +kernel
theorem d6_23 : decode method_3_code 23 = .ok (.iconst 1, 1) := by decide +kernel
theorem d6_24 : decode method_3_code 24 = .ok (.goto 4, 3) := by decide +kernel
theorem d6_27 : decode method_3_code 27 = .ok (.iconst 0, 1) := by decide +kernel
theorem d6_28 : decode method_3_code 28 = .ok (.istore 5, 2) := by decide +kernel
theorem d6_30 : decode method_3_code 30 = .ok (.iload 4, 2) := by decide +kernel
theorem d6_32 : decode method_3_code 32 = .ok (.ifCond .eq 7, 3) := by decide +kernel
theorem d6_35 : decode method_3_code 35 = .ok (.lconst 1, 1) := by decide +kernel
theorem d6_36 : decode method_3_code 36 = .ok (.goto 4, 3) := by decide +kernel
theorem d6_39 : decode method_3_code 39 = .ok (.lconst 0, 1) := by decide +kernel
theorem d6_40 : decode method_3_code 40 = .ok (.iload 5, 2) := by decide +kernel
theorem d6_42 : decode method_3_code 42 = .ok (.ifCond .eq 7, 3) := by decide +kernel
theorem d6_45 : decode method_3_code 45 = .ok (.lconst 1, 1) := by decide +kernel
theorem d6_46 : decode method_3_code 46 = .ok (.goto 4, 3) := by decide +kernel
theorem d6_49 : decode method_3_code 49 = .ok (.lconst 0, 1) := by decide +kernel
theorem d6_50 : decode method_3_code 50 = .ok (.ladd, 1) := by decide +kernel
theorem d6_51 : decode method_3_code 51 = .ok (.lstore 6, 2) := by decide +kernel
theorem d6_53 : decode method_3_code 53 = .ok (.iload 5, 2) := by decide +kernel
theorem d6_55 : decode method_3_code 55 = .ok (.ifCond .eq 9, 3) := by decide +kernel
theorem d6_58 : decode method_3_code 58 = .ok (.ldc2_w 26, 3) := by decide +kernel
theorem d6_61 : decode method_3_code 61 = .ok (.goto 13, 3) := by decide +kernel
theorem d6_64 : decode method_3_code 64 = .ok (.iload 4, 2) := by decide +kernel
theorem d6_66 : decode method_3_code 66 = .ok (.ifCond .eq 7, 3) := by decide +kernel
theorem d6_69 : decode method_3_code 69 = .ok (.lconst 1, 1) := by decide +kernel
theorem d6_70 : decode method_3_code 70 = .ok (.goto 4, 3) := by decide +kernel
theorem d6_73 : decode method_3_code 73 = .ok (.lconst 0, 1) := by decide +kernel
theorem d6_74 : decode method_3_code 74 = .ok (.lstore 8, 2) := by decide +kernel
theorem d6_76 : decode method_3_code 76 = .ok (.aload_n 0, 1) := by decide +kernel
theorem d6_77 : decode method_3_code 77 = .ok (.iload_n 1, 1) := by decide +kernel
theorem d6_78 : decode method_3_code 78 = .ok (.invokevirtual 32, 3) := by decide +kernel
theorem d6_81 : decode method_3_code 81 = .ok (.lload 6, 2) := by decide +kernel
theorem d6_83 : decode method_3_code 83 = .ok (.lcmp, 1) := by decide +kernel
theorem d6_84 : decode method_3_code 84 = .ok (.ifCond .ne 18, 3) := by decide +kernel
theorem d6_87 : decode method_3_code 87 = .ok (.aload_n 0, 1) := by decide +kernel
theorem d6_88 : decode method_3_code 88 = .ok (.iload_n 1, 1) := by decide +kernel
theorem d6_89 : decode method_3_code 89 = .ok (.invokevirtual 36, 3) := by decide +kernel
theorem d6_92 : decode method_3_code 92 = .ok (.lload 8, 2) := by decide +kernel
theorem d6_94 : decode method_3_code 94 = .ok (.lcmp, 1) := by decide +kernel
theorem d6_95 : decode method_3_code 95 = .ok (.ifCond .ne 7, 3) := by decide +kernel
theorem d6_98 : decode method_3_code 98 = .ok (.iconst 1, 1) := by decide +kernel
theorem d6_99 : decode method_3_code 99 = .ok (.goto 4, 3) := by decide +kernel
theorem d6_102 : decode method_3_code 102 = .ok (.iconst 0, 1) := by decide +kernel
theorem d6_103 : decode method_3_code 103 = .ok (.ireturn, 1) := by decide +kernel
theorem pn_6 : plainName "com/example/uneven_ticks/uneventicks/core/RunStateAdvancePinLaw" = true := by first | (simp [plainName, overriddenIn]; done) | decide +kernel
theorem d7_0 : decode prog_45_method_3_code 0 = .ok (.aload_n 0, 1) := by decide +kernel
theorem d7_1 : decode prog_45_method_3_code 1 = .ok (.getfield 7, 3) := by decide +kernel
theorem d7_4 : decode prog_45_method_3_code 4 = .ok (.iload_n 1, 1) := by decide +kernel
theorem d7_5 : decode prog_45_method_3_code 5 = .ok (.laload, 1) := by decide +kernel
theorem d7_6 : decode prog_45_method_3_code 6 = .ok (.lreturn, 1) := by decide +kernel
theorem pn_7 : plainName "com/example/uneven_ticks/uneventicks/core/RunState" = true := by first | (simp [plainName, overriddenIn]; done) | decide +kernel
theorem d8_0 : decode prog_45_method_4_code 0 = .ok (.aload_n 0, 1) := by decide +kernel
theorem d8_1 : decode prog_45_method_4_code 1 = .ok (.getfield 13, 3) := by decide +kernel
theorem d8_4 : decode prog_45_method_4_code 4 = .ok (.iload_n 1, 1) := by decide +kernel
theorem d8_5 : decode prog_45_method_4_code 5 = .ok (.laload, 1) := by decide +kernel
theorem d8_6 : decode prog_45_method_4_code 6 = .ok (.lreturn, 1) := by decide +kernel
theorem pn_8 : plainName "com/example/uneven_ticks/uneventicks/core/RunState" = true := by first | (simp [plainName, overriddenIn]; done) | decide +kernel
theorem pd_6 : parseMethodDescriptor "(I)J" = some ⟨[.int], some .long⟩ := by decide +kernel
theorem pd_0 : parseMethodDescriptor "(IZ)[I" = some ⟨[.int, .boolean], some (.array .int)⟩ := by decide +kernel
theorem pd_1 : parseMethodDescriptor "(I)V" = some ⟨[.int], none⟩ := by decide +kernel
theorem pd_3 : parseMethodDescriptor "([I)V" = some ⟨[(.array .int)], none⟩ := by decide +kernel
theorem pd_4 : parseMethodDescriptor "()J" = some ⟨[], some .long⟩ := by decide +kernel
theorem pd_5 : parseMethodDescriptor "(Lcom/example/uneven_ticks/uneventicks/core/RunState;III)Z" = some ⟨[(.object "com/example/uneven_ticks/uneventicks/core/RunState"), .int, .int, .int], some .boolean⟩ := by decide +kernel

set_option maxRecDepth 65536 in
set_option maxHeartbeats 40000000 in
theorem tnA {p : Program} {l : Launch} {e : Env} {R : Room} {s : State} {m : MethodId} {args : Array Value} {below : List Frame} {meth : Method} {c : Code} {T0 : State} {locs : List Loc} {cells slots : Nat} {Z : State} {A0 : Array Value} (a0 : Addr) (a1 : Addr) (i3 : Int32) (i4 : Int32) (s5 : Slot) (n_a1 : Nat) (g_a1 : Nat → Int32) (w_ticks_a0 : Addr) (g_w_ticks_a0 : Nat → Int64) (w_lastTickSteps_a0 : Addr) (w_stepCount_a0 : Int64) (g_w_lastTickSteps_a0 : Nat → Int64) {h0 : Heap} {n0 : Nat}
    (X0 : Stand p l e R s m args below meth c T0 locs cells slots) (hx : p.tables.exec = Jvm.exec) (hZ : Z.Warmed39 s.vm) (hw : ∀ d ∈ tables_1, d.before A0 Z = true) (hby : c.code = prog_45_method_5_code) (hml : c.maxLocals = 6) (hown : s.vm.findClass "com/example/uneven_ticks/uneventicks/core/RunState" = some m.cls) (e0 : T0.heap = h0) (N0 : Fr n0 locs) (A_a1 : AF Z h0 a1 .int n_a1 (fun j => .int (g_a1 j))) (F_ticks_a0 : Fld Z h0 a0 "com/example/uneven_ticks/uneventicks/core/RunState" "ticks" "[J" (.ref w_ticks_a0)) (A_w_ticks_a0 : AF Z h0 w_ticks_a0 .long 3 (fun j => .long (g_w_ticks_a0 j))) (nw_w_ticks_a0 : n0 ≤ w_ticks_a0) (F_lastTickSteps_a0 : Fld Z h0 a0 "com/example/uneven_ticks/uneventicks/core/RunState" "lastTickSteps" "[J" (.ref w_lastTickSteps_a0)) (ne_a0_w_ticks_a0 : a0 ≠ w_ticks_a0) (F_stepCount_a0 : Fld Z h0 a0 "com/example/uneven_ticks/uneventicks/core/RunState" "stepCount" "J" (.long w_stepCount_a0)) (A_w_lastTickSteps_a0 : AF Z h0 w_lastTickSteps_a0 .long 3 (fun j => .long (g_w_lastTickSteps_a0 j))) (ne_w_lastTickSteps_a0_w_ticks_a0 : w_lastTickSteps_a0 ≠ w_ticks_a0) (nw_w_lastTickSteps_a0 : n0 ≤ w_lastTickSteps_a0) (hc21 : i4 < i3) (hin27 : own_in i4 n_a1) (one_s5 : One s5) (hin37 : own_in (g_a1 (i4).toNatClampNeg) 3) (hin40 : own_in (g_a1 (i4).toNatClampNeg) 3) (hin51 : own_in (g_a1 (i4).toNatClampNeg) 3) :
    ∃ (T' : State) (h' : Heap) (L' : List Loc), Stand p l e R s m args below meth c T' L' cells slots ∧ Fr n0 L' ∧ T'.heap = h' ∧ Keep h0 h' [w_ticks_a0, w_lastTickSteps_a0] ∧ AF Z h' w_ticks_a0 .long 3 (fun j => .long ((fun i => if i = ((g_a1 (i4).toNatClampNeg)).toNatClampNeg then ((g_w_ticks_a0 ((g_a1 (i4).toNatClampNeg)).toNatClampNeg) + (1 : Int64)) else g_w_ticks_a0 i) j)) ∧ AF Z h' w_lastTickSteps_a0 .long 3 (fun j => .long ((fun i => if i = ((g_a1 (i4).toNatClampNeg)).toNatClampNeg then w_stepCount_a0 else g_w_lastTickSteps_a0 i) j)) ∧ ∀ target, Steps p.tables e below (T'.setTop (mkF m 18 #[.val (.ref a0), .val (.ref a1), .val (.ref a1), .val (.int i3), .val (.int (i4 + (1 : Int32))), .val (.int (g_a1 (i4).toNatClampNeg))] [])) target → Steps p.tables e below (T0.setTop (mkF m 18 #[.val (.ref a0), .val (.ref a1), .val (.ref a1), .val (.int i3), .val (.int i4), s5] [])) target := by
  obtain ⟨T1, X1, e1, st1⟩ := getF X0 hx hZ hown (host := "") (Or.inl (hw _ (List.mem_of_getElem? (i := 15) rfl))) Via.refl e0 F_ticks_a0 (g := (mkF m 31 #[.val (.ref a0), .val (.ref a1), .val (.ref a1), .val (.int i3), .val (.int i4), .val (.int (g_a1 (i4).toNatClampNeg))] [(.ref a0)])) rfl rfl (hb hby d4_31)
  obtain ⟨v2, hv2⟩ : ∃ z : Int64, z = ((g_w_ticks_a0 ((g_a1 (i4).toNatClampNeg)).toNatClampNeg) + (1 : Int64)) := ⟨_, rfl⟩
  obtain ⟨T3, h3, X3, e3, W3, A3, st3⟩ := AF.stJ X1 hx hZ e1 A_w_ticks_a0 hin40 (g := (mkF m 40 #[.val (.ref a0), .val (.ref a1), .val (.ref a1), .val (.int i3), .val (.int i4), .val (.int (g_a1 (i4).toNatClampNeg))] [(.long v2), (.int (g_a1 (i4).toNatClampNeg)), (.ref w_ticks_a0)])) rfl rfl (hb hby d4_40)
  have K3 : Keep h0 h3 [w_ticks_a0, w_lastTickSteps_a0] := (Keep.refl h0 [w_ticks_a0, w_lastTickSteps_a0]).wr W3 (Or.inl (by simp))
  obtain ⟨f4, hf4⟩ : ∃ f : Nat → Int64, f = (fun i => if i = ((g_a1 (i4).toNatClampNeg)).toNatClampNeg then v2 else g_w_ticks_a0 i) := ⟨_, rfl⟩
  have V3 : AF Z h3 w_ticks_a0 .long 3 (fun j => .long (f4 j)) := AF.cong A3 (own_updJ rfl hf4)
  have N3 := Fr.snoc X3 N0 nw_w_ticks_a0
  have G5 : Fld Z h3 a0 "com/example/uneven_ticks/uneventicks/core/RunState" "lastTickSteps" "[J" (.ref w_lastTickSteps_a0) := (F_lastTickSteps_a0.other W3 (Or.inl ne_a0_w_ticks_a0))
  obtain ⟨T6, X6, e6, st6⟩ := getF X3 hx hZ hown (host := "") (Or.inl (hw _ (List.mem_of_getElem? (i := 17) rfl))) Via.refl e3 G5 (g := (mkF m 42 #[.val (.ref a0), .val (.ref a1), .val (.ref a1), .val (.int i3), .val (.int i4), .val (.int (g_a1 (i4).toNatClampNeg))] [(.ref a0)])) rfl rfl (hb hby d4_42)
  have G7 : Fld Z h3 a0 "com/example/uneven_ticks/uneventicks/core/RunState" "stepCount" "J" (.long w_stepCount_a0) := (F_stepCount_a0.other W3 (Or.inl ne_a0_w_ticks_a0))
  obtain ⟨T8, X8, e8, st8⟩ := getF X6 hx hZ hown (host := "") (Or.inl (hw _ (List.mem_of_getElem? (i := 24) rfl))) Via.refl e6 G7 (g := (mkF m 48 #[.val (.ref a0), .val (.ref a1), .val (.ref a1), .val (.int i3), .val (.int i4), .val (.int (g_a1 (i4).toNatClampNeg))] [(.ref a0), (.int (g_a1 (i4).toNatClampNeg)), (.ref w_lastTickSteps_a0)])) rfl rfl (hb hby d4_48)
  have G9 : AF Z h3 w_lastTickSteps_a0 .long 3 (fun j => .long (g_w_lastTickSteps_a0 j)) := (A_w_lastTickSteps_a0.other W3 ne_w_lastTickSteps_a0_w_ticks_a0)
  obtain ⟨T10, h10, X10, e10, W10, A10, st10⟩ := AF.stJ X8 hx hZ e8 G9 hin51 (g := (mkF m 51 #[.val (.ref a0), .val (.ref a1), .val (.ref a1), .val (.int i3), .val (.int i4), .val (.int (g_a1 (i4).toNatClampNeg))] [(.long w_stepCount_a0), (.int (g_a1 (i4).toNatClampNeg)), (.ref w_lastTickSteps_a0)])) rfl rfl (hb hby d4_51)
  have K10 : Keep h0 h10 [w_ticks_a0, w_lastTickSteps_a0] := K3.wr W10 (Or.inl (by simp))
  obtain ⟨f11, hf11⟩ : ∃ f : Nat → Int64, f = (fun i => if i = ((g_a1 (i4).toNatClampNeg)).toNatClampNeg then w_stepCount_a0 else g_w_lastTickSteps_a0 i) := ⟨_, rfl⟩
  have V10 : AF Z h10 w_lastTickSteps_a0 .long 3 (fun j => .long (f11 j)) := AF.cong A10 (own_updJ rfl hf11)
  have N10 := Fr.snoc X10 N3 nw_w_lastTickSteps_a0
  have G12 : AF Z h10 w_ticks_a0 .long 3 (fun j => .long (f4 j)) := (V3.other W10 (Ne.symm ne_w_lastTickSteps_a0_w_ticks_a0))
  subst hv2 hf4 hf11
  refine ⟨T10, _, _, X10, N10, e10, K10, G12, V10, fun target kt => ?_⟩
  show Steps p.tables e below (T0.setTop (mkF m 18 #[.val (.ref a0), .val (.ref a1), .val (.ref a1), .val (.int i3), .val (.int i4), s5] [])) _
  refine XS.iload X0.here hx rfl (hb hby d4_18) rfl ?_
  show Steps p.tables e below (T0.setTop (mkF m 20 #[.val (.ref a0), .val (.ref a1), .val (.ref a1), .val (.int i3), .val (.int i4), s5] [(.int i4)])) _
  refine XS.iloadN X0.here hx rfl (hb hby d4_20) rfl ?_
  show Steps p.tables e below (T0.setTop (mkF m 21 #[.val (.ref a0), .val (.ref a1), .val (.ref a1), .val (.int i3), .val (.int i4), s5] [(.int i3), (.int i4)])) _
  refine XS.icmpNo X0.here hx rfl (hb hby d4_21) rfl (tlt hc21).2.1 ?_
  show Steps p.tables e below (T0.setTop (mkF m 24 #[.val (.ref a0), .val (.ref a1), .val (.ref a1), .val (.int i3), .val (.int i4), s5] [])) _
  refine XS.aloadN X0.here hx rfl (hb hby d4_24) rfl rfl ?_
  show Steps p.tables e below (T0.setTop (mkF m 25 #[.val (.ref a0), .val (.ref a1), .val (.ref a1), .val (.int i3), .val (.int i4), s5] [(.ref a1)])) _
  refine XS.iload X0.here hx rfl (hb hby d4_25) rfl ?_
  show Steps p.tables e below (T0.setTop (mkF m 27 #[.val (.ref a0), .val (.ref a1), .val (.ref a1), .val (.int i3), .val (.int i4), s5] [(.int i4), (.ref a1)])) _
  refine AF.ldI X0 hx hZ e0 A_a1 hin27 (g := (mkF m 27 #[.val (.ref a0), .val (.ref a1), .val (.ref a1), .val (.int i3), .val (.int i4), s5] [(.int i4), (.ref a1)])) rfl rfl (hb hby d4_27) _ ?_
  show Steps p.tables e below (T0.setTop (mkF m 28 #[.val (.ref a0), .val (.ref a1), .val (.ref a1), .val (.int i3), .val (.int i4), s5] [(.int (g_a1 (i4).toNatClampNeg))])) _
  refine XS.istoreS X0.here hx rfl (hb hby d4_28) rfl rfl one_s5 ?_
  show Steps p.tables e below (T0.setTop (mkF m 30 #[.val (.ref a0), .val (.ref a1), .val (.ref a1), .val (.int i3), .val (.int i4), .val (.int (g_a1 (i4).toNatClampNeg))] [])) _
  refine XS.aloadN X0.here hx rfl (hb hby d4_30) rfl rfl ?_
  show Steps p.tables e below (T0.setTop (mkF m 31 #[.val (.ref a0), .val (.ref a1), .val (.ref a1), .val (.int i3), .val (.int i4), .val (.int (g_a1 (i4).toNatClampNeg))] [(.ref a0)])) _
  refine st1 _ ?_
  show Steps p.tables e below (T1.setTop (mkF m 34 #[.val (.ref a0), .val (.ref a1), .val (.ref a1), .val (.int i3), .val (.int i4), .val (.int (g_a1 (i4).toNatClampNeg))] [(.ref w_ticks_a0)])) _
  refine XS.iload X1.here hx rfl (hb hby d4_34) rfl ?_
  show Steps p.tables e below (T1.setTop (mkF m 36 #[.val (.ref a0), .val (.ref a1), .val (.ref a1), .val (.int i3), .val (.int i4), .val (.int (g_a1 (i4).toNatClampNeg))] [(.int (g_a1 (i4).toNatClampNeg)), (.ref w_ticks_a0)])) _
  jvm_step X1.here [X1.here.top, hx, (hb hby d4_36), Value.category]
  show Steps p.tables e below (T1.setTop (mkF m 37 #[.val (.ref a0), .val (.ref a1), .val (.ref a1), .val (.int i3), .val (.int i4), .val (.int (g_a1 (i4).toNatClampNeg))] [(.int (g_a1 (i4).toNatClampNeg)), (.ref w_ticks_a0), (.int (g_a1 (i4).toNatClampNeg)), (.ref w_ticks_a0)])) _
  refine AF.ldJ X1 hx hZ e1 A_w_ticks_a0 hin37 (g := (mkF m 37 #[.val (.ref a0), .val (.ref a1), .val (.ref a1), .val (.int i3), .val (.int i4), .val (.int (g_a1 (i4).toNatClampNeg))] [(.int (g_a1 (i4).toNatClampNeg)), (.ref w_ticks_a0), (.int (g_a1 (i4).toNatClampNeg)), (.ref w_ticks_a0)])) rfl rfl (hb hby d4_37) _ ?_
  show Steps p.tables e below (T1.setTop (mkF m 38 #[.val (.ref a0), .val (.ref a1), .val (.ref a1), .val (.int i3), .val (.int i4), .val (.int (g_a1 (i4).toNatClampNeg))] [(.long (g_w_ticks_a0 ((g_a1 (i4).toNatClampNeg)).toNatClampNeg)), (.int (g_a1 (i4).toNatClampNeg)), (.ref w_ticks_a0)])) _
  refine XS.lconst X1.here hx rfl (hb hby d4_38) ?_
  show Steps p.tables e below (T1.setTop (mkF m 39 #[.val (.ref a0), .val (.ref a1), .val (.ref a1), .val (.int i3), .val (.int i4), .val (.int (g_a1 (i4).toNatClampNeg))] [(.long (1 : Int64)), (.long (g_w_ticks_a0 ((g_a1 (i4).toNatClampNeg)).toNatClampNeg)), (.int (g_a1 (i4).toNatClampNeg)), (.ref w_ticks_a0)])) _
  refine XS.ladd X1.here hx rfl (hb hby d4_39) rfl ?_
  show Steps p.tables e below (T1.setTop (mkF m 40 #[.val (.ref a0), .val (.ref a1), .val (.ref a1), .val (.int i3), .val (.int i4), .val (.int (g_a1 (i4).toNatClampNeg))] [(.long ((g_w_ticks_a0 ((g_a1 (i4).toNatClampNeg)).toNatClampNeg) + (1 : Int64))), (.int (g_a1 (i4).toNatClampNeg)), (.ref w_ticks_a0)])) _
  show Steps p.tables e below (T1.setTop (mkF m 40 #[.val (.ref a0), .val (.ref a1), .val (.ref a1), .val (.int i3), .val (.int i4), .val (.int (g_a1 (i4).toNatClampNeg))] [(.long ((g_w_ticks_a0 ((g_a1 (i4).toNatClampNeg)).toNatClampNeg) + (1 : Int64))), (.int (g_a1 (i4).toNatClampNeg)), (.ref w_ticks_a0)])) _
  refine st3 _ ?_
  show Steps p.tables e below (T3.setTop (mkF m 41 #[.val (.ref a0), .val (.ref a1), .val (.ref a1), .val (.int i3), .val (.int i4), .val (.int (g_a1 (i4).toNatClampNeg))] [])) _
  refine XS.aloadN X3.here hx rfl (hb hby d4_41) rfl rfl ?_
  show Steps p.tables e below (T3.setTop (mkF m 42 #[.val (.ref a0), .val (.ref a1), .val (.ref a1), .val (.int i3), .val (.int i4), .val (.int (g_a1 (i4).toNatClampNeg))] [(.ref a0)])) _
  refine st6 _ ?_
  show Steps p.tables e below (T6.setTop (mkF m 45 #[.val (.ref a0), .val (.ref a1), .val (.ref a1), .val (.int i3), .val (.int i4), .val (.int (g_a1 (i4).toNatClampNeg))] [(.ref w_lastTickSteps_a0)])) _
  refine XS.iload X6.here hx rfl (hb hby d4_45) rfl ?_
  show Steps p.tables e below (T6.setTop (mkF m 47 #[.val (.ref a0), .val (.ref a1), .val (.ref a1), .val (.int i3), .val (.int i4), .val (.int (g_a1 (i4).toNatClampNeg))] [(.int (g_a1 (i4).toNatClampNeg)), (.ref w_lastTickSteps_a0)])) _
  refine XS.aloadN X6.here hx rfl (hb hby d4_47) rfl rfl ?_
  show Steps p.tables e below (T6.setTop (mkF m 48 #[.val (.ref a0), .val (.ref a1), .val (.ref a1), .val (.int i3), .val (.int i4), .val (.int (g_a1 (i4).toNatClampNeg))] [(.ref a0), (.int (g_a1 (i4).toNatClampNeg)), (.ref w_lastTickSteps_a0)])) _
  refine st8 _ ?_
  show Steps p.tables e below (T8.setTop (mkF m 51 #[.val (.ref a0), .val (.ref a1), .val (.ref a1), .val (.int i3), .val (.int i4), .val (.int (g_a1 (i4).toNatClampNeg))] [(.long w_stepCount_a0), (.int (g_a1 (i4).toNatClampNeg)), (.ref w_lastTickSteps_a0)])) _
  refine st10 _ ?_
  show Steps p.tables e below (T10.setTop (mkF m 52 #[.val (.ref a0), .val (.ref a1), .val (.ref a1), .val (.int i3), .val (.int i4), .val (.int (g_a1 (i4).toNatClampNeg))] [])) _
  refine XS.iinc X10.here hx rfl (hb hby d4_52) rfl (l' := #[.val (.ref a0), .val (.ref a1), .val (.ref a1), .val (.int i3), .val (.int (i4 + (1 : Int32))), .val (.int (g_a1 (i4).toNatClampNeg))]) rfl ?_
  show Steps p.tables e below (T10.setTop (mkF m 55 #[.val (.ref a0), .val (.ref a1), .val (.ref a1), .val (.int i3), .val (.int (i4 + (1 : Int32))), .val (.int (g_a1 (i4).toNatClampNeg))] [])) _
  refine XS.goto X10.here hx rfl (pc0 := 55) (pc' := 18) rfl (hb hby d4_55) (by decide) (by decide) ?_
  exact kt
set_option maxRecDepth 65536 in
set_option maxHeartbeats 40000000 in
theorem tnB {p : Program} {l : Launch} {e : Env} {R : Room} {s : State} {m : MethodId} {args : Array Value} {below : List Frame} {meth : Method} {c : Code} {T0 : State} {locs : List Loc} {cells slots : Nat} {Z : State} {A0 : Array Value} (a0 : Addr) (a1 : Addr) (i3 : Int32) (i4 : Int32) (s5 : Slot) {h0 : Heap} {n0 : Nat}
    (X0 : Stand p l e R s m args below meth c T0 locs cells slots) (hx : p.tables.exec = Jvm.exec) (hZ : Z.Warmed39 s.vm) (hw : ∀ d ∈ tables_1, d.before A0 Z = true) (hby : c.code = prog_45_method_5_code) (hml : c.maxLocals = 6) (hown : s.vm.findClass "com/example/uneven_ticks/uneventicks/core/RunState" = some m.cls) (e0 : T0.heap = h0) (N0 : Fr n0 locs) (hc21 : ¬ (i4 < i3)) :
    ∃ (T' : State) (L' : List Loc), Stand p l e R s m args below meth c T' L' cells slots ∧ Fr n0 L' ∧ T'.heap = h0 ∧ ∀ target, Steps p.tables e below (T'.setTop (mkF m 58 #[.val (.ref a0), .val (.ref a1), .val (.ref a1), .val (.int i3), .val (.int i4), s5] [])) target → Steps p.tables e below (T0.setTop (mkF m 18 #[.val (.ref a0), .val (.ref a1), .val (.ref a1), .val (.int i3), .val (.int i4), s5] [])) target := by
  refine ⟨T0, _, X0, N0, e0, fun target kt => ?_⟩
  show Steps p.tables e below (T0.setTop (mkF m 18 #[.val (.ref a0), .val (.ref a1), .val (.ref a1), .val (.int i3), .val (.int i4), s5] [])) _
  refine XS.iload X0.here hx rfl (hb hby d4_18) rfl ?_
  show Steps p.tables e below (T0.setTop (mkF m 20 #[.val (.ref a0), .val (.ref a1), .val (.ref a1), .val (.int i3), .val (.int i4), s5] [(.int i4)])) _
  refine XS.iloadN X0.here hx rfl (hb hby d4_20) rfl ?_
  show Steps p.tables e below (T0.setTop (mkF m 21 #[.val (.ref a0), .val (.ref a1), .val (.ref a1), .val (.int i3), .val (.int i4), s5] [(.int i3), (.int i4)])) _
  refine XS.icmpYes X0.here hx rfl (pc0 := 21) (pc' := 58) rfl (hb hby d4_21) rfl (flt hc21).2.1 (by decide) (by decide) ?_
  exact kt

def own_t (ga : Nat → Int32) : Nat → (Nat → Int64) → Nat → (Nat → Int64)
  | 0, t, _ => t
  | k + 1, t, i => own_t ga k (fun j => if j = (ga i).toNatClampNeg then (t (ga i).toNatClampNeg + (1 : Int64)) else t j) (i + 1)
def own_l (ga : Nat → Int32) (sc : Int64) : Nat → (Nat → Int64) → Nat → (Nat → Int64)
  | 0, t, _ => t
  | k + 1, t, i => own_l ga sc k (fun j => if j = (ga i).toNatClampNeg then sc else t j) (i + 1)
theorem loop4 {p : Program} {l : Launch} {e : Env} {R : Room} {s : State} {m : MethodId} {args : Array Value} {below : List Frame} {meth : Method} {c : Code} {cells slots : Nat} {Z : State} {A0 : Array Value} (a0 a1 wt wl : Addr) (n : Nat) (ga : Nat → Int32) (sc : Int64) {n0 : Nat}
    (hx : p.tables.exec = Jvm.exec) (hZ : Z.Warmed39 s.vm) (hw : ∀ d ∈ tables_1, d.before A0 Z = true) (hby : c.code = prog_45_method_5_code) (hml : c.maxLocals = 6) (hown : s.vm.findClass "com/example/uneven_ticks/uneventicks/core/RunState" = some m.cls)
    (nwt : n0 ≤ wt) (nwl : n0 ≤ wl) (ne1 : a0 ≠ wt) (ne2 : a0 ≠ wl) (ne3 : wl ≠ wt) (ne4 : a1 ≠ wt) (ne5 : a1 ≠ wl) (hin : ∀ i, i < n → own_in (ga i) 3) (hn : n < 2147483648) (k : Nat) :
    ∀ (i : Nat) (T0 : State) (h0 : Heap) (locs : List Loc) (gt gl : Nat → Int64) (s5 : Slot), Stand p l e R s m args below meth c T0 locs cells slots → T0.heap = h0 → Fr n0 locs → i + k = n → One s5 →
      AF Z h0 a1 .int n (fun j => .int (ga j)) → Fld Z h0 a0 "com/example/uneven_ticks/uneventicks/core/RunState" "ticks" "[J" (.ref wt) → Fld Z h0 a0 "com/example/uneven_ticks/uneventicks/core/RunState" "lastTickSteps" "[J" (.ref wl) → Fld Z h0 a0 "com/example/uneven_ticks/uneventicks/core/RunState" "stepCount" "J" (.long sc) → AF Z h0 wt .long 3 (fun j => .long (gt j)) → AF Z h0 wl .long 3 (fun j => .long (gl j)) →
    ∃ (T' : State) (h' : Heap) (L' : List Loc) (s5' : Slot), Stand p l e R s m args below meth c T' L' cells slots ∧ Fr n0 L' ∧ T'.heap = h' ∧ Keep h0 h' [wt, wl] ∧ AF Z h' wt .long 3 (fun j => .long (own_t ga k gt i j)) ∧ AF Z h' wl .long 3 (fun j => .long (own_l ga sc k gl i j)) ∧
      ∀ target, Steps p.tables e below (T'.setTop (mkF m 58 #[.val (.ref a0), .val (.ref a1), .val (.ref a1), .val (.int (Int32.ofNat n)), .val (.int (Int32.ofNat n)), s5'] [])) target → Steps p.tables e below (T0.setTop (mkF m 18 #[.val (.ref a0), .val (.ref a1), .val (.ref a1), .val (.int (Int32.ofNat n)), .val (.int (Int32.ofNat i)), s5] [])) target := by
  induction k with
  | zero =>
    intro i T0 h0 locs gt gl s5 X0 e0 N0 hk o5 A1 F1 F2 F3 At Al
    have hi : i = n := by omega
    subst hi
    obtain ⟨T', L', X', N', e', st⟩ := tnB a0 a1 (Int32.ofNat i) (Int32.ofNat i) s5 X0 hx hZ hw hby hml hown e0 N0 (fun q => absurd q Int32.lt_irrefl)
    exact ⟨T', h0, L', s5, X', N', e', Keep.refl _ _, At, Al, st⟩
  | succ k ih =>
    intro i T0 h0 locs gt gl s5 X0 e0 N0 hk o5 A1 F1 F2 F3 At Al
    have idx : (Int32.ofNat i).toNatClampNeg = i := Jvm.Free.XT.n32 (by omega)
    have hii := hin i (by omega)
    have hlt : Int32.ofNat i < Int32.ofNat n := Jvm.Free.XT.lt32 (by omega) (by omega)
    have hi0 : own_in (Int32.ofNat i) n := by
      have := Int32.toInt_ofNat_of_lt (show i < 2 ^ 31 by omega)
      exact ⟨by omega, by omega⟩
    obtain ⟨T1, h1, L1, X1, N1, e1, K1, At1, Al1, st1⟩ := tnA a0 a1 (Int32.ofNat n) (Int32.ofNat i) s5 n ga wt gt wl sc gl X0 hx hZ hw hby hml hown e0 N0 A1 F1 At nwt F2 ne1 F3 Al ne3 nwl hlt hi0 o5 (by rw [idx]; exact hii) (by rw [idx]; exact hii) (by rw [idx]; exact hii)
    rw [idx] at At1 Al1 st1
    have nin : ∀ {x : Addr}, x ≠ wt → x ≠ wl → x ∉ [wt, wl] := fun q1 q2 => ninS q1 (ninS q2 nin0)
    obtain ⟨T2, h2, L2, s5', X2, N2, e2, K2, At2, Al2, st2⟩ := ih (i + 1) T1 h1 L1 _ _ (.val (.int (ga i))) X1 e1 N1 (by omega) (One.val rfl) (A1.keep K1 (nin ne4 ne5)) (F1.keep K1 (nin ne1 ne2)) (F2.keep K1 (nin ne1 ne2)) (F3.keep K1 (nin ne1 ne2)) At1 Al1
    refine ⟨T2, h2, L2, s5', X2, N2, e2, K1.trans K2 (fun x hx => Or.inl hx), At2, Al2, fun target kt => st1 _ ?_⟩
    have hs : Int32.ofNat i + (1 : Int32) = Int32.ofNat (i + 1) := (Int32.ofNat_add i 1).symm
    rw [hs]
    exact st2 _ kt

theorem ef_4 (m : MethodId) (a0 : Addr) (a1 : Addr) : entryFrame m #[(.ref a0), (.ref a1)] 6 = mkF m 0 #[.val (.ref a0), .val (.ref a1), .unset, .unset, .unset, .unset] [] := by first | (simp [entryFrame, mkF, argsToLocals, Value.category]; done) | rfl
def Q4 (Z : State) (a0 : Addr) (a1 : Addr) (w_ticks_a0 : Addr) (w_lastTickSteps_a0 : Addr) (w_stepCount_a0 : Int64) (n_a1 : Nat) (g_a1 : Nat → Int32) (g_w_ticks_a0 : Nat → Int64) (g_w_lastTickSteps_a0 : Nat → Int64) (h0 : Heap) (n0 : Nat) (v : Option Value) (h : Heap) (L : List Loc) : Prop := v = none ∧ Fr n0 L ∧ Keep h0 h [a0, w_ticks_a0, w_lastTickSteps_a0] ∧ Exa Z h a0 "com/example/uneven_ticks/uneventicks/core/RunState" ∧ Fld Z h a0 "com/example/uneven_ticks/uneventicks/core/RunState" "ticks" "[J" (.ref w_ticks_a0) ∧ Fld Z h a0 "com/example/uneven_ticks/uneventicks/core/RunState" "lastTickSteps" "[J" (.ref w_lastTickSteps_a0) ∧ Fld Z h a0 "com/example/uneven_ticks/uneventicks/core/RunState" "stepCount" "J" (.long (w_stepCount_a0 + (1 : Int64))) ∧ AF Z h w_ticks_a0 .long 3 (fun j => .long ((own_t g_a1 n_a1 g_w_ticks_a0 0) j)) ∧ AF Z h w_lastTickSteps_a0 .long 3 (fun j => .long ((own_l g_a1 (w_stepCount_a0 + (1 : Int64)) n_a1 g_w_lastTickSteps_a0 0) j))
set_option maxRecDepth 65536 in
set_option maxHeartbeats 40000000 in
theorem rm4 (l : Launch) (Z : State) (A0 : Array Value) (hw : ∀ d ∈ tables_1, d.before A0 Z = true) (ws : List Jvm.Cond) (a0 : Addr) (a1 : Addr) (w_ticks_a0 : Addr) (w_lastTickSteps_a0 : Addr) (w_stepCount_a0 : Int64) (n_a1 : Nat) (g_a1 : Nat → Int32) (g_w_ticks_a0 : Nat → Int64) (g_w_lastTickSteps_a0 : Nat → Int64) (h0 : Heap) (n0 : Nat) (Z0 : n0 ≤ h0.size) (E_a0 : Exa Z h0 a0 "com/example/uneven_ticks/uneventicks/core/RunState") (F_ticks_a0 : Fld Z h0 a0 "com/example/uneven_ticks/uneventicks/core/RunState" "ticks" "[J" (.ref w_ticks_a0)) (F_lastTickSteps_a0 : Fld Z h0 a0 "com/example/uneven_ticks/uneventicks/core/RunState" "lastTickSteps" "[J" (.ref w_lastTickSteps_a0)) (F_stepCount_a0 : Fld Z h0 a0 "com/example/uneven_ticks/uneventicks/core/RunState" "stepCount" "J" (.long w_stepCount_a0)) (nw_a0 : n0 ≤ a0) (A_a1 : AF Z h0 a1 .int n_a1 (fun j => .int (g_a1 j))) (ne_a0_a1 : a0 ≠ a1) (A_w_ticks_a0 : AF Z h0 w_ticks_a0 .long 3 (fun j => .long (g_w_ticks_a0 j))) (ne_a0_w_ticks_a0 : a0 ≠ w_ticks_a0) (A_w_lastTickSteps_a0 : AF Z h0 w_lastTickSteps_a0 .long 3 (fun j => .long (g_w_lastTickSteps_a0 j))) (ne_a0_w_lastTickSteps_a0 : a0 ≠ w_lastTickSteps_a0) (nw_w_ticks_a0 : n0 ≤ w_ticks_a0) (nw_w_lastTickSteps_a0 : n0 ≤ w_lastTickSteps_a0) (ne_w_lastTickSteps_a0_w_ticks_a0 : w_lastTickSteps_a0 ≠ w_ticks_a0) (ne_a1_w_ticks_a0 : a1 ≠ w_ticks_a0) (ne_a1_w_lastTickSteps_a0 : a1 ≠ w_lastTickSteps_a0) (hin : ∀ i, i < n_a1 → own_in (g_a1 i) 3) :
    MetFree l (⟨"com/example/uneven_ticks/uneventicks/core/RunState", "advance", "([I)V"⟩ : MethodName) (head1 (Jvm.Cond.code (⟨"com/example/uneven_ticks/uneventicks/core/RunState", "advance", "([I)V"⟩ : MethodName) prog_45_method_5_code 6 none :: ws) ({ frames := 0, cells := 0, slots := 0, locals := 0 } : Room)) (fun a U => a = #[(.ref a0), (.ref a1)] ∧ Z.Warmed39 U.vm ∧ U.heap = h0) (fun _ _ _ _ _ => True) (fun _ U o U' => ∃ v L, o = .returned v ∧ Q4 Z a0 a1 w_ticks_a0 w_lastTickSteps_a0 w_stepCount_a0 n_a1 g_a1 g_w_ticks_a0 g_w_lastTickSteps_a0 h0 n0 v U'.heap L ∧ FrameEnd U o U' L ({ frames := 0, cells := 0, slots := 0, locals := 0 } : Room).cells ({ frames := 0, cells := 0, slots := 0, locals := 0 } : Room).slots) := by
  refine MetFree.of_bodySF (plainFor_of_name pn_4) hisR ?_
  intro p e s m args below meth c s₁ Bd hml0 hP hK
  obtain ⟨rfl, hZ, hh⟩ := hP
  have hx := Bd.exec
  have hby := Bd.bytes
  have hml : c.maxLocals = 6 := hml0
  have hown : s.vm.findClass "com/example/uneven_ticks/uneventicks/core/RunState" = some m.cls := findClass_of_methodNamed Bd.named
  have hnm := (name_of_methodNamed Bd.named Bd.method).1
  have X0 : Stand p l e ({ frames := 0, cells := 0, slots := 0, locals := 0 } : Room) s m #[(.ref a0), (.ref a1)] below meth c s₁ [] 0 0 := Stand.of_body Bd
  have e0 : s₁.heap = h0 := by rw [← hh, Bd.state]; rfl
  have N0 := Fr.nil n0
  have pre0 : ∀ t, Steps p.tables e below (s₁.setTop (mkF m 0 #[.val (.ref a0), .val (.ref a1), .unset, .unset, .unset, .unset] [])) t → Steps p.tables e below (s₁.setTop (entryFrame m #[(.ref a0), (.ref a1)] 6)) t := fun t k => castTop (ef_4 m a0 a1) k
  obtain ⟨T1, X1, e1, st1⟩ := getF X0 hx hZ hown (host := "") (Or.inl (hw _ (List.mem_of_getElem? (i := 24) rfl))) Via.refl e0 F_stepCount_a0 (g := (mkF m 2 #[.val (.ref a0), .val (.ref a1), .unset, .unset, .unset, .unset] [(.ref a0), (.ref a0)])) rfl rfl (hb hby d4_2)
  obtain ⟨T2, h2, X2, e2, W2, st2⟩ := putF X1 hx hZ hown (host := "") (Or.inl (hw _ (List.mem_of_getElem? (i := 24) rfl))) Via.refl e1 F_stepCount_a0 E_a0 (Or.inl (hw _ (List.mem_of_getElem? (i := 25) rfl))) (hw _ (List.mem_of_getElem? (i := 6) rfl)) (ty := .long) (by decide) rfl rfl (g := (mkF m 7 #[.val (.ref a0), .val (.ref a1), .unset, .unset, .unset, .unset] [(.long (w_stepCount_a0 + (1 : Int64))), (.ref a0)])) rfl rfl (hb hby d4_7)
  have K2 : Keep h0 h2 [a0, w_ticks_a0, w_lastTickSteps_a0] := (Keep.refl h0 [a0, w_ticks_a0, w_lastTickSteps_a0]).wr W2 (Or.inl (by simp))
  have Fw2 : Fld Z h2 a0 "com/example/uneven_ticks/uneventicks/core/RunState" "stepCount" "J" (.long (w_stepCount_a0 + (1 : Int64))) := F_stepCount_a0.same W2
  have N2 := Fr.snoc X2 N0 nw_a0
  have G3 : AF Z h2 a1 .int n_a1 (fun j => .int (g_a1 j)) := (A_a1.other W2 (Ne.symm ne_a0_a1))
  have G4 : Fld Z h2 a0 "com/example/uneven_ticks/uneventicks/core/RunState" "ticks" "[J" (.ref w_ticks_a0) := (F_ticks_a0.other W2 (Or.inr (slot_ne (Or.inr (hw _ (List.mem_of_getElem? (i := 16) rfl))) (Or.inl (hw _ (List.mem_of_getElem? (i := 25) rfl))) (by decide) (t := (.array .long)) (t' := .long) (by decide) (by decide))))
  have G5 : Fld Z h2 a0 "com/example/uneven_ticks/uneventicks/core/RunState" "lastTickSteps" "[J" (.ref w_lastTickSteps_a0) := (F_lastTickSteps_a0.other W2 (Or.inr (slot_ne (Or.inr (hw _ (List.mem_of_getElem? (i := 18) rfl))) (Or.inl (hw _ (List.mem_of_getElem? (i := 25) rfl))) (by decide) (t := (.array .long)) (t' := .long) (by decide) (by decide))))
  have G6 : AF Z h2 w_ticks_a0 .long 3 (fun j => .long (g_w_ticks_a0 j)) := (A_w_ticks_a0.other W2 (Ne.symm ne_a0_w_ticks_a0))
  have G7 : AF Z h2 w_lastTickSteps_a0 .long 3 (fun j => .long (g_w_lastTickSteps_a0 j)) := (A_w_lastTickSteps_a0.other W2 (Ne.symm ne_a0_w_lastTickSteps_a0))
  obtain ⟨T8, h8, L8, s8, X8, N8, e8, Kc8, At8, Al8, st8⟩ := loop4 a0 a1 w_ticks_a0 w_lastTickSteps_a0 n_a1 g_a1 (w_stepCount_a0 + (1 : Int64)) hx hZ hw hby hml hown nw_w_ticks_a0 nw_w_lastTickSteps_a0 ne_a0_w_ticks_a0 ne_a0_w_lastTickSteps_a0 ne_w_lastTickSteps_a0_w_ticks_a0 ne_a1_w_ticks_a0 ne_a1_w_lastTickSteps_a0 hin A_a1.small n_a1 0 T2 h2 _ _ _ .unset X2 e2 N2 (Nat.zero_add _) One.u G3 G4 G5 Fw2 G6 G7
  have K8 : Keep h0 h8 [a0, w_ticks_a0, w_lastTickSteps_a0] := K2.trans Kc8 (allS (Or.inl (by simp)) (allS (Or.inl (by simp)) all0))
  obtain ⟨fs, hr, hrun, hended, hW, hsame⟩ := X8.leave (v := none) (fun _ => rfl)
  refine ⟨_, _, pre0 _ ?_, hrun, hended, _, _, rfl, ?_, ⟨_, rfl⟩, hW, hsame.mono (by decide) (by decide)⟩
  · show Steps p.tables e below (s₁.setTop (mkF m 0 #[.val (.ref a0), .val (.ref a1), .unset, .unset, .unset, .unset] [])) _
    refine XS.aloadN X0.here hx rfl (hb hby d4_0) rfl rfl ?_
    show Steps p.tables e below (s₁.setTop (mkF m 1 #[.val (.ref a0), .val (.ref a1), .unset, .unset, .unset, .unset] [(.ref a0)])) _
    refine XS.dup X0.here hx rfl (hb hby d4_1) rfl rfl ?_
    show Steps p.tables e below (s₁.setTop (mkF m 2 #[.val (.ref a0), .val (.ref a1), .unset, .unset, .unset, .unset] [(.ref a0), (.ref a0)])) _
    refine st1 _ ?_
    show Steps p.tables e below (T1.setTop (mkF m 5 #[.val (.ref a0), .val (.ref a1), .unset, .unset, .unset, .unset] [(.long w_stepCount_a0), (.ref a0)])) _
    refine XS.lconst X1.here hx rfl (hb hby d4_5) ?_
    show Steps p.tables e below (T1.setTop (mkF m 6 #[.val (.ref a0), .val (.ref a1), .unset, .unset, .unset, .unset] [(.long (1 : Int64)), (.long w_stepCount_a0), (.ref a0)])) _
    refine XS.ladd X1.here hx rfl (hb hby d4_6) rfl ?_
    show Steps p.tables e below (T1.setTop (mkF m 7 #[.val (.ref a0), .val (.ref a1), .unset, .unset, .unset, .unset] [(.long (w_stepCount_a0 + (1 : Int64))), (.ref a0)])) _
    refine st2 _ ?_
    show Steps p.tables e below (T2.setTop (mkF m 10 #[.val (.ref a0), .val (.ref a1), .unset, .unset, .unset, .unset] [])) _
    refine XS.aloadN X2.here hx rfl (hb hby d4_10) rfl rfl ?_
    show Steps p.tables e below (T2.setTop (mkF m 11 #[.val (.ref a0), .val (.ref a1), .unset, .unset, .unset, .unset] [(.ref a1)])) _
    refine XS.astoreN X2.here hx rfl (hb hby d4_11) rfl rfl (l' := #[.val (.ref a0), .val (.ref a1), .val (.ref a1), .unset, .unset, .unset]) rfl ?_
    show Steps p.tables e below (T2.setTop (mkF m 12 #[.val (.ref a0), .val (.ref a1), .val (.ref a1), .unset, .unset, .unset] [])) _
    refine XS.aloadN X2.here hx rfl (hb hby d4_12) rfl rfl ?_
    show Steps p.tables e below (T2.setTop (mkF m 13 #[.val (.ref a0), .val (.ref a1), .val (.ref a1), .unset, .unset, .unset] [(.ref a1)])) _
    refine AF.len X2 hx hZ e2 G3 (g := (mkF m 13 #[.val (.ref a0), .val (.ref a1), .val (.ref a1), .unset, .unset, .unset] [(.ref a1)])) rfl rfl (hb hby d4_13) _ ?_
    show Steps p.tables e below (T2.setTop (mkF m 14 #[.val (.ref a0), .val (.ref a1), .val (.ref a1), .unset, .unset, .unset] [(.int (Int32.ofNat n_a1))])) _
    refine XS.istoreN X2.here hx rfl (hb hby d4_14) rfl (l' := #[.val (.ref a0), .val (.ref a1), .val (.ref a1), .val (.int (Int32.ofNat n_a1)), .unset, .unset]) rfl ?_
    show Steps p.tables e below (T2.setTop (mkF m 15 #[.val (.ref a0), .val (.ref a1), .val (.ref a1), .val (.int (Int32.ofNat n_a1)), .unset, .unset] [])) _
    refine XS.iconst X2.here hx rfl (hb hby d4_15) ?_
    show Steps p.tables e below (T2.setTop (mkF m 16 #[.val (.ref a0), .val (.ref a1), .val (.ref a1), .val (.int (Int32.ofNat n_a1)), .unset, .unset] [(.int (0 : Int32))])) _
    refine XS.istore X2.here hx rfl (hb hby d4_16) rfl (l' := #[.val (.ref a0), .val (.ref a1), .val (.ref a1), .val (.int (Int32.ofNat n_a1)), .val (.int (0 : Int32)), .unset]) rfl ?_
    show Steps p.tables e below (T2.setTop (mkF m 18 #[.val (.ref a0), .val (.ref a1), .val (.ref a1), .val (.int (Int32.ofNat n_a1)), .val (.int (0 : Int32)), .unset] [])) _
    refine st8 _ ?_
    show Steps p.tables e below (T8.setTop (mkF m 58 #[.val (.ref a0), .val (.ref a1), .val (.ref a1), .val (.int (Int32.ofNat n_a1)), .val (.int (Int32.ofNat n_a1)), s8] [])) _
    exact X8.returnOut hx Bd.returns (hb hby d4_58) hr
  have G9 : Exa Z h8 a0 "com/example/uneven_ticks/uneventicks/core/RunState" := ((E_a0.wr W2).keep Kc8)
  have G10 : Fld Z h8 a0 "com/example/uneven_ticks/uneventicks/core/RunState" "ticks" "[J" (.ref w_ticks_a0) := (G4.keep Kc8 (ninS ne_a0_w_ticks_a0 (ninS ne_a0_w_lastTickSteps_a0 nin0)))
  have G11 : Fld Z h8 a0 "com/example/uneven_ticks/uneventicks/core/RunState" "lastTickSteps" "[J" (.ref w_lastTickSteps_a0) := (G5.keep Kc8 (ninS ne_a0_w_ticks_a0 (ninS ne_a0_w_lastTickSteps_a0 nin0)))
  have G12 : Fld Z h8 a0 "com/example/uneven_ticks/uneventicks/core/RunState" "stepCount" "J" (.long (w_stepCount_a0 + (1 : Int64))) := (Fw2.keep Kc8 (ninS ne_a0_w_ticks_a0 (ninS ne_a0_w_lastTickSteps_a0 nin0)))
  · show Q4 Z a0 a1 w_ticks_a0 w_lastTickSteps_a0 w_stepCount_a0 n_a1 g_a1 g_w_ticks_a0 g_w_lastTickSteps_a0 h0 n0 _ T8.heap _
    rw [e8]
    exact ⟨rfl, N8, K8, G9, G10, G11, G12, At8, Al8⟩

def own_n (m : Int32) : Nat := if m = 0 then 0 else if m = 1 then 1 else if m = 2 then 1 else if m = 4 then 1 else if m = 3 then 2 else if m = 5 then 2 else if m = 6 then 2 else 3
def own_g (m r : Int32) (j : Nat) : Int32 :=
  if m = 0 then 0 else if m = 1 then 0 else if m = 2 then 1 else if m = 4 then 2
  else if m = 3 then (if r = 0 then (if j = 0 then 0 else 1) else (if j = 0 then 1 else 0))
  else if m = 5 then (if r = 0 then (if j = 0 then 0 else 2) else (if j = 0 then 2 else 0))
  else if m = 6 then (if r = 0 then (if j = 0 then 1 else 2) else (if j = 0 then 2 else 1))
  else (if r = 0 then (if j = 0 then 0 else if j = 1 then 1 else 2) else (if j = 0 then 2 else if j = 1 then 1 else 0))

theorem ef_1 (m : MethodId) (p0 : Int32) (p1 : Int32) : entryFrame m #[(.int p0), (.int p1)] 2 = mkF m 0 #[.val (.int p0), .val (.int p1)] [] := by first | (simp [entryFrame, mkF, argsToLocals, Value.category]; done) | rfl
def Q1 (Z : State) (p0 : Int32) (p1 : Int32) (h0 : Heap) (n0 : Nat) (v : Option Value) (h : Heap) (L : List Loc) : Prop := ∃ b : Addr, v = some (.ref b) ∧ Fr n0 L ∧ Keep h0 h [] ∧ h0.size ≤ b ∧ AF Z h b .int (own_n p0) (fun j => .int ((own_g p0 p1) j))
set_option maxRecDepth 65536 in
set_option maxHeartbeats 40000000 in
theorem rm1 (l : Launch) (Z : State) (A0 : Array Value) (hw : ∀ d ∈ tables_1, d.before A0 Z = true) (ws : List Jvm.Cond) (p0 : Int32) (p1 : Int32) (h0 : Heap) (n0 : Nat) (Z0 : n0 ≤ h0.size) :
    MetFree l (⟨"com/example/uneven_ticks/uneventicks/core/RunStateAdvancePinLaw", "subset", "(IZ)[I"⟩ : MethodName) (head1 (Jvm.Cond.code (⟨"com/example/uneven_ticks/uneventicks/core/RunStateAdvancePinLaw", "subset", "(IZ)[I"⟩ : MethodName) method_4_code 2 (some (.array .int)) :: ws) ({ frames := 0, cells := 1, slots := 3, locals := 0 } : Room)) (fun a U => a = #[(.int p0), (.int p1)] ∧ Z.Warmed39 U.vm ∧ U.heap = h0) (fun _ _ _ _ _ => True) (fun _ U o U' => ∃ v L, o = .returned v ∧ Q1 Z p0 p1 h0 n0 v U'.heap L ∧ FrameEnd U o U' L ({ frames := 0, cells := 1, slots := 3, locals := 0 } : Room).cells ({ frames := 0, cells := 1, slots := 3, locals := 0 } : Room).slots) := by
  refine MetFree.of_bodySF (plainFor_of_name pn_1) hisR ?_
  intro p e s m args below meth c s₁ Bd hml0 hP hK
  obtain ⟨rfl, hZ, hh⟩ := hP
  have hx := Bd.exec
  have hby := Bd.bytes
  have hml : c.maxLocals = 2 := hml0
  have hown : s.vm.findClass "com/example/uneven_ticks/uneventicks/core/RunStateAdvancePinLaw" = some m.cls := findClass_of_methodNamed Bd.named
  have hnm := (name_of_methodNamed Bd.named Bd.method).1
  have X0 : Stand p l e ({ frames := 0, cells := 1, slots := 3, locals := 0 } : Room) s m #[(.int p0), (.int p1)] below meth c s₁ [] 0 0 := Stand.of_body Bd
  have e0 : s₁.heap = h0 := by rw [← hh, Bd.state]; rfl
  have N0 := Fr.nil n0
  have pre0 : ∀ t, Steps p.tables e below (s₁.setTop (mkF m 0 #[.val (.int p0), .val (.int p1)] [])) t → Steps p.tables e below (s₁.setTop (entryFrame m #[(.int p0), (.int p1)] 2)) t := fun t k => castTop (ef_1 m p0 p1) k
  have ck1 : ∀ t, Steps p.tables e below (s₁.setTop (mkF m 1 #[.val (.int p0), .val (.int p1)] [(.int p0)])) t → Steps p.tables e below (s₁.setTop (mkF m 0 #[.val (.int p0), .val (.int p1)] [])) t := by
    intro t kt
    show Steps p.tables e below (s₁.setTop (mkF m 0 #[.val (.int p0), .val (.int p1)] [])) _
    refine XS.iloadN X0.here hx rfl (hb hby d1_0) rfl ?_
    exact kt
  by_cases hs1 : p0 = (0 : Int32)
  · obtain ⟨T2, h2, k2, X2, e2, E2, A2, st2⟩ := newP X0 hx hZ (hw _ (List.mem_of_getElem? (i := 4) rfl)) e0 (g := (mkF m 5 #[.val (.int p0), .val (.int p1)] [(.int (0 : Int32))])) rfl (hb hby d1_5) rfl (by decide) (cap := 0) (by decide) (by decide) (by decide) (by decide)
    obtain ⟨b2, g2⟩ : ∃ z, z = h0.size := ⟨_, rfl⟩
    rw [← g2] at A2 st2
    have nw_b2 : n0 ≤ b2 := Nat.le_trans (Nat.le_trans Z0 (Keep.refl h0 []).1) (Nat.le_of_eq g2.symm)
    have sz_b2 : h0.size ≤ b2 := Nat.le_trans (Keep.refl h0 []).1 (Nat.le_of_eq g2.symm)
    have K2 : Keep h0 h2 [] := (Keep.refl h0 []).ext E2
    have V2 : AF Z h2 b2 .int 0 (fun j => .int ((fun _ => (0 : Int32)) j)) := AF.new A2 (by decide)
    obtain ⟨fs, hr, hrun, hended, hW, hsame⟩ := X2.leave (v := some (.ref b2)) (fun h => by rw [Bd.returns] at h; cases h)
    refine ⟨_, _, pre0 _ (ck1 _ ?_), hrun, hended, _, _, rfl, ?_, ⟨_, rfl⟩, hW, hsame.mono (by decide) (by decide)⟩
    · show Steps p.tables e below (s₁.setTop (mkF m 1 #[.val (.int p0), .val (.int p1)] [(.int p0)])) _
      refine XS.ifNo X0.here hx rfl (hb hby d1_1) rfl ((if0 _ _).trans (teq hs1).2) ?_
      show Steps p.tables e below (s₁.setTop (mkF m 4 #[.val (.int p0), .val (.int p1)] [])) _
      refine XS.iconst X0.here hx rfl (hb hby d1_4) ?_
      show Steps p.tables e below (s₁.setTop (mkF m 5 #[.val (.int p0), .val (.int p1)] [(.int (0 : Int32))])) _
      refine st2 _ ?_
      show Steps p.tables e below (T2.setTop (mkF m 7 #[.val (.int p0), .val (.int p1)] [(.ref b2)])) _
      exact retOut X2 hx Bd.returns rfl (Or.inr (Or.inr (Or.inr (Or.inr ⟨rfl, rfl, rfl⟩)))) (hb hby d1_7) hr
    · show Q1 Z p0 p1 h0 n0 _ T2.heap _
      rw [e2]
      have hn : own_n p0 = 0 := by simp [own_n, hs1]
      refine ⟨b2, rfl, N0, K2, sz_b2, ?_⟩
      rw [hn]
      refine AF.cong V2 (fun j hj => ?_)
      have hj' : False := by omega
      exact hj'.elim
  · have ck3 : ∀ t, Steps p.tables e below (s₁.setTop (mkF m 10 #[.val (.int p0), .val (.int p1)] [(.int (1 : Int32)), (.int p0)])) t → Steps p.tables e below (s₁.setTop (mkF m 1 #[.val (.int p0), .val (.int p1)] [(.int p0)])) t := by
      intro t kt
      show Steps p.tables e below (s₁.setTop (mkF m 1 #[.val (.int p0), .val (.int p1)] [(.int p0)])) _
      refine XS.ifYes X0.here hx rfl (pc0 := 1) (pc' := 8) rfl (hb hby d1_1) rfl ((if0 _ _).trans (feq hs1).2) (by decide) (by decide) ?_
      show Steps p.tables e below (s₁.setTop (mkF m 8 #[.val (.int p0), .val (.int p1)] [])) _
      refine XS.iloadN X0.here hx rfl (hb hby d1_8) rfl ?_
      show Steps p.tables e below (s₁.setTop (mkF m 9 #[.val (.int p0), .val (.int p1)] [(.int p0)])) _
      refine XS.iconst X0.here hx rfl (hb hby d1_9) ?_
      exact kt
    by_cases hs10 : p0 = (1 : Int32)
    · obtain ⟨T4, h4, k4, X4, e4, E4, A4, st4⟩ := newP X0 hx hZ (hw _ (List.mem_of_getElem? (i := 4) rfl)) e0 (g := (mkF m 14 #[.val (.int p0), .val (.int p1)] [(.int (1 : Int32))])) rfl (hb hby d1_14) rfl (by decide) (cap := 1) (by decide) (by decide) (by decide) (by decide)
      obtain ⟨b4, g4⟩ : ∃ z, z = h0.size := ⟨_, rfl⟩
      rw [← g4] at A4 st4
      have nw_b4 : n0 ≤ b4 := Nat.le_trans (Nat.le_trans Z0 (Keep.refl h0 []).1) (Nat.le_of_eq g4.symm)
      have sz_b4 : h0.size ≤ b4 := Nat.le_trans (Keep.refl h0 []).1 (Nat.le_of_eq g4.symm)
      have K4 : Keep h0 h4 [] := (Keep.refl h0 []).ext E4
      have V4 : AF Z h4 b4 .int 1 (fun j => .int ((fun _ => (0 : Int32)) j)) := AF.new A4 (by decide)
      obtain ⟨T5, h5, X5, e5, W5, A5, st5⟩ := AF.stI X4 hx hZ e4 V4 (by decide : own_in (0 : Int32) 1) (g := (mkF m 19 #[.val (.int p0), .val (.int p1)] [(.int (0 : Int32)), (.int (0 : Int32)), (.ref b4), (.ref b4)])) rfl rfl (hb hby d1_19)
      have K5 : Keep h0 h5 [] := K4.wr W5 (Or.inr sz_b4)
      obtain ⟨f6, hf6⟩ : ∃ f : Nat → Int32, f = (fun i => if i = 0 then (0 : Int32) else (fun _ => (0 : Int32)) i) := ⟨_, rfl⟩
      have V5 : AF Z h5 b4 .int 1 (fun j => .int (f6 j)) := AF.cong A5 (own_updI rfl hf6)
      have N5 := Fr.snoc X5 N0 nw_b4
      obtain ⟨fs, hr, hrun, hended, hW, hsame⟩ := X5.leave (v := some (.ref b4)) (fun h => by rw [Bd.returns] at h; cases h)
      refine ⟨_, _, pre0 _ (ck1 _ (ck3 _ ?_)), hrun, hended, _, _, rfl, ?_, ⟨_, rfl⟩, hW, hsame.mono (by decide) (by decide)⟩
      · show Steps p.tables e below (s₁.setTop (mkF m 10 #[.val (.int p0), .val (.int p1)] [(.int (1 : Int32)), (.int p0)])) _
        refine XS.icmpNo X0.here hx rfl (hb hby d1_10) rfl (teq hs10).2 ?_
        show Steps p.tables e below (s₁.setTop (mkF m 13 #[.val (.int p0), .val (.int p1)] [])) _
        refine XS.iconst X0.here hx rfl (hb hby d1_13) ?_
        show Steps p.tables e below (s₁.setTop (mkF m 14 #[.val (.int p0), .val (.int p1)] [(.int (1 : Int32))])) _
        refine st4 _ ?_
        show Steps p.tables e below (T4.setTop (mkF m 16 #[.val (.int p0), .val (.int p1)] [(.ref b4)])) _
        refine XS.dup X4.here hx rfl (hb hby d1_16) rfl rfl ?_
        show Steps p.tables e below (T4.setTop (mkF m 17 #[.val (.int p0), .val (.int p1)] [(.ref b4), (.ref b4)])) _
        refine XS.iconst X4.here hx rfl (hb hby d1_17) ?_
        show Steps p.tables e below (T4.setTop (mkF m 18 #[.val (.int p0), .val (.int p1)] [(.int (0 : Int32)), (.ref b4), (.ref b4)])) _
        refine XS.iconst X4.here hx rfl (hb hby d1_18) ?_
        show Steps p.tables e below (T4.setTop (mkF m 19 #[.val (.int p0), .val (.int p1)] [(.int (0 : Int32)), (.int (0 : Int32)), (.ref b4), (.ref b4)])) _
        refine st5 _ ?_
        show Steps p.tables e below (T5.setTop (mkF m 20 #[.val (.int p0), .val (.int p1)] [(.ref b4)])) _
        exact retOut X5 hx Bd.returns rfl (Or.inr (Or.inr (Or.inr (Or.inr ⟨rfl, rfl, rfl⟩)))) (hb hby d1_20) hr
      · show Q1 Z p0 p1 h0 n0 _ T5.heap _
        rw [e5]
        have hn : own_n p0 = 1 := by simp [own_n, hs1, hs10]
        refine ⟨b4, rfl, N5, K5, sz_b4, ?_⟩
        rw [hn]
        refine AF.cong V5 (fun j hj => ?_)
        have hj' : j = 0 := by omega
        rcases hj' with rfl <;> simp [own_g, hs1, hs10, hf6]
    · have ck7 : ∀ t, Steps p.tables e below (s₁.setTop (mkF m 23 #[.val (.int p0), .val (.int p1)] [(.int (2 : Int32)), (.int p0)])) t → Steps p.tables e below (s₁.setTop (mkF m 10 #[.val (.int p0), .val (.int p1)] [(.int (1 : Int32)), (.int p0)])) t := by
        intro t kt
        show Steps p.tables e below (s₁.setTop (mkF m 10 #[.val (.int p0), .val (.int p1)] [(.int (1 : Int32)), (.int p0)])) _
        refine XS.icmpYes X0.here hx rfl (pc0 := 10) (pc' := 21) rfl (hb hby d1_10) rfl (feq hs10).2 (by decide) (by decide) ?_
        show Steps p.tables e below (s₁.setTop (mkF m 21 #[.val (.int p0), .val (.int p1)] [])) _
        refine XS.iloadN X0.here hx rfl (hb hby d1_21) rfl ?_
        show Steps p.tables e below (s₁.setTop (mkF m 22 #[.val (.int p0), .val (.int p1)] [(.int p0)])) _
        refine XS.iconst X0.here hx rfl (hb hby d1_22) ?_
        exact kt
      by_cases hs23 : p0 = (2 : Int32)
      · obtain ⟨T8, h8, k8, X8, e8, E8, A8, st8⟩ := newP X0 hx hZ (hw _ (List.mem_of_getElem? (i := 4) rfl)) e0 (g := (mkF m 27 #[.val (.int p0), .val (.int p1)] [(.int (1 : Int32))])) rfl (hb hby d1_27) rfl (by decide) (cap := 1) (by decide) (by decide) (by decide) (by decide)
        obtain ⟨b8, g8⟩ : ∃ z, z = h0.size := ⟨_, rfl⟩
        rw [← g8] at A8 st8
        have nw_b8 : n0 ≤ b8 := Nat.le_trans (Nat.le_trans Z0 (Keep.refl h0 []).1) (Nat.le_of_eq g8.symm)
        have sz_b8 : h0.size ≤ b8 := Nat.le_trans (Keep.refl h0 []).1 (Nat.le_of_eq g8.symm)
        have K8 : Keep h0 h8 [] := (Keep.refl h0 []).ext E8
        have V8 : AF Z h8 b8 .int 1 (fun j => .int ((fun _ => (0 : Int32)) j)) := AF.new A8 (by decide)
        obtain ⟨T9, h9, X9, e9, W9, A9, st9⟩ := AF.stI X8 hx hZ e8 V8 (by decide : own_in (0 : Int32) 1) (g := (mkF m 32 #[.val (.int p0), .val (.int p1)] [(.int (1 : Int32)), (.int (0 : Int32)), (.ref b8), (.ref b8)])) rfl rfl (hb hby d1_32)
        have K9 : Keep h0 h9 [] := K8.wr W9 (Or.inr sz_b8)
        obtain ⟨f10, hf10⟩ : ∃ f : Nat → Int32, f = (fun i => if i = 0 then (1 : Int32) else (fun _ => (0 : Int32)) i) := ⟨_, rfl⟩
        have V9 : AF Z h9 b8 .int 1 (fun j => .int (f10 j)) := AF.cong A9 (own_updI rfl hf10)
        have N9 := Fr.snoc X9 N0 nw_b8
        obtain ⟨fs, hr, hrun, hended, hW, hsame⟩ := X9.leave (v := some (.ref b8)) (fun h => by rw [Bd.returns] at h; cases h)
        refine ⟨_, _, pre0 _ (ck1 _ (ck3 _ (ck7 _ ?_))), hrun, hended, _, _, rfl, ?_, ⟨_, rfl⟩, hW, hsame.mono (by decide) (by decide)⟩
        · show Steps p.tables e below (s₁.setTop (mkF m 23 #[.val (.int p0), .val (.int p1)] [(.int (2 : Int32)), (.int p0)])) _
          refine XS.icmpNo X0.here hx rfl (hb hby d1_23) rfl (teq hs23).2 ?_
          show Steps p.tables e below (s₁.setTop (mkF m 26 #[.val (.int p0), .val (.int p1)] [])) _
          refine XS.iconst X0.here hx rfl (hb hby d1_26) ?_
          show Steps p.tables e below (s₁.setTop (mkF m 27 #[.val (.int p0), .val (.int p1)] [(.int (1 : Int32))])) _
          refine st8 _ ?_
          show Steps p.tables e below (T8.setTop (mkF m 29 #[.val (.int p0), .val (.int p1)] [(.ref b8)])) _
          refine XS.dup X8.here hx rfl (hb hby d1_29) rfl rfl ?_
          show Steps p.tables e below (T8.setTop (mkF m 30 #[.val (.int p0), .val (.int p1)] [(.ref b8), (.ref b8)])) _
          refine XS.iconst X8.here hx rfl (hb hby d1_30) ?_
          show Steps p.tables e below (T8.setTop (mkF m 31 #[.val (.int p0), .val (.int p1)] [(.int (0 : Int32)), (.ref b8), (.ref b8)])) _
          refine XS.iconst X8.here hx rfl (hb hby d1_31) ?_
          show Steps p.tables e below (T8.setTop (mkF m 32 #[.val (.int p0), .val (.int p1)] [(.int (1 : Int32)), (.int (0 : Int32)), (.ref b8), (.ref b8)])) _
          refine st9 _ ?_
          show Steps p.tables e below (T9.setTop (mkF m 33 #[.val (.int p0), .val (.int p1)] [(.ref b8)])) _
          exact retOut X9 hx Bd.returns rfl (Or.inr (Or.inr (Or.inr (Or.inr ⟨rfl, rfl, rfl⟩)))) (hb hby d1_33) hr
        · show Q1 Z p0 p1 h0 n0 _ T9.heap _
          rw [e9]
          have hn : own_n p0 = 1 := by simp [own_n, hs1, hs10, hs23]
          refine ⟨b8, rfl, N9, K9, sz_b8, ?_⟩
          rw [hn]
          refine AF.cong V9 (fun j hj => ?_)
          have hj' : j = 0 := by omega
          rcases hj' with rfl <;> simp [own_g, hs1, hs10, hs23, hf10]
      · have ck11 : ∀ t, Steps p.tables e below (s₁.setTop (mkF m 36 #[.val (.int p0), .val (.int p1)] [(.int (4 : Int32)), (.int p0)])) t → Steps p.tables e below (s₁.setTop (mkF m 23 #[.val (.int p0), .val (.int p1)] [(.int (2 : Int32)), (.int p0)])) t := by
          intro t kt
          show Steps p.tables e below (s₁.setTop (mkF m 23 #[.val (.int p0), .val (.int p1)] [(.int (2 : Int32)), (.int p0)])) _
          refine XS.icmpYes X0.here hx rfl (pc0 := 23) (pc' := 34) rfl (hb hby d1_23) rfl (feq hs23).2 (by decide) (by decide) ?_
          show Steps p.tables e below (s₁.setTop (mkF m 34 #[.val (.int p0), .val (.int p1)] [])) _
          refine XS.iloadN X0.here hx rfl (hb hby d1_34) rfl ?_
          show Steps p.tables e below (s₁.setTop (mkF m 35 #[.val (.int p0), .val (.int p1)] [(.int p0)])) _
          refine XS.iconst X0.here hx rfl (hb hby d1_35) ?_
          exact kt
        by_cases hs36 : p0 = (4 : Int32)
        · obtain ⟨T12, h12, k12, X12, e12, E12, A12, st12⟩ := newP X0 hx hZ (hw _ (List.mem_of_getElem? (i := 4) rfl)) e0 (g := (mkF m 40 #[.val (.int p0), .val (.int p1)] [(.int (1 : Int32))])) rfl (hb hby d1_40) rfl (by decide) (cap := 1) (by decide) (by decide) (by decide) (by decide)
          obtain ⟨b12, g12⟩ : ∃ z, z = h0.size := ⟨_, rfl⟩
          rw [← g12] at A12 st12
          have nw_b12 : n0 ≤ b12 := Nat.le_trans (Nat.le_trans Z0 (Keep.refl h0 []).1) (Nat.le_of_eq g12.symm)
          have sz_b12 : h0.size ≤ b12 := Nat.le_trans (Keep.refl h0 []).1 (Nat.le_of_eq g12.symm)
          have K12 : Keep h0 h12 [] := (Keep.refl h0 []).ext E12
          have V12 : AF Z h12 b12 .int 1 (fun j => .int ((fun _ => (0 : Int32)) j)) := AF.new A12 (by decide)
          obtain ⟨T13, h13, X13, e13, W13, A13, st13⟩ := AF.stI X12 hx hZ e12 V12 (by decide : own_in (0 : Int32) 1) (g := (mkF m 45 #[.val (.int p0), .val (.int p1)] [(.int (2 : Int32)), (.int (0 : Int32)), (.ref b12), (.ref b12)])) rfl rfl (hb hby d1_45)
          have K13 : Keep h0 h13 [] := K12.wr W13 (Or.inr sz_b12)
          obtain ⟨f14, hf14⟩ : ∃ f : Nat → Int32, f = (fun i => if i = 0 then (2 : Int32) else (fun _ => (0 : Int32)) i) := ⟨_, rfl⟩
          have V13 : AF Z h13 b12 .int 1 (fun j => .int (f14 j)) := AF.cong A13 (own_updI rfl hf14)
          have N13 := Fr.snoc X13 N0 nw_b12
          obtain ⟨fs, hr, hrun, hended, hW, hsame⟩ := X13.leave (v := some (.ref b12)) (fun h => by rw [Bd.returns] at h; cases h)
          refine ⟨_, _, pre0 _ (ck1 _ (ck3 _ (ck7 _ (ck11 _ ?_)))), hrun, hended, _, _, rfl, ?_, ⟨_, rfl⟩, hW, hsame.mono (by decide) (by decide)⟩
          · show Steps p.tables e below (s₁.setTop (mkF m 36 #[.val (.int p0), .val (.int p1)] [(.int (4 : Int32)), (.int p0)])) _
            refine XS.icmpNo X0.here hx rfl (hb hby d1_36) rfl (teq hs36).2 ?_
            show Steps p.tables e below (s₁.setTop (mkF m 39 #[.val (.int p0), .val (.int p1)] [])) _
            refine XS.iconst X0.here hx rfl (hb hby d1_39) ?_
            show Steps p.tables e below (s₁.setTop (mkF m 40 #[.val (.int p0), .val (.int p1)] [(.int (1 : Int32))])) _
            refine st12 _ ?_
            show Steps p.tables e below (T12.setTop (mkF m 42 #[.val (.int p0), .val (.int p1)] [(.ref b12)])) _
            refine XS.dup X12.here hx rfl (hb hby d1_42) rfl rfl ?_
            show Steps p.tables e below (T12.setTop (mkF m 43 #[.val (.int p0), .val (.int p1)] [(.ref b12), (.ref b12)])) _
            refine XS.iconst X12.here hx rfl (hb hby d1_43) ?_
            show Steps p.tables e below (T12.setTop (mkF m 44 #[.val (.int p0), .val (.int p1)] [(.int (0 : Int32)), (.ref b12), (.ref b12)])) _
            refine XS.iconst X12.here hx rfl (hb hby d1_44) ?_
            show Steps p.tables e below (T12.setTop (mkF m 45 #[.val (.int p0), .val (.int p1)] [(.int (2 : Int32)), (.int (0 : Int32)), (.ref b12), (.ref b12)])) _
            refine st13 _ ?_
            show Steps p.tables e below (T13.setTop (mkF m 46 #[.val (.int p0), .val (.int p1)] [(.ref b12)])) _
            exact retOut X13 hx Bd.returns rfl (Or.inr (Or.inr (Or.inr (Or.inr ⟨rfl, rfl, rfl⟩)))) (hb hby d1_46) hr
          · show Q1 Z p0 p1 h0 n0 _ T13.heap _
            rw [e13]
            have hn : own_n p0 = 1 := by simp [own_n, hs1, hs10, hs23, hs36]
            refine ⟨b12, rfl, N13, K13, sz_b12, ?_⟩
            rw [hn]
            refine AF.cong V13 (fun j hj => ?_)
            have hj' : j = 0 := by omega
            rcases hj' with rfl <;> simp [own_g, hs1, hs10, hs23, hs36, hf14]
        · have ck15 : ∀ t, Steps p.tables e below (s₁.setTop (mkF m 49 #[.val (.int p0), .val (.int p1)] [(.int (3 : Int32)), (.int p0)])) t → Steps p.tables e below (s₁.setTop (mkF m 36 #[.val (.int p0), .val (.int p1)] [(.int (4 : Int32)), (.int p0)])) t := by
            intro t kt
            show Steps p.tables e below (s₁.setTop (mkF m 36 #[.val (.int p0), .val (.int p1)] [(.int (4 : Int32)), (.int p0)])) _
            refine XS.icmpYes X0.here hx rfl (pc0 := 36) (pc' := 47) rfl (hb hby d1_36) rfl (feq hs36).2 (by decide) (by decide) ?_
            show Steps p.tables e below (s₁.setTop (mkF m 47 #[.val (.int p0), .val (.int p1)] [])) _
            refine XS.iloadN X0.here hx rfl (hb hby d1_47) rfl ?_
            show Steps p.tables e below (s₁.setTop (mkF m 48 #[.val (.int p0), .val (.int p1)] [(.int p0)])) _
            refine XS.iconst X0.here hx rfl (hb hby d1_48) ?_
            exact kt
          by_cases hs49 : p0 = (3 : Int32)
          · have ck16 : ∀ t, Steps p.tables e below (s₁.setTop (mkF m 53 #[.val (.int p0), .val (.int p1)] [(.int p1)])) t → Steps p.tables e below (s₁.setTop (mkF m 49 #[.val (.int p0), .val (.int p1)] [(.int (3 : Int32)), (.int p0)])) t := by
              intro t kt
              show Steps p.tables e below (s₁.setTop (mkF m 49 #[.val (.int p0), .val (.int p1)] [(.int (3 : Int32)), (.int p0)])) _
              refine XS.icmpNo X0.here hx rfl (hb hby d1_49) rfl (teq hs49).2 ?_
              show Steps p.tables e below (s₁.setTop (mkF m 52 #[.val (.int p0), .val (.int p1)] [])) _
              refine XS.iloadN X0.here hx rfl (hb hby d1_52) rfl ?_
              exact kt
            by_cases hs53 : p1 = (0 : Int32)
            · obtain ⟨T17, h17, k17, X17, e17, E17, A17, st17⟩ := newP X0 hx hZ (hw _ (List.mem_of_getElem? (i := 4) rfl)) e0 (g := (mkF m 71 #[.val (.int p0), .val (.int p1)] [(.int (2 : Int32))])) rfl (hb hby d1_71) rfl (by decide) (cap := 2) (by decide) (by decide) (by decide) (by decide)
              obtain ⟨b17, g17⟩ : ∃ z, z = h0.size := ⟨_, rfl⟩
              rw [← g17] at A17 st17
              have nw_b17 : n0 ≤ b17 := Nat.le_trans (Nat.le_trans Z0 (Keep.refl h0 []).1) (Nat.le_of_eq g17.symm)
              have sz_b17 : h0.size ≤ b17 := Nat.le_trans (Keep.refl h0 []).1 (Nat.le_of_eq g17.symm)
              have K17 : Keep h0 h17 [] := (Keep.refl h0 []).ext E17
              have V17 : AF Z h17 b17 .int 2 (fun j => .int ((fun _ => (0 : Int32)) j)) := AF.new A17 (by decide)
              obtain ⟨T18, h18, X18, e18, W18, A18, st18⟩ := AF.stI X17 hx hZ e17 V17 (by decide : own_in (0 : Int32) 2) (g := (mkF m 76 #[.val (.int p0), .val (.int p1)] [(.int (0 : Int32)), (.int (0 : Int32)), (.ref b17), (.ref b17)])) rfl rfl (hb hby d1_76)
              have K18 : Keep h0 h18 [] := K17.wr W18 (Or.inr sz_b17)
              obtain ⟨f19, hf19⟩ : ∃ f : Nat → Int32, f = (fun i => if i = 0 then (0 : Int32) else (fun _ => (0 : Int32)) i) := ⟨_, rfl⟩
              have V18 : AF Z h18 b17 .int 2 (fun j => .int (f19 j)) := AF.cong A18 (own_updI rfl hf19)
              have N18 := Fr.snoc X18 N0 nw_b17
              obtain ⟨T20, h20, X20, e20, W20, A20, st20⟩ := AF.stI X18 hx hZ e18 V18 (by decide : own_in (1 : Int32) 2) (g := (mkF m 80 #[.val (.int p0), .val (.int p1)] [(.int (1 : Int32)), (.int (1 : Int32)), (.ref b17), (.ref b17)])) rfl rfl (hb hby d1_80)
              have K20 : Keep h0 h20 [] := K18.wr W20 (Or.inr sz_b17)
              obtain ⟨f21, hf21⟩ : ∃ f : Nat → Int32, f = (fun i => if i = 1 then (1 : Int32) else f19 i) := ⟨_, rfl⟩
              have V20 : AF Z h20 b17 .int 2 (fun j => .int (f21 j)) := AF.cong A20 (own_updI rfl hf21)
              have N20 := Fr.snoc X20 N18 nw_b17
              obtain ⟨fs, hr, hrun, hended, hW, hsame⟩ := X20.leave (v := some (.ref b17)) (fun h => by rw [Bd.returns] at h; cases h)
              refine ⟨_, _, pre0 _ (ck1 _ (ck3 _ (ck7 _ (ck11 _ (ck15 _ (ck16 _ ?_)))))), hrun, hended, _, _, rfl, ?_, ⟨_, rfl⟩, hW, hsame.mono (by decide) (by decide)⟩
              · show Steps p.tables e below (s₁.setTop (mkF m 53 #[.val (.int p0), .val (.int p1)] [(.int p1)])) _
                refine XS.ifYes X0.here hx rfl (pc0 := 53) (pc' := 70) rfl (hb hby d1_53) rfl ((if0 _ _).trans (teq hs53).1) (by decide) (by decide) ?_
                show Steps p.tables e below (s₁.setTop (mkF m 70 #[.val (.int p0), .val (.int p1)] [])) _
                refine XS.iconst X0.here hx rfl (hb hby d1_70) ?_
                show Steps p.tables e below (s₁.setTop (mkF m 71 #[.val (.int p0), .val (.int p1)] [(.int (2 : Int32))])) _
                refine st17 _ ?_
                show Steps p.tables e below (T17.setTop (mkF m 73 #[.val (.int p0), .val (.int p1)] [(.ref b17)])) _
                refine XS.dup X17.here hx rfl (hb hby d1_73) rfl rfl ?_
                show Steps p.tables e below (T17.setTop (mkF m 74 #[.val (.int p0), .val (.int p1)] [(.ref b17), (.ref b17)])) _
                refine XS.iconst X17.here hx rfl (hb hby d1_74) ?_
                show Steps p.tables e below (T17.setTop (mkF m 75 #[.val (.int p0), .val (.int p1)] [(.int (0 : Int32)), (.ref b17), (.ref b17)])) _
                refine XS.iconst X17.here hx rfl (hb hby d1_75) ?_
                show Steps p.tables e below (T17.setTop (mkF m 76 #[.val (.int p0), .val (.int p1)] [(.int (0 : Int32)), (.int (0 : Int32)), (.ref b17), (.ref b17)])) _
                refine st18 _ ?_
                show Steps p.tables e below (T18.setTop (mkF m 77 #[.val (.int p0), .val (.int p1)] [(.ref b17)])) _
                refine XS.dup X18.here hx rfl (hb hby d1_77) rfl rfl ?_
                show Steps p.tables e below (T18.setTop (mkF m 78 #[.val (.int p0), .val (.int p1)] [(.ref b17), (.ref b17)])) _
                refine XS.iconst X18.here hx rfl (hb hby d1_78) ?_
                show Steps p.tables e below (T18.setTop (mkF m 79 #[.val (.int p0), .val (.int p1)] [(.int (1 : Int32)), (.ref b17), (.ref b17)])) _
                refine XS.iconst X18.here hx rfl (hb hby d1_79) ?_
                show Steps p.tables e below (T18.setTop (mkF m 80 #[.val (.int p0), .val (.int p1)] [(.int (1 : Int32)), (.int (1 : Int32)), (.ref b17), (.ref b17)])) _
                refine st20 _ ?_
                show Steps p.tables e below (T20.setTop (mkF m 81 #[.val (.int p0), .val (.int p1)] [(.ref b17)])) _
                exact retOut X20 hx Bd.returns rfl (Or.inr (Or.inr (Or.inr (Or.inr ⟨rfl, rfl, rfl⟩)))) (hb hby d1_81) hr
              · show Q1 Z p0 p1 h0 n0 _ T20.heap _
                rw [e20]
                have hn : own_n p0 = 2 := by simp [own_n, hs1, hs10, hs23, hs36, hs49, hs53]
                refine ⟨b17, rfl, N20, K20, sz_b17, ?_⟩
                rw [hn]
                refine AF.cong V20 (fun j hj => ?_)
                have hj' : j = 0 ∨ j = 1 := by omega
                rcases hj' with rfl | rfl <;> simp [own_g, hs1, hs10, hs23, hs36, hs49, hs53, hf19, hf21]
            · obtain ⟨T22, h22, k22, X22, e22, E22, A22, st22⟩ := newP X0 hx hZ (hw _ (List.mem_of_getElem? (i := 4) rfl)) e0 (g := (mkF m 57 #[.val (.int p0), .val (.int p1)] [(.int (2 : Int32))])) rfl (hb hby d1_57) rfl (by decide) (cap := 2) (by decide) (by decide) (by decide) (by decide)
              obtain ⟨b22, g22⟩ : ∃ z, z = h0.size := ⟨_, rfl⟩
              rw [← g22] at A22 st22
              have nw_b22 : n0 ≤ b22 := Nat.le_trans (Nat.le_trans Z0 (Keep.refl h0 []).1) (Nat.le_of_eq g22.symm)
              have sz_b22 : h0.size ≤ b22 := Nat.le_trans (Keep.refl h0 []).1 (Nat.le_of_eq g22.symm)
              have K22 : Keep h0 h22 [] := (Keep.refl h0 []).ext E22
              have V22 : AF Z h22 b22 .int 2 (fun j => .int ((fun _ => (0 : Int32)) j)) := AF.new A22 (by decide)
              obtain ⟨T23, h23, X23, e23, W23, A23, st23⟩ := AF.stI X22 hx hZ e22 V22 (by decide : own_in (0 : Int32) 2) (g := (mkF m 62 #[.val (.int p0), .val (.int p1)] [(.int (1 : Int32)), (.int (0 : Int32)), (.ref b22), (.ref b22)])) rfl rfl (hb hby d1_62)
              have K23 : Keep h0 h23 [] := K22.wr W23 (Or.inr sz_b22)
              obtain ⟨f24, hf24⟩ : ∃ f : Nat → Int32, f = (fun i => if i = 0 then (1 : Int32) else (fun _ => (0 : Int32)) i) := ⟨_, rfl⟩
              have V23 : AF Z h23 b22 .int 2 (fun j => .int (f24 j)) := AF.cong A23 (own_updI rfl hf24)
              have N23 := Fr.snoc X23 N0 nw_b22
              obtain ⟨T25, h25, X25, e25, W25, A25, st25⟩ := AF.stI X23 hx hZ e23 V23 (by decide : own_in (1 : Int32) 2) (g := (mkF m 66 #[.val (.int p0), .val (.int p1)] [(.int (0 : Int32)), (.int (1 : Int32)), (.ref b22), (.ref b22)])) rfl rfl (hb hby d1_66)
              have K25 : Keep h0 h25 [] := K23.wr W25 (Or.inr sz_b22)
              obtain ⟨f26, hf26⟩ : ∃ f : Nat → Int32, f = (fun i => if i = 1 then (0 : Int32) else f24 i) := ⟨_, rfl⟩
              have V25 : AF Z h25 b22 .int 2 (fun j => .int (f26 j)) := AF.cong A25 (own_updI rfl hf26)
              have N25 := Fr.snoc X25 N23 nw_b22
              obtain ⟨fs, hr, hrun, hended, hW, hsame⟩ := X25.leave (v := some (.ref b22)) (fun h => by rw [Bd.returns] at h; cases h)
              refine ⟨_, _, pre0 _ (ck1 _ (ck3 _ (ck7 _ (ck11 _ (ck15 _ (ck16 _ ?_)))))), hrun, hended, _, _, rfl, ?_, ⟨_, rfl⟩, hW, hsame.mono (by decide) (by decide)⟩
              · show Steps p.tables e below (s₁.setTop (mkF m 53 #[.val (.int p0), .val (.int p1)] [(.int p1)])) _
                refine XS.ifNo X0.here hx rfl (hb hby d1_53) rfl ((if0 _ _).trans (feq hs53).1) ?_
                show Steps p.tables e below (s₁.setTop (mkF m 56 #[.val (.int p0), .val (.int p1)] [])) _
                refine XS.iconst X0.here hx rfl (hb hby d1_56) ?_
                show Steps p.tables e below (s₁.setTop (mkF m 57 #[.val (.int p0), .val (.int p1)] [(.int (2 : Int32))])) _
                refine st22 _ ?_
                show Steps p.tables e below (T22.setTop (mkF m 59 #[.val (.int p0), .val (.int p1)] [(.ref b22)])) _
                refine XS.dup X22.here hx rfl (hb hby d1_59) rfl rfl ?_
                show Steps p.tables e below (T22.setTop (mkF m 60 #[.val (.int p0), .val (.int p1)] [(.ref b22), (.ref b22)])) _
                refine XS.iconst X22.here hx rfl (hb hby d1_60) ?_
                show Steps p.tables e below (T22.setTop (mkF m 61 #[.val (.int p0), .val (.int p1)] [(.int (0 : Int32)), (.ref b22), (.ref b22)])) _
                refine XS.iconst X22.here hx rfl (hb hby d1_61) ?_
                show Steps p.tables e below (T22.setTop (mkF m 62 #[.val (.int p0), .val (.int p1)] [(.int (1 : Int32)), (.int (0 : Int32)), (.ref b22), (.ref b22)])) _
                refine st23 _ ?_
                show Steps p.tables e below (T23.setTop (mkF m 63 #[.val (.int p0), .val (.int p1)] [(.ref b22)])) _
                refine XS.dup X23.here hx rfl (hb hby d1_63) rfl rfl ?_
                show Steps p.tables e below (T23.setTop (mkF m 64 #[.val (.int p0), .val (.int p1)] [(.ref b22), (.ref b22)])) _
                refine XS.iconst X23.here hx rfl (hb hby d1_64) ?_
                show Steps p.tables e below (T23.setTop (mkF m 65 #[.val (.int p0), .val (.int p1)] [(.int (1 : Int32)), (.ref b22), (.ref b22)])) _
                refine XS.iconst X23.here hx rfl (hb hby d1_65) ?_
                show Steps p.tables e below (T23.setTop (mkF m 66 #[.val (.int p0), .val (.int p1)] [(.int (0 : Int32)), (.int (1 : Int32)), (.ref b22), (.ref b22)])) _
                refine st25 _ ?_
                show Steps p.tables e below (T25.setTop (mkF m 67 #[.val (.int p0), .val (.int p1)] [(.ref b22)])) _
                refine XS.goto X25.here hx rfl (pc0 := 67) (pc' := 81) rfl (hb hby d1_67) (by decide) (by decide) ?_
                show Steps p.tables e below (T25.setTop (mkF m 81 #[.val (.int p0), .val (.int p1)] [(.ref b22)])) _
                exact retOut X25 hx Bd.returns rfl (Or.inr (Or.inr (Or.inr (Or.inr ⟨rfl, rfl, rfl⟩)))) (hb hby d1_81) hr
              · show Q1 Z p0 p1 h0 n0 _ T25.heap _
                rw [e25]
                have hn : own_n p0 = 2 := by simp [own_n, hs1, hs10, hs23, hs36, hs49, hs53]
                refine ⟨b22, rfl, N25, K25, sz_b22, ?_⟩
                rw [hn]
                refine AF.cong V25 (fun j hj => ?_)
                have hj' : j = 0 ∨ j = 1 := by omega
                rcases hj' with rfl | rfl <;> simp [own_g, hs1, hs10, hs23, hs36, hs49, hs53, hf24, hf26]
          · have ck27 : ∀ t, Steps p.tables e below (s₁.setTop (mkF m 84 #[.val (.int p0), .val (.int p1)] [(.int (5 : Int32)), (.int p0)])) t → Steps p.tables e below (s₁.setTop (mkF m 49 #[.val (.int p0), .val (.int p1)] [(.int (3 : Int32)), (.int p0)])) t := by
              intro t kt
              show Steps p.tables e below (s₁.setTop (mkF m 49 #[.val (.int p0), .val (.int p1)] [(.int (3 : Int32)), (.int p0)])) _
              refine XS.icmpYes X0.here hx rfl (pc0 := 49) (pc' := 82) rfl (hb hby d1_49) rfl (feq hs49).2 (by decide) (by decide) ?_
              show Steps p.tables e below (s₁.setTop (mkF m 82 #[.val (.int p0), .val (.int p1)] [])) _
              refine XS.iloadN X0.here hx rfl (hb hby d1_82) rfl ?_
              show Steps p.tables e below (s₁.setTop (mkF m 83 #[.val (.int p0), .val (.int p1)] [(.int p0)])) _
              refine XS.iconst X0.here hx rfl (hb hby d1_83) ?_
              exact kt
            by_cases hs84 : p0 = (5 : Int32)
            · have ck28 : ∀ t, Steps p.tables e below (s₁.setTop (mkF m 88 #[.val (.int p0), .val (.int p1)] [(.int p1)])) t → Steps p.tables e below (s₁.setTop (mkF m 84 #[.val (.int p0), .val (.int p1)] [(.int (5 : Int32)), (.int p0)])) t := by
                intro t kt
                show Steps p.tables e below (s₁.setTop (mkF m 84 #[.val (.int p0), .val (.int p1)] [(.int (5 : Int32)), (.int p0)])) _
                refine XS.icmpNo X0.here hx rfl (hb hby d1_84) rfl (teq hs84).2 ?_
                show Steps p.tables e below (s₁.setTop (mkF m 87 #[.val (.int p0), .val (.int p1)] [])) _
                refine XS.iloadN X0.here hx rfl (hb hby d1_87) rfl ?_
                exact kt
              by_cases hs88 : p1 = (0 : Int32)
              · obtain ⟨T29, h29, k29, X29, e29, E29, A29, st29⟩ := newP X0 hx hZ (hw _ (List.mem_of_getElem? (i := 4) rfl)) e0 (g := (mkF m 106 #[.val (.int p0), .val (.int p1)] [(.int (2 : Int32))])) rfl (hb hby d1_106) rfl (by decide) (cap := 2) (by decide) (by decide) (by decide) (by decide)
                obtain ⟨b29, g29⟩ : ∃ z, z = h0.size := ⟨_, rfl⟩
                rw [← g29] at A29 st29
                have nw_b29 : n0 ≤ b29 := Nat.le_trans (Nat.le_trans Z0 (Keep.refl h0 []).1) (Nat.le_of_eq g29.symm)
                have sz_b29 : h0.size ≤ b29 := Nat.le_trans (Keep.refl h0 []).1 (Nat.le_of_eq g29.symm)
                have K29 : Keep h0 h29 [] := (Keep.refl h0 []).ext E29
                have V29 : AF Z h29 b29 .int 2 (fun j => .int ((fun _ => (0 : Int32)) j)) := AF.new A29 (by decide)
                obtain ⟨T30, h30, X30, e30, W30, A30, st30⟩ := AF.stI X29 hx hZ e29 V29 (by decide : own_in (0 : Int32) 2) (g := (mkF m 111 #[.val (.int p0), .val (.int p1)] [(.int (0 : Int32)), (.int (0 : Int32)), (.ref b29), (.ref b29)])) rfl rfl (hb hby d1_111)
                have K30 : Keep h0 h30 [] := K29.wr W30 (Or.inr sz_b29)
                obtain ⟨f31, hf31⟩ : ∃ f : Nat → Int32, f = (fun i => if i = 0 then (0 : Int32) else (fun _ => (0 : Int32)) i) := ⟨_, rfl⟩
                have V30 : AF Z h30 b29 .int 2 (fun j => .int (f31 j)) := AF.cong A30 (own_updI rfl hf31)
                have N30 := Fr.snoc X30 N0 nw_b29
                obtain ⟨T32, h32, X32, e32, W32, A32, st32⟩ := AF.stI X30 hx hZ e30 V30 (by decide : own_in (1 : Int32) 2) (g := (mkF m 115 #[.val (.int p0), .val (.int p1)] [(.int (2 : Int32)), (.int (1 : Int32)), (.ref b29), (.ref b29)])) rfl rfl (hb hby d1_115)
                have K32 : Keep h0 h32 [] := K30.wr W32 (Or.inr sz_b29)
                obtain ⟨f33, hf33⟩ : ∃ f : Nat → Int32, f = (fun i => if i = 1 then (2 : Int32) else f31 i) := ⟨_, rfl⟩
                have V32 : AF Z h32 b29 .int 2 (fun j => .int (f33 j)) := AF.cong A32 (own_updI rfl hf33)
                have N32 := Fr.snoc X32 N30 nw_b29
                obtain ⟨fs, hr, hrun, hended, hW, hsame⟩ := X32.leave (v := some (.ref b29)) (fun h => by rw [Bd.returns] at h; cases h)
                refine ⟨_, _, pre0 _ (ck1 _ (ck3 _ (ck7 _ (ck11 _ (ck15 _ (ck27 _ (ck28 _ ?_))))))), hrun, hended, _, _, rfl, ?_, ⟨_, rfl⟩, hW, hsame.mono (by decide) (by decide)⟩
                · show Steps p.tables e below (s₁.setTop (mkF m 88 #[.val (.int p0), .val (.int p1)] [(.int p1)])) _
                  refine XS.ifYes X0.here hx rfl (pc0 := 88) (pc' := 105) rfl (hb hby d1_88) rfl ((if0 _ _).trans (teq hs88).1) (by decide) (by decide) ?_
                  show Steps p.tables e below (s₁.setTop (mkF m 105 #[.val (.int p0), .val (.int p1)] [])) _
                  refine XS.iconst X0.here hx rfl (hb hby d1_105) ?_
                  show Steps p.tables e below (s₁.setTop (mkF m 106 #[.val (.int p0), .val (.int p1)] [(.int (2 : Int32))])) _
                  refine st29 _ ?_
                  show Steps p.tables e below (T29.setTop (mkF m 108 #[.val (.int p0), .val (.int p1)] [(.ref b29)])) _
                  refine XS.dup X29.here hx rfl (hb hby d1_108) rfl rfl ?_
                  show Steps p.tables e below (T29.setTop (mkF m 109 #[.val (.int p0), .val (.int p1)] [(.ref b29), (.ref b29)])) _
                  refine XS.iconst X29.here hx rfl (hb hby d1_109) ?_
                  show Steps p.tables e below (T29.setTop (mkF m 110 #[.val (.int p0), .val (.int p1)] [(.int (0 : Int32)), (.ref b29), (.ref b29)])) _
                  refine XS.iconst X29.here hx rfl (hb hby d1_110) ?_
                  show Steps p.tables e below (T29.setTop (mkF m 111 #[.val (.int p0), .val (.int p1)] [(.int (0 : Int32)), (.int (0 : Int32)), (.ref b29), (.ref b29)])) _
                  refine st30 _ ?_
                  show Steps p.tables e below (T30.setTop (mkF m 112 #[.val (.int p0), .val (.int p1)] [(.ref b29)])) _
                  refine XS.dup X30.here hx rfl (hb hby d1_112) rfl rfl ?_
                  show Steps p.tables e below (T30.setTop (mkF m 113 #[.val (.int p0), .val (.int p1)] [(.ref b29), (.ref b29)])) _
                  refine XS.iconst X30.here hx rfl (hb hby d1_113) ?_
                  show Steps p.tables e below (T30.setTop (mkF m 114 #[.val (.int p0), .val (.int p1)] [(.int (1 : Int32)), (.ref b29), (.ref b29)])) _
                  refine XS.iconst X30.here hx rfl (hb hby d1_114) ?_
                  show Steps p.tables e below (T30.setTop (mkF m 115 #[.val (.int p0), .val (.int p1)] [(.int (2 : Int32)), (.int (1 : Int32)), (.ref b29), (.ref b29)])) _
                  refine st32 _ ?_
                  show Steps p.tables e below (T32.setTop (mkF m 116 #[.val (.int p0), .val (.int p1)] [(.ref b29)])) _
                  exact retOut X32 hx Bd.returns rfl (Or.inr (Or.inr (Or.inr (Or.inr ⟨rfl, rfl, rfl⟩)))) (hb hby d1_116) hr
                · show Q1 Z p0 p1 h0 n0 _ T32.heap _
                  rw [e32]
                  have hn : own_n p0 = 2 := by simp [own_n, hs1, hs10, hs23, hs36, hs49, hs84, hs88]
                  refine ⟨b29, rfl, N32, K32, sz_b29, ?_⟩
                  rw [hn]
                  refine AF.cong V32 (fun j hj => ?_)
                  have hj' : j = 0 ∨ j = 1 := by omega
                  rcases hj' with rfl | rfl <;> simp [own_g, hs1, hs10, hs23, hs36, hs49, hs84, hs88, hf31, hf33]
              · obtain ⟨T34, h34, k34, X34, e34, E34, A34, st34⟩ := newP X0 hx hZ (hw _ (List.mem_of_getElem? (i := 4) rfl)) e0 (g := (mkF m 92 #[.val (.int p0), .val (.int p1)] [(.int (2 : Int32))])) rfl (hb hby d1_92) rfl (by decide) (cap := 2) (by decide) (by decide) (by decide) (by decide)
                obtain ⟨b34, g34⟩ : ∃ z, z = h0.size := ⟨_, rfl⟩
                rw [← g34] at A34 st34
                have nw_b34 : n0 ≤ b34 := Nat.le_trans (Nat.le_trans Z0 (Keep.refl h0 []).1) (Nat.le_of_eq g34.symm)
                have sz_b34 : h0.size ≤ b34 := Nat.le_trans (Keep.refl h0 []).1 (Nat.le_of_eq g34.symm)
                have K34 : Keep h0 h34 [] := (Keep.refl h0 []).ext E34
                have V34 : AF Z h34 b34 .int 2 (fun j => .int ((fun _ => (0 : Int32)) j)) := AF.new A34 (by decide)
                obtain ⟨T35, h35, X35, e35, W35, A35, st35⟩ := AF.stI X34 hx hZ e34 V34 (by decide : own_in (0 : Int32) 2) (g := (mkF m 97 #[.val (.int p0), .val (.int p1)] [(.int (2 : Int32)), (.int (0 : Int32)), (.ref b34), (.ref b34)])) rfl rfl (hb hby d1_97)
                have K35 : Keep h0 h35 [] := K34.wr W35 (Or.inr sz_b34)
                obtain ⟨f36, hf36⟩ : ∃ f : Nat → Int32, f = (fun i => if i = 0 then (2 : Int32) else (fun _ => (0 : Int32)) i) := ⟨_, rfl⟩
                have V35 : AF Z h35 b34 .int 2 (fun j => .int (f36 j)) := AF.cong A35 (own_updI rfl hf36)
                have N35 := Fr.snoc X35 N0 nw_b34
                obtain ⟨T37, h37, X37, e37, W37, A37, st37⟩ := AF.stI X35 hx hZ e35 V35 (by decide : own_in (1 : Int32) 2) (g := (mkF m 101 #[.val (.int p0), .val (.int p1)] [(.int (0 : Int32)), (.int (1 : Int32)), (.ref b34), (.ref b34)])) rfl rfl (hb hby d1_101)
                have K37 : Keep h0 h37 [] := K35.wr W37 (Or.inr sz_b34)
                obtain ⟨f38, hf38⟩ : ∃ f : Nat → Int32, f = (fun i => if i = 1 then (0 : Int32) else f36 i) := ⟨_, rfl⟩
                have V37 : AF Z h37 b34 .int 2 (fun j => .int (f38 j)) := AF.cong A37 (own_updI rfl hf38)
                have N37 := Fr.snoc X37 N35 nw_b34
                obtain ⟨fs, hr, hrun, hended, hW, hsame⟩ := X37.leave (v := some (.ref b34)) (fun h => by rw [Bd.returns] at h; cases h)
                refine ⟨_, _, pre0 _ (ck1 _ (ck3 _ (ck7 _ (ck11 _ (ck15 _ (ck27 _ (ck28 _ ?_))))))), hrun, hended, _, _, rfl, ?_, ⟨_, rfl⟩, hW, hsame.mono (by decide) (by decide)⟩
                · show Steps p.tables e below (s₁.setTop (mkF m 88 #[.val (.int p0), .val (.int p1)] [(.int p1)])) _
                  refine XS.ifNo X0.here hx rfl (hb hby d1_88) rfl ((if0 _ _).trans (feq hs88).1) ?_
                  show Steps p.tables e below (s₁.setTop (mkF m 91 #[.val (.int p0), .val (.int p1)] [])) _
                  refine XS.iconst X0.here hx rfl (hb hby d1_91) ?_
                  show Steps p.tables e below (s₁.setTop (mkF m 92 #[.val (.int p0), .val (.int p1)] [(.int (2 : Int32))])) _
                  refine st34 _ ?_
                  show Steps p.tables e below (T34.setTop (mkF m 94 #[.val (.int p0), .val (.int p1)] [(.ref b34)])) _
                  refine XS.dup X34.here hx rfl (hb hby d1_94) rfl rfl ?_
                  show Steps p.tables e below (T34.setTop (mkF m 95 #[.val (.int p0), .val (.int p1)] [(.ref b34), (.ref b34)])) _
                  refine XS.iconst X34.here hx rfl (hb hby d1_95) ?_
                  show Steps p.tables e below (T34.setTop (mkF m 96 #[.val (.int p0), .val (.int p1)] [(.int (0 : Int32)), (.ref b34), (.ref b34)])) _
                  refine XS.iconst X34.here hx rfl (hb hby d1_96) ?_
                  show Steps p.tables e below (T34.setTop (mkF m 97 #[.val (.int p0), .val (.int p1)] [(.int (2 : Int32)), (.int (0 : Int32)), (.ref b34), (.ref b34)])) _
                  refine st35 _ ?_
                  show Steps p.tables e below (T35.setTop (mkF m 98 #[.val (.int p0), .val (.int p1)] [(.ref b34)])) _
                  refine XS.dup X35.here hx rfl (hb hby d1_98) rfl rfl ?_
                  show Steps p.tables e below (T35.setTop (mkF m 99 #[.val (.int p0), .val (.int p1)] [(.ref b34), (.ref b34)])) _
                  refine XS.iconst X35.here hx rfl (hb hby d1_99) ?_
                  show Steps p.tables e below (T35.setTop (mkF m 100 #[.val (.int p0), .val (.int p1)] [(.int (1 : Int32)), (.ref b34), (.ref b34)])) _
                  refine XS.iconst X35.here hx rfl (hb hby d1_100) ?_
                  show Steps p.tables e below (T35.setTop (mkF m 101 #[.val (.int p0), .val (.int p1)] [(.int (0 : Int32)), (.int (1 : Int32)), (.ref b34), (.ref b34)])) _
                  refine st37 _ ?_
                  show Steps p.tables e below (T37.setTop (mkF m 102 #[.val (.int p0), .val (.int p1)] [(.ref b34)])) _
                  refine XS.goto X37.here hx rfl (pc0 := 102) (pc' := 116) rfl (hb hby d1_102) (by decide) (by decide) ?_
                  show Steps p.tables e below (T37.setTop (mkF m 116 #[.val (.int p0), .val (.int p1)] [(.ref b34)])) _
                  exact retOut X37 hx Bd.returns rfl (Or.inr (Or.inr (Or.inr (Or.inr ⟨rfl, rfl, rfl⟩)))) (hb hby d1_116) hr
                · show Q1 Z p0 p1 h0 n0 _ T37.heap _
                  rw [e37]
                  have hn : own_n p0 = 2 := by simp [own_n, hs1, hs10, hs23, hs36, hs49, hs84, hs88]
                  refine ⟨b34, rfl, N37, K37, sz_b34, ?_⟩
                  rw [hn]
                  refine AF.cong V37 (fun j hj => ?_)
                  have hj' : j = 0 ∨ j = 1 := by omega
                  rcases hj' with rfl | rfl <;> simp [own_g, hs1, hs10, hs23, hs36, hs49, hs84, hs88, hf36, hf38]
            · have ck39 : ∀ t, Steps p.tables e below (s₁.setTop (mkF m 120 #[.val (.int p0), .val (.int p1)] [(.int (6 : Int32)), (.int p0)])) t → Steps p.tables e below (s₁.setTop (mkF m 84 #[.val (.int p0), .val (.int p1)] [(.int (5 : Int32)), (.int p0)])) t := by
                intro t kt
                show Steps p.tables e below (s₁.setTop (mkF m 84 #[.val (.int p0), .val (.int p1)] [(.int (5 : Int32)), (.int p0)])) _
                refine XS.icmpYes X0.here hx rfl (pc0 := 84) (pc' := 117) rfl (hb hby d1_84) rfl (feq hs84).2 (by decide) (by decide) ?_
                show Steps p.tables e below (s₁.setTop (mkF m 117 #[.val (.int p0), .val (.int p1)] [])) _
                refine XS.iloadN X0.here hx rfl (hb hby d1_117) rfl ?_
                show Steps p.tables e below (s₁.setTop (mkF m 118 #[.val (.int p0), .val (.int p1)] [(.int p0)])) _
                refine XS.bipush X0.here hx rfl (hb hby d1_118) ?_
                exact kt
              by_cases hs120 : p0 = (6 : Int32)
              · have ck40 : ∀ t, Steps p.tables e below (s₁.setTop (mkF m 124 #[.val (.int p0), .val (.int p1)] [(.int p1)])) t → Steps p.tables e below (s₁.setTop (mkF m 120 #[.val (.int p0), .val (.int p1)] [(.int (6 : Int32)), (.int p0)])) t := by
                  intro t kt
                  show Steps p.tables e below (s₁.setTop (mkF m 120 #[.val (.int p0), .val (.int p1)] [(.int (6 : Int32)), (.int p0)])) _
                  refine XS.icmpNo X0.here hx rfl (hb hby d1_120) rfl (teq hs120).2 ?_
                  show Steps p.tables e below (s₁.setTop (mkF m 123 #[.val (.int p0), .val (.int p1)] [])) _
                  refine XS.iloadN X0.here hx rfl (hb hby d1_123) rfl ?_
                  exact kt
                by_cases hs124 : p1 = (0 : Int32)
                · obtain ⟨T41, h41, k41, X41, e41, E41, A41, st41⟩ := newP X0 hx hZ (hw _ (List.mem_of_getElem? (i := 4) rfl)) e0 (g := (mkF m 142 #[.val (.int p0), .val (.int p1)] [(.int (2 : Int32))])) rfl (hb hby d1_142) rfl (by decide) (cap := 2) (by decide) (by decide) (by decide) (by decide)
                  obtain ⟨b41, g41⟩ : ∃ z, z = h0.size := ⟨_, rfl⟩
                  rw [← g41] at A41 st41
                  have nw_b41 : n0 ≤ b41 := Nat.le_trans (Nat.le_trans Z0 (Keep.refl h0 []).1) (Nat.le_of_eq g41.symm)
                  have sz_b41 : h0.size ≤ b41 := Nat.le_trans (Keep.refl h0 []).1 (Nat.le_of_eq g41.symm)
                  have K41 : Keep h0 h41 [] := (Keep.refl h0 []).ext E41
                  have V41 : AF Z h41 b41 .int 2 (fun j => .int ((fun _ => (0 : Int32)) j)) := AF.new A41 (by decide)
                  obtain ⟨T42, h42, X42, e42, W42, A42, st42⟩ := AF.stI X41 hx hZ e41 V41 (by decide : own_in (0 : Int32) 2) (g := (mkF m 147 #[.val (.int p0), .val (.int p1)] [(.int (1 : Int32)), (.int (0 : Int32)), (.ref b41), (.ref b41)])) rfl rfl (hb hby d1_147)
                  have K42 : Keep h0 h42 [] := K41.wr W42 (Or.inr sz_b41)
                  obtain ⟨f43, hf43⟩ : ∃ f : Nat → Int32, f = (fun i => if i = 0 then (1 : Int32) else (fun _ => (0 : Int32)) i) := ⟨_, rfl⟩
                  have V42 : AF Z h42 b41 .int 2 (fun j => .int (f43 j)) := AF.cong A42 (own_updI rfl hf43)
                  have N42 := Fr.snoc X42 N0 nw_b41
                  obtain ⟨T44, h44, X44, e44, W44, A44, st44⟩ := AF.stI X42 hx hZ e42 V42 (by decide : own_in (1 : Int32) 2) (g := (mkF m 151 #[.val (.int p0), .val (.int p1)] [(.int (2 : Int32)), (.int (1 : Int32)), (.ref b41), (.ref b41)])) rfl rfl (hb hby d1_151)
                  have K44 : Keep h0 h44 [] := K42.wr W44 (Or.inr sz_b41)
                  obtain ⟨f45, hf45⟩ : ∃ f : Nat → Int32, f = (fun i => if i = 1 then (2 : Int32) else f43 i) := ⟨_, rfl⟩
                  have V44 : AF Z h44 b41 .int 2 (fun j => .int (f45 j)) := AF.cong A44 (own_updI rfl hf45)
                  have N44 := Fr.snoc X44 N42 nw_b41
                  obtain ⟨fs, hr, hrun, hended, hW, hsame⟩ := X44.leave (v := some (.ref b41)) (fun h => by rw [Bd.returns] at h; cases h)
                  refine ⟨_, _, pre0 _ (ck1 _ (ck3 _ (ck7 _ (ck11 _ (ck15 _ (ck27 _ (ck39 _ (ck40 _ ?_)))))))), hrun, hended, _, _, rfl, ?_, ⟨_, rfl⟩, hW, hsame.mono (by decide) (by decide)⟩
                  · show Steps p.tables e below (s₁.setTop (mkF m 124 #[.val (.int p0), .val (.int p1)] [(.int p1)])) _
                    refine XS.ifYes X0.here hx rfl (pc0 := 124) (pc' := 141) rfl (hb hby d1_124) rfl ((if0 _ _).trans (teq hs124).1) (by decide) (by decide) ?_
                    show Steps p.tables e below (s₁.setTop (mkF m 141 #[.val (.int p0), .val (.int p1)] [])) _
                    refine XS.iconst X0.here hx rfl (hb hby d1_141) ?_
                    show Steps p.tables e below (s₁.setTop (mkF m 142 #[.val (.int p0), .val (.int p1)] [(.int (2 : Int32))])) _
                    refine st41 _ ?_
                    show Steps p.tables e below (T41.setTop (mkF m 144 #[.val (.int p0), .val (.int p1)] [(.ref b41)])) _
                    refine XS.dup X41.here hx rfl (hb hby d1_144) rfl rfl ?_
                    show Steps p.tables e below (T41.setTop (mkF m 145 #[.val (.int p0), .val (.int p1)] [(.ref b41), (.ref b41)])) _
                    refine XS.iconst X41.here hx rfl (hb hby d1_145) ?_
                    show Steps p.tables e below (T41.setTop (mkF m 146 #[.val (.int p0), .val (.int p1)] [(.int (0 : Int32)), (.ref b41), (.ref b41)])) _
                    refine XS.iconst X41.here hx rfl (hb hby d1_146) ?_
                    show Steps p.tables e below (T41.setTop (mkF m 147 #[.val (.int p0), .val (.int p1)] [(.int (1 : Int32)), (.int (0 : Int32)), (.ref b41), (.ref b41)])) _
                    refine st42 _ ?_
                    show Steps p.tables e below (T42.setTop (mkF m 148 #[.val (.int p0), .val (.int p1)] [(.ref b41)])) _
                    refine XS.dup X42.here hx rfl (hb hby d1_148) rfl rfl ?_
                    show Steps p.tables e below (T42.setTop (mkF m 149 #[.val (.int p0), .val (.int p1)] [(.ref b41), (.ref b41)])) _
                    refine XS.iconst X42.here hx rfl (hb hby d1_149) ?_
                    show Steps p.tables e below (T42.setTop (mkF m 150 #[.val (.int p0), .val (.int p1)] [(.int (1 : Int32)), (.ref b41), (.ref b41)])) _
                    refine XS.iconst X42.here hx rfl (hb hby d1_150) ?_
                    show Steps p.tables e below (T42.setTop (mkF m 151 #[.val (.int p0), .val (.int p1)] [(.int (2 : Int32)), (.int (1 : Int32)), (.ref b41), (.ref b41)])) _
                    refine st44 _ ?_
                    show Steps p.tables e below (T44.setTop (mkF m 152 #[.val (.int p0), .val (.int p1)] [(.ref b41)])) _
                    exact retOut X44 hx Bd.returns rfl (Or.inr (Or.inr (Or.inr (Or.inr ⟨rfl, rfl, rfl⟩)))) (hb hby d1_152) hr
                  · show Q1 Z p0 p1 h0 n0 _ T44.heap _
                    rw [e44]
                    have hn : own_n p0 = 2 := by simp [own_n, hs1, hs10, hs23, hs36, hs49, hs84, hs120, hs124]
                    refine ⟨b41, rfl, N44, K44, sz_b41, ?_⟩
                    rw [hn]
                    refine AF.cong V44 (fun j hj => ?_)
                    have hj' : j = 0 ∨ j = 1 := by omega
                    rcases hj' with rfl | rfl <;> simp [own_g, hs1, hs10, hs23, hs36, hs49, hs84, hs120, hs124, hf43, hf45]
                · obtain ⟨T46, h46, k46, X46, e46, E46, A46, st46⟩ := newP X0 hx hZ (hw _ (List.mem_of_getElem? (i := 4) rfl)) e0 (g := (mkF m 128 #[.val (.int p0), .val (.int p1)] [(.int (2 : Int32))])) rfl (hb hby d1_128) rfl (by decide) (cap := 2) (by decide) (by decide) (by decide) (by decide)
                  obtain ⟨b46, g46⟩ : ∃ z, z = h0.size := ⟨_, rfl⟩
                  rw [← g46] at A46 st46
                  have nw_b46 : n0 ≤ b46 := Nat.le_trans (Nat.le_trans Z0 (Keep.refl h0 []).1) (Nat.le_of_eq g46.symm)
                  have sz_b46 : h0.size ≤ b46 := Nat.le_trans (Keep.refl h0 []).1 (Nat.le_of_eq g46.symm)
                  have K46 : Keep h0 h46 [] := (Keep.refl h0 []).ext E46
                  have V46 : AF Z h46 b46 .int 2 (fun j => .int ((fun _ => (0 : Int32)) j)) := AF.new A46 (by decide)
                  obtain ⟨T47, h47, X47, e47, W47, A47, st47⟩ := AF.stI X46 hx hZ e46 V46 (by decide : own_in (0 : Int32) 2) (g := (mkF m 133 #[.val (.int p0), .val (.int p1)] [(.int (2 : Int32)), (.int (0 : Int32)), (.ref b46), (.ref b46)])) rfl rfl (hb hby d1_133)
                  have K47 : Keep h0 h47 [] := K46.wr W47 (Or.inr sz_b46)
                  obtain ⟨f48, hf48⟩ : ∃ f : Nat → Int32, f = (fun i => if i = 0 then (2 : Int32) else (fun _ => (0 : Int32)) i) := ⟨_, rfl⟩
                  have V47 : AF Z h47 b46 .int 2 (fun j => .int (f48 j)) := AF.cong A47 (own_updI rfl hf48)
                  have N47 := Fr.snoc X47 N0 nw_b46
                  obtain ⟨T49, h49, X49, e49, W49, A49, st49⟩ := AF.stI X47 hx hZ e47 V47 (by decide : own_in (1 : Int32) 2) (g := (mkF m 137 #[.val (.int p0), .val (.int p1)] [(.int (1 : Int32)), (.int (1 : Int32)), (.ref b46), (.ref b46)])) rfl rfl (hb hby d1_137)
                  have K49 : Keep h0 h49 [] := K47.wr W49 (Or.inr sz_b46)
                  obtain ⟨f50, hf50⟩ : ∃ f : Nat → Int32, f = (fun i => if i = 1 then (1 : Int32) else f48 i) := ⟨_, rfl⟩
                  have V49 : AF Z h49 b46 .int 2 (fun j => .int (f50 j)) := AF.cong A49 (own_updI rfl hf50)
                  have N49 := Fr.snoc X49 N47 nw_b46
                  obtain ⟨fs, hr, hrun, hended, hW, hsame⟩ := X49.leave (v := some (.ref b46)) (fun h => by rw [Bd.returns] at h; cases h)
                  refine ⟨_, _, pre0 _ (ck1 _ (ck3 _ (ck7 _ (ck11 _ (ck15 _ (ck27 _ (ck39 _ (ck40 _ ?_)))))))), hrun, hended, _, _, rfl, ?_, ⟨_, rfl⟩, hW, hsame.mono (by decide) (by decide)⟩
                  · show Steps p.tables e below (s₁.setTop (mkF m 124 #[.val (.int p0), .val (.int p1)] [(.int p1)])) _
                    refine XS.ifNo X0.here hx rfl (hb hby d1_124) rfl ((if0 _ _).trans (feq hs124).1) ?_
                    show Steps p.tables e below (s₁.setTop (mkF m 127 #[.val (.int p0), .val (.int p1)] [])) _
                    refine XS.iconst X0.here hx rfl (hb hby d1_127) ?_
                    show Steps p.tables e below (s₁.setTop (mkF m 128 #[.val (.int p0), .val (.int p1)] [(.int (2 : Int32))])) _
                    refine st46 _ ?_
                    show Steps p.tables e below (T46.setTop (mkF m 130 #[.val (.int p0), .val (.int p1)] [(.ref b46)])) _
                    refine XS.dup X46.here hx rfl (hb hby d1_130) rfl rfl ?_
                    show Steps p.tables e below (T46.setTop (mkF m 131 #[.val (.int p0), .val (.int p1)] [(.ref b46), (.ref b46)])) _
                    refine XS.iconst X46.here hx rfl (hb hby d1_131) ?_
                    show Steps p.tables e below (T46.setTop (mkF m 132 #[.val (.int p0), .val (.int p1)] [(.int (0 : Int32)), (.ref b46), (.ref b46)])) _
                    refine XS.iconst X46.here hx rfl (hb hby d1_132) ?_
                    show Steps p.tables e below (T46.setTop (mkF m 133 #[.val (.int p0), .val (.int p1)] [(.int (2 : Int32)), (.int (0 : Int32)), (.ref b46), (.ref b46)])) _
                    refine st47 _ ?_
                    show Steps p.tables e below (T47.setTop (mkF m 134 #[.val (.int p0), .val (.int p1)] [(.ref b46)])) _
                    refine XS.dup X47.here hx rfl (hb hby d1_134) rfl rfl ?_
                    show Steps p.tables e below (T47.setTop (mkF m 135 #[.val (.int p0), .val (.int p1)] [(.ref b46), (.ref b46)])) _
                    refine XS.iconst X47.here hx rfl (hb hby d1_135) ?_
                    show Steps p.tables e below (T47.setTop (mkF m 136 #[.val (.int p0), .val (.int p1)] [(.int (1 : Int32)), (.ref b46), (.ref b46)])) _
                    refine XS.iconst X47.here hx rfl (hb hby d1_136) ?_
                    show Steps p.tables e below (T47.setTop (mkF m 137 #[.val (.int p0), .val (.int p1)] [(.int (1 : Int32)), (.int (1 : Int32)), (.ref b46), (.ref b46)])) _
                    refine st49 _ ?_
                    show Steps p.tables e below (T49.setTop (mkF m 138 #[.val (.int p0), .val (.int p1)] [(.ref b46)])) _
                    refine XS.goto X49.here hx rfl (pc0 := 138) (pc' := 152) rfl (hb hby d1_138) (by decide) (by decide) ?_
                    show Steps p.tables e below (T49.setTop (mkF m 152 #[.val (.int p0), .val (.int p1)] [(.ref b46)])) _
                    exact retOut X49 hx Bd.returns rfl (Or.inr (Or.inr (Or.inr (Or.inr ⟨rfl, rfl, rfl⟩)))) (hb hby d1_152) hr
                  · show Q1 Z p0 p1 h0 n0 _ T49.heap _
                    rw [e49]
                    have hn : own_n p0 = 2 := by simp [own_n, hs1, hs10, hs23, hs36, hs49, hs84, hs120, hs124]
                    refine ⟨b46, rfl, N49, K49, sz_b46, ?_⟩
                    rw [hn]
                    refine AF.cong V49 (fun j hj => ?_)
                    have hj' : j = 0 ∨ j = 1 := by omega
                    rcases hj' with rfl | rfl <;> simp [own_g, hs1, hs10, hs23, hs36, hs49, hs84, hs120, hs124, hf48, hf50]
              · have ck51 : ∀ t, Steps p.tables e below (s₁.setTop (mkF m 154 #[.val (.int p0), .val (.int p1)] [(.int p1)])) t → Steps p.tables e below (s₁.setTop (mkF m 120 #[.val (.int p0), .val (.int p1)] [(.int (6 : Int32)), (.int p0)])) t := by
                  intro t kt
                  show Steps p.tables e below (s₁.setTop (mkF m 120 #[.val (.int p0), .val (.int p1)] [(.int (6 : Int32)), (.int p0)])) _
                  refine XS.icmpYes X0.here hx rfl (pc0 := 120) (pc' := 153) rfl (hb hby d1_120) rfl (feq hs120).2 (by decide) (by decide) ?_
                  show Steps p.tables e below (s₁.setTop (mkF m 153 #[.val (.int p0), .val (.int p1)] [])) _
                  refine XS.iloadN X0.here hx rfl (hb hby d1_153) rfl ?_
                  exact kt
                by_cases hs154 : p1 = (0 : Int32)
                · obtain ⟨T52, h52, k52, X52, e52, E52, A52, st52⟩ := newP X0 hx hZ (hw _ (List.mem_of_getElem? (i := 4) rfl)) e0 (g := (mkF m 176 #[.val (.int p0), .val (.int p1)] [(.int (3 : Int32))])) rfl (hb hby d1_176) rfl (by decide) (cap := 3) (by decide) (by decide) (by decide) (by decide)
                  obtain ⟨b52, g52⟩ : ∃ z, z = h0.size := ⟨_, rfl⟩
                  rw [← g52] at A52 st52
                  have nw_b52 : n0 ≤ b52 := Nat.le_trans (Nat.le_trans Z0 (Keep.refl h0 []).1) (Nat.le_of_eq g52.symm)
                  have sz_b52 : h0.size ≤ b52 := Nat.le_trans (Keep.refl h0 []).1 (Nat.le_of_eq g52.symm)
                  have K52 : Keep h0 h52 [] := (Keep.refl h0 []).ext E52
                  have V52 : AF Z h52 b52 .int 3 (fun j => .int ((fun _ => (0 : Int32)) j)) := AF.new A52 (by decide)
                  obtain ⟨T53, h53, X53, e53, W53, A53, st53⟩ := AF.stI X52 hx hZ e52 V52 (by decide : own_in (0 : Int32) 3) (g := (mkF m 181 #[.val (.int p0), .val (.int p1)] [(.int (0 : Int32)), (.int (0 : Int32)), (.ref b52), (.ref b52)])) rfl rfl (hb hby d1_181)
                  have K53 : Keep h0 h53 [] := K52.wr W53 (Or.inr sz_b52)
                  obtain ⟨f54, hf54⟩ : ∃ f : Nat → Int32, f = (fun i => if i = 0 then (0 : Int32) else (fun _ => (0 : Int32)) i) := ⟨_, rfl⟩
                  have V53 : AF Z h53 b52 .int 3 (fun j => .int (f54 j)) := AF.cong A53 (own_updI rfl hf54)
                  have N53 := Fr.snoc X53 N0 nw_b52
                  obtain ⟨T55, h55, X55, e55, W55, A55, st55⟩ := AF.stI X53 hx hZ e53 V53 (by decide : own_in (1 : Int32) 3) (g := (mkF m 185 #[.val (.int p0), .val (.int p1)] [(.int (1 : Int32)), (.int (1 : Int32)), (.ref b52), (.ref b52)])) rfl rfl (hb hby d1_185)
                  have K55 : Keep h0 h55 [] := K53.wr W55 (Or.inr sz_b52)
                  obtain ⟨f56, hf56⟩ : ∃ f : Nat → Int32, f = (fun i => if i = 1 then (1 : Int32) else f54 i) := ⟨_, rfl⟩
                  have V55 : AF Z h55 b52 .int 3 (fun j => .int (f56 j)) := AF.cong A55 (own_updI rfl hf56)
                  have N55 := Fr.snoc X55 N53 nw_b52
                  obtain ⟨T57, h57, X57, e57, W57, A57, st57⟩ := AF.stI X55 hx hZ e55 V55 (by decide : own_in (2 : Int32) 3) (g := (mkF m 189 #[.val (.int p0), .val (.int p1)] [(.int (2 : Int32)), (.int (2 : Int32)), (.ref b52), (.ref b52)])) rfl rfl (hb hby d1_189)
                  have K57 : Keep h0 h57 [] := K55.wr W57 (Or.inr sz_b52)
                  obtain ⟨f58, hf58⟩ : ∃ f : Nat → Int32, f = (fun i => if i = 2 then (2 : Int32) else f56 i) := ⟨_, rfl⟩
                  have V57 : AF Z h57 b52 .int 3 (fun j => .int (f58 j)) := AF.cong A57 (own_updI rfl hf58)
                  have N57 := Fr.snoc X57 N55 nw_b52
                  obtain ⟨fs, hr, hrun, hended, hW, hsame⟩ := X57.leave (v := some (.ref b52)) (fun h => by rw [Bd.returns] at h; cases h)
                  refine ⟨_, _, pre0 _ (ck1 _ (ck3 _ (ck7 _ (ck11 _ (ck15 _ (ck27 _ (ck39 _ (ck51 _ ?_)))))))), hrun, hended, _, _, rfl, ?_, ⟨_, rfl⟩, hW, hsame.mono (by decide) (by decide)⟩
                  · show Steps p.tables e below (s₁.setTop (mkF m 154 #[.val (.int p0), .val (.int p1)] [(.int p1)])) _
                    refine XS.ifYes X0.here hx rfl (pc0 := 154) (pc' := 175) rfl (hb hby d1_154) rfl ((if0 _ _).trans (teq hs154).1) (by decide) (by decide) ?_
                    show Steps p.tables e below (s₁.setTop (mkF m 175 #[.val (.int p0), .val (.int p1)] [])) _
                    refine XS.iconst X0.here hx rfl (hb hby d1_175) ?_
                    show Steps p.tables e below (s₁.setTop (mkF m 176 #[.val (.int p0), .val (.int p1)] [(.int (3 : Int32))])) _
                    refine st52 _ ?_
                    show Steps p.tables e below (T52.setTop (mkF m 178 #[.val (.int p0), .val (.int p1)] [(.ref b52)])) _
                    refine XS.dup X52.here hx rfl (hb hby d1_178) rfl rfl ?_
                    show Steps p.tables e below (T52.setTop (mkF m 179 #[.val (.int p0), .val (.int p1)] [(.ref b52), (.ref b52)])) _
                    refine XS.iconst X52.here hx rfl (hb hby d1_179) ?_
                    show Steps p.tables e below (T52.setTop (mkF m 180 #[.val (.int p0), .val (.int p1)] [(.int (0 : Int32)), (.ref b52), (.ref b52)])) _
                    refine XS.iconst X52.here hx rfl (hb hby d1_180) ?_
                    show Steps p.tables e below (T52.setTop (mkF m 181 #[.val (.int p0), .val (.int p1)] [(.int (0 : Int32)), (.int (0 : Int32)), (.ref b52), (.ref b52)])) _
                    refine st53 _ ?_
                    show Steps p.tables e below (T53.setTop (mkF m 182 #[.val (.int p0), .val (.int p1)] [(.ref b52)])) _
                    refine XS.dup X53.here hx rfl (hb hby d1_182) rfl rfl ?_
                    show Steps p.tables e below (T53.setTop (mkF m 183 #[.val (.int p0), .val (.int p1)] [(.ref b52), (.ref b52)])) _
                    refine XS.iconst X53.here hx rfl (hb hby d1_183) ?_
                    show Steps p.tables e below (T53.setTop (mkF m 184 #[.val (.int p0), .val (.int p1)] [(.int (1 : Int32)), (.ref b52), (.ref b52)])) _
                    refine XS.iconst X53.here hx rfl (hb hby d1_184) ?_
                    show Steps p.tables e below (T53.setTop (mkF m 185 #[.val (.int p0), .val (.int p1)] [(.int (1 : Int32)), (.int (1 : Int32)), (.ref b52), (.ref b52)])) _
                    refine st55 _ ?_
                    show Steps p.tables e below (T55.setTop (mkF m 186 #[.val (.int p0), .val (.int p1)] [(.ref b52)])) _
                    refine XS.dup X55.here hx rfl (hb hby d1_186) rfl rfl ?_
                    show Steps p.tables e below (T55.setTop (mkF m 187 #[.val (.int p0), .val (.int p1)] [(.ref b52), (.ref b52)])) _
                    refine XS.iconst X55.here hx rfl (hb hby d1_187) ?_
                    show Steps p.tables e below (T55.setTop (mkF m 188 #[.val (.int p0), .val (.int p1)] [(.int (2 : Int32)), (.ref b52), (.ref b52)])) _
                    refine XS.iconst X55.here hx rfl (hb hby d1_188) ?_
                    show Steps p.tables e below (T55.setTop (mkF m 189 #[.val (.int p0), .val (.int p1)] [(.int (2 : Int32)), (.int (2 : Int32)), (.ref b52), (.ref b52)])) _
                    refine st57 _ ?_
                    show Steps p.tables e below (T57.setTop (mkF m 190 #[.val (.int p0), .val (.int p1)] [(.ref b52)])) _
                    exact retOut X57 hx Bd.returns rfl (Or.inr (Or.inr (Or.inr (Or.inr ⟨rfl, rfl, rfl⟩)))) (hb hby d1_190) hr
                  · show Q1 Z p0 p1 h0 n0 _ T57.heap _
                    rw [e57]
                    have hn : own_n p0 = 3 := by simp [own_n, hs1, hs10, hs23, hs36, hs49, hs84, hs120, hs154]
                    refine ⟨b52, rfl, N57, K57, sz_b52, ?_⟩
                    rw [hn]
                    refine AF.cong V57 (fun j hj => ?_)
                    have hj' : j = 0 ∨ j = 1 ∨ j = 2 := by omega
                    rcases hj' with rfl | rfl | rfl <;> simp [own_g, hs1, hs10, hs23, hs36, hs49, hs84, hs120, hs154, hf54, hf56, hf58]
                · obtain ⟨T59, h59, k59, X59, e59, E59, A59, st59⟩ := newP X0 hx hZ (hw _ (List.mem_of_getElem? (i := 4) rfl)) e0 (g := (mkF m 158 #[.val (.int p0), .val (.int p1)] [(.int (3 : Int32))])) rfl (hb hby d1_158) rfl (by decide) (cap := 3) (by decide) (by decide) (by decide) (by decide)
                  obtain ⟨b59, g59⟩ : ∃ z, z = h0.size := ⟨_, rfl⟩
                  rw [← g59] at A59 st59
                  have nw_b59 : n0 ≤ b59 := Nat.le_trans (Nat.le_trans Z0 (Keep.refl h0 []).1) (Nat.le_of_eq g59.symm)
                  have sz_b59 : h0.size ≤ b59 := Nat.le_trans (Keep.refl h0 []).1 (Nat.le_of_eq g59.symm)
                  have K59 : Keep h0 h59 [] := (Keep.refl h0 []).ext E59
                  have V59 : AF Z h59 b59 .int 3 (fun j => .int ((fun _ => (0 : Int32)) j)) := AF.new A59 (by decide)
                  obtain ⟨T60, h60, X60, e60, W60, A60, st60⟩ := AF.stI X59 hx hZ e59 V59 (by decide : own_in (0 : Int32) 3) (g := (mkF m 163 #[.val (.int p0), .val (.int p1)] [(.int (2 : Int32)), (.int (0 : Int32)), (.ref b59), (.ref b59)])) rfl rfl (hb hby d1_163)
                  have K60 : Keep h0 h60 [] := K59.wr W60 (Or.inr sz_b59)
                  obtain ⟨f61, hf61⟩ : ∃ f : Nat → Int32, f = (fun i => if i = 0 then (2 : Int32) else (fun _ => (0 : Int32)) i) := ⟨_, rfl⟩
                  have V60 : AF Z h60 b59 .int 3 (fun j => .int (f61 j)) := AF.cong A60 (own_updI rfl hf61)
                  have N60 := Fr.snoc X60 N0 nw_b59
                  obtain ⟨T62, h62, X62, e62, W62, A62, st62⟩ := AF.stI X60 hx hZ e60 V60 (by decide : own_in (1 : Int32) 3) (g := (mkF m 167 #[.val (.int p0), .val (.int p1)] [(.int (1 : Int32)), (.int (1 : Int32)), (.ref b59), (.ref b59)])) rfl rfl (hb hby d1_167)
                  have K62 : Keep h0 h62 [] := K60.wr W62 (Or.inr sz_b59)
                  obtain ⟨f63, hf63⟩ : ∃ f : Nat → Int32, f = (fun i => if i = 1 then (1 : Int32) else f61 i) := ⟨_, rfl⟩
                  have V62 : AF Z h62 b59 .int 3 (fun j => .int (f63 j)) := AF.cong A62 (own_updI rfl hf63)
                  have N62 := Fr.snoc X62 N60 nw_b59
                  obtain ⟨T64, h64, X64, e64, W64, A64, st64⟩ := AF.stI X62 hx hZ e62 V62 (by decide : own_in (2 : Int32) 3) (g := (mkF m 171 #[.val (.int p0), .val (.int p1)] [(.int (0 : Int32)), (.int (2 : Int32)), (.ref b59), (.ref b59)])) rfl rfl (hb hby d1_171)
                  have K64 : Keep h0 h64 [] := K62.wr W64 (Or.inr sz_b59)
                  obtain ⟨f65, hf65⟩ : ∃ f : Nat → Int32, f = (fun i => if i = 2 then (0 : Int32) else f63 i) := ⟨_, rfl⟩
                  have V64 : AF Z h64 b59 .int 3 (fun j => .int (f65 j)) := AF.cong A64 (own_updI rfl hf65)
                  have N64 := Fr.snoc X64 N62 nw_b59
                  obtain ⟨fs, hr, hrun, hended, hW, hsame⟩ := X64.leave (v := some (.ref b59)) (fun h => by rw [Bd.returns] at h; cases h)
                  refine ⟨_, _, pre0 _ (ck1 _ (ck3 _ (ck7 _ (ck11 _ (ck15 _ (ck27 _ (ck39 _ (ck51 _ ?_)))))))), hrun, hended, _, _, rfl, ?_, ⟨_, rfl⟩, hW, hsame.mono (by decide) (by decide)⟩
                  · show Steps p.tables e below (s₁.setTop (mkF m 154 #[.val (.int p0), .val (.int p1)] [(.int p1)])) _
                    refine XS.ifNo X0.here hx rfl (hb hby d1_154) rfl ((if0 _ _).trans (feq hs154).1) ?_
                    show Steps p.tables e below (s₁.setTop (mkF m 157 #[.val (.int p0), .val (.int p1)] [])) _
                    refine XS.iconst X0.here hx rfl (hb hby d1_157) ?_
                    show Steps p.tables e below (s₁.setTop (mkF m 158 #[.val (.int p0), .val (.int p1)] [(.int (3 : Int32))])) _
                    refine st59 _ ?_
                    show Steps p.tables e below (T59.setTop (mkF m 160 #[.val (.int p0), .val (.int p1)] [(.ref b59)])) _
                    refine XS.dup X59.here hx rfl (hb hby d1_160) rfl rfl ?_
                    show Steps p.tables e below (T59.setTop (mkF m 161 #[.val (.int p0), .val (.int p1)] [(.ref b59), (.ref b59)])) _
                    refine XS.iconst X59.here hx rfl (hb hby d1_161) ?_
                    show Steps p.tables e below (T59.setTop (mkF m 162 #[.val (.int p0), .val (.int p1)] [(.int (0 : Int32)), (.ref b59), (.ref b59)])) _
                    refine XS.iconst X59.here hx rfl (hb hby d1_162) ?_
                    show Steps p.tables e below (T59.setTop (mkF m 163 #[.val (.int p0), .val (.int p1)] [(.int (2 : Int32)), (.int (0 : Int32)), (.ref b59), (.ref b59)])) _
                    refine st60 _ ?_
                    show Steps p.tables e below (T60.setTop (mkF m 164 #[.val (.int p0), .val (.int p1)] [(.ref b59)])) _
                    refine XS.dup X60.here hx rfl (hb hby d1_164) rfl rfl ?_
                    show Steps p.tables e below (T60.setTop (mkF m 165 #[.val (.int p0), .val (.int p1)] [(.ref b59), (.ref b59)])) _
                    refine XS.iconst X60.here hx rfl (hb hby d1_165) ?_
                    show Steps p.tables e below (T60.setTop (mkF m 166 #[.val (.int p0), .val (.int p1)] [(.int (1 : Int32)), (.ref b59), (.ref b59)])) _
                    refine XS.iconst X60.here hx rfl (hb hby d1_166) ?_
                    show Steps p.tables e below (T60.setTop (mkF m 167 #[.val (.int p0), .val (.int p1)] [(.int (1 : Int32)), (.int (1 : Int32)), (.ref b59), (.ref b59)])) _
                    refine st62 _ ?_
                    show Steps p.tables e below (T62.setTop (mkF m 168 #[.val (.int p0), .val (.int p1)] [(.ref b59)])) _
                    refine XS.dup X62.here hx rfl (hb hby d1_168) rfl rfl ?_
                    show Steps p.tables e below (T62.setTop (mkF m 169 #[.val (.int p0), .val (.int p1)] [(.ref b59), (.ref b59)])) _
                    refine XS.iconst X62.here hx rfl (hb hby d1_169) ?_
                    show Steps p.tables e below (T62.setTop (mkF m 170 #[.val (.int p0), .val (.int p1)] [(.int (2 : Int32)), (.ref b59), (.ref b59)])) _
                    refine XS.iconst X62.here hx rfl (hb hby d1_170) ?_
                    show Steps p.tables e below (T62.setTop (mkF m 171 #[.val (.int p0), .val (.int p1)] [(.int (0 : Int32)), (.int (2 : Int32)), (.ref b59), (.ref b59)])) _
                    refine st64 _ ?_
                    show Steps p.tables e below (T64.setTop (mkF m 172 #[.val (.int p0), .val (.int p1)] [(.ref b59)])) _
                    refine XS.goto X64.here hx rfl (pc0 := 172) (pc' := 190) rfl (hb hby d1_172) (by decide) (by decide) ?_
                    show Steps p.tables e below (T64.setTop (mkF m 190 #[.val (.int p0), .val (.int p1)] [(.ref b59)])) _
                    exact retOut X64 hx Bd.returns rfl (Or.inr (Or.inr (Or.inr (Or.inr ⟨rfl, rfl, rfl⟩)))) (hb hby d1_190) hr
                  · show Q1 Z p0 p1 h0 n0 _ T64.heap _
                    rw [e64]
                    have hn : own_n p0 = 3 := by simp [own_n, hs1, hs10, hs23, hs36, hs49, hs84, hs120, hs154]
                    refine ⟨b59, rfl, N64, K64, sz_b59, ?_⟩
                    rw [hn]
                    refine AF.cong V64 (fun j hj => ?_)
                    have hj' : j = 0 ∨ j = 1 ∨ j = 2 := by omega
                    rcases hj' with rfl | rfl | rfl <;> simp [own_g, hs1, hs10, hs23, hs36, hs49, hs84, hs120, hs154, hf61, hf63, hf65]
theorem ef_2 (m : MethodId) (a0 : Addr) : entryFrame m #[(.ref a0), (.int (3 : Int32))] 2 = mkF m 0 #[.val (.ref a0), .val (.int (3 : Int32))] [] := by first | (simp [entryFrame, mkF, argsToLocals, Value.category]; done) | rfl
def Q2 (Z : State) (a0 : Addr) (w_ticks_a0 : Value) (w_lastTickSteps_a0 : Value) (w_stepCount_a0 : Int64) (h0 : Heap) (n0 : Nat) (v : Option Value) (h : Heap) (L : List Loc) : Prop := ∃ b2 : Addr, ∃ b6 : Addr, v = none ∧ Fr n0 L ∧ Keep h0 h [a0] ∧ h0.size ≤ b2 ∧ h0.size ≤ b6 ∧ b2 ≠ b6 ∧ Exa Z h a0 "com/example/uneven_ticks/uneventicks/core/RunState" ∧ Fld Z h a0 "com/example/uneven_ticks/uneventicks/core/RunState" "ticks" "[J" (.ref b2) ∧ Fld Z h a0 "com/example/uneven_ticks/uneventicks/core/RunState" "lastTickSteps" "[J" (.ref b6) ∧ Fld Z h a0 "com/example/uneven_ticks/uneventicks/core/RunState" "stepCount" "J" (.long w_stepCount_a0) ∧ AF Z h b2 .long 3 (fun j => .long ((fun _ => (0 : Int64)) j)) ∧ AF Z h b6 .long 3 (fun j => .long ((fun _ => (0 : Int64)) j))
set_option maxRecDepth 65536 in
set_option maxHeartbeats 40000000 in
theorem rm2 (l : Launch) (Z : State) (A0 : Array Value) (hw : ∀ d ∈ tables_1, d.before A0 Z = true) (ws : List Jvm.Cond) (a0 : Addr) (w_ticks_a0 : Value) (w_lastTickSteps_a0 : Value) (w_stepCount_a0 : Int64) (h0 : Heap) (n0 : Nat) (Z0 : n0 ≤ h0.size) (E_a0 : Exa Z h0 a0 "com/example/uneven_ticks/uneventicks/core/RunState") (F_ticks_a0 : Fld Z h0 a0 "com/example/uneven_ticks/uneventicks/core/RunState" "ticks" "[J" w_ticks_a0) (F_lastTickSteps_a0 : Fld Z h0 a0 "com/example/uneven_ticks/uneventicks/core/RunState" "lastTickSteps" "[J" w_lastTickSteps_a0) (F_stepCount_a0 : Fld Z h0 a0 "com/example/uneven_ticks/uneventicks/core/RunState" "stepCount" "J" (.long w_stepCount_a0)) (nw_a0 : n0 ≤ a0) :
    MetFree l (⟨"com/example/uneven_ticks/uneventicks/core/RunState", "<init>", "(I)V"⟩ : MethodName) (head1 (Jvm.Cond.code (⟨"com/example/uneven_ticks/uneventicks/core/RunState", "<init>", "(I)V"⟩ : MethodName) prog_45_method_1_code 2 none :: ws) ({ frames := 1, cells := 2, slots := 6, locals := 12 } : Room)) (fun a U => a = #[(.ref a0), (.int (3 : Int32))] ∧ Z.Warmed39 U.vm ∧ U.heap = h0) (fun _ _ _ _ _ => True) (fun _ U o U' => ∃ v L, o = .returned v ∧ Q2 Z a0 w_ticks_a0 w_lastTickSteps_a0 w_stepCount_a0 h0 n0 v U'.heap L ∧ FrameEnd U o U' L ({ frames := 1, cells := 2, slots := 6, locals := 12 } : Room).cells ({ frames := 1, cells := 2, slots := 6, locals := 12 } : Room).slots) := by
  refine MetFree.of_bodySF (plainFor_of_name pn_2) hisR ?_
  intro p e s m args below meth c s₁ Bd hml0 hP hK
  obtain ⟨rfl, hZ, hh⟩ := hP
  have hx := Bd.exec
  have hby := Bd.bytes
  have hml : c.maxLocals = 2 := hml0
  have hown : s.vm.findClass "com/example/uneven_ticks/uneventicks/core/RunState" = some m.cls := findClass_of_methodNamed Bd.named
  have hnm := (name_of_methodNamed Bd.named Bd.method).1
  have X0 : Stand p l e ({ frames := 1, cells := 2, slots := 6, locals := 12 } : Room) s m #[(.ref a0), (.int (3 : Int32))] below meth c s₁ [] 0 0 := Stand.of_body Bd
  have e0 : s₁.heap = h0 := by rw [← hh, Bd.state]; rfl
  have N0 := Fr.nil n0
  have pre0 : ∀ t, Steps p.tables e below (s₁.setTop (mkF m 0 #[.val (.ref a0), .val (.int (3 : Int32))] [])) t → Steps p.tables e below (s₁.setTop (entryFrame m #[(.ref a0), (.int (3 : Int32))] 2)) t := fun t k => castTop (ef_2 m a0) k
  obtain ⟨T1, X1, e1, st1⟩ := initO X0 hx hZ hown (hw _ (List.mem_of_getElem? (i := 11) rfl)) (hw _ (List.mem_of_getElem? (i := 12) rfl)) (hw _ (List.mem_of_getElem? (i := 13) rfl)) e0 (g := (mkF m 1 #[.val (.ref a0), .val (.int (3 : Int32))] [(.ref a0)])) rfl (by rw [hml]; rfl) rfl (hb hby d2_1) (by decide) (W := 0) (by show 2 * 0 + _ ≤ _; exact Nat.le_of_eq rfl) (by decide)
  obtain ⟨T2, h2, k2, X2, e2, E2, A2, st2⟩ := newP X1 hx hZ (hw _ (List.mem_of_getElem? (i := 14) rfl)) e1 (g := (mkF m 6 #[.val (.ref a0), .val (.int (3 : Int32))] [(.int (3 : Int32)), (.ref a0)])) rfl (hb hby d2_6) rfl (by decide) (cap := 3) (by decide) (by decide) (by decide) (by decide)
  obtain ⟨b2, g2⟩ : ∃ z, z = h0.size := ⟨_, rfl⟩
  rw [← g2] at A2 st2
  have ne_a0_b2 : a0 ≠ b2 := Nat.ne_of_lt (Nat.lt_of_lt_of_le E_a0.lt (Nat.le_of_eq g2.symm))
  have nw_b2 : n0 ≤ b2 := Nat.le_trans (Nat.le_trans Z0 (Keep.refl h0 [a0]).1) (Nat.le_of_eq g2.symm)
  have sz_b2 : h0.size ≤ b2 := Nat.le_trans (Keep.refl h0 [a0]).1 (Nat.le_of_eq g2.symm)
  have K2 : Keep h0 h2 [a0] := (Keep.refl h0 [a0]).ext E2
  have V2 : AF Z h2 b2 .long 3 (fun j => .long ((fun _ => (0 : Int64)) j)) := AF.new A2 (by decide)
  have G3 : Exa Z h2 a0 "com/example/uneven_ticks/uneventicks/core/RunState" := (E_a0.ext E2)
  have G4 : Fld Z h2 a0 "com/example/uneven_ticks/uneventicks/core/RunState" "ticks" "[J" w_ticks_a0 := (F_ticks_a0.ext E2)
  obtain ⟨T5, h5, X5, e5, W5, st5⟩ := putF X2 hx hZ hown (host := "") (Or.inl (hw _ (List.mem_of_getElem? (i := 15) rfl))) Via.refl e2 G4 G3 (Or.inr ⟨(hw _ (List.mem_of_getElem? (i := 16) rfl)), rfl, hnm⟩) (hw _ (List.mem_of_getElem? (i := 6) rfl)) (ty := (.array .long)) (by decide) rfl rfl (g := (mkF m 8 #[.val (.ref a0), .val (.int (3 : Int32))] [(.ref b2), (.ref a0)])) rfl rfl (hb hby d2_8)
  have K5 : Keep h0 h5 [a0] := K2.wr W5 (Or.inl (by simp))
  have Fw5 : Fld Z h5 a0 "com/example/uneven_ticks/uneventicks/core/RunState" "ticks" "[J" (.ref b2) := G4.same W5
  have N5 := Fr.snoc X5 N0 nw_a0
  obtain ⟨T6, h6, k6, X6, e6, E6, A6, st6⟩ := newP X5 hx hZ (hw _ (List.mem_of_getElem? (i := 14) rfl)) e5 (g := (mkF m 13 #[.val (.ref a0), .val (.int (3 : Int32))] [(.int (3 : Int32)), (.ref a0)])) rfl (hb hby d2_13) rfl (by decide) (cap := 3) (by decide) (by decide) (by decide) (by decide)
  obtain ⟨b6, g6⟩ : ∃ z, z = h5.size := ⟨_, rfl⟩
  rw [← g6] at A6 st6
  have G7 : Exa Z h5 a0 "com/example/uneven_ticks/uneventicks/core/RunState" := (G3.wr W5)
  have ne_a0_b6 : a0 ≠ b6 := Nat.ne_of_lt (Nat.lt_of_lt_of_le G7.lt (Nat.le_of_eq g6.symm))
  have G8 : AF Z h5 b2 .long 3 (fun j => .long ((fun _ => (0 : Int64)) j)) := (V2.other W5 (Ne.symm ne_a0_b2))
  have ne_b2_b6 : b2 ≠ b6 := Nat.ne_of_lt (Nat.lt_of_lt_of_le G8.lt (Nat.le_of_eq g6.symm))
  have nw_b6 : n0 ≤ b6 := Nat.le_trans (Nat.le_trans Z0 K5.1) (Nat.le_of_eq g6.symm)
  have sz_b6 : h0.size ≤ b6 := Nat.le_trans K5.1 (Nat.le_of_eq g6.symm)
  have K6 : Keep h0 h6 [a0] := K5.ext E6
  have V6 : AF Z h6 b6 .long 3 (fun j => .long ((fun _ => (0 : Int64)) j)) := AF.new A6 (by decide)
  have G9 : Exa Z h6 a0 "com/example/uneven_ticks/uneventicks/core/RunState" := (G7.ext E6)
  have G10 : Fld Z h6 a0 "com/example/uneven_ticks/uneventicks/core/RunState" "lastTickSteps" "[J" w_lastTickSteps_a0 := (((F_lastTickSteps_a0.ext E2).other W5 (Or.inr (slot_ne (Or.inr (hw _ (List.mem_of_getElem? (i := 18) rfl))) (Or.inr (hw _ (List.mem_of_getElem? (i := 16) rfl))) (by decide) (t := (.array .long)) (t' := (.array .long)) (by decide) (by decide)))).ext E6)
  obtain ⟨T11, h11, X11, e11, W11, st11⟩ := putF X6 hx hZ hown (host := "") (Or.inl (hw _ (List.mem_of_getElem? (i := 17) rfl))) Via.refl e6 G10 G9 (Or.inr ⟨(hw _ (List.mem_of_getElem? (i := 18) rfl)), rfl, hnm⟩) (hw _ (List.mem_of_getElem? (i := 6) rfl)) (ty := (.array .long)) (by decide) rfl rfl (g := (mkF m 15 #[.val (.ref a0), .val (.int (3 : Int32))] [(.ref b6), (.ref a0)])) rfl rfl (hb hby d2_15)
  have K11 : Keep h0 h11 [a0] := K6.wr W11 (Or.inl (by simp))
  have Fw11 : Fld Z h11 a0 "com/example/uneven_ticks/uneventicks/core/RunState" "lastTickSteps" "[J" (.ref b6) := G10.same W11
  have N11 := Fr.snoc X11 N5 nw_a0
  obtain ⟨fs, hr, hrun, hended, hW, hsame⟩ := X11.leave (v := none) (fun _ => rfl)
  refine ⟨_, _, pre0 _ ?_, hrun, hended, _, _, rfl, ?_, ⟨_, rfl⟩, hW, hsame.mono (by decide) (by decide)⟩
  · show Steps p.tables e below (s₁.setTop (mkF m 0 #[.val (.ref a0), .val (.int (3 : Int32))] [])) _
    refine XS.aloadN X0.here hx rfl (hb hby d2_0) rfl rfl ?_
    show Steps p.tables e below (s₁.setTop (mkF m 1 #[.val (.ref a0), .val (.int (3 : Int32))] [(.ref a0)])) _
    refine st1 _ ?_
    show Steps p.tables e below (T1.setTop (mkF m 4 #[.val (.ref a0), .val (.int (3 : Int32))] [])) _
    refine XS.aloadN X1.here hx rfl (hb hby d2_4) rfl rfl ?_
    show Steps p.tables e below (T1.setTop (mkF m 5 #[.val (.ref a0), .val (.int (3 : Int32))] [(.ref a0)])) _
    refine XS.iloadN X1.here hx rfl (hb hby d2_5) rfl ?_
    show Steps p.tables e below (T1.setTop (mkF m 6 #[.val (.ref a0), .val (.int (3 : Int32))] [(.int (3 : Int32)), (.ref a0)])) _
    refine st2 _ ?_
    show Steps p.tables e below (T2.setTop (mkF m 8 #[.val (.ref a0), .val (.int (3 : Int32))] [(.ref b2), (.ref a0)])) _
    refine st5 _ ?_
    show Steps p.tables e below (T5.setTop (mkF m 11 #[.val (.ref a0), .val (.int (3 : Int32))] [])) _
    refine XS.aloadN X5.here hx rfl (hb hby d2_11) rfl rfl ?_
    show Steps p.tables e below (T5.setTop (mkF m 12 #[.val (.ref a0), .val (.int (3 : Int32))] [(.ref a0)])) _
    refine XS.iloadN X5.here hx rfl (hb hby d2_12) rfl ?_
    show Steps p.tables e below (T5.setTop (mkF m 13 #[.val (.ref a0), .val (.int (3 : Int32))] [(.int (3 : Int32)), (.ref a0)])) _
    refine st6 _ ?_
    show Steps p.tables e below (T6.setTop (mkF m 15 #[.val (.ref a0), .val (.int (3 : Int32))] [(.ref b6), (.ref a0)])) _
    refine st11 _ ?_
    show Steps p.tables e below (T11.setTop (mkF m 18 #[.val (.ref a0), .val (.int (3 : Int32))] [])) _
    exact X11.returnOut hx Bd.returns (hb hby d2_18) hr
  have G12 : Exa Z h11 a0 "com/example/uneven_ticks/uneventicks/core/RunState" := (G9.wr W11)
  have G13 : Fld Z h11 a0 "com/example/uneven_ticks/uneventicks/core/RunState" "ticks" "[J" (.ref b2) := ((Fw5.ext E6).other W11 (Or.inr (slot_ne (Or.inr (hw _ (List.mem_of_getElem? (i := 16) rfl))) (Or.inr (hw _ (List.mem_of_getElem? (i := 18) rfl))) (by decide) (t := (.array .long)) (t' := (.array .long)) (by decide) (by decide))))
  have G14 : Fld Z h11 a0 "com/example/uneven_ticks/uneventicks/core/RunState" "stepCount" "J" (.long w_stepCount_a0) := ((((F_stepCount_a0.ext E2).other W5 (Or.inr (slot_ne (Or.inl (hw _ (List.mem_of_getElem? (i := 25) rfl))) (Or.inr (hw _ (List.mem_of_getElem? (i := 16) rfl))) (by decide) (t := .long) (t' := (.array .long)) (by decide) (by decide)))).ext E6).other W11 (Or.inr (slot_ne (Or.inl (hw _ (List.mem_of_getElem? (i := 25) rfl))) (Or.inr (hw _ (List.mem_of_getElem? (i := 18) rfl))) (by decide) (t := .long) (t' := (.array .long)) (by decide) (by decide))))
  have G15 : AF Z h11 b2 .long 3 (fun j => .long ((fun _ => (0 : Int64)) j)) := ((G8.ext E6).other W11 (Ne.symm ne_a0_b2))
  have G16 : AF Z h11 b6 .long 3 (fun j => .long ((fun _ => (0 : Int64)) j)) := (V6.other W11 (Ne.symm ne_a0_b6))
  · show Q2 Z a0 w_ticks_a0 w_lastTickSteps_a0 w_stepCount_a0 h0 n0 _ T11.heap _
    rw [e11]
    exact ⟨b2, b6, rfl, N11, K11, sz_b2, sz_b6, ne_b2_b6, G12, G13, Fw11, G14, G15, G16⟩
theorem ef_5 (m : MethodId) (a0 : Addr) : entryFrame m #[(.ref a0)] 1 = mkF m 0 #[.val (.ref a0)] [] := by first | (simp [entryFrame, mkF, argsToLocals, Value.category]; done) | rfl
def Q5 (Z : State) (a0 : Addr) (w_ticks_a0 : Value) (w_lastTickSteps_a0 : Value) (w_stepCount_a0 : Int64) (h0 : Heap) (n0 : Nat) (v : Option Value) (h : Heap) (L : List Loc) : Prop := v = some (.long w_stepCount_a0) ∧ Fr n0 L ∧ h = h0
set_option maxRecDepth 65536 in
set_option maxHeartbeats 40000000 in
theorem rm5 (l : Launch) (Z : State) (A0 : Array Value) (hw : ∀ d ∈ tables_1, d.before A0 Z = true) (ws : List Jvm.Cond) (a0 : Addr) (w_ticks_a0 : Value) (w_lastTickSteps_a0 : Value) (w_stepCount_a0 : Int64) (h0 : Heap) (n0 : Nat) (Z0 : n0 ≤ h0.size) (E_a0 : Exa Z h0 a0 "com/example/uneven_ticks/uneventicks/core/RunState") (F_ticks_a0 : Fld Z h0 a0 "com/example/uneven_ticks/uneventicks/core/RunState" "ticks" "[J" w_ticks_a0) (F_lastTickSteps_a0 : Fld Z h0 a0 "com/example/uneven_ticks/uneventicks/core/RunState" "lastTickSteps" "[J" w_lastTickSteps_a0) (F_stepCount_a0 : Fld Z h0 a0 "com/example/uneven_ticks/uneventicks/core/RunState" "stepCount" "J" (.long w_stepCount_a0)) :
    MetFree l (⟨"com/example/uneven_ticks/uneventicks/core/RunState", "getStepCount", "()J"⟩ : MethodName) (head1 (Jvm.Cond.code (⟨"com/example/uneven_ticks/uneventicks/core/RunState", "getStepCount", "()J"⟩ : MethodName) prog_45_method_2_code 1 (some .long) :: ws) ({ frames := 0, cells := 0, slots := 0, locals := 0 } : Room)) (fun a U => a = #[(.ref a0)] ∧ Z.Warmed39 U.vm ∧ U.heap = h0) (fun _ _ _ _ _ => True) (fun _ U o U' => ∃ v L, o = .returned v ∧ Q5 Z a0 w_ticks_a0 w_lastTickSteps_a0 w_stepCount_a0 h0 n0 v U'.heap L ∧ FrameEnd U o U' L ({ frames := 0, cells := 0, slots := 0, locals := 0 } : Room).cells ({ frames := 0, cells := 0, slots := 0, locals := 0 } : Room).slots) := by
  refine MetFree.of_bodySF (plainFor_of_name pn_5) hisR ?_
  intro p e s m args below meth c s₁ Bd hml0 hP hK
  obtain ⟨rfl, hZ, hh⟩ := hP
  have hx := Bd.exec
  have hby := Bd.bytes
  have hml : c.maxLocals = 1 := hml0
  have hown : s.vm.findClass "com/example/uneven_ticks/uneventicks/core/RunState" = some m.cls := findClass_of_methodNamed Bd.named
  have hnm := (name_of_methodNamed Bd.named Bd.method).1
  have X0 : Stand p l e ({ frames := 0, cells := 0, slots := 0, locals := 0 } : Room) s m #[(.ref a0)] below meth c s₁ [] 0 0 := Stand.of_body Bd
  have e0 : s₁.heap = h0 := by rw [← hh, Bd.state]; rfl
  have N0 := Fr.nil n0
  have pre0 : ∀ t, Steps p.tables e below (s₁.setTop (mkF m 0 #[.val (.ref a0)] [])) t → Steps p.tables e below (s₁.setTop (entryFrame m #[(.ref a0)] 1)) t := fun t k => castTop (ef_5 m a0) k
  obtain ⟨T1, X1, e1, st1⟩ := getF X0 hx hZ hown (host := "") (Or.inl (hw _ (List.mem_of_getElem? (i := 24) rfl))) Via.refl e0 F_stepCount_a0 (g := (mkF m 1 #[.val (.ref a0)] [(.ref a0)])) rfl rfl (hb hby d5_1)
  obtain ⟨fs, hr, hrun, hended, hW, hsame⟩ := X1.leave (v := some (.long w_stepCount_a0)) (fun h => by rw [Bd.returns] at h; cases h)
  refine ⟨_, _, pre0 _ ?_, hrun, hended, _, _, rfl, ?_, ⟨_, rfl⟩, hW, hsame.mono (by decide) (by decide)⟩
  · show Steps p.tables e below (s₁.setTop (mkF m 0 #[.val (.ref a0)] [])) _
    refine XS.aloadN X0.here hx rfl (hb hby d5_0) rfl rfl ?_
    show Steps p.tables e below (s₁.setTop (mkF m 1 #[.val (.ref a0)] [(.ref a0)])) _
    refine st1 _ ?_
    show Steps p.tables e below (T1.setTop (mkF m 4 #[.val (.ref a0)] [(.long w_stepCount_a0)])) _
    exact retOut X1 hx Bd.returns rfl (Or.inr (Or.inl ⟨rfl, rfl, _, rfl⟩)) (hb hby d5_4) hr
  · show Q5 Z a0 w_ticks_a0 w_lastTickSteps_a0 w_stepCount_a0 h0 n0 _ T1.heap _
    exact ⟨rfl, N0, e1⟩
theorem ef_7 (m : MethodId) (a0 : Addr) (p1 : Int32) : entryFrame m #[(.ref a0), (.int p1)] 2 = mkF m 0 #[.val (.ref a0), .val (.int p1)] [] := by first | (simp [entryFrame, mkF, argsToLocals, Value.category]; done) | rfl
def Q7 (Z : State) (a0 : Addr) (p1 : Int32) (w_ticks_a0 : Addr) (w_lastTickSteps_a0 : Value) (w_stepCount_a0 : Int64) (n_w_ticks_a0 : Nat) (g_w_ticks_a0 : Nat → Int64) (h0 : Heap) (n0 : Nat) (v : Option Value) (h : Heap) (L : List Loc) : Prop := v = some (.long (g_w_ticks_a0 (p1).toNatClampNeg)) ∧ Fr n0 L ∧ h = h0
set_option maxRecDepth 65536 in
set_option maxHeartbeats 40000000 in
theorem rm7 (l : Launch) (Z : State) (A0 : Array Value) (hw : ∀ d ∈ tables_1, d.before A0 Z = true) (ws : List Jvm.Cond) (a0 : Addr) (p1 : Int32) (w_ticks_a0 : Addr) (w_lastTickSteps_a0 : Value) (w_stepCount_a0 : Int64) (n_w_ticks_a0 : Nat) (g_w_ticks_a0 : Nat → Int64) (h0 : Heap) (n0 : Nat) (Z0 : n0 ≤ h0.size) (E_a0 : Exa Z h0 a0 "com/example/uneven_ticks/uneventicks/core/RunState") (F_ticks_a0 : Fld Z h0 a0 "com/example/uneven_ticks/uneventicks/core/RunState" "ticks" "[J" (.ref w_ticks_a0)) (F_lastTickSteps_a0 : Fld Z h0 a0 "com/example/uneven_ticks/uneventicks/core/RunState" "lastTickSteps" "[J" w_lastTickSteps_a0) (F_stepCount_a0 : Fld Z h0 a0 "com/example/uneven_ticks/uneventicks/core/RunState" "stepCount" "J" (.long w_stepCount_a0)) (A_w_ticks_a0 : AF Z h0 w_ticks_a0 .long n_w_ticks_a0 (fun j => .long (g_w_ticks_a0 j))) (hin5 : own_in p1 n_w_ticks_a0) :
    MetFree l (⟨"com/example/uneven_ticks/uneventicks/core/RunState", "getTicks", "(I)J"⟩ : MethodName) (head1 (Jvm.Cond.code (⟨"com/example/uneven_ticks/uneventicks/core/RunState", "getTicks", "(I)J"⟩ : MethodName) prog_45_method_3_code 2 (some .long) :: ws) ({ frames := 0, cells := 0, slots := 0, locals := 0 } : Room)) (fun a U => a = #[(.ref a0), (.int p1)] ∧ Z.Warmed39 U.vm ∧ U.heap = h0) (fun _ _ _ _ _ => True) (fun _ U o U' => ∃ v L, o = .returned v ∧ Q7 Z a0 p1 w_ticks_a0 w_lastTickSteps_a0 w_stepCount_a0 n_w_ticks_a0 g_w_ticks_a0 h0 n0 v U'.heap L ∧ FrameEnd U o U' L ({ frames := 0, cells := 0, slots := 0, locals := 0 } : Room).cells ({ frames := 0, cells := 0, slots := 0, locals := 0 } : Room).slots) := by
  refine MetFree.of_bodySF (plainFor_of_name pn_7) hisR ?_
  intro p e s m args below meth c s₁ Bd hml0 hP hK
  obtain ⟨rfl, hZ, hh⟩ := hP
  have hx := Bd.exec
  have hby := Bd.bytes
  have hml : c.maxLocals = 2 := hml0
  have hown : s.vm.findClass "com/example/uneven_ticks/uneventicks/core/RunState" = some m.cls := findClass_of_methodNamed Bd.named
  have hnm := (name_of_methodNamed Bd.named Bd.method).1
  have X0 : Stand p l e ({ frames := 0, cells := 0, slots := 0, locals := 0 } : Room) s m #[(.ref a0), (.int p1)] below meth c s₁ [] 0 0 := Stand.of_body Bd
  have e0 : s₁.heap = h0 := by rw [← hh, Bd.state]; rfl
  have N0 := Fr.nil n0
  have pre0 : ∀ t, Steps p.tables e below (s₁.setTop (mkF m 0 #[.val (.ref a0), .val (.int p1)] [])) t → Steps p.tables e below (s₁.setTop (entryFrame m #[(.ref a0), (.int p1)] 2)) t := fun t k => castTop (ef_7 m a0 p1) k
  obtain ⟨T1, X1, e1, st1⟩ := getF X0 hx hZ hown (host := "") (Or.inl (hw _ (List.mem_of_getElem? (i := 15) rfl))) Via.refl e0 F_ticks_a0 (g := (mkF m 1 #[.val (.ref a0), .val (.int p1)] [(.ref a0)])) rfl rfl (hb hby d7_1)
  obtain ⟨fs, hr, hrun, hended, hW, hsame⟩ := X1.leave (v := some (.long (g_w_ticks_a0 (p1).toNatClampNeg))) (fun h => by rw [Bd.returns] at h; cases h)
  refine ⟨_, _, pre0 _ ?_, hrun, hended, _, _, rfl, ?_, ⟨_, rfl⟩, hW, hsame.mono (by decide) (by decide)⟩
  · show Steps p.tables e below (s₁.setTop (mkF m 0 #[.val (.ref a0), .val (.int p1)] [])) _
    refine XS.aloadN X0.here hx rfl (hb hby d7_0) rfl rfl ?_
    show Steps p.tables e below (s₁.setTop (mkF m 1 #[.val (.ref a0), .val (.int p1)] [(.ref a0)])) _
    refine st1 _ ?_
    show Steps p.tables e below (T1.setTop (mkF m 4 #[.val (.ref a0), .val (.int p1)] [(.ref w_ticks_a0)])) _
    refine XS.iloadN X1.here hx rfl (hb hby d7_4) rfl ?_
    show Steps p.tables e below (T1.setTop (mkF m 5 #[.val (.ref a0), .val (.int p1)] [(.int p1), (.ref w_ticks_a0)])) _
    refine AF.ldJ X1 hx hZ e1 A_w_ticks_a0 hin5 (g := (mkF m 5 #[.val (.ref a0), .val (.int p1)] [(.int p1), (.ref w_ticks_a0)])) rfl rfl (hb hby d7_5) _ ?_
    show Steps p.tables e below (T1.setTop (mkF m 6 #[.val (.ref a0), .val (.int p1)] [(.long (g_w_ticks_a0 (p1).toNatClampNeg))])) _
    exact retOut X1 hx Bd.returns rfl (Or.inr (Or.inl ⟨rfl, rfl, _, rfl⟩)) (hb hby d7_6) hr
  · show Q7 Z a0 p1 w_ticks_a0 w_lastTickSteps_a0 w_stepCount_a0 n_w_ticks_a0 g_w_ticks_a0 h0 n0 _ T1.heap _
    exact ⟨rfl, N0, e1⟩
theorem ef_8 (m : MethodId) (a0 : Addr) (p1 : Int32) : entryFrame m #[(.ref a0), (.int p1)] 2 = mkF m 0 #[.val (.ref a0), .val (.int p1)] [] := by first | (simp [entryFrame, mkF, argsToLocals, Value.category]; done) | rfl
def Q8 (Z : State) (a0 : Addr) (p1 : Int32) (w_ticks_a0 : Value) (w_lastTickSteps_a0 : Addr) (w_stepCount_a0 : Int64) (n_w_lastTickSteps_a0 : Nat) (g_w_lastTickSteps_a0 : Nat → Int64) (h0 : Heap) (n0 : Nat) (v : Option Value) (h : Heap) (L : List Loc) : Prop := v = some (.long (g_w_lastTickSteps_a0 (p1).toNatClampNeg)) ∧ Fr n0 L ∧ h = h0
set_option maxRecDepth 65536 in
set_option maxHeartbeats 40000000 in
theorem rm8 (l : Launch) (Z : State) (A0 : Array Value) (hw : ∀ d ∈ tables_1, d.before A0 Z = true) (ws : List Jvm.Cond) (a0 : Addr) (p1 : Int32) (w_ticks_a0 : Value) (w_lastTickSteps_a0 : Addr) (w_stepCount_a0 : Int64) (n_w_lastTickSteps_a0 : Nat) (g_w_lastTickSteps_a0 : Nat → Int64) (h0 : Heap) (n0 : Nat) (Z0 : n0 ≤ h0.size) (E_a0 : Exa Z h0 a0 "com/example/uneven_ticks/uneventicks/core/RunState") (F_ticks_a0 : Fld Z h0 a0 "com/example/uneven_ticks/uneventicks/core/RunState" "ticks" "[J" w_ticks_a0) (F_lastTickSteps_a0 : Fld Z h0 a0 "com/example/uneven_ticks/uneventicks/core/RunState" "lastTickSteps" "[J" (.ref w_lastTickSteps_a0)) (F_stepCount_a0 : Fld Z h0 a0 "com/example/uneven_ticks/uneventicks/core/RunState" "stepCount" "J" (.long w_stepCount_a0)) (A_w_lastTickSteps_a0 : AF Z h0 w_lastTickSteps_a0 .long n_w_lastTickSteps_a0 (fun j => .long (g_w_lastTickSteps_a0 j))) (hin5 : own_in p1 n_w_lastTickSteps_a0) :
    MetFree l (⟨"com/example/uneven_ticks/uneventicks/core/RunState", "getLastTickStep", "(I)J"⟩ : MethodName) (head1 (Jvm.Cond.code (⟨"com/example/uneven_ticks/uneventicks/core/RunState", "getLastTickStep", "(I)J"⟩ : MethodName) prog_45_method_4_code 2 (some .long) :: ws) ({ frames := 0, cells := 0, slots := 0, locals := 0 } : Room)) (fun a U => a = #[(.ref a0), (.int p1)] ∧ Z.Warmed39 U.vm ∧ U.heap = h0) (fun _ _ _ _ _ => True) (fun _ U o U' => ∃ v L, o = .returned v ∧ Q8 Z a0 p1 w_ticks_a0 w_lastTickSteps_a0 w_stepCount_a0 n_w_lastTickSteps_a0 g_w_lastTickSteps_a0 h0 n0 v U'.heap L ∧ FrameEnd U o U' L ({ frames := 0, cells := 0, slots := 0, locals := 0 } : Room).cells ({ frames := 0, cells := 0, slots := 0, locals := 0 } : Room).slots) := by
  refine MetFree.of_bodySF (plainFor_of_name pn_8) hisR ?_
  intro p e s m args below meth c s₁ Bd hml0 hP hK
  obtain ⟨rfl, hZ, hh⟩ := hP
  have hx := Bd.exec
  have hby := Bd.bytes
  have hml : c.maxLocals = 2 := hml0
  have hown : s.vm.findClass "com/example/uneven_ticks/uneventicks/core/RunState" = some m.cls := findClass_of_methodNamed Bd.named
  have hnm := (name_of_methodNamed Bd.named Bd.method).1
  have X0 : Stand p l e ({ frames := 0, cells := 0, slots := 0, locals := 0 } : Room) s m #[(.ref a0), (.int p1)] below meth c s₁ [] 0 0 := Stand.of_body Bd
  have e0 : s₁.heap = h0 := by rw [← hh, Bd.state]; rfl
  have N0 := Fr.nil n0
  have pre0 : ∀ t, Steps p.tables e below (s₁.setTop (mkF m 0 #[.val (.ref a0), .val (.int p1)] [])) t → Steps p.tables e below (s₁.setTop (entryFrame m #[(.ref a0), (.int p1)] 2)) t := fun t k => castTop (ef_8 m a0 p1) k
  obtain ⟨T1, X1, e1, st1⟩ := getF X0 hx hZ hown (host := "") (Or.inl (hw _ (List.mem_of_getElem? (i := 17) rfl))) Via.refl e0 F_lastTickSteps_a0 (g := (mkF m 1 #[.val (.ref a0), .val (.int p1)] [(.ref a0)])) rfl rfl (hb hby d8_1)
  obtain ⟨fs, hr, hrun, hended, hW, hsame⟩ := X1.leave (v := some (.long (g_w_lastTickSteps_a0 (p1).toNatClampNeg))) (fun h => by rw [Bd.returns] at h; cases h)
  refine ⟨_, _, pre0 _ ?_, hrun, hended, _, _, rfl, ?_, ⟨_, rfl⟩, hW, hsame.mono (by decide) (by decide)⟩
  · show Steps p.tables e below (s₁.setTop (mkF m 0 #[.val (.ref a0), .val (.int p1)] [])) _
    refine XS.aloadN X0.here hx rfl (hb hby d8_0) rfl rfl ?_
    show Steps p.tables e below (s₁.setTop (mkF m 1 #[.val (.ref a0), .val (.int p1)] [(.ref a0)])) _
    refine st1 _ ?_
    show Steps p.tables e below (T1.setTop (mkF m 4 #[.val (.ref a0), .val (.int p1)] [(.ref w_lastTickSteps_a0)])) _
    refine XS.iloadN X1.here hx rfl (hb hby d8_4) rfl ?_
    show Steps p.tables e below (T1.setTop (mkF m 5 #[.val (.ref a0), .val (.int p1)] [(.int p1), (.ref w_lastTickSteps_a0)])) _
    refine AF.ldJ X1 hx hZ e1 A_w_lastTickSteps_a0 hin5 (g := (mkF m 5 #[.val (.ref a0), .val (.int p1)] [(.int p1), (.ref w_lastTickSteps_a0)])) rfl rfl (hb hby d8_5) _ ?_
    show Steps p.tables e below (T1.setTop (mkF m 6 #[.val (.ref a0), .val (.int p1)] [(.long (g_w_lastTickSteps_a0 (p1).toNatClampNeg))])) _
    exact retOut X1 hx Bd.returns rfl (Or.inr (Or.inl ⟨rfl, rfl, _, rfl⟩)) (hb hby d8_6) hr
  · show Q8 Z a0 p1 w_ticks_a0 w_lastTickSteps_a0 w_stepCount_a0 n_w_lastTickSteps_a0 g_w_lastTickSteps_a0 h0 n0 _ T1.heap _
    exact ⟨rfl, N0, e1⟩
theorem ef_6 (m : MethodId) (a0 : Addr) (p1 : Int32) (p2 : Int32) (p3 : Int32) : entryFrame m #[(.ref a0), (.int p1), (.int p2), (.int p3)] 10 = mkF m 0 #[.val (.ref a0), .val (.int p1), .val (.int p2), .val (.int p3), .unset, .unset, .unset, .unset, .unset, .unset] [] := by first | (simp [entryFrame, mkF, argsToLocals, Value.category]; done) | rfl
def own_chk (p1 : Int32) (p2 : Int32) (p3 : Int32) (g_w_ticks_a0 : Nat → Int64) (g_w_lastTickSteps_a0 : Nat → Int64) : Int32 := (nar .boolean (if (g_w_ticks_a0 (p1).toNatClampNeg) = ((if (if ((p2 >>> (p1 &&& 31)) &&& (1 : Int32)) = (0 : Int32) then (0 : Int32) else (1 : Int32)) = (0 : Int32) then (0 : Int64) else (1 : Int64)) + (if (if ((p3 >>> (p1 &&& 31)) &&& (1 : Int32)) = (0 : Int32) then (0 : Int32) else (1 : Int32)) = (0 : Int32) then (0 : Int64) else (1 : Int64))) then (if (g_w_lastTickSteps_a0 (p1).toNatClampNeg) = (if (if ((p3 >>> (p1 &&& 31)) &&& (1 : Int32)) = (0 : Int32) then (0 : Int32) else (1 : Int32)) = (0 : Int32) then (if (if ((p2 >>> (p1 &&& 31)) &&& (1 : Int32)) = (0 : Int32) then (0 : Int32) else (1 : Int32)) = (0 : Int32) then (0 : Int64) else (1 : Int64)) else (2 : Int64)) then (1 : Int32) else (0 : Int32)) else (0 : Int32)))
def Q6 (Z : State) (a0 : Addr) (p1 : Int32) (p2 : Int32) (p3 : Int32) (w_ticks_a0 : Addr) (w_lastTickSteps_a0 : Addr) (w_stepCount_a0 : Int64) (n_w_ticks_a0 : Nat) (g_w_ticks_a0 : Nat → Int64) (n_w_lastTickSteps_a0 : Nat) (g_w_lastTickSteps_a0 : Nat → Int64) (h0 : Heap) (n0 : Nat) (v : Option Value) (h : Heap) (L : List Loc) : Prop := v = some (.int (own_chk p1 p2 p3 g_w_ticks_a0 g_w_lastTickSteps_a0)) ∧ Fr n0 L ∧ h = h0
set_option maxRecDepth 65536 in
set_option maxHeartbeats 40000000 in
theorem rm6 (l : Launch) (Z : State) (A0 : Array Value) (hw : ∀ d ∈ tables_1, d.before A0 Z = true) (ws : List Jvm.Cond) (a0 : Addr) (p1 : Int32) (p2 : Int32) (p3 : Int32) (w_ticks_a0 : Addr) (w_lastTickSteps_a0 : Addr) (w_stepCount_a0 : Int64) (n_w_ticks_a0 : Nat) (g_w_ticks_a0 : Nat → Int64) (n_w_lastTickSteps_a0 : Nat) (g_w_lastTickSteps_a0 : Nat → Int64) (h0 : Heap) (n0 : Nat) (Z0 : n0 ≤ h0.size) (E_a0 : Exa Z h0 a0 "com/example/uneven_ticks/uneventicks/core/RunState") (F_ticks_a0 : Fld Z h0 a0 "com/example/uneven_ticks/uneventicks/core/RunState" "ticks" "[J" (.ref w_ticks_a0)) (F_lastTickSteps_a0 : Fld Z h0 a0 "com/example/uneven_ticks/uneventicks/core/RunState" "lastTickSteps" "[J" (.ref w_lastTickSteps_a0)) (F_stepCount_a0 : Fld Z h0 a0 "com/example/uneven_ticks/uneventicks/core/RunState" "stepCount" "J" (.long w_stepCount_a0)) (A_w_ticks_a0 : AF Z h0 w_ticks_a0 .long n_w_ticks_a0 (fun j => .long (g_w_ticks_a0 j))) (A_w_lastTickSteps_a0 : AF Z h0 w_lastTickSteps_a0 .long n_w_lastTickSteps_a0 (fun j => .long (g_w_lastTickSteps_a0 j))) (hin5_78 : own_in p1 n_w_ticks_a0) (hin5_89 : own_in p1 n_w_lastTickSteps_a0) :
    MetFree l (⟨"com/example/uneven_ticks/uneventicks/core/RunStateAdvancePinLaw", "check", "(Lcom/example/uneven_ticks/uneventicks/core/RunState;III)Z"⟩ : MethodName) (head1 (Jvm.Cond.code (⟨"com/example/uneven_ticks/uneventicks/core/RunStateAdvancePinLaw", "check", "(Lcom/example/uneven_ticks/uneventicks/core/RunState;III)Z"⟩ : MethodName) method_3_code 10 (some .boolean) :: ws) ({ frames := 1, cells := 0, slots := 0, locals := 13 } : Room)) (fun a U => a = #[(.ref a0), (.int p1), (.int p2), (.int p3)] ∧ Z.Warmed39 U.vm ∧ U.heap = h0) (fun _ _ _ _ _ => True) (fun _ U o U' => ∃ v L, o = .returned v ∧ Q6 Z a0 p1 p2 p3 w_ticks_a0 w_lastTickSteps_a0 w_stepCount_a0 n_w_ticks_a0 g_w_ticks_a0 n_w_lastTickSteps_a0 g_w_lastTickSteps_a0 h0 n0 v U'.heap L ∧ FrameEnd U o U' L ({ frames := 1, cells := 0, slots := 0, locals := 13 } : Room).cells ({ frames := 1, cells := 0, slots := 0, locals := 13 } : Room).slots) := by
  refine MetFree.of_bodySF (plainFor_of_name pn_6) hisR ?_
  intro p e s m args below meth c s₁ Bd hml0 hP hK
  obtain ⟨rfl, hZ, hh⟩ := hP
  have hx := Bd.exec
  have hby := Bd.bytes
  have hml : c.maxLocals = 10 := hml0
  have hown : s.vm.findClass "com/example/uneven_ticks/uneventicks/core/RunStateAdvancePinLaw" = some m.cls := findClass_of_methodNamed Bd.named
  have hnm := (name_of_methodNamed Bd.named Bd.method).1
  have X0 : Stand p l e ({ frames := 1, cells := 0, slots := 0, locals := 13 } : Room) s m #[(.ref a0), (.int p1), (.int p2), (.int p3)] below meth c s₁ [] 0 0 := Stand.of_body Bd
  have e0 : s₁.heap = h0 := by rw [← hh, Bd.state]; rfl
  have N0 := Fr.nil n0
  have pre0 : ∀ t, Steps p.tables e below (s₁.setTop (mkF m 0 #[.val (.ref a0), .val (.int p1), .val (.int p2), .val (.int p3), .unset, .unset, .unset, .unset, .unset, .unset] [])) t → Steps p.tables e below (s₁.setTop (entryFrame m #[(.ref a0), (.int p1), (.int p2), (.int p3)] 10)) t := fun t k => castTop (ef_6 m a0 p1 p2 p3) k
  obtain ⟨v2, hv2⟩ : ∃ z : Int32, z = if ((p2 >>> (p1 &&& 31)) &&& (1 : Int32)) = (0 : Int32) then (0 : Int32) else (1 : Int32) := ⟨_, rfl⟩
  obtain ⟨v4, hv4⟩ : ∃ z : Int32, z = if ((p3 >>> (p1 &&& 31)) &&& (1 : Int32)) = (0 : Int32) then (0 : Int32) else (1 : Int32) := ⟨_, rfl⟩
  obtain ⟨v6, hv6⟩ : ∃ z : Int64, z = if v2 = (0 : Int32) then (0 : Int64) else (1 : Int64) := ⟨_, rfl⟩
  obtain ⟨v8, hv8⟩ : ∃ z : Int64, z = if v4 = (0 : Int32) then (0 : Int64) else (1 : Int64) := ⟨_, rfl⟩
  obtain ⟨v11, hv11⟩ : ∃ z : Int64, z = if v2 = (0 : Int32) then (0 : Int64) else (1 : Int64) := ⟨_, rfl⟩
  obtain ⟨v12, hv12⟩ : ∃ z : Int64, z = if v4 = (0 : Int32) then v11 else (2 : Int64) := ⟨_, rfl⟩
  obtain ⟨cq13, kq13, q13a, q13b, q13c⟩ := isOf hZ e0 E_a0
  obtain ⟨_, _, ⟨T13, L13, k13, n13⟩, -, X13, ⟨Lc13, hQ13, l13, y13, z13⟩, st13⟩ := X0.virtualBack hx (y := (⟨"com/example/uneven_ticks/uneventicks/core/RunState", "getTicks", "(I)J"⟩ : MethodName)) (z := (⟨"com/example/uneven_ticks/uneventicks/core/RunState", "getTicks", "(I)J"⟩ : MethodName)) hown (mvT hZ (hw _ (List.mem_of_getElem? (i := 35) rfl))) (mvT hZ (hw _ (List.mem_of_getElem? (i := 36) rfl))) (notFace_of_selects (args := #[]) (mvT hZ (hw _ (List.mem_of_getElem? (i := 38) rfl)))) (mvT hZ (hw _ (List.mem_of_getElem? (i := 38) rfl))) (mvT hZ (hw _ (List.mem_of_getElem? (i := 37) rfl))) (by decide) (backOf (W := 0) (rm7 l Z A0 hw [] a0 p1 w_ticks_a0 (.ref w_lastTickSteps_a0) w_stepCount_a0 n_w_ticks_a0 g_w_ticks_a0 h0 n0 (Nat.le_trans Z0 (Keep.refl h0 []).1) E_a0 F_ticks_a0 F_lastTickSteps_a0 F_stepCount_a0 A_w_ticks_a0 hin5_78) hZ (hw _ (List.mem_of_getElem? (i := 39) rfl)) (hw _ (List.mem_of_getElem? (i := 7) rfl)) (by decide) (by decide)) q13a q13c (g := (mkF m 78 #[.val (.ref a0), .val (.int p1), .val (.int p2), .val (.int p3), .val (.int v2), .val (.int v4), .val (.long (v6 + v8)), .second, .val (.long v12), .second] [(.int p1), (.ref a0)])) rfl (by rw [hml]; rfl) (Steps.refl _) (argsL := [(.int p1)]) (rest := []) (lenOf pd_6 rfl) rfl (by show 2 * 0 + _ ≤ _; exact Nat.le_of_eq rfl) (hb hby d6_78) (fun _ _ => ⟨rfl, e0, (by decide : 0 + 0 ≤ _), (by decide : 0 + 0 ≤ _)⟩)
  dsimp only [Pt.U, Pt.locs, Pt.cells, Pt.slots] at X13 l13 y13 z13 st13 hQ13
  subst l13 y13 z13
  obtain ⟨rfl, N13q, e13⟩ := hQ13
  have N13 := Fr.app N0 N13q
  obtain ⟨v19, hv19⟩ : ∃ z : Int32, z = if (g_w_ticks_a0 (p1).toNatClampNeg) = (v6 + v8) then (if (g_w_lastTickSteps_a0 (p1).toNatClampNeg) = v12 then (1 : Int32) else (0 : Int32)) else (0 : Int32) := ⟨_, rfl⟩
  obtain ⟨T20, L20, X20, N20, e20, st20⟩ : ∃ (T' : State) (L' : List Loc), Stand p l e ({ frames := 1, cells := 0, slots := 0, locals := 13 } : Room) s m #[(.ref a0), (.int p1), (.int p2), (.int p3)] below meth c T' L' 0 0 ∧ Fr n0 L' ∧ T'.heap = h0 ∧ ∀ target, Steps p.tables e below (T'.setTop (mkF m 103 #[.val (.ref a0), .val (.int p1), .val (.int p2), .val (.int p3), .val (.int v2), .val (.int v4), .val (.long (v6 + v8)), .second, .val (.long v12), .second] [(.int v19)])) target → Steps p.tables e below (T13.setTop (mkF m 84 #[.val (.ref a0), .val (.int p1), .val (.int p2), .val (.int p3), .val (.int v2), .val (.int v4), .val (.long (v6 + v8)), .second, .val (.long v12), .second] [(.int (lcmpW (g_w_ticks_a0 (p1).toNatClampNeg) (v6 + v8)))])) target := by
    by_cases hc15 : (g_w_ticks_a0 (p1).toNatClampNeg) = (v6 + v8)
    · obtain ⟨cq16, kq16, q16a, q16b, q16c⟩ := isOf hZ e13 E_a0
      obtain ⟨_, _, ⟨T16, L16, k16, n16⟩, -, X16, ⟨Lc16, hQ16, l16, y16, z16⟩, st16⟩ := X13.virtualBack hx (y := (⟨"com/example/uneven_ticks/uneventicks/core/RunState", "getLastTickStep", "(I)J"⟩ : MethodName)) (z := (⟨"com/example/uneven_ticks/uneventicks/core/RunState", "getLastTickStep", "(I)J"⟩ : MethodName)) hown (mvT hZ (hw _ (List.mem_of_getElem? (i := 40) rfl))) (mvT hZ (hw _ (List.mem_of_getElem? (i := 41) rfl))) (notFace_of_selects (args := #[]) (mvT hZ (hw _ (List.mem_of_getElem? (i := 43) rfl)))) (mvT hZ (hw _ (List.mem_of_getElem? (i := 43) rfl))) (mvT hZ (hw _ (List.mem_of_getElem? (i := 42) rfl))) (by decide) (backOf (W := 0) (rm8 l Z A0 hw [] a0 p1 (.ref w_ticks_a0) w_lastTickSteps_a0 w_stepCount_a0 n_w_lastTickSteps_a0 g_w_lastTickSteps_a0 h0 n0 (Nat.le_trans Z0 (Keep.refl h0 []).1) E_a0 F_ticks_a0 F_lastTickSteps_a0 F_stepCount_a0 A_w_lastTickSteps_a0 hin5_89) hZ (hw _ (List.mem_of_getElem? (i := 44) rfl)) (hw _ (List.mem_of_getElem? (i := 7) rfl)) (by decide) (by decide)) q16a q16c (g := (mkF m 89 #[.val (.ref a0), .val (.int p1), .val (.int p2), .val (.int p3), .val (.int v2), .val (.int v4), .val (.long (v6 + v8)), .second, .val (.long v12), .second] [(.int p1), (.ref a0)])) rfl (by rw [hml]; rfl) (Steps.refl _) (argsL := [(.int p1)]) (rest := []) (lenOf pd_6 rfl) rfl (by show 2 * 0 + _ ≤ _; exact Nat.le_of_eq rfl) (hb hby d6_89) (fun _ _ => ⟨rfl, e13, (by decide : 0 + 0 ≤ _), (by decide : 0 + 0 ≤ _)⟩)
      dsimp only [Pt.U, Pt.locs, Pt.cells, Pt.slots] at X16 l16 y16 z16 st16 hQ16
      subst l16 y16 z16
      obtain ⟨rfl, N16q, e16⟩ := hQ16
      have N16 := Fr.app N13 N16q
      obtain ⟨v18, hv18⟩ : ∃ z : Int32, z = if (g_w_lastTickSteps_a0 (p1).toNatClampNeg) = v12 then (1 : Int32) else (0 : Int32) := ⟨_, rfl⟩
      refine ⟨T16, _, X16, N16, e16, fun target kt => ?_⟩
      show Steps p.tables e below (T13.setTop (mkF m 84 #[.val (.ref a0), .val (.int p1), .val (.int p2), .val (.int p3), .val (.int v2), .val (.int v4), .val (.long (v6 + v8)), .second, .val (.long v12), .second] [(.int (lcmpW (g_w_ticks_a0 (p1).toNatClampNeg) (v6 + v8)))])) _
      refine XS.ifNo X13.here hx rfl (hb hby d6_84) rfl ((if0 _ _).trans (teq ((lw_eq (g_w_ticks_a0 (p1).toNatClampNeg) (v6 + v8)).mpr hc15)).2) ?_
      show Steps p.tables e below (T13.setTop (mkF m 87 #[.val (.ref a0), .val (.int p1), .val (.int p2), .val (.int p3), .val (.int v2), .val (.int v4), .val (.long (v6 + v8)), .second, .val (.long v12), .second] [])) _
      refine XS.aloadN X13.here hx rfl (hb hby d6_87) rfl rfl ?_
      show Steps p.tables e below (T13.setTop (mkF m 88 #[.val (.ref a0), .val (.int p1), .val (.int p2), .val (.int p3), .val (.int v2), .val (.int v4), .val (.long (v6 + v8)), .second, .val (.long v12), .second] [(.ref a0)])) _
      refine XS.iloadN X13.here hx rfl (hb hby d6_88) rfl ?_
      show Steps p.tables e below (T13.setTop (mkF m 89 #[.val (.ref a0), .val (.int p1), .val (.int p2), .val (.int p3), .val (.int v2), .val (.int v4), .val (.long (v6 + v8)), .second, .val (.long v12), .second] [(.int p1), (.ref a0)])) _
      refine st16.trans ?_
      show Steps p.tables e below (T16.setTop (mkF m 92 #[.val (.ref a0), .val (.int p1), .val (.int p2), .val (.int p3), .val (.int v2), .val (.int v4), .val (.long (v6 + v8)), .second, .val (.long v12), .second] [(.long (g_w_lastTickSteps_a0 (p1).toNatClampNeg))])) _
      refine XS.lload X16.here hx rfl (hb hby d6_92) rfl ?_
      show Steps p.tables e below (T16.setTop (mkF m 94 #[.val (.ref a0), .val (.int p1), .val (.int p2), .val (.int p3), .val (.int v2), .val (.int v4), .val (.long (v6 + v8)), .second, .val (.long v12), .second] [(.long v12), (.long (g_w_lastTickSteps_a0 (p1).toNatClampNeg))])) _
      refine XS.lcmp X16.here hx rfl (hb hby d6_94) rfl ?_
      show Steps p.tables e below (T16.setTop (mkF m 95 #[.val (.ref a0), .val (.int p1), .val (.int p2), .val (.int p3), .val (.int v2), .val (.int v4), .val (.long (v6 + v8)), .second, .val (.long v12), .second] [(.int (lcmpW (g_w_lastTickSteps_a0 (p1).toNatClampNeg) v12))])) _
      refine own_dia (F := (mkF m 103 #[.val (.ref a0), .val (.int p1), .val (.int p2), .val (.int p3), .val (.int v2), .val (.int v4), .val (.long (v6 + v8)), .second, .val (.long v12), .second] [(.int v18)])) ?_ ?_
      · intro kt
        by_cases hc17 : (g_w_lastTickSteps_a0 (p1).toNatClampNeg) = v12
        · show Steps p.tables e below (T16.setTop (mkF m 95 #[.val (.ref a0), .val (.int p1), .val (.int p2), .val (.int p3), .val (.int v2), .val (.int v4), .val (.long (v6 + v8)), .second, .val (.long v12), .second] [(.int (lcmpW (g_w_lastTickSteps_a0 (p1).toNatClampNeg) v12))])) _
          refine XS.ifNo X16.here hx rfl (hb hby d6_95) rfl ((if0 _ _).trans (teq ((lw_eq (g_w_lastTickSteps_a0 (p1).toNatClampNeg) v12).mpr hc17)).2) ?_
          show Steps p.tables e below (T16.setTop (mkF m 98 #[.val (.ref a0), .val (.int p1), .val (.int p2), .val (.int p3), .val (.int v2), .val (.int v4), .val (.long (v6 + v8)), .second, .val (.long v12), .second] [])) _
          refine XS.iconst X16.here hx rfl (hb hby d6_98) ?_
          show Steps p.tables e below (T16.setTop (mkF m 99 #[.val (.ref a0), .val (.int p1), .val (.int p2), .val (.int p3), .val (.int v2), .val (.int v4), .val (.long (v6 + v8)), .second, .val (.long v12), .second] [(.int (1 : Int32))])) _
          refine XS.goto X16.here hx rfl (pc0 := 99) (pc' := 103) rfl (hb hby d6_99) (by decide) (by decide) ?_
          exact castTop (by rw [hv18, if_pos hc17] <;> rfl) kt
        · show Steps p.tables e below (T16.setTop (mkF m 95 #[.val (.ref a0), .val (.int p1), .val (.int p2), .val (.int p3), .val (.int v2), .val (.int v4), .val (.long (v6 + v8)), .second, .val (.long v12), .second] [(.int (lcmpW (g_w_lastTickSteps_a0 (p1).toNatClampNeg) v12))])) _
          refine XS.ifYes X16.here hx rfl (pc0 := 95) (pc' := 102) rfl (hb hby d6_95) rfl ((if0 _ _).trans (feq (fun q => hc17 ((lw_eq (g_w_lastTickSteps_a0 (p1).toNatClampNeg) v12).mp q))).2) (by decide) (by decide) ?_
          show Steps p.tables e below (T16.setTop (mkF m 102 #[.val (.ref a0), .val (.int p1), .val (.int p2), .val (.int p3), .val (.int v2), .val (.int v4), .val (.long (v6 + v8)), .second, .val (.long v12), .second] [])) _
          refine XS.iconst X16.here hx rfl (hb hby d6_102) ?_
          exact castTop (by rw [hv18, if_neg hc17] <;> rfl) kt
      exact castTop (by subst hv18; rw [hv19, if_pos hc15] <;> rfl) kt
    · refine ⟨T13, _, X13, N13, e13, fun target kt => ?_⟩
      show Steps p.tables e below (T13.setTop (mkF m 84 #[.val (.ref a0), .val (.int p1), .val (.int p2), .val (.int p3), .val (.int v2), .val (.int v4), .val (.long (v6 + v8)), .second, .val (.long v12), .second] [(.int (lcmpW (g_w_ticks_a0 (p1).toNatClampNeg) (v6 + v8)))])) _
      refine XS.ifYes X13.here hx rfl (pc0 := 84) (pc' := 102) rfl (hb hby d6_84) rfl ((if0 _ _).trans (feq (fun q => hc15 ((lw_eq (g_w_ticks_a0 (p1).toNatClampNeg) (v6 + v8)).mp q))).2) (by decide) (by decide) ?_
      show Steps p.tables e below (T13.setTop (mkF m 102 #[.val (.ref a0), .val (.int p1), .val (.int p2), .val (.int p3), .val (.int v2), .val (.int v4), .val (.long (v6 + v8)), .second, .val (.long v12), .second] [])) _
      refine XS.iconst X13.here hx rfl (hb hby d6_102) ?_
      exact castTop (by rw [hv19, if_neg hc15] <;> rfl) kt
  obtain ⟨fs, hr, hrun, hended, hW, hsame⟩ := X20.leave (v := some (.int (nar .boolean v19))) (fun h => by rw [Bd.returns] at h; cases h)
  refine ⟨_, _, pre0 _ ?_, hrun, hended, _, _, rfl, ?_, ⟨_, rfl⟩, hW, hsame.mono (by decide) (by decide)⟩
  · show Steps p.tables e below (s₁.setTop (mkF m 0 #[.val (.ref a0), .val (.int p1), .val (.int p2), .val (.int p3), .unset, .unset, .unset, .unset, .unset, .unset] [])) _
    refine XS.iloadN X0.here hx rfl (hb hby d6_0) rfl ?_
    show Steps p.tables e below (s₁.setTop (mkF m 1 #[.val (.ref a0), .val (.int p1), .val (.int p2), .val (.int p3), .unset, .unset, .unset, .unset, .unset, .unset] [(.int p2)])) _
    refine XS.iloadN X0.here hx rfl (hb hby d6_1) rfl ?_
    show Steps p.tables e below (s₁.setTop (mkF m 2 #[.val (.ref a0), .val (.int p1), .val (.int p2), .val (.int p3), .unset, .unset, .unset, .unset, .unset, .unset] [(.int p1), (.int p2)])) _
    refine XS.ishr X0.here hx rfl (hb hby d6_2) rfl ?_
    show Steps p.tables e below (s₁.setTop (mkF m 3 #[.val (.ref a0), .val (.int p1), .val (.int p2), .val (.int p3), .unset, .unset, .unset, .unset, .unset, .unset] [(.int (p2 >>> (p1 &&& 31)))])) _
    refine XS.iconst X0.here hx rfl (hb hby d6_3) ?_
    show Steps p.tables e below (s₁.setTop (mkF m 4 #[.val (.ref a0), .val (.int p1), .val (.int p2), .val (.int p3), .unset, .unset, .unset, .unset, .unset, .unset] [(.int (1 : Int32)), (.int (p2 >>> (p1 &&& 31)))])) _
    refine XS.iand X0.here hx rfl (hb hby d6_4) rfl ?_
    show Steps p.tables e below (s₁.setTop (mkF m 5 #[.val (.ref a0), .val (.int p1), .val (.int p2), .val (.int p3), .unset, .unset, .unset, .unset, .unset, .unset] [(.int ((p2 >>> (p1 &&& 31)) &&& (1 : Int32)))])) _
    refine own_dia (F := (mkF m 13 #[.val (.ref a0), .val (.int p1), .val (.int p2), .val (.int p3), .unset, .unset, .unset, .unset, .unset, .unset] [(.int v2)])) ?_ ?_
    · intro kt
      by_cases hc1 : ((p2 >>> (p1 &&& 31)) &&& (1 : Int32)) = (0 : Int32)
      · show Steps p.tables e below (s₁.setTop (mkF m 5 #[.val (.ref a0), .val (.int p1), .val (.int p2), .val (.int p3), .unset, .unset, .unset, .unset, .unset, .unset] [(.int ((p2 >>> (p1 &&& 31)) &&& (1 : Int32)))])) _
        refine XS.ifYes X0.here hx rfl (pc0 := 5) (pc' := 12) rfl (hb hby d6_5) rfl ((if0 _ _).trans (teq hc1).1) (by decide) (by decide) ?_
        show Steps p.tables e below (s₁.setTop (mkF m 12 #[.val (.ref a0), .val (.int p1), .val (.int p2), .val (.int p3), .unset, .unset, .unset, .unset, .unset, .unset] [])) _
        refine XS.iconst X0.here hx rfl (hb hby d6_12) ?_
        exact castTop (by rw [hv2, if_pos hc1] <;> rfl) kt
      · show Steps p.tables e below (s₁.setTop (mkF m 5 #[.val (.ref a0), .val (.int p1), .val (.int p2), .val (.int p3), .unset, .unset, .unset, .unset, .unset, .unset] [(.int ((p2 >>> (p1 &&& 31)) &&& (1 : Int32)))])) _
        refine XS.ifNo X0.here hx rfl (hb hby d6_5) rfl ((if0 _ _).trans (feq hc1).1) ?_
        show Steps p.tables e below (s₁.setTop (mkF m 8 #[.val (.ref a0), .val (.int p1), .val (.int p2), .val (.int p3), .unset, .unset, .unset, .unset, .unset, .unset] [])) _
        refine XS.iconst X0.here hx rfl (hb hby d6_8) ?_
        show Steps p.tables e below (s₁.setTop (mkF m 9 #[.val (.ref a0), .val (.int p1), .val (.int p2), .val (.int p3), .unset, .unset, .unset, .unset, .unset, .unset] [(.int (1 : Int32))])) _
        refine XS.goto X0.here hx rfl (pc0 := 9) (pc' := 13) rfl (hb hby d6_9) (by decide) (by decide) ?_
        exact castTop (by rw [hv2, if_neg hc1] <;> rfl) kt
    show Steps p.tables e below (s₁.setTop (mkF m 13 #[.val (.ref a0), .val (.int p1), .val (.int p2), .val (.int p3), .unset, .unset, .unset, .unset, .unset, .unset] [(.int v2)])) _
    refine XS.istore X0.here hx rfl (hb hby d6_13) rfl (l' := #[.val (.ref a0), .val (.int p1), .val (.int p2), .val (.int p3), .val (.int v2), .unset, .unset, .unset, .unset, .unset]) rfl ?_
    show Steps p.tables e below (s₁.setTop (mkF m 15 #[.val (.ref a0), .val (.int p1), .val (.int p2), .val (.int p3), .val (.int v2), .unset, .unset, .unset, .unset, .unset] [])) _
    refine XS.iloadN X0.here hx rfl (hb hby d6_15) rfl ?_
    show Steps p.tables e below (s₁.setTop (mkF m 16 #[.val (.ref a0), .val (.int p1), .val (.int p2), .val (.int p3), .val (.int v2), .unset, .unset, .unset, .unset, .unset] [(.int p3)])) _
    refine XS.iloadN X0.here hx rfl (hb hby d6_16) rfl ?_
    show Steps p.tables e below (s₁.setTop (mkF m 17 #[.val (.ref a0), .val (.int p1), .val (.int p2), .val (.int p3), .val (.int v2), .unset, .unset, .unset, .unset, .unset] [(.int p1), (.int p3)])) _
    refine XS.ishr X0.here hx rfl (hb hby d6_17) rfl ?_
    show Steps p.tables e below (s₁.setTop (mkF m 18 #[.val (.ref a0), .val (.int p1), .val (.int p2), .val (.int p3), .val (.int v2), .unset, .unset, .unset, .unset, .unset] [(.int (p3 >>> (p1 &&& 31)))])) _
    refine XS.iconst X0.here hx rfl (hb hby d6_18) ?_
    show Steps p.tables e below (s₁.setTop (mkF m 19 #[.val (.ref a0), .val (.int p1), .val (.int p2), .val (.int p3), .val (.int v2), .unset, .unset, .unset, .unset, .unset] [(.int (1 : Int32)), (.int (p3 >>> (p1 &&& 31)))])) _
    refine XS.iand X0.here hx rfl (hb hby d6_19) rfl ?_
    show Steps p.tables e below (s₁.setTop (mkF m 20 #[.val (.ref a0), .val (.int p1), .val (.int p2), .val (.int p3), .val (.int v2), .unset, .unset, .unset, .unset, .unset] [(.int ((p3 >>> (p1 &&& 31)) &&& (1 : Int32)))])) _
    refine own_dia (F := (mkF m 28 #[.val (.ref a0), .val (.int p1), .val (.int p2), .val (.int p3), .val (.int v2), .unset, .unset, .unset, .unset, .unset] [(.int v4)])) ?_ ?_
    · intro kt
      by_cases hc3 : ((p3 >>> (p1 &&& 31)) &&& (1 : Int32)) = (0 : Int32)
      · show Steps p.tables e below (s₁.setTop (mkF m 20 #[.val (.ref a0), .val (.int p1), .val (.int p2), .val (.int p3), .val (.int v2), .unset, .unset, .unset, .unset, .unset] [(.int ((p3 >>> (p1 &&& 31)) &&& (1 : Int32)))])) _
        refine XS.ifYes X0.here hx rfl (pc0 := 20) (pc' := 27) rfl (hb hby d6_20) rfl ((if0 _ _).trans (teq hc3).1) (by decide) (by decide) ?_
        show Steps p.tables e below (s₁.setTop (mkF m 27 #[.val (.ref a0), .val (.int p1), .val (.int p2), .val (.int p3), .val (.int v2), .unset, .unset, .unset, .unset, .unset] [])) _
        refine XS.iconst X0.here hx rfl (hb hby d6_27) ?_
        exact castTop (by rw [hv4, if_pos hc3] <;> rfl) kt
      · show Steps p.tables e below (s₁.setTop (mkF m 20 #[.val (.ref a0), .val (.int p1), .val (.int p2), .val (.int p3), .val (.int v2), .unset, .unset, .unset, .unset, .unset] [(.int ((p3 >>> (p1 &&& 31)) &&& (1 : Int32)))])) _
        refine XS.ifNo X0.here hx rfl (hb hby d6_20) rfl ((if0 _ _).trans (feq hc3).1) ?_
        show Steps p.tables e below (s₁.setTop (mkF m 23 #[.val (.ref a0), .val (.int p1), .val (.int p2), .val (.int p3), .val (.int v2), .unset, .unset, .unset, .unset, .unset] [])) _
        refine XS.iconst X0.here hx rfl (hb hby d6_23) ?_
        show Steps p.tables e below (s₁.setTop (mkF m 24 #[.val (.ref a0), .val (.int p1), .val (.int p2), .val (.int p3), .val (.int v2), .unset, .unset, .unset, .unset, .unset] [(.int (1 : Int32))])) _
        refine XS.goto X0.here hx rfl (pc0 := 24) (pc' := 28) rfl (hb hby d6_24) (by decide) (by decide) ?_
        exact castTop (by rw [hv4, if_neg hc3] <;> rfl) kt
    show Steps p.tables e below (s₁.setTop (mkF m 28 #[.val (.ref a0), .val (.int p1), .val (.int p2), .val (.int p3), .val (.int v2), .unset, .unset, .unset, .unset, .unset] [(.int v4)])) _
    refine XS.istore X0.here hx rfl (hb hby d6_28) rfl (l' := #[.val (.ref a0), .val (.int p1), .val (.int p2), .val (.int p3), .val (.int v2), .val (.int v4), .unset, .unset, .unset, .unset]) rfl ?_
    show Steps p.tables e below (s₁.setTop (mkF m 30 #[.val (.ref a0), .val (.int p1), .val (.int p2), .val (.int p3), .val (.int v2), .val (.int v4), .unset, .unset, .unset, .unset] [])) _
    refine XS.iload X0.here hx rfl (hb hby d6_30) rfl ?_
    show Steps p.tables e below (s₁.setTop (mkF m 32 #[.val (.ref a0), .val (.int p1), .val (.int p2), .val (.int p3), .val (.int v2), .val (.int v4), .unset, .unset, .unset, .unset] [(.int v2)])) _
    refine own_dia (F := (mkF m 40 #[.val (.ref a0), .val (.int p1), .val (.int p2), .val (.int p3), .val (.int v2), .val (.int v4), .unset, .unset, .unset, .unset] [(.long v6)])) ?_ ?_
    · intro kt
      by_cases hc5 : v2 = (0 : Int32)
      · show Steps p.tables e below (s₁.setTop (mkF m 32 #[.val (.ref a0), .val (.int p1), .val (.int p2), .val (.int p3), .val (.int v2), .val (.int v4), .unset, .unset, .unset, .unset] [(.int v2)])) _
        refine XS.ifYes X0.here hx rfl (pc0 := 32) (pc' := 39) rfl (hb hby d6_32) rfl ((if0 _ _).trans (teq hc5).1) (by decide) (by decide) ?_
        show Steps p.tables e below (s₁.setTop (mkF m 39 #[.val (.ref a0), .val (.int p1), .val (.int p2), .val (.int p3), .val (.int v2), .val (.int v4), .unset, .unset, .unset, .unset] [])) _
        refine XS.lconst X0.here hx rfl (hb hby d6_39) ?_
        exact castTop (by rw [hv6, if_pos hc5] <;> rfl) kt
      · show Steps p.tables e below (s₁.setTop (mkF m 32 #[.val (.ref a0), .val (.int p1), .val (.int p2), .val (.int p3), .val (.int v2), .val (.int v4), .unset, .unset, .unset, .unset] [(.int v2)])) _
        refine XS.ifNo X0.here hx rfl (hb hby d6_32) rfl ((if0 _ _).trans (feq hc5).1) ?_
        show Steps p.tables e below (s₁.setTop (mkF m 35 #[.val (.ref a0), .val (.int p1), .val (.int p2), .val (.int p3), .val (.int v2), .val (.int v4), .unset, .unset, .unset, .unset] [])) _
        refine XS.lconst X0.here hx rfl (hb hby d6_35) ?_
        show Steps p.tables e below (s₁.setTop (mkF m 36 #[.val (.ref a0), .val (.int p1), .val (.int p2), .val (.int p3), .val (.int v2), .val (.int v4), .unset, .unset, .unset, .unset] [(.long (1 : Int64))])) _
        refine XS.goto X0.here hx rfl (pc0 := 36) (pc' := 40) rfl (hb hby d6_36) (by decide) (by decide) ?_
        exact castTop (by rw [hv6, if_neg hc5] <;> rfl) kt
    show Steps p.tables e below (s₁.setTop (mkF m 40 #[.val (.ref a0), .val (.int p1), .val (.int p2), .val (.int p3), .val (.int v2), .val (.int v4), .unset, .unset, .unset, .unset] [(.long v6)])) _
    refine XS.iload X0.here hx rfl (hb hby d6_40) rfl ?_
    show Steps p.tables e below (s₁.setTop (mkF m 42 #[.val (.ref a0), .val (.int p1), .val (.int p2), .val (.int p3), .val (.int v2), .val (.int v4), .unset, .unset, .unset, .unset] [(.int v4), (.long v6)])) _
    refine own_dia (F := (mkF m 50 #[.val (.ref a0), .val (.int p1), .val (.int p2), .val (.int p3), .val (.int v2), .val (.int v4), .unset, .unset, .unset, .unset] [(.long v8), (.long v6)])) ?_ ?_
    · intro kt
      by_cases hc7 : v4 = (0 : Int32)
      · show Steps p.tables e below (s₁.setTop (mkF m 42 #[.val (.ref a0), .val (.int p1), .val (.int p2), .val (.int p3), .val (.int v2), .val (.int v4), .unset, .unset, .unset, .unset] [(.int v4), (.long v6)])) _
        refine XS.ifYes X0.here hx rfl (pc0 := 42) (pc' := 49) rfl (hb hby d6_42) rfl ((if0 _ _).trans (teq hc7).1) (by decide) (by decide) ?_
        show Steps p.tables e below (s₁.setTop (mkF m 49 #[.val (.ref a0), .val (.int p1), .val (.int p2), .val (.int p3), .val (.int v2), .val (.int v4), .unset, .unset, .unset, .unset] [(.long v6)])) _
        refine XS.lconst X0.here hx rfl (hb hby d6_49) ?_
        exact castTop (by rw [hv8, if_pos hc7] <;> rfl) kt
      · show Steps p.tables e below (s₁.setTop (mkF m 42 #[.val (.ref a0), .val (.int p1), .val (.int p2), .val (.int p3), .val (.int v2), .val (.int v4), .unset, .unset, .unset, .unset] [(.int v4), (.long v6)])) _
        refine XS.ifNo X0.here hx rfl (hb hby d6_42) rfl ((if0 _ _).trans (feq hc7).1) ?_
        show Steps p.tables e below (s₁.setTop (mkF m 45 #[.val (.ref a0), .val (.int p1), .val (.int p2), .val (.int p3), .val (.int v2), .val (.int v4), .unset, .unset, .unset, .unset] [(.long v6)])) _
        refine XS.lconst X0.here hx rfl (hb hby d6_45) ?_
        show Steps p.tables e below (s₁.setTop (mkF m 46 #[.val (.ref a0), .val (.int p1), .val (.int p2), .val (.int p3), .val (.int v2), .val (.int v4), .unset, .unset, .unset, .unset] [(.long (1 : Int64)), (.long v6)])) _
        refine XS.goto X0.here hx rfl (pc0 := 46) (pc' := 50) rfl (hb hby d6_46) (by decide) (by decide) ?_
        exact castTop (by rw [hv8, if_neg hc7] <;> rfl) kt
    show Steps p.tables e below (s₁.setTop (mkF m 50 #[.val (.ref a0), .val (.int p1), .val (.int p2), .val (.int p3), .val (.int v2), .val (.int v4), .unset, .unset, .unset, .unset] [(.long v8), (.long v6)])) _
    refine XS.ladd X0.here hx rfl (hb hby d6_50) rfl ?_
    show Steps p.tables e below (s₁.setTop (mkF m 51 #[.val (.ref a0), .val (.int p1), .val (.int p2), .val (.int p3), .val (.int v2), .val (.int v4), .unset, .unset, .unset, .unset] [(.long (v6 + v8))])) _
    refine XS.lstore X0.here hx rfl (hb hby d6_51) rfl (l' := #[.val (.ref a0), .val (.int p1), .val (.int p2), .val (.int p3), .val (.int v2), .val (.int v4), .val (.long (v6 + v8)), .second, .unset, .unset]) rfl ?_
    show Steps p.tables e below (s₁.setTop (mkF m 53 #[.val (.ref a0), .val (.int p1), .val (.int p2), .val (.int p3), .val (.int v2), .val (.int v4), .val (.long (v6 + v8)), .second, .unset, .unset] [])) _
    refine XS.iload X0.here hx rfl (hb hby d6_53) rfl ?_
    show Steps p.tables e below (s₁.setTop (mkF m 55 #[.val (.ref a0), .val (.int p1), .val (.int p2), .val (.int p3), .val (.int v2), .val (.int v4), .val (.long (v6 + v8)), .second, .unset, .unset] [(.int v4)])) _
    refine own_dia (F := (mkF m 74 #[.val (.ref a0), .val (.int p1), .val (.int p2), .val (.int p3), .val (.int v2), .val (.int v4), .val (.long (v6 + v8)), .second, .unset, .unset] [(.long v12)])) ?_ ?_
    · intro kt
      by_cases hc9 : v4 = (0 : Int32)
      · show Steps p.tables e below (s₁.setTop (mkF m 55 #[.val (.ref a0), .val (.int p1), .val (.int p2), .val (.int p3), .val (.int v2), .val (.int v4), .val (.long (v6 + v8)), .second, .unset, .unset] [(.int v4)])) _
        refine XS.ifYes X0.here hx rfl (pc0 := 55) (pc' := 64) rfl (hb hby d6_55) rfl ((if0 _ _).trans (teq hc9).1) (by decide) (by decide) ?_
        show Steps p.tables e below (s₁.setTop (mkF m 64 #[.val (.ref a0), .val (.int p1), .val (.int p2), .val (.int p3), .val (.int v2), .val (.int v4), .val (.long (v6 + v8)), .second, .unset, .unset] [])) _
        refine XS.iload X0.here hx rfl (hb hby d6_64) rfl ?_
        show Steps p.tables e below (s₁.setTop (mkF m 66 #[.val (.ref a0), .val (.int p1), .val (.int p2), .val (.int p3), .val (.int v2), .val (.int v4), .val (.long (v6 + v8)), .second, .unset, .unset] [(.int v2)])) _
        refine own_dia (F := (mkF m 74 #[.val (.ref a0), .val (.int p1), .val (.int p2), .val (.int p3), .val (.int v2), .val (.int v4), .val (.long (v6 + v8)), .second, .unset, .unset] [(.long v11)])) ?_ ?_
        · intro kt
          by_cases hc10 : v2 = (0 : Int32)
          · show Steps p.tables e below (s₁.setTop (mkF m 66 #[.val (.ref a0), .val (.int p1), .val (.int p2), .val (.int p3), .val (.int v2), .val (.int v4), .val (.long (v6 + v8)), .second, .unset, .unset] [(.int v2)])) _
            refine XS.ifYes X0.here hx rfl (pc0 := 66) (pc' := 73) rfl (hb hby d6_66) rfl ((if0 _ _).trans (teq hc10).1) (by decide) (by decide) ?_
            show Steps p.tables e below (s₁.setTop (mkF m 73 #[.val (.ref a0), .val (.int p1), .val (.int p2), .val (.int p3), .val (.int v2), .val (.int v4), .val (.long (v6 + v8)), .second, .unset, .unset] [])) _
            refine XS.lconst X0.here hx rfl (hb hby d6_73) ?_
            exact castTop (by rw [hv11, if_pos hc10] <;> rfl) kt
          · show Steps p.tables e below (s₁.setTop (mkF m 66 #[.val (.ref a0), .val (.int p1), .val (.int p2), .val (.int p3), .val (.int v2), .val (.int v4), .val (.long (v6 + v8)), .second, .unset, .unset] [(.int v2)])) _
            refine XS.ifNo X0.here hx rfl (hb hby d6_66) rfl ((if0 _ _).trans (feq hc10).1) ?_
            show Steps p.tables e below (s₁.setTop (mkF m 69 #[.val (.ref a0), .val (.int p1), .val (.int p2), .val (.int p3), .val (.int v2), .val (.int v4), .val (.long (v6 + v8)), .second, .unset, .unset] [])) _
            refine XS.lconst X0.here hx rfl (hb hby d6_69) ?_
            show Steps p.tables e below (s₁.setTop (mkF m 70 #[.val (.ref a0), .val (.int p1), .val (.int p2), .val (.int p3), .val (.int v2), .val (.int v4), .val (.long (v6 + v8)), .second, .unset, .unset] [(.long (1 : Int64))])) _
            refine XS.goto X0.here hx rfl (pc0 := 70) (pc' := 74) rfl (hb hby d6_70) (by decide) (by decide) ?_
            exact castTop (by rw [hv11, if_neg hc10] <;> rfl) kt
        exact castTop (by rw [hv12, if_pos hc9] <;> rfl) kt
      · show Steps p.tables e below (s₁.setTop (mkF m 55 #[.val (.ref a0), .val (.int p1), .val (.int p2), .val (.int p3), .val (.int v2), .val (.int v4), .val (.long (v6 + v8)), .second, .unset, .unset] [(.int v4)])) _
        refine XS.ifNo X0.here hx rfl (hb hby d6_55) rfl ((if0 _ _).trans (feq hc9).1) ?_
        show Steps p.tables e below (s₁.setTop (mkF m 58 #[.val (.ref a0), .val (.int p1), .val (.int p2), .val (.int p3), .val (.int v2), .val (.int v4), .val (.long (v6 + v8)), .second, .unset, .unset] [])) _
        refine X0.ldc2Long hx hown (mvT hZ (hw _ (List.mem_of_getElem? (i := 31) rfl))) (g := (mkF m 58 #[.val (.ref a0), .val (.int p1), .val (.int p2), .val (.int p3), .val (.int v2), .val (.int v4), .val (.long (v6 + v8)), .second, .unset, .unset] [])) rfl (hb hby d6_58) _ ?_
        show Steps p.tables e below (s₁.setTop (mkF m 61 #[.val (.ref a0), .val (.int p1), .val (.int p2), .val (.int p3), .val (.int v2), .val (.int v4), .val (.long (v6 + v8)), .second, .unset, .unset] [(.long (2 : Int64))])) _
        refine XS.goto X0.here hx rfl (pc0 := 61) (pc' := 74) rfl (hb hby d6_61) (by decide) (by decide) ?_
        exact castTop (by rw [hv12, if_neg hc9] <;> rfl) kt
    show Steps p.tables e below (s₁.setTop (mkF m 74 #[.val (.ref a0), .val (.int p1), .val (.int p2), .val (.int p3), .val (.int v2), .val (.int v4), .val (.long (v6 + v8)), .second, .unset, .unset] [(.long v12)])) _
    refine XS.lstore X0.here hx rfl (hb hby d6_74) rfl (l' := #[.val (.ref a0), .val (.int p1), .val (.int p2), .val (.int p3), .val (.int v2), .val (.int v4), .val (.long (v6 + v8)), .second, .val (.long v12), .second]) rfl ?_
    show Steps p.tables e below (s₁.setTop (mkF m 76 #[.val (.ref a0), .val (.int p1), .val (.int p2), .val (.int p3), .val (.int v2), .val (.int v4), .val (.long (v6 + v8)), .second, .val (.long v12), .second] [])) _
    refine XS.aloadN X0.here hx rfl (hb hby d6_76) rfl rfl ?_
    show Steps p.tables e below (s₁.setTop (mkF m 77 #[.val (.ref a0), .val (.int p1), .val (.int p2), .val (.int p3), .val (.int v2), .val (.int v4), .val (.long (v6 + v8)), .second, .val (.long v12), .second] [(.ref a0)])) _
    refine XS.iloadN X0.here hx rfl (hb hby d6_77) rfl ?_
    show Steps p.tables e below (s₁.setTop (mkF m 78 #[.val (.ref a0), .val (.int p1), .val (.int p2), .val (.int p3), .val (.int v2), .val (.int v4), .val (.long (v6 + v8)), .second, .val (.long v12), .second] [(.int p1), (.ref a0)])) _
    refine st13.trans ?_
    show Steps p.tables e below (T13.setTop (mkF m 81 #[.val (.ref a0), .val (.int p1), .val (.int p2), .val (.int p3), .val (.int v2), .val (.int v4), .val (.long (v6 + v8)), .second, .val (.long v12), .second] [(.long (g_w_ticks_a0 (p1).toNatClampNeg))])) _
    refine XS.lload X13.here hx rfl (hb hby d6_81) rfl ?_
    show Steps p.tables e below (T13.setTop (mkF m 83 #[.val (.ref a0), .val (.int p1), .val (.int p2), .val (.int p3), .val (.int v2), .val (.int v4), .val (.long (v6 + v8)), .second, .val (.long v12), .second] [(.long (v6 + v8)), (.long (g_w_ticks_a0 (p1).toNatClampNeg))])) _
    refine XS.lcmp X13.here hx rfl (hb hby d6_83) rfl ?_
    show Steps p.tables e below (T13.setTop (mkF m 84 #[.val (.ref a0), .val (.int p1), .val (.int p2), .val (.int p3), .val (.int v2), .val (.int v4), .val (.long (v6 + v8)), .second, .val (.long v12), .second] [(.int (lcmpW (g_w_ticks_a0 (p1).toNatClampNeg) (v6 + v8)))])) _
    refine st20 _ ?_
    show Steps p.tables e below (T20.setTop (mkF m 103 #[.val (.ref a0), .val (.int p1), .val (.int p2), .val (.int p3), .val (.int v2), .val (.int v4), .val (.long (v6 + v8)), .second, .val (.long v12), .second] [(.int v19)])) _
    exact retN X20 hx (t := .boolean) Bd.returns (by simp) (hb hby d6_103) hr
  · show Q6 Z a0 p1 p2 p3 w_ticks_a0 w_lastTickSteps_a0 w_stepCount_a0 n_w_ticks_a0 g_w_ticks_a0 n_w_lastTickSteps_a0 g_w_lastTickSteps_a0 h0 n0 _ T20.heap _
    subst hv2 hv4 hv6 hv8 hv11 hv12 hv19
    exact ⟨rfl, N20, e20⟩

theorem own_m7 (x : Int32) : ∃ k : Fin 8, (x &&& (7 : Int32)) = Int32.ofNat k.1 := by
  have m := c_mask x 7 3 (by decide) (by decide)
  refine ⟨⟨(x &&& (7 : Int32)).toInt.toNat, by omega⟩, ?_⟩
  apply Int32.toInt_inj.mp
  show _ = (Int32.ofNat (x &&& (7 : Int32)).toInt.toNat).toInt
  rw [Int32.toInt_ofNat_of_lt (by omega)]
  omega
theorem own_gin : ∀ (m : Fin 8) (r : Fin 2) (j : Fin 3), j.1 < own_n (Int32.ofNat m.1) → own_in (own_g (Int32.ofNat m.1) (Int32.ofNat r.1) j.1) 3 := by decide +kernel
theorem own_nle : ∀ (m : Fin 8), own_n (Int32.ofNat m.1) ≤ 3 := by decide +kernel
theorem own_r (q : Prop) [Decidable q] (v : Int32) (hv : v = (if q then (0 : Int32) else (1 : Int32))) : ∃ k : Fin 2, v = Int32.ofNat k.1 := by
  rw [hv]
  split
  · exact ⟨0, rfl⟩
  · exact ⟨1, rfl⟩

def own_tot (m1 r1 m2 r2 : Int32) : Int32 := (nar .boolean (if (if (if (if (((0 : Int64) + (1 : Int64)) + (1 : Int64)) = (2 : Int64) then (1 : Int32) else (0 : Int32)) = (0 : Int32) then (0 : Int32) else (if (own_chk (0 : Int32) m1 m2 (own_t (own_g m2 r2) (own_n m2) (own_t (own_g m1 r1) (own_n m1) (fun _ => (0 : Int64)) 0) 0) (own_l (own_g m2 r2) (((0 : Int64) + (1 : Int64)) + (1 : Int64)) (own_n m2) (own_l (own_g m1 r1) ((0 : Int64) + (1 : Int64)) (own_n m1) (fun _ => (0 : Int64)) 0) 0)) = (0 : Int32) then (0 : Int32) else (1 : Int32))) = (0 : Int32) then (0 : Int32) else (if (own_chk (1 : Int32) m1 m2 (own_t (own_g m2 r2) (own_n m2) (own_t (own_g m1 r1) (own_n m1) (fun _ => (0 : Int64)) 0) 0) (own_l (own_g m2 r2) (((0 : Int64) + (1 : Int64)) + (1 : Int64)) (own_n m2) (own_l (own_g m1 r1) ((0 : Int64) + (1 : Int64)) (own_n m1) (fun _ => (0 : Int64)) 0) 0)) = (0 : Int32) then (0 : Int32) else (1 : Int32))) = (0 : Int32) then (0 : Int32) else (if (own_chk (2 : Int32) m1 m2 (own_t (own_g m2 r2) (own_n m2) (own_t (own_g m1 r1) (own_n m1) (fun _ => (0 : Int64)) 0) 0) (own_l (own_g m2 r2) (((0 : Int64) + (1 : Int64)) + (1 : Int64)) (own_n m2) (own_l (own_g m1 r1) ((0 : Int64) + (1 : Int64)) (own_n m1) (fun _ => (0 : Int64)) 0) 0)) = (0 : Int32) then (0 : Int32) else (1 : Int32))))
theorem own_tot_all : ∀ (a b : Fin 8) (c d : Fin 2), own_tot (Int32.ofNat a.1) (Int32.ofNat c.1) (Int32.ofNat b.1) (Int32.ofNat d.1) = 1 := by decide +kernel
theorem own_hin_68 (p0 : Int32) (v2 : Int32) (f7 : Nat → Int32) (z9 : Nat) (hv2 : v2 = (if (p0 &&& (8 : Int32)) = (0 : Int32) then (0 : Int32) else (1 : Int32))) (hf7 : f7 = (own_g (p0 &&& (7 : Int32)) v2)) (hz9 : z9 = (own_n (p0 &&& (7 : Int32)))) : ∀ i, i < z9 → own_in (f7 i) 3 := by
  obtain ⟨r, k1⟩ := own_r _ v2 hv2
  obtain ⟨a, ka⟩ := own_m7 _
  intro i hi
  rw [hz9, ka] at hi
  rw [hf7, ka, k1]
  exact own_gin a r ⟨i, by have := own_nle a; omega⟩ hi
theorem own_hin_75 (p1 : Int32) (v4 : Int32) (f12 : Nat → Int32) (z14 : Nat) (hv4 : v4 = (if (p1 &&& (8 : Int32)) = (0 : Int32) then (0 : Int32) else (1 : Int32))) (hf12 : f12 = (own_g (p1 &&& (7 : Int32)) v4)) (hz14 : z14 = (own_n (p1 &&& (7 : Int32)))) : ∀ i, i < z14 → own_in (f12 i) 3 := by
  obtain ⟨r, k1⟩ := own_r _ v4 hv4
  obtain ⟨a, ka⟩ := own_m7 _
  intro i hi
  rw [hz14, ka] at hi
  rw [hf12, ka, k1]
  exact own_gin a r ⟨i, by have := own_nle a; omega⟩ hi
theorem own_law (p0 : Int32) (p1 : Int32) (v2 : Int32) (v4 : Int32) (f7 : Nat → Int32) (z9 : Nat) (f12 : Nat → Int32) (z14 : Nat) (f35 : Nat → Int64) (f37 : Nat → Int64) (f48 : Nat → Int64) (v52 : Int32) (v60 : Int32) (v69 : Int32) (v78 : Int32) (hv2 : v2 = (if (p0 &&& (8 : Int32)) = (0 : Int32) then (0 : Int32) else (1 : Int32))) (hv4 : v4 = (if (p1 &&& (8 : Int32)) = (0 : Int32) then (0 : Int32) else (1 : Int32))) (hf7 : f7 = (own_g (p0 &&& (7 : Int32)) v2)) (hz9 : z9 = (own_n (p0 &&& (7 : Int32)))) (hf12 : f12 = (own_g (p1 &&& (7 : Int32)) v4)) (hz14 : z14 = (own_n (p1 &&& (7 : Int32)))) (hf35 : f35 = (own_t f7 z9 (fun _ => (0 : Int64)) 0)) (hf37 : f37 = (own_l f7 ((0 : Int64) + (1 : Int64)) z9 (fun _ => (0 : Int64)) 0)) (hf48 : f48 = (own_l f12 (((0 : Int64) + (1 : Int64)) + (1 : Int64)) z14 f37 0)) (hv52 : v52 = (if (((0 : Int64) + (1 : Int64)) + (1 : Int64)) = (2 : Int64) then (1 : Int32) else (0 : Int32))) (hv60 : v60 = (if v52 = (0 : Int32) then (0 : Int32) else (if (own_chk (0 : Int32) (p0 &&& (7 : Int32)) (p1 &&& (7 : Int32)) (own_t f12 z14 f35 0) f48) = (0 : Int32) then (0 : Int32) else (1 : Int32)))) (hv69 : v69 = (if v60 = (0 : Int32) then (0 : Int32) else (if (own_chk (1 : Int32) (p0 &&& (7 : Int32)) (p1 &&& (7 : Int32)) (own_t f12 z14 f35 0) f48) = (0 : Int32) then (0 : Int32) else (1 : Int32)))) (hv78 : v78 = (if v69 = (0 : Int32) then (0 : Int32) else (if (own_chk (2 : Int32) (p0 &&& (7 : Int32)) (p1 &&& (7 : Int32)) (own_t f12 z14 f35 0) f48) = (0 : Int32) then (0 : Int32) else (1 : Int32)))) : (nar .boolean v78) = (1 : Int32) := by
  obtain ⟨r1, k1⟩ := own_r _ v2 hv2
  obtain ⟨r2, k2⟩ := own_r _ v4 hv4
  obtain ⟨a, ka⟩ := own_m7 p0
  obtain ⟨b, kb⟩ := own_m7 p1
  have T := own_tot_all a b r1 r2
  rw [← ka, ← kb, ← k1, ← k2] at T
  clear hv2 hv4 k1 k2 ka kb
  subst hf7 hz9 hf12 hz14 hf35 hf37 hf48 hv52 hv60 hv69 hv78
  exact T
theorem ef_0 (m : MethodId) (p0 : Int32) (p1 : Int32) : entryFrame m #[(.int p0), (.int p1)] maxLocals = mkF m 0 #[.val (.int p0), .val (.int p1), .unset, .unset, .unset, .unset, .unset, .unset, .unset, .unset] [] := by first | (simp [entryFrame, mkF, argsToLocals, Value.category, maxLocals]; done) | rfl
def Q0 (h0 : Heap) (n0 : Nat) (v : Option Value) (h : Heap) (L : List Loc) : Prop := v = some (.int 1) ∧ Fr n0 L
set_option maxRecDepth 65536 in
set_option maxHeartbeats 40000000 in
theorem rm0 (l : Launch) (Z : State) (A0 : Array Value) (hw : ∀ d ∈ tables_1, d.before A0 Z = true) (ws : List Jvm.Cond) (p0 : Int32) (p1 : Int32) (h0 : Heap) (n0 : Nat) (Z0 : n0 ≤ h0.size) :
    MetFree l x (head1 (Jvm.Cond.code x code maxLocals ret :: ws) room_1) (fun a U => a = #[(.int p0), (.int p1)] ∧ Z.Warmed39 U.vm ∧ U.heap = h0) (fun _ _ _ _ _ => True) (fun _ U o U' => ∃ v L, o = .returned v ∧ Q0 h0 n0 v U'.heap L ∧ FrameEnd U o U' L 5 15) := by
  refine MetFree.of_bodySF (plainFor_of_name pn_0) hisR ?_
  intro p e s m args below meth c s₁ Bd hml0 hP hK
  obtain ⟨rfl, hZ, hh⟩ := hP
  have hx := Bd.exec
  have hby := Bd.bytes
  have hml : c.maxLocals = 10 := hml0
  have hown : s.vm.findClass "com/example/uneven_ticks/uneventicks/core/RunStateAdvancePinLaw" = some m.cls := findClass_of_methodNamed Bd.named
  have hnm := (name_of_methodNamed Bd.named Bd.method).1
  have X0 : Stand p l e room_1 s m #[(.int p0), (.int p1)] below meth c s₁ [] 0 0 := Stand.of_body Bd
  have e0 : s₁.heap = h0 := by rw [← hh, Bd.state]; rfl
  have N0 := Fr.nil n0
  have pre0 : ∀ t, Steps p.tables e below (s₁.setTop (mkF m 0 #[.val (.int p0), .val (.int p1), .unset, .unset, .unset, .unset, .unset, .unset, .unset, .unset] [])) t → Steps p.tables e below (s₁.setTop (entryFrame m #[(.int p0), (.int p1)] maxLocals)) t := fun t k => castTop (ef_0 m p0 p1) k
  obtain ⟨v2, hv2⟩ : ∃ z : Int32, z = if (p0 &&& (8 : Int32)) = (0 : Int32) then (0 : Int32) else (1 : Int32) := ⟨_, rfl⟩
  obtain ⟨v4, hv4⟩ : ∃ z : Int32, z = if (p1 &&& (8 : Int32)) = (0 : Int32) then (0 : Int32) else (1 : Int32) := ⟨_, rfl⟩
  obtain ⟨_, _, ⟨T5, L5, k5, n5⟩, -, X5, ⟨Lc5, hQ5, l5, y5, z5⟩, st5⟩ := Jvm.LawKit.callS X0 hx (y := (⟨"com/example/uneven_ticks/uneventicks/core/RunStateAdvancePinLaw", "subset", "(IZ)[I"⟩ : MethodName)) hown (mvT hZ (hw _ (List.mem_of_getElem? (i := 0) rfl))) (mvT hZ (hw _ (List.mem_of_getElem? (i := 1) rfl))) (mvT hZ (hw _ (List.mem_of_getElem? (i := 2) rfl))) (mvT hZ (hw _ (List.mem_of_getElem? (i := 3) rfl))) (by decide) (backOf (W := 0) (rm1 l Z A0 hw [] (p0 &&& (7 : Int32)) v2 h0 n0 (Nat.le_trans Z0 (Keep.refl h0 []).1) ) hZ (hw _ (List.mem_of_getElem? (i := 3) rfl)) (hw _ (List.mem_of_getElem? (i := 2) rfl)) (by decide) (by decide)) (g := (mkF m 40 #[.val (.int p0), .val (.int p1), .val (.int (p0 &&& (7 : Int32))), .val (.int v2), .val (.int (p1 &&& (7 : Int32))), .val (.int v4), .unset, .unset, .unset, .unset] [(.int v2), (.int (p0 &&& (7 : Int32)))])) rfl (by rw [hml]; rfl) (argsL := [(.int (p0 &&& (7 : Int32))), (.int v2)]) (rest := []) (lenOf pd_0 rfl) rfl (by show 2 * 0 + _ ≤ _; exact Nat.le_of_eq rfl) (hb hby at_40) (fun _ _ => ⟨rfl, e0, (by decide : 0 + 1 ≤ _), (by decide : 0 + 3 ≤ _)⟩)
  dsimp only [Pt.U, Pt.locs, Pt.cells, Pt.slots] at X5 l5 y5 z5 st5 hQ5
  subst l5 y5 z5
  obtain ⟨b5_b, rfl, N5q, Kc5, szb5_b, P6⟩ := hQ5
  have nw_b5_b : n0 ≤ b5_b := Nat.le_trans (Nat.le_trans Z0 (Keep.refl h0 []).1) szb5_b
  have sq_b5_b : h0.size ≤ b5_b := Nat.le_trans (Keep.refl h0 []).1 szb5_b
  have K5 : Keep h0 T5.heap [] := (Keep.refl h0 []).trans Kc5 all0
  obtain ⟨f7, hf7⟩ : ∃ f : Nat → Int32, f = (own_g (p0 &&& (7 : Int32)) v2) := ⟨_, rfl⟩
  obtain ⟨z9, hz9⟩ : ∃ z : Nat, z = (own_n (p0 &&& (7 : Int32))) := ⟨_, rfl⟩
  have P8 : AF Z T5.heap b5_b .int z9 (fun j => .int (f7 j)) := by rw [hf7, hz9]; exact P6
  have N5 := Fr.app N0 N5q
  obtain ⟨_, _, ⟨T10, L10, k10, n10⟩, -, X10, ⟨Lc10, hQ10, l10, y10, z10⟩, st10⟩ := Jvm.LawKit.callS X5 hx (y := (⟨"com/example/uneven_ticks/uneventicks/core/RunStateAdvancePinLaw", "subset", "(IZ)[I"⟩ : MethodName)) hown (mvT hZ (hw _ (List.mem_of_getElem? (i := 0) rfl))) (mvT hZ (hw _ (List.mem_of_getElem? (i := 1) rfl))) (mvT hZ (hw _ (List.mem_of_getElem? (i := 2) rfl))) (mvT hZ (hw _ (List.mem_of_getElem? (i := 3) rfl))) (by decide) (backOf (W := 0) (rm1 l Z A0 hw [] (p1 &&& (7 : Int32)) v4 T5.heap n0 (Nat.le_trans Z0 K5.1) ) hZ (hw _ (List.mem_of_getElem? (i := 3) rfl)) (hw _ (List.mem_of_getElem? (i := 2) rfl)) (by decide) (by decide)) (g := (mkF m 49 #[.val (.int p0), .val (.int p1), .val (.int (p0 &&& (7 : Int32))), .val (.int v2), .val (.int (p1 &&& (7 : Int32))), .val (.int v4), .val (.ref b5_b), .unset, .unset, .unset] [(.int v4), (.int (p1 &&& (7 : Int32)))])) rfl (by rw [hml]; rfl) (argsL := [(.int (p1 &&& (7 : Int32))), (.int v4)]) (rest := []) (lenOf pd_0 rfl) rfl (by show 2 * 0 + _ ≤ _; exact Nat.le_of_eq rfl) (hb hby at_49) (fun _ _ => ⟨rfl, rfl, (by decide : 1 + 1 ≤ _), (by decide : 3 + 3 ≤ _)⟩)
  dsimp only [Pt.U, Pt.locs, Pt.cells, Pt.slots] at X10 l10 y10 z10 st10 hQ10
  subst l10 y10 z10
  obtain ⟨b10_b, rfl, N10q, Kc10, szb10_b, P11⟩ := hQ10
  have ne_b5_b_b10_b : b5_b ≠ b10_b := Nat.ne_of_lt (Nat.lt_of_lt_of_le P8.lt szb10_b)
  have nw_b10_b : n0 ≤ b10_b := Nat.le_trans (Nat.le_trans Z0 K5.1) szb10_b
  have sq_b10_b : h0.size ≤ b10_b := Nat.le_trans K5.1 szb10_b
  have K10 : Keep h0 T10.heap [] := K5.trans Kc10 all0
  obtain ⟨f12, hf12⟩ : ∃ f : Nat → Int32, f = (own_g (p1 &&& (7 : Int32)) v4) := ⟨_, rfl⟩
  obtain ⟨z14, hz14⟩ : ∃ z : Nat, z = (own_n (p1 &&& (7 : Int32))) := ⟨_, rfl⟩
  have P13 : AF Z T10.heap b10_b .int z14 (fun j => .int (f12 j)) := by rw [hf12, hz14]; exact P11
  have N10 := Fr.app N5 N10q
  obtain ⟨T15, h15, X15, e15, E15, A15, D15, -, st15⟩ := newO X10 hx hZ hown (hw _ (List.mem_of_getElem? (i := 5) rfl)) (hw _ (List.mem_of_getElem? (i := 6) rfl)) (hw _ (List.mem_of_getElem? (i := 7) rfl)) rfl (g := (mkF m 54 #[.val (.int p0), .val (.int p1), .val (.int (p0 &&& (7 : Int32))), .val (.int v2), .val (.int (p1 &&& (7 : Int32))), .val (.int v4), .val (.ref b5_b), .val (.ref b10_b), .unset, .unset] [])) rfl (hb hby at_54) (by decide) (by decide)
  obtain ⟨b15, g15⟩ : ∃ z, z = T10.heap.size := ⟨_, rfl⟩
  rw [← g15] at A15 D15 st15
  have G16 : AF Z T10.heap b5_b .int z9 (fun j => .int (f7 j)) := (P8.keep Kc10 nin0)
  have ne_b5_b_b15 : b5_b ≠ b15 := Nat.ne_of_lt (Nat.lt_of_lt_of_le G16.lt (Nat.le_of_eq g15.symm))
  have ne_b10_b_b15 : b10_b ≠ b15 := Nat.ne_of_lt (Nat.lt_of_lt_of_le P13.lt (Nat.le_of_eq g15.symm))
  have nw_b15 : n0 ≤ b15 := Nat.le_trans (Nat.le_trans Z0 K10.1) (Nat.le_of_eq g15.symm)
  have sz_b15 : h0.size ≤ b15 := Nat.le_trans K10.1 (Nat.le_of_eq g15.symm)
  have K15 : Keep h0 h15 [] := K10.ext E15
  have F_ticks_b15 : Fld Z h15 b15 "com/example/uneven_ticks/uneventicks/core/RunState" "ticks" "[J" .null := D15 (Or.inr (hw _ (List.mem_of_getElem? (i := 16) rfl))) (ty := (.array .long)) (by decide)
  have F_lastTickSteps_b15 : Fld Z h15 b15 "com/example/uneven_ticks/uneventicks/core/RunState" "lastTickSteps" "[J" .null := D15 (Or.inr (hw _ (List.mem_of_getElem? (i := 18) rfl))) (ty := (.array .long)) (by decide)
  have F_stepCount_b15 : Fld Z h15 b15 "com/example/uneven_ticks/uneventicks/core/RunState" "stepCount" "J" (.long (0 : Int64)) := D15 (Or.inl (hw _ (List.mem_of_getElem? (i := 25) rfl))) (ty := .long) (by decide)
  obtain ⟨_, _, ⟨T17, L17, k17, n17⟩, -, X17, ⟨Lc17, hQ17, l17, y17, z17⟩, st17⟩ := X15.specialBack hx (y := (⟨"com/example/uneven_ticks/uneventicks/core/RunState", "<init>", "(I)V"⟩ : MethodName)) rfl hown (mvT hZ (hw _ (List.mem_of_getElem? (i := 8) rfl))) (mvT hZ (hw _ (List.mem_of_getElem? (i := 9) rfl))) (mvT hZ (hw _ (List.mem_of_getElem? (i := 10) rfl))) (by decide) (backOf (W := 1) (rm2 l Z A0 hw [] b15 .null .null (0 : Int64) h15 n0 (Nat.le_trans Z0 K15.1) A15 F_ticks_b15 F_lastTickSteps_b15 F_stepCount_b15 nw_b15) hZ (hw _ (List.mem_of_getElem? (i := 10) rfl)) (hw _ (List.mem_of_getElem? (i := 7) rfl)) (by decide) (by decide)) (g := (mkF m 59 #[.val (.int p0), .val (.int p1), .val (.int (p0 &&& (7 : Int32))), .val (.int v2), .val (.int (p1 &&& (7 : Int32))), .val (.int v4), .val (.ref b5_b), .val (.ref b10_b), .unset, .unset] [(.int (3 : Int32)), (.ref b15), (.ref b15)])) rfl (by rw [hml]; rfl) (Steps.refl _) (a := b15) (argsL := [(.int (3 : Int32))]) (rest := [(.ref b15)]) (lenOf pd_1 rfl) rfl (by show 2 * 0 + _ ≤ _; exact Nat.le_of_eq rfl) (hb hby at_59) (fun _ _ => ⟨rfl, e15, (by decide : 3 + 2 ≤ _), (by decide : 9 + 6 ≤ _)⟩)
  dsimp only [Pt.U, Pt.locs, Pt.cells, Pt.slots] at X17 l17 y17 z17 st17 hQ17
  subst l17 y17 z17
  have G24 : AF Z h15 b5_b .int z9 (fun j => .int (f7 j)) := (G16.ext E15)
  have G25 : AF Z h15 b10_b .int z14 (fun j => .int (f12 j)) := (P13.ext E15)
  obtain ⟨b17_b2, b17_b6, rfl, N17q, Kc17, szb17_b2, szb17_b6, ne_b17_b2_b17_b6, P18, P19, P20, P21, P22, P23⟩ := hQ17
  have ne_b5_b_b17_b2 : b5_b ≠ b17_b2 := Nat.ne_of_lt (Nat.lt_of_lt_of_le G24.lt szb17_b2)
  have ne_b10_b_b17_b2 : b10_b ≠ b17_b2 := Nat.ne_of_lt (Nat.lt_of_lt_of_le G25.lt szb17_b2)
  have ne_b15_b17_b2 : b15 ≠ b17_b2 := Nat.ne_of_lt (Nat.lt_of_lt_of_le A15.lt szb17_b2)
  have ne_b5_b_b17_b6 : b5_b ≠ b17_b6 := Nat.ne_of_lt (Nat.lt_of_lt_of_le G24.lt szb17_b6)
  have ne_b10_b_b17_b6 : b10_b ≠ b17_b6 := Nat.ne_of_lt (Nat.lt_of_lt_of_le G25.lt szb17_b6)
  have ne_b15_b17_b6 : b15 ≠ b17_b6 := Nat.ne_of_lt (Nat.lt_of_lt_of_le A15.lt szb17_b6)
  have nw_b17_b2 : n0 ≤ b17_b2 := Nat.le_trans (Nat.le_trans Z0 K15.1) szb17_b2
  have sq_b17_b2 : h0.size ≤ b17_b2 := Nat.le_trans K15.1 szb17_b2
  have nw_b17_b6 : n0 ≤ b17_b6 := Nat.le_trans (Nat.le_trans Z0 K15.1) szb17_b6
  have sq_b17_b6 : h0.size ≤ b17_b6 := Nat.le_trans K15.1 szb17_b6
  have K17 : Keep h0 T17.heap [] := K15.trans Kc17 (allS (Or.inr sz_b15) all0)
  have N17 := Fr.app N10 N17q
  have G26 : AF Z T17.heap b5_b .int z9 (fun j => .int (f7 j)) := (G24.keep Kc17 (ninS ne_b5_b_b15 nin0))
  have hp27 : ∀ i, i < z9 → own_in (f7 i) 3 := (own_hin_68 p0 v2 f7 z9 hv2 hf7 hz9)
  obtain ⟨cq28, kq28, q28a, q28b, q28c⟩ := isOf hZ rfl P18
  obtain ⟨_, _, ⟨T28, L28, k28, n28⟩, -, X28, ⟨Lc28, hQ28, l28, y28, z28⟩, st28⟩ := X17.virtualBack hx (y := (⟨"com/example/uneven_ticks/uneventicks/core/RunState", "advance", "([I)V"⟩ : MethodName)) (z := (⟨"com/example/uneven_ticks/uneventicks/core/RunState", "advance", "([I)V"⟩ : MethodName)) hown (mvT hZ (hw _ (List.mem_of_getElem? (i := 19) rfl))) (mvT hZ (hw _ (List.mem_of_getElem? (i := 20) rfl))) (notFace_of_selects (args := #[]) (mvT hZ (hw _ (List.mem_of_getElem? (i := 22) rfl)))) (mvT hZ (hw _ (List.mem_of_getElem? (i := 22) rfl))) (mvT hZ (hw _ (List.mem_of_getElem? (i := 21) rfl))) (by decide) (backOf (W := 0) (rm4 l Z A0 hw [] b15 b5_b b17_b2 b17_b6 (0 : Int64) z9 f7 (fun _ => (0 : Int64)) (fun _ => (0 : Int64)) T17.heap n0 (Nat.le_trans Z0 K17.1) P18 P19 P20 P21 nw_b15 G26 (Ne.symm ne_b5_b_b15) P22 ne_b15_b17_b2 P23 ne_b15_b17_b6 nw_b17_b2 nw_b17_b6 (Ne.symm ne_b17_b2_b17_b6) ne_b5_b_b17_b2 ne_b5_b_b17_b6 hp27) hZ (hw _ (List.mem_of_getElem? (i := 23) rfl)) (hw _ (List.mem_of_getElem? (i := 7) rfl)) (by decide) (by decide)) q28a q28c (g := (mkF m 68 #[.val (.int p0), .val (.int p1), .val (.int (p0 &&& (7 : Int32))), .val (.int v2), .val (.int (p1 &&& (7 : Int32))), .val (.int v4), .val (.ref b5_b), .val (.ref b10_b), .val (.ref b15), .unset] [(.ref b5_b), (.ref b15)])) rfl (by rw [hml]; rfl) (Steps.refl _) (argsL := [(.ref b5_b)]) (rest := []) (lenOf pd_3 rfl) rfl (by show 2 * 0 + _ ≤ _; exact Nat.le_of_eq rfl) (hb hby at_68) (fun _ _ => ⟨rfl, rfl, (by decide : 5 + 0 ≤ _), (by decide : 15 + 0 ≤ _)⟩)
  dsimp only [Pt.U, Pt.locs, Pt.cells, Pt.slots] at X28 l28 y28 z28 st28 hQ28
  subst l28 y28 z28
  obtain ⟨rfl, N28q, Kc28, P29, P30, P31, P32, P33, P34⟩ := hQ28
  have K28 : Keep h0 T28.heap [] := K17.trans Kc28 (allS (Or.inr sz_b15) (allS (Or.inr sq_b17_b2) (allS (Or.inr sq_b17_b6) all0)))
  obtain ⟨f35, hf35⟩ : ∃ f : Nat → Int64, f = (own_t f7 z9 (fun _ => (0 : Int64)) 0) := ⟨_, rfl⟩
  have P36 : AF Z T28.heap b17_b2 .long 3 (fun j => .long (f35 j)) := by rw [hf35]; exact P33
  obtain ⟨f37, hf37⟩ : ∃ f : Nat → Int64, f = (own_l f7 ((0 : Int64) + (1 : Int64)) z9 (fun _ => (0 : Int64)) 0) := ⟨_, rfl⟩
  have P38 : AF Z T28.heap b17_b6 .long 3 (fun j => .long (f37 j)) := by rw [hf37]; exact P34
  have N28 := Fr.app N17 N28q
  have G39 : AF Z T28.heap b10_b .int z14 (fun j => .int (f12 j)) := ((G25.keep Kc17 (ninS ne_b10_b_b15 nin0)).keep Kc28 (ninS ne_b10_b_b15 (ninS ne_b10_b_b17_b2 (ninS ne_b10_b_b17_b6 nin0))))
  have hp40 : ∀ i, i < z14 → own_in (f12 i) 3 := (own_hin_75 p1 v4 f12 z14 hv4 hf12 hz14)
  obtain ⟨cq41, kq41, q41a, q41b, q41c⟩ := isOf hZ rfl P29
  obtain ⟨_, _, ⟨T41, L41, k41, n41⟩, -, X41, ⟨Lc41, hQ41, l41, y41, z41⟩, st41⟩ := X28.virtualBack hx (y := (⟨"com/example/uneven_ticks/uneventicks/core/RunState", "advance", "([I)V"⟩ : MethodName)) (z := (⟨"com/example/uneven_ticks/uneventicks/core/RunState", "advance", "([I)V"⟩ : MethodName)) hown (mvT hZ (hw _ (List.mem_of_getElem? (i := 19) rfl))) (mvT hZ (hw _ (List.mem_of_getElem? (i := 20) rfl))) (notFace_of_selects (args := #[]) (mvT hZ (hw _ (List.mem_of_getElem? (i := 22) rfl)))) (mvT hZ (hw _ (List.mem_of_getElem? (i := 22) rfl))) (mvT hZ (hw _ (List.mem_of_getElem? (i := 21) rfl))) (by decide) (backOf (W := 0) (rm4 l Z A0 hw [] b15 b10_b b17_b2 b17_b6 ((0 : Int64) + (1 : Int64)) z14 f12 f35 f37 T28.heap n0 (Nat.le_trans Z0 K28.1) P29 P30 P31 P32 nw_b15 G39 (Ne.symm ne_b10_b_b15) P36 ne_b15_b17_b2 P38 ne_b15_b17_b6 nw_b17_b2 nw_b17_b6 (Ne.symm ne_b17_b2_b17_b6) ne_b10_b_b17_b2 ne_b10_b_b17_b6 hp40) hZ (hw _ (List.mem_of_getElem? (i := 23) rfl)) (hw _ (List.mem_of_getElem? (i := 7) rfl)) (by decide) (by decide)) q41a q41c (g := (mkF m 75 #[.val (.int p0), .val (.int p1), .val (.int (p0 &&& (7 : Int32))), .val (.int v2), .val (.int (p1 &&& (7 : Int32))), .val (.int v4), .val (.ref b5_b), .val (.ref b10_b), .val (.ref b15), .unset] [(.ref b10_b), (.ref b15)])) rfl (by rw [hml]; rfl) (Steps.refl _) (argsL := [(.ref b10_b)]) (rest := []) (lenOf pd_3 rfl) rfl (by show 2 * 0 + _ ≤ _; exact Nat.le_of_eq rfl) (hb hby at_75) (fun _ _ => ⟨rfl, rfl, (by decide : 5 + 0 ≤ _), (by decide : 15 + 0 ≤ _)⟩)
  dsimp only [Pt.U, Pt.locs, Pt.cells, Pt.slots] at X41 l41 y41 z41 st41 hQ41
  subst l41 y41 z41
  obtain ⟨rfl, N41q, Kc41, P42, P43, P44, P45, P46, P47⟩ := hQ41
  have K41 : Keep h0 T41.heap [] := K28.trans Kc41 (allS (Or.inr sz_b15) (allS (Or.inr sq_b17_b2) (allS (Or.inr sq_b17_b6) all0)))
  obtain ⟨f48, hf48⟩ : ∃ f : Nat → Int64, f = (own_l f12 (((0 : Int64) + (1 : Int64)) + (1 : Int64)) z14 f37 0) := ⟨_, rfl⟩
  have P49 : AF Z T41.heap b17_b6 .long 3 (fun j => .long (f48 j)) := by rw [hf48]; exact P47
  have N41 := Fr.app N28 N41q
  obtain ⟨cq50, kq50, q50a, q50b, q50c⟩ := isOf hZ rfl P42
  obtain ⟨_, _, ⟨T50, L50, k50, n50⟩, -, X50, ⟨Lc50, hQ50, l50, y50, z50⟩, st50⟩ := X41.virtualBack hx (y := (⟨"com/example/uneven_ticks/uneventicks/core/RunState", "getStepCount", "()J"⟩ : MethodName)) (z := (⟨"com/example/uneven_ticks/uneventicks/core/RunState", "getStepCount", "()J"⟩ : MethodName)) hown (mvT hZ (hw _ (List.mem_of_getElem? (i := 26) rfl))) (mvT hZ (hw _ (List.mem_of_getElem? (i := 27) rfl))) (notFace_of_selects (args := #[]) (mvT hZ (hw _ (List.mem_of_getElem? (i := 29) rfl)))) (mvT hZ (hw _ (List.mem_of_getElem? (i := 29) rfl))) (mvT hZ (hw _ (List.mem_of_getElem? (i := 28) rfl))) (by decide) (backOf (W := 0) (rm5 l Z A0 hw [] b15 (.ref b17_b2) (.ref b17_b6) (((0 : Int64) + (1 : Int64)) + (1 : Int64)) T41.heap n0 (Nat.le_trans Z0 K41.1) P42 P43 P44 P45) hZ (hw _ (List.mem_of_getElem? (i := 30) rfl)) (hw _ (List.mem_of_getElem? (i := 7) rfl)) (by decide) (by decide)) q50a q50c (g := (mkF m 80 #[.val (.int p0), .val (.int p1), .val (.int (p0 &&& (7 : Int32))), .val (.int v2), .val (.int (p1 &&& (7 : Int32))), .val (.int v4), .val (.ref b5_b), .val (.ref b10_b), .val (.ref b15), .unset] [(.ref b15)])) rfl (by rw [hml]; rfl) (Steps.refl _) (argsL := []) (rest := []) (lenOf pd_4 rfl) rfl (by show 2 * 0 + _ ≤ _; exact Nat.le_of_eq rfl) (hb hby at_80) (fun _ _ => ⟨rfl, rfl, (by decide : 5 + 0 ≤ _), (by decide : 15 + 0 ≤ _)⟩)
  dsimp only [Pt.U, Pt.locs, Pt.cells, Pt.slots] at X50 l50 y50 z50 st50 hQ50
  subst l50 y50 z50
  obtain ⟨rfl, N50q, e50⟩ := hQ50
  have N50 := Fr.app N41 N50q
  obtain ⟨v52, hv52⟩ : ∃ z : Int32, z = if (((0 : Int64) + (1 : Int64)) + (1 : Int64)) = (2 : Int64) then (1 : Int32) else (0 : Int32) := ⟨_, rfl⟩
  obtain ⟨v60, hv60⟩ : ∃ z : Int32, z = if v52 = (0 : Int32) then (0 : Int32) else (if (own_chk (0 : Int32) (p0 &&& (7 : Int32)) (p1 &&& (7 : Int32)) (own_t f12 z14 f35 0) f48) = (0 : Int32) then (0 : Int32) else (1 : Int32)) := ⟨_, rfl⟩
  obtain ⟨T61, L61, X61, N61, e61, st61⟩ : ∃ (T' : State) (L' : List Loc), Stand p l e room_1 s m #[(.int p0), (.int p1)] below meth c T' L' 5 15 ∧ Fr n0 L' ∧ T'.heap = T41.heap ∧ ∀ target, Steps p.tables e below (T'.setTop (mkF m 119 #[.val (.int p0), .val (.int p1), .val (.int (p0 &&& (7 : Int32))), .val (.int v2), .val (.int (p1 &&& (7 : Int32))), .val (.int v4), .val (.ref b5_b), .val (.ref b10_b), .val (.ref b15), .val (.int v52)] [(.int v60)])) target → Steps p.tables e below (T50.setTop (mkF m 99 #[.val (.int p0), .val (.int p1), .val (.int (p0 &&& (7 : Int32))), .val (.int v2), .val (.int (p1 &&& (7 : Int32))), .val (.int v4), .val (.ref b5_b), .val (.ref b10_b), .val (.ref b15), .val (.int v52)] [(.int v52)])) target := by
    by_cases hc54 : v52 = (0 : Int32)
    · refine ⟨T50, _, X50, N50, e50, fun target kt => ?_⟩
      show Steps p.tables e below (T50.setTop (mkF m 99 #[.val (.int p0), .val (.int p1), .val (.int (p0 &&& (7 : Int32))), .val (.int v2), .val (.int (p1 &&& (7 : Int32))), .val (.int v4), .val (.ref b5_b), .val (.ref b10_b), .val (.ref b15), .val (.int v52)] [(.int v52)])) _
      refine XS.ifYes X50.here hx rfl (pc0 := 99) (pc' := 118) rfl (hb hby at_99) rfl ((if0 _ _).trans (teq hc54).1) (by decide) (by decide) ?_
      show Steps p.tables e below (T50.setTop (mkF m 118 #[.val (.int p0), .val (.int p1), .val (.int (p0 &&& (7 : Int32))), .val (.int v2), .val (.int (p1 &&& (7 : Int32))), .val (.int v4), .val (.ref b5_b), .val (.ref b10_b), .val (.ref b15), .val (.int v52)] [])) _
      refine XS.iconst X50.here hx rfl (hb hby at_118) ?_
      exact castTop (by rw [hv60, if_pos hc54] <;> rfl) kt
    · have hp55 : own_in (0 : Int32) 3 := (by decide)
      have hp56 : own_in (0 : Int32) 3 := (by decide)
      obtain ⟨_, _, ⟨T57, L57, k57, n57⟩, -, X57, ⟨Lc57, hQ57, l57, y57, z57⟩, st57⟩ := Jvm.LawKit.callS X50 hx (y := (⟨"com/example/uneven_ticks/uneventicks/core/RunStateAdvancePinLaw", "check", "(Lcom/example/uneven_ticks/uneventicks/core/RunState;III)Z"⟩ : MethodName)) hown (mvT hZ (hw _ (List.mem_of_getElem? (i := 32) rfl))) (mvT hZ (hw _ (List.mem_of_getElem? (i := 33) rfl))) (mvT hZ (hw _ (List.mem_of_getElem? (i := 2) rfl))) (mvT hZ (hw _ (List.mem_of_getElem? (i := 34) rfl))) (by decide) (backOf (W := 0) (rm6 l Z A0 hw [] b15 (0 : Int32) (p0 &&& (7 : Int32)) (p1 &&& (7 : Int32)) b17_b2 b17_b6 (((0 : Int64) + (1 : Int64)) + (1 : Int64)) 3 (own_t f12 z14 f35 0) 3 f48 T41.heap n0 (Nat.le_trans Z0 K41.1) P42 P43 P44 P45 P46 P49 hp55 hp56) hZ (hw _ (List.mem_of_getElem? (i := 34) rfl)) (hw _ (List.mem_of_getElem? (i := 2) rfl)) (by decide) (by decide)) (g := (mkF m 108 #[.val (.int p0), .val (.int p1), .val (.int (p0 &&& (7 : Int32))), .val (.int v2), .val (.int (p1 &&& (7 : Int32))), .val (.int v4), .val (.ref b5_b), .val (.ref b10_b), .val (.ref b15), .val (.int v52)] [(.int (p1 &&& (7 : Int32))), (.int (p0 &&& (7 : Int32))), (.int (0 : Int32)), (.ref b15)])) rfl (by rw [hml]; rfl) (argsL := [(.ref b15), (.int (0 : Int32)), (.int (p0 &&& (7 : Int32))), (.int (p1 &&& (7 : Int32)))]) (rest := []) (lenOf pd_5 rfl) rfl (by show 2 * 0 + _ ≤ _; exact Nat.le_of_eq rfl) (hb hby at_108) (fun _ _ => ⟨rfl, e50, (by decide : 5 + 0 ≤ _), (by decide : 15 + 0 ≤ _)⟩)
      dsimp only [Pt.U, Pt.locs, Pt.cells, Pt.slots] at X57 l57 y57 z57 st57 hQ57
      subst l57 y57 z57
      obtain ⟨rfl, N57q, e57⟩ := hQ57
      have N57 := Fr.app N50 N57q
      obtain ⟨v59, hv59⟩ : ∃ z : Int32, z = if (own_chk (0 : Int32) (p0 &&& (7 : Int32)) (p1 &&& (7 : Int32)) (own_t f12 z14 f35 0) f48) = (0 : Int32) then (0 : Int32) else (1 : Int32) := ⟨_, rfl⟩
      refine ⟨T57, _, X57, N57, e57, fun target kt => ?_⟩
      show Steps p.tables e below (T50.setTop (mkF m 99 #[.val (.int p0), .val (.int p1), .val (.int (p0 &&& (7 : Int32))), .val (.int v2), .val (.int (p1 &&& (7 : Int32))), .val (.int v4), .val (.ref b5_b), .val (.ref b10_b), .val (.ref b15), .val (.int v52)] [(.int v52)])) _
      refine XS.ifNo X50.here hx rfl (hb hby at_99) rfl ((if0 _ _).trans (feq hc54).1) ?_
      show Steps p.tables e below (T50.setTop (mkF m 102 #[.val (.int p0), .val (.int p1), .val (.int (p0 &&& (7 : Int32))), .val (.int v2), .val (.int (p1 &&& (7 : Int32))), .val (.int v4), .val (.ref b5_b), .val (.ref b10_b), .val (.ref b15), .val (.int v52)] [])) _
      refine XS.aload X50.here hx rfl (hb hby at_102) rfl rfl ?_
      show Steps p.tables e below (T50.setTop (mkF m 104 #[.val (.int p0), .val (.int p1), .val (.int (p0 &&& (7 : Int32))), .val (.int v2), .val (.int (p1 &&& (7 : Int32))), .val (.int v4), .val (.ref b5_b), .val (.ref b10_b), .val (.ref b15), .val (.int v52)] [(.ref b15)])) _
      refine XS.iconst X50.here hx rfl (hb hby at_104) ?_
      show Steps p.tables e below (T50.setTop (mkF m 105 #[.val (.int p0), .val (.int p1), .val (.int (p0 &&& (7 : Int32))), .val (.int v2), .val (.int (p1 &&& (7 : Int32))), .val (.int v4), .val (.ref b5_b), .val (.ref b10_b), .val (.ref b15), .val (.int v52)] [(.int (0 : Int32)), (.ref b15)])) _
      refine XS.iloadN X50.here hx rfl (hb hby at_105) rfl ?_
      show Steps p.tables e below (T50.setTop (mkF m 106 #[.val (.int p0), .val (.int p1), .val (.int (p0 &&& (7 : Int32))), .val (.int v2), .val (.int (p1 &&& (7 : Int32))), .val (.int v4), .val (.ref b5_b), .val (.ref b10_b), .val (.ref b15), .val (.int v52)] [(.int (p0 &&& (7 : Int32))), (.int (0 : Int32)), (.ref b15)])) _
      refine XS.iload X50.here hx rfl (hb hby at_106) rfl ?_
      show Steps p.tables e below (T50.setTop (mkF m 108 #[.val (.int p0), .val (.int p1), .val (.int (p0 &&& (7 : Int32))), .val (.int v2), .val (.int (p1 &&& (7 : Int32))), .val (.int v4), .val (.ref b5_b), .val (.ref b10_b), .val (.ref b15), .val (.int v52)] [(.int (p1 &&& (7 : Int32))), (.int (p0 &&& (7 : Int32))), (.int (0 : Int32)), (.ref b15)])) _
      refine st57 _ ?_
      show Steps p.tables e below (T57.setTop (mkF m 111 #[.val (.int p0), .val (.int p1), .val (.int (p0 &&& (7 : Int32))), .val (.int v2), .val (.int (p1 &&& (7 : Int32))), .val (.int v4), .val (.ref b5_b), .val (.ref b10_b), .val (.ref b15), .val (.int v52)] [(.int (own_chk (0 : Int32) (p0 &&& (7 : Int32)) (p1 &&& (7 : Int32)) (own_t f12 z14 f35 0) f48))])) _
      refine own_dia (F := (mkF m 119 #[.val (.int p0), .val (.int p1), .val (.int (p0 &&& (7 : Int32))), .val (.int v2), .val (.int (p1 &&& (7 : Int32))), .val (.int v4), .val (.ref b5_b), .val (.ref b10_b), .val (.ref b15), .val (.int v52)] [(.int v59)])) ?_ ?_
      · intro kt
        by_cases hc58 : (own_chk (0 : Int32) (p0 &&& (7 : Int32)) (p1 &&& (7 : Int32)) (own_t f12 z14 f35 0) f48) = (0 : Int32)
        · show Steps p.tables e below (T57.setTop (mkF m 111 #[.val (.int p0), .val (.int p1), .val (.int (p0 &&& (7 : Int32))), .val (.int v2), .val (.int (p1 &&& (7 : Int32))), .val (.int v4), .val (.ref b5_b), .val (.ref b10_b), .val (.ref b15), .val (.int v52)] [(.int (own_chk (0 : Int32) (p0 &&& (7 : Int32)) (p1 &&& (7 : Int32)) (own_t f12 z14 f35 0) f48))])) _
          refine XS.ifYes X57.here hx rfl (pc0 := 111) (pc' := 118) rfl (hb hby at_111) rfl ((if0 _ _).trans (teq hc58).1) (by decide) (by decide) ?_
          show Steps p.tables e below (T57.setTop (mkF m 118 #[.val (.int p0), .val (.int p1), .val (.int (p0 &&& (7 : Int32))), .val (.int v2), .val (.int (p1 &&& (7 : Int32))), .val (.int v4), .val (.ref b5_b), .val (.ref b10_b), .val (.ref b15), .val (.int v52)] [])) _
          refine XS.iconst X57.here hx rfl (hb hby at_118) ?_
          exact castTop (by rw [hv59, if_pos hc58] <;> rfl) kt
        · show Steps p.tables e below (T57.setTop (mkF m 111 #[.val (.int p0), .val (.int p1), .val (.int (p0 &&& (7 : Int32))), .val (.int v2), .val (.int (p1 &&& (7 : Int32))), .val (.int v4), .val (.ref b5_b), .val (.ref b10_b), .val (.ref b15), .val (.int v52)] [(.int (own_chk (0 : Int32) (p0 &&& (7 : Int32)) (p1 &&& (7 : Int32)) (own_t f12 z14 f35 0) f48))])) _
          refine XS.ifNo X57.here hx rfl (hb hby at_111) rfl ((if0 _ _).trans (feq hc58).1) ?_
          show Steps p.tables e below (T57.setTop (mkF m 114 #[.val (.int p0), .val (.int p1), .val (.int (p0 &&& (7 : Int32))), .val (.int v2), .val (.int (p1 &&& (7 : Int32))), .val (.int v4), .val (.ref b5_b), .val (.ref b10_b), .val (.ref b15), .val (.int v52)] [])) _
          refine XS.iconst X57.here hx rfl (hb hby at_114) ?_
          show Steps p.tables e below (T57.setTop (mkF m 115 #[.val (.int p0), .val (.int p1), .val (.int (p0 &&& (7 : Int32))), .val (.int v2), .val (.int (p1 &&& (7 : Int32))), .val (.int v4), .val (.ref b5_b), .val (.ref b10_b), .val (.ref b15), .val (.int v52)] [(.int (1 : Int32))])) _
          refine XS.goto X57.here hx rfl (pc0 := 115) (pc' := 119) rfl (hb hby at_115) (by decide) (by decide) ?_
          exact castTop (by rw [hv59, if_neg hc58] <;> rfl) kt
      exact castTop (by subst hv59; rw [hv60, if_neg hc54] <;> rfl) kt
  obtain ⟨v69, hv69⟩ : ∃ z : Int32, z = if v60 = (0 : Int32) then (0 : Int32) else (if (own_chk (1 : Int32) (p0 &&& (7 : Int32)) (p1 &&& (7 : Int32)) (own_t f12 z14 f35 0) f48) = (0 : Int32) then (0 : Int32) else (1 : Int32)) := ⟨_, rfl⟩
  obtain ⟨T70, L70, X70, N70, e70, st70⟩ : ∃ (T' : State) (L' : List Loc), Stand p l e room_1 s m #[(.int p0), (.int p1)] below meth c T' L' 5 15 ∧ Fr n0 L' ∧ T'.heap = T41.heap ∧ ∀ target, Steps p.tables e below (T'.setTop (mkF m 143 #[.val (.int p0), .val (.int p1), .val (.int (p0 &&& (7 : Int32))), .val (.int v2), .val (.int (p1 &&& (7 : Int32))), .val (.int v4), .val (.ref b5_b), .val (.ref b10_b), .val (.ref b15), .val (.int v60)] [(.int v69)])) target → Steps p.tables e below (T61.setTop (mkF m 123 #[.val (.int p0), .val (.int p1), .val (.int (p0 &&& (7 : Int32))), .val (.int v2), .val (.int (p1 &&& (7 : Int32))), .val (.int v4), .val (.ref b5_b), .val (.ref b10_b), .val (.ref b15), .val (.int v60)] [(.int v60)])) target := by
    by_cases hc63 : v60 = (0 : Int32)
    · refine ⟨T61, _, X61, N61, e61, fun target kt => ?_⟩
      show Steps p.tables e below (T61.setTop (mkF m 123 #[.val (.int p0), .val (.int p1), .val (.int (p0 &&& (7 : Int32))), .val (.int v2), .val (.int (p1 &&& (7 : Int32))), .val (.int v4), .val (.ref b5_b), .val (.ref b10_b), .val (.ref b15), .val (.int v60)] [(.int v60)])) _
      refine XS.ifYes X61.here hx rfl (pc0 := 123) (pc' := 142) rfl (hb hby at_123) rfl ((if0 _ _).trans (teq hc63).1) (by decide) (by decide) ?_
      show Steps p.tables e below (T61.setTop (mkF m 142 #[.val (.int p0), .val (.int p1), .val (.int (p0 &&& (7 : Int32))), .val (.int v2), .val (.int (p1 &&& (7 : Int32))), .val (.int v4), .val (.ref b5_b), .val (.ref b10_b), .val (.ref b15), .val (.int v60)] [])) _
      refine XS.iconst X61.here hx rfl (hb hby at_142) ?_
      exact castTop (by rw [hv69, if_pos hc63] <;> rfl) kt
    · have hp64 : own_in (1 : Int32) 3 := (by decide)
      have hp65 : own_in (1 : Int32) 3 := (by decide)
      obtain ⟨_, _, ⟨T66, L66, k66, n66⟩, -, X66, ⟨Lc66, hQ66, l66, y66, z66⟩, st66⟩ := Jvm.LawKit.callS X61 hx (y := (⟨"com/example/uneven_ticks/uneventicks/core/RunStateAdvancePinLaw", "check", "(Lcom/example/uneven_ticks/uneventicks/core/RunState;III)Z"⟩ : MethodName)) hown (mvT hZ (hw _ (List.mem_of_getElem? (i := 32) rfl))) (mvT hZ (hw _ (List.mem_of_getElem? (i := 33) rfl))) (mvT hZ (hw _ (List.mem_of_getElem? (i := 2) rfl))) (mvT hZ (hw _ (List.mem_of_getElem? (i := 34) rfl))) (by decide) (backOf (W := 0) (rm6 l Z A0 hw [] b15 (1 : Int32) (p0 &&& (7 : Int32)) (p1 &&& (7 : Int32)) b17_b2 b17_b6 (((0 : Int64) + (1 : Int64)) + (1 : Int64)) 3 (own_t f12 z14 f35 0) 3 f48 T41.heap n0 (Nat.le_trans Z0 K41.1) P42 P43 P44 P45 P46 P49 hp64 hp65) hZ (hw _ (List.mem_of_getElem? (i := 34) rfl)) (hw _ (List.mem_of_getElem? (i := 2) rfl)) (by decide) (by decide)) (g := (mkF m 132 #[.val (.int p0), .val (.int p1), .val (.int (p0 &&& (7 : Int32))), .val (.int v2), .val (.int (p1 &&& (7 : Int32))), .val (.int v4), .val (.ref b5_b), .val (.ref b10_b), .val (.ref b15), .val (.int v60)] [(.int (p1 &&& (7 : Int32))), (.int (p0 &&& (7 : Int32))), (.int (1 : Int32)), (.ref b15)])) rfl (by rw [hml]; rfl) (argsL := [(.ref b15), (.int (1 : Int32)), (.int (p0 &&& (7 : Int32))), (.int (p1 &&& (7 : Int32)))]) (rest := []) (lenOf pd_5 rfl) rfl (by show 2 * 0 + _ ≤ _; exact Nat.le_of_eq rfl) (hb hby at_132) (fun _ _ => ⟨rfl, e61, (by decide : 5 + 0 ≤ _), (by decide : 15 + 0 ≤ _)⟩)
      dsimp only [Pt.U, Pt.locs, Pt.cells, Pt.slots] at X66 l66 y66 z66 st66 hQ66
      subst l66 y66 z66
      obtain ⟨rfl, N66q, e66⟩ := hQ66
      have N66 := Fr.app N61 N66q
      obtain ⟨v68, hv68⟩ : ∃ z : Int32, z = if (own_chk (1 : Int32) (p0 &&& (7 : Int32)) (p1 &&& (7 : Int32)) (own_t f12 z14 f35 0) f48) = (0 : Int32) then (0 : Int32) else (1 : Int32) := ⟨_, rfl⟩
      refine ⟨T66, _, X66, N66, e66, fun target kt => ?_⟩
      show Steps p.tables e below (T61.setTop (mkF m 123 #[.val (.int p0), .val (.int p1), .val (.int (p0 &&& (7 : Int32))), .val (.int v2), .val (.int (p1 &&& (7 : Int32))), .val (.int v4), .val (.ref b5_b), .val (.ref b10_b), .val (.ref b15), .val (.int v60)] [(.int v60)])) _
      refine XS.ifNo X61.here hx rfl (hb hby at_123) rfl ((if0 _ _).trans (feq hc63).1) ?_
      show Steps p.tables e below (T61.setTop (mkF m 126 #[.val (.int p0), .val (.int p1), .val (.int (p0 &&& (7 : Int32))), .val (.int v2), .val (.int (p1 &&& (7 : Int32))), .val (.int v4), .val (.ref b5_b), .val (.ref b10_b), .val (.ref b15), .val (.int v60)] [])) _
      refine XS.aload X61.here hx rfl (hb hby at_126) rfl rfl ?_
      show Steps p.tables e below (T61.setTop (mkF m 128 #[.val (.int p0), .val (.int p1), .val (.int (p0 &&& (7 : Int32))), .val (.int v2), .val (.int (p1 &&& (7 : Int32))), .val (.int v4), .val (.ref b5_b), .val (.ref b10_b), .val (.ref b15), .val (.int v60)] [(.ref b15)])) _
      refine XS.iconst X61.here hx rfl (hb hby at_128) ?_
      show Steps p.tables e below (T61.setTop (mkF m 129 #[.val (.int p0), .val (.int p1), .val (.int (p0 &&& (7 : Int32))), .val (.int v2), .val (.int (p1 &&& (7 : Int32))), .val (.int v4), .val (.ref b5_b), .val (.ref b10_b), .val (.ref b15), .val (.int v60)] [(.int (1 : Int32)), (.ref b15)])) _
      refine XS.iloadN X61.here hx rfl (hb hby at_129) rfl ?_
      show Steps p.tables e below (T61.setTop (mkF m 130 #[.val (.int p0), .val (.int p1), .val (.int (p0 &&& (7 : Int32))), .val (.int v2), .val (.int (p1 &&& (7 : Int32))), .val (.int v4), .val (.ref b5_b), .val (.ref b10_b), .val (.ref b15), .val (.int v60)] [(.int (p0 &&& (7 : Int32))), (.int (1 : Int32)), (.ref b15)])) _
      refine XS.iload X61.here hx rfl (hb hby at_130) rfl ?_
      show Steps p.tables e below (T61.setTop (mkF m 132 #[.val (.int p0), .val (.int p1), .val (.int (p0 &&& (7 : Int32))), .val (.int v2), .val (.int (p1 &&& (7 : Int32))), .val (.int v4), .val (.ref b5_b), .val (.ref b10_b), .val (.ref b15), .val (.int v60)] [(.int (p1 &&& (7 : Int32))), (.int (p0 &&& (7 : Int32))), (.int (1 : Int32)), (.ref b15)])) _
      refine st66 _ ?_
      show Steps p.tables e below (T66.setTop (mkF m 135 #[.val (.int p0), .val (.int p1), .val (.int (p0 &&& (7 : Int32))), .val (.int v2), .val (.int (p1 &&& (7 : Int32))), .val (.int v4), .val (.ref b5_b), .val (.ref b10_b), .val (.ref b15), .val (.int v60)] [(.int (own_chk (1 : Int32) (p0 &&& (7 : Int32)) (p1 &&& (7 : Int32)) (own_t f12 z14 f35 0) f48))])) _
      refine own_dia (F := (mkF m 143 #[.val (.int p0), .val (.int p1), .val (.int (p0 &&& (7 : Int32))), .val (.int v2), .val (.int (p1 &&& (7 : Int32))), .val (.int v4), .val (.ref b5_b), .val (.ref b10_b), .val (.ref b15), .val (.int v60)] [(.int v68)])) ?_ ?_
      · intro kt
        by_cases hc67 : (own_chk (1 : Int32) (p0 &&& (7 : Int32)) (p1 &&& (7 : Int32)) (own_t f12 z14 f35 0) f48) = (0 : Int32)
        · show Steps p.tables e below (T66.setTop (mkF m 135 #[.val (.int p0), .val (.int p1), .val (.int (p0 &&& (7 : Int32))), .val (.int v2), .val (.int (p1 &&& (7 : Int32))), .val (.int v4), .val (.ref b5_b), .val (.ref b10_b), .val (.ref b15), .val (.int v60)] [(.int (own_chk (1 : Int32) (p0 &&& (7 : Int32)) (p1 &&& (7 : Int32)) (own_t f12 z14 f35 0) f48))])) _
          refine XS.ifYes X66.here hx rfl (pc0 := 135) (pc' := 142) rfl (hb hby at_135) rfl ((if0 _ _).trans (teq hc67).1) (by decide) (by decide) ?_
          show Steps p.tables e below (T66.setTop (mkF m 142 #[.val (.int p0), .val (.int p1), .val (.int (p0 &&& (7 : Int32))), .val (.int v2), .val (.int (p1 &&& (7 : Int32))), .val (.int v4), .val (.ref b5_b), .val (.ref b10_b), .val (.ref b15), .val (.int v60)] [])) _
          refine XS.iconst X66.here hx rfl (hb hby at_142) ?_
          exact castTop (by rw [hv68, if_pos hc67] <;> rfl) kt
        · show Steps p.tables e below (T66.setTop (mkF m 135 #[.val (.int p0), .val (.int p1), .val (.int (p0 &&& (7 : Int32))), .val (.int v2), .val (.int (p1 &&& (7 : Int32))), .val (.int v4), .val (.ref b5_b), .val (.ref b10_b), .val (.ref b15), .val (.int v60)] [(.int (own_chk (1 : Int32) (p0 &&& (7 : Int32)) (p1 &&& (7 : Int32)) (own_t f12 z14 f35 0) f48))])) _
          refine XS.ifNo X66.here hx rfl (hb hby at_135) rfl ((if0 _ _).trans (feq hc67).1) ?_
          show Steps p.tables e below (T66.setTop (mkF m 138 #[.val (.int p0), .val (.int p1), .val (.int (p0 &&& (7 : Int32))), .val (.int v2), .val (.int (p1 &&& (7 : Int32))), .val (.int v4), .val (.ref b5_b), .val (.ref b10_b), .val (.ref b15), .val (.int v60)] [])) _
          refine XS.iconst X66.here hx rfl (hb hby at_138) ?_
          show Steps p.tables e below (T66.setTop (mkF m 139 #[.val (.int p0), .val (.int p1), .val (.int (p0 &&& (7 : Int32))), .val (.int v2), .val (.int (p1 &&& (7 : Int32))), .val (.int v4), .val (.ref b5_b), .val (.ref b10_b), .val (.ref b15), .val (.int v60)] [(.int (1 : Int32))])) _
          refine XS.goto X66.here hx rfl (pc0 := 139) (pc' := 143) rfl (hb hby at_139) (by decide) (by decide) ?_
          exact castTop (by rw [hv68, if_neg hc67] <;> rfl) kt
      exact castTop (by subst hv68; rw [hv69, if_neg hc63] <;> rfl) kt
  obtain ⟨v78, hv78⟩ : ∃ z : Int32, z = if v69 = (0 : Int32) then (0 : Int32) else (if (own_chk (2 : Int32) (p0 &&& (7 : Int32)) (p1 &&& (7 : Int32)) (own_t f12 z14 f35 0) f48) = (0 : Int32) then (0 : Int32) else (1 : Int32)) := ⟨_, rfl⟩
  obtain ⟨T79, L79, X79, N79, e79, st79⟩ : ∃ (T' : State) (L' : List Loc), Stand p l e room_1 s m #[(.int p0), (.int p1)] below meth c T' L' 5 15 ∧ Fr n0 L' ∧ T'.heap = T41.heap ∧ ∀ target, Steps p.tables e below (T'.setTop (mkF m 167 #[.val (.int p0), .val (.int p1), .val (.int (p0 &&& (7 : Int32))), .val (.int v2), .val (.int (p1 &&& (7 : Int32))), .val (.int v4), .val (.ref b5_b), .val (.ref b10_b), .val (.ref b15), .val (.int v69)] [(.int v78)])) target → Steps p.tables e below (T70.setTop (mkF m 147 #[.val (.int p0), .val (.int p1), .val (.int (p0 &&& (7 : Int32))), .val (.int v2), .val (.int (p1 &&& (7 : Int32))), .val (.int v4), .val (.ref b5_b), .val (.ref b10_b), .val (.ref b15), .val (.int v69)] [(.int v69)])) target := by
    by_cases hc72 : v69 = (0 : Int32)
    · refine ⟨T70, _, X70, N70, e70, fun target kt => ?_⟩
      show Steps p.tables e below (T70.setTop (mkF m 147 #[.val (.int p0), .val (.int p1), .val (.int (p0 &&& (7 : Int32))), .val (.int v2), .val (.int (p1 &&& (7 : Int32))), .val (.int v4), .val (.ref b5_b), .val (.ref b10_b), .val (.ref b15), .val (.int v69)] [(.int v69)])) _
      refine XS.ifYes X70.here hx rfl (pc0 := 147) (pc' := 166) rfl (hb hby at_147) rfl ((if0 _ _).trans (teq hc72).1) (by decide) (by decide) ?_
      show Steps p.tables e below (T70.setTop (mkF m 166 #[.val (.int p0), .val (.int p1), .val (.int (p0 &&& (7 : Int32))), .val (.int v2), .val (.int (p1 &&& (7 : Int32))), .val (.int v4), .val (.ref b5_b), .val (.ref b10_b), .val (.ref b15), .val (.int v69)] [])) _
      refine XS.iconst X70.here hx rfl (hb hby at_166) ?_
      exact castTop (by rw [hv78, if_pos hc72] <;> rfl) kt
    · have hp73 : own_in (2 : Int32) 3 := (by decide)
      have hp74 : own_in (2 : Int32) 3 := (by decide)
      obtain ⟨_, _, ⟨T75, L75, k75, n75⟩, -, X75, ⟨Lc75, hQ75, l75, y75, z75⟩, st75⟩ := Jvm.LawKit.callS X70 hx (y := (⟨"com/example/uneven_ticks/uneventicks/core/RunStateAdvancePinLaw", "check", "(Lcom/example/uneven_ticks/uneventicks/core/RunState;III)Z"⟩ : MethodName)) hown (mvT hZ (hw _ (List.mem_of_getElem? (i := 32) rfl))) (mvT hZ (hw _ (List.mem_of_getElem? (i := 33) rfl))) (mvT hZ (hw _ (List.mem_of_getElem? (i := 2) rfl))) (mvT hZ (hw _ (List.mem_of_getElem? (i := 34) rfl))) (by decide) (backOf (W := 0) (rm6 l Z A0 hw [] b15 (2 : Int32) (p0 &&& (7 : Int32)) (p1 &&& (7 : Int32)) b17_b2 b17_b6 (((0 : Int64) + (1 : Int64)) + (1 : Int64)) 3 (own_t f12 z14 f35 0) 3 f48 T41.heap n0 (Nat.le_trans Z0 K41.1) P42 P43 P44 P45 P46 P49 hp73 hp74) hZ (hw _ (List.mem_of_getElem? (i := 34) rfl)) (hw _ (List.mem_of_getElem? (i := 2) rfl)) (by decide) (by decide)) (g := (mkF m 156 #[.val (.int p0), .val (.int p1), .val (.int (p0 &&& (7 : Int32))), .val (.int v2), .val (.int (p1 &&& (7 : Int32))), .val (.int v4), .val (.ref b5_b), .val (.ref b10_b), .val (.ref b15), .val (.int v69)] [(.int (p1 &&& (7 : Int32))), (.int (p0 &&& (7 : Int32))), (.int (2 : Int32)), (.ref b15)])) rfl (by rw [hml]; rfl) (argsL := [(.ref b15), (.int (2 : Int32)), (.int (p0 &&& (7 : Int32))), (.int (p1 &&& (7 : Int32)))]) (rest := []) (lenOf pd_5 rfl) rfl (by show 2 * 0 + _ ≤ _; exact Nat.le_of_eq rfl) (hb hby at_156) (fun _ _ => ⟨rfl, e70, (by decide : 5 + 0 ≤ _), (by decide : 15 + 0 ≤ _)⟩)
      dsimp only [Pt.U, Pt.locs, Pt.cells, Pt.slots] at X75 l75 y75 z75 st75 hQ75
      subst l75 y75 z75
      obtain ⟨rfl, N75q, e75⟩ := hQ75
      have N75 := Fr.app N70 N75q
      obtain ⟨v77, hv77⟩ : ∃ z : Int32, z = if (own_chk (2 : Int32) (p0 &&& (7 : Int32)) (p1 &&& (7 : Int32)) (own_t f12 z14 f35 0) f48) = (0 : Int32) then (0 : Int32) else (1 : Int32) := ⟨_, rfl⟩
      refine ⟨T75, _, X75, N75, e75, fun target kt => ?_⟩
      show Steps p.tables e below (T70.setTop (mkF m 147 #[.val (.int p0), .val (.int p1), .val (.int (p0 &&& (7 : Int32))), .val (.int v2), .val (.int (p1 &&& (7 : Int32))), .val (.int v4), .val (.ref b5_b), .val (.ref b10_b), .val (.ref b15), .val (.int v69)] [(.int v69)])) _
      refine XS.ifNo X70.here hx rfl (hb hby at_147) rfl ((if0 _ _).trans (feq hc72).1) ?_
      show Steps p.tables e below (T70.setTop (mkF m 150 #[.val (.int p0), .val (.int p1), .val (.int (p0 &&& (7 : Int32))), .val (.int v2), .val (.int (p1 &&& (7 : Int32))), .val (.int v4), .val (.ref b5_b), .val (.ref b10_b), .val (.ref b15), .val (.int v69)] [])) _
      refine XS.aload X70.here hx rfl (hb hby at_150) rfl rfl ?_
      show Steps p.tables e below (T70.setTop (mkF m 152 #[.val (.int p0), .val (.int p1), .val (.int (p0 &&& (7 : Int32))), .val (.int v2), .val (.int (p1 &&& (7 : Int32))), .val (.int v4), .val (.ref b5_b), .val (.ref b10_b), .val (.ref b15), .val (.int v69)] [(.ref b15)])) _
      refine XS.iconst X70.here hx rfl (hb hby at_152) ?_
      show Steps p.tables e below (T70.setTop (mkF m 153 #[.val (.int p0), .val (.int p1), .val (.int (p0 &&& (7 : Int32))), .val (.int v2), .val (.int (p1 &&& (7 : Int32))), .val (.int v4), .val (.ref b5_b), .val (.ref b10_b), .val (.ref b15), .val (.int v69)] [(.int (2 : Int32)), (.ref b15)])) _
      refine XS.iloadN X70.here hx rfl (hb hby at_153) rfl ?_
      show Steps p.tables e below (T70.setTop (mkF m 154 #[.val (.int p0), .val (.int p1), .val (.int (p0 &&& (7 : Int32))), .val (.int v2), .val (.int (p1 &&& (7 : Int32))), .val (.int v4), .val (.ref b5_b), .val (.ref b10_b), .val (.ref b15), .val (.int v69)] [(.int (p0 &&& (7 : Int32))), (.int (2 : Int32)), (.ref b15)])) _
      refine XS.iload X70.here hx rfl (hb hby at_154) rfl ?_
      show Steps p.tables e below (T70.setTop (mkF m 156 #[.val (.int p0), .val (.int p1), .val (.int (p0 &&& (7 : Int32))), .val (.int v2), .val (.int (p1 &&& (7 : Int32))), .val (.int v4), .val (.ref b5_b), .val (.ref b10_b), .val (.ref b15), .val (.int v69)] [(.int (p1 &&& (7 : Int32))), (.int (p0 &&& (7 : Int32))), (.int (2 : Int32)), (.ref b15)])) _
      refine st75 _ ?_
      show Steps p.tables e below (T75.setTop (mkF m 159 #[.val (.int p0), .val (.int p1), .val (.int (p0 &&& (7 : Int32))), .val (.int v2), .val (.int (p1 &&& (7 : Int32))), .val (.int v4), .val (.ref b5_b), .val (.ref b10_b), .val (.ref b15), .val (.int v69)] [(.int (own_chk (2 : Int32) (p0 &&& (7 : Int32)) (p1 &&& (7 : Int32)) (own_t f12 z14 f35 0) f48))])) _
      refine own_dia (F := (mkF m 167 #[.val (.int p0), .val (.int p1), .val (.int (p0 &&& (7 : Int32))), .val (.int v2), .val (.int (p1 &&& (7 : Int32))), .val (.int v4), .val (.ref b5_b), .val (.ref b10_b), .val (.ref b15), .val (.int v69)] [(.int v77)])) ?_ ?_
      · intro kt
        by_cases hc76 : (own_chk (2 : Int32) (p0 &&& (7 : Int32)) (p1 &&& (7 : Int32)) (own_t f12 z14 f35 0) f48) = (0 : Int32)
        · show Steps p.tables e below (T75.setTop (mkF m 159 #[.val (.int p0), .val (.int p1), .val (.int (p0 &&& (7 : Int32))), .val (.int v2), .val (.int (p1 &&& (7 : Int32))), .val (.int v4), .val (.ref b5_b), .val (.ref b10_b), .val (.ref b15), .val (.int v69)] [(.int (own_chk (2 : Int32) (p0 &&& (7 : Int32)) (p1 &&& (7 : Int32)) (own_t f12 z14 f35 0) f48))])) _
          refine XS.ifYes X75.here hx rfl (pc0 := 159) (pc' := 166) rfl (hb hby at_159) rfl ((if0 _ _).trans (teq hc76).1) (by decide) (by decide) ?_
          show Steps p.tables e below (T75.setTop (mkF m 166 #[.val (.int p0), .val (.int p1), .val (.int (p0 &&& (7 : Int32))), .val (.int v2), .val (.int (p1 &&& (7 : Int32))), .val (.int v4), .val (.ref b5_b), .val (.ref b10_b), .val (.ref b15), .val (.int v69)] [])) _
          refine XS.iconst X75.here hx rfl (hb hby at_166) ?_
          exact castTop (by rw [hv77, if_pos hc76] <;> rfl) kt
        · show Steps p.tables e below (T75.setTop (mkF m 159 #[.val (.int p0), .val (.int p1), .val (.int (p0 &&& (7 : Int32))), .val (.int v2), .val (.int (p1 &&& (7 : Int32))), .val (.int v4), .val (.ref b5_b), .val (.ref b10_b), .val (.ref b15), .val (.int v69)] [(.int (own_chk (2 : Int32) (p0 &&& (7 : Int32)) (p1 &&& (7 : Int32)) (own_t f12 z14 f35 0) f48))])) _
          refine XS.ifNo X75.here hx rfl (hb hby at_159) rfl ((if0 _ _).trans (feq hc76).1) ?_
          show Steps p.tables e below (T75.setTop (mkF m 162 #[.val (.int p0), .val (.int p1), .val (.int (p0 &&& (7 : Int32))), .val (.int v2), .val (.int (p1 &&& (7 : Int32))), .val (.int v4), .val (.ref b5_b), .val (.ref b10_b), .val (.ref b15), .val (.int v69)] [])) _
          refine XS.iconst X75.here hx rfl (hb hby at_162) ?_
          show Steps p.tables e below (T75.setTop (mkF m 163 #[.val (.int p0), .val (.int p1), .val (.int (p0 &&& (7 : Int32))), .val (.int v2), .val (.int (p1 &&& (7 : Int32))), .val (.int v4), .val (.ref b5_b), .val (.ref b10_b), .val (.ref b15), .val (.int v69)] [(.int (1 : Int32))])) _
          refine XS.goto X75.here hx rfl (pc0 := 163) (pc' := 167) rfl (hb hby at_163) (by decide) (by decide) ?_
          exact castTop (by rw [hv77, if_neg hc76] <;> rfl) kt
      exact castTop (by subst hv77; rw [hv78, if_neg hc72] <;> rfl) kt
  obtain ⟨fs, hr, hrun, hended, hW, hsame⟩ := X79.leave (v := some (.int (nar .boolean v78))) (fun h => by rw [Bd.returns] at h; cases h)
  refine ⟨_, _, pre0 _ ?_, hrun, hended, _, _, rfl, ?_, ⟨_, rfl⟩, hW, hsame.mono (by decide) (by decide)⟩
  · show Steps p.tables e below (s₁.setTop (mkF m 0 #[.val (.int p0), .val (.int p1), .unset, .unset, .unset, .unset, .unset, .unset, .unset, .unset] [])) _
    refine XS.iloadN X0.here hx rfl (hb hby at_0) rfl ?_
    show Steps p.tables e below (s₁.setTop (mkF m 1 #[.val (.int p0), .val (.int p1), .unset, .unset, .unset, .unset, .unset, .unset, .unset, .unset] [(.int p0)])) _
    refine XS.bipush X0.here hx rfl (hb hby at_1) ?_
    show Steps p.tables e below (s₁.setTop (mkF m 3 #[.val (.int p0), .val (.int p1), .unset, .unset, .unset, .unset, .unset, .unset, .unset, .unset] [(.int (7 : Int32)), (.int p0)])) _
    refine XS.iand X0.here hx rfl (hb hby at_3) rfl ?_
    show Steps p.tables e below (s₁.setTop (mkF m 4 #[.val (.int p0), .val (.int p1), .unset, .unset, .unset, .unset, .unset, .unset, .unset, .unset] [(.int (p0 &&& (7 : Int32)))])) _
    refine XS.istoreN X0.here hx rfl (hb hby at_4) rfl (l' := #[.val (.int p0), .val (.int p1), .val (.int (p0 &&& (7 : Int32))), .unset, .unset, .unset, .unset, .unset, .unset, .unset]) rfl ?_
    show Steps p.tables e below (s₁.setTop (mkF m 5 #[.val (.int p0), .val (.int p1), .val (.int (p0 &&& (7 : Int32))), .unset, .unset, .unset, .unset, .unset, .unset, .unset] [])) _
    refine XS.iloadN X0.here hx rfl (hb hby at_5) rfl ?_
    show Steps p.tables e below (s₁.setTop (mkF m 6 #[.val (.int p0), .val (.int p1), .val (.int (p0 &&& (7 : Int32))), .unset, .unset, .unset, .unset, .unset, .unset, .unset] [(.int p0)])) _
    refine XS.bipush X0.here hx rfl (hb hby at_6) ?_
    show Steps p.tables e below (s₁.setTop (mkF m 8 #[.val (.int p0), .val (.int p1), .val (.int (p0 &&& (7 : Int32))), .unset, .unset, .unset, .unset, .unset, .unset, .unset] [(.int (8 : Int32)), (.int p0)])) _
    refine XS.iand X0.here hx rfl (hb hby at_8) rfl ?_
    show Steps p.tables e below (s₁.setTop (mkF m 9 #[.val (.int p0), .val (.int p1), .val (.int (p0 &&& (7 : Int32))), .unset, .unset, .unset, .unset, .unset, .unset, .unset] [(.int (p0 &&& (8 : Int32)))])) _
    refine own_dia (F := (mkF m 17 #[.val (.int p0), .val (.int p1), .val (.int (p0 &&& (7 : Int32))), .unset, .unset, .unset, .unset, .unset, .unset, .unset] [(.int v2)])) ?_ ?_
    · intro kt
      by_cases hc1 : (p0 &&& (8 : Int32)) = (0 : Int32)
      · show Steps p.tables e below (s₁.setTop (mkF m 9 #[.val (.int p0), .val (.int p1), .val (.int (p0 &&& (7 : Int32))), .unset, .unset, .unset, .unset, .unset, .unset, .unset] [(.int (p0 &&& (8 : Int32)))])) _
        refine XS.ifYes X0.here hx rfl (pc0 := 9) (pc' := 16) rfl (hb hby at_9) rfl ((if0 _ _).trans (teq hc1).1) (by decide) (by decide) ?_
        show Steps p.tables e below (s₁.setTop (mkF m 16 #[.val (.int p0), .val (.int p1), .val (.int (p0 &&& (7 : Int32))), .unset, .unset, .unset, .unset, .unset, .unset, .unset] [])) _
        refine XS.iconst X0.here hx rfl (hb hby at_16) ?_
        exact castTop (by rw [hv2, if_pos hc1] <;> rfl) kt
      · show Steps p.tables e below (s₁.setTop (mkF m 9 #[.val (.int p0), .val (.int p1), .val (.int (p0 &&& (7 : Int32))), .unset, .unset, .unset, .unset, .unset, .unset, .unset] [(.int (p0 &&& (8 : Int32)))])) _
        refine XS.ifNo X0.here hx rfl (hb hby at_9) rfl ((if0 _ _).trans (feq hc1).1) ?_
        show Steps p.tables e below (s₁.setTop (mkF m 12 #[.val (.int p0), .val (.int p1), .val (.int (p0 &&& (7 : Int32))), .unset, .unset, .unset, .unset, .unset, .unset, .unset] [])) _
        refine XS.iconst X0.here hx rfl (hb hby at_12) ?_
        show Steps p.tables e below (s₁.setTop (mkF m 13 #[.val (.int p0), .val (.int p1), .val (.int (p0 &&& (7 : Int32))), .unset, .unset, .unset, .unset, .unset, .unset, .unset] [(.int (1 : Int32))])) _
        refine XS.goto X0.here hx rfl (pc0 := 13) (pc' := 17) rfl (hb hby at_13) (by decide) (by decide) ?_
        exact castTop (by rw [hv2, if_neg hc1] <;> rfl) kt
    show Steps p.tables e below (s₁.setTop (mkF m 17 #[.val (.int p0), .val (.int p1), .val (.int (p0 &&& (7 : Int32))), .unset, .unset, .unset, .unset, .unset, .unset, .unset] [(.int v2)])) _
    refine XS.istoreN X0.here hx rfl (hb hby at_17) rfl (l' := #[.val (.int p0), .val (.int p1), .val (.int (p0 &&& (7 : Int32))), .val (.int v2), .unset, .unset, .unset, .unset, .unset, .unset]) rfl ?_
    show Steps p.tables e below (s₁.setTop (mkF m 18 #[.val (.int p0), .val (.int p1), .val (.int (p0 &&& (7 : Int32))), .val (.int v2), .unset, .unset, .unset, .unset, .unset, .unset] [])) _
    refine XS.iloadN X0.here hx rfl (hb hby at_18) rfl ?_
    show Steps p.tables e below (s₁.setTop (mkF m 19 #[.val (.int p0), .val (.int p1), .val (.int (p0 &&& (7 : Int32))), .val (.int v2), .unset, .unset, .unset, .unset, .unset, .unset] [(.int p1)])) _
    refine XS.bipush X0.here hx rfl (hb hby at_19) ?_
    show Steps p.tables e below (s₁.setTop (mkF m 21 #[.val (.int p0), .val (.int p1), .val (.int (p0 &&& (7 : Int32))), .val (.int v2), .unset, .unset, .unset, .unset, .unset, .unset] [(.int (7 : Int32)), (.int p1)])) _
    refine XS.iand X0.here hx rfl (hb hby at_21) rfl ?_
    show Steps p.tables e below (s₁.setTop (mkF m 22 #[.val (.int p0), .val (.int p1), .val (.int (p0 &&& (7 : Int32))), .val (.int v2), .unset, .unset, .unset, .unset, .unset, .unset] [(.int (p1 &&& (7 : Int32)))])) _
    refine XS.istore X0.here hx rfl (hb hby at_22) rfl (l' := #[.val (.int p0), .val (.int p1), .val (.int (p0 &&& (7 : Int32))), .val (.int v2), .val (.int (p1 &&& (7 : Int32))), .unset, .unset, .unset, .unset, .unset]) rfl ?_
    show Steps p.tables e below (s₁.setTop (mkF m 24 #[.val (.int p0), .val (.int p1), .val (.int (p0 &&& (7 : Int32))), .val (.int v2), .val (.int (p1 &&& (7 : Int32))), .unset, .unset, .unset, .unset, .unset] [])) _
    refine XS.iloadN X0.here hx rfl (hb hby at_24) rfl ?_
    show Steps p.tables e below (s₁.setTop (mkF m 25 #[.val (.int p0), .val (.int p1), .val (.int (p0 &&& (7 : Int32))), .val (.int v2), .val (.int (p1 &&& (7 : Int32))), .unset, .unset, .unset, .unset, .unset] [(.int p1)])) _
    refine XS.bipush X0.here hx rfl (hb hby at_25) ?_
    show Steps p.tables e below (s₁.setTop (mkF m 27 #[.val (.int p0), .val (.int p1), .val (.int (p0 &&& (7 : Int32))), .val (.int v2), .val (.int (p1 &&& (7 : Int32))), .unset, .unset, .unset, .unset, .unset] [(.int (8 : Int32)), (.int p1)])) _
    refine XS.iand X0.here hx rfl (hb hby at_27) rfl ?_
    show Steps p.tables e below (s₁.setTop (mkF m 28 #[.val (.int p0), .val (.int p1), .val (.int (p0 &&& (7 : Int32))), .val (.int v2), .val (.int (p1 &&& (7 : Int32))), .unset, .unset, .unset, .unset, .unset] [(.int (p1 &&& (8 : Int32)))])) _
    refine own_dia (F := (mkF m 36 #[.val (.int p0), .val (.int p1), .val (.int (p0 &&& (7 : Int32))), .val (.int v2), .val (.int (p1 &&& (7 : Int32))), .unset, .unset, .unset, .unset, .unset] [(.int v4)])) ?_ ?_
    · intro kt
      by_cases hc3 : (p1 &&& (8 : Int32)) = (0 : Int32)
      · show Steps p.tables e below (s₁.setTop (mkF m 28 #[.val (.int p0), .val (.int p1), .val (.int (p0 &&& (7 : Int32))), .val (.int v2), .val (.int (p1 &&& (7 : Int32))), .unset, .unset, .unset, .unset, .unset] [(.int (p1 &&& (8 : Int32)))])) _
        refine XS.ifYes X0.here hx rfl (pc0 := 28) (pc' := 35) rfl (hb hby at_28) rfl ((if0 _ _).trans (teq hc3).1) (by decide) (by decide) ?_
        show Steps p.tables e below (s₁.setTop (mkF m 35 #[.val (.int p0), .val (.int p1), .val (.int (p0 &&& (7 : Int32))), .val (.int v2), .val (.int (p1 &&& (7 : Int32))), .unset, .unset, .unset, .unset, .unset] [])) _
        refine XS.iconst X0.here hx rfl (hb hby at_35) ?_
        exact castTop (by rw [hv4, if_pos hc3] <;> rfl) kt
      · show Steps p.tables e below (s₁.setTop (mkF m 28 #[.val (.int p0), .val (.int p1), .val (.int (p0 &&& (7 : Int32))), .val (.int v2), .val (.int (p1 &&& (7 : Int32))), .unset, .unset, .unset, .unset, .unset] [(.int (p1 &&& (8 : Int32)))])) _
        refine XS.ifNo X0.here hx rfl (hb hby at_28) rfl ((if0 _ _).trans (feq hc3).1) ?_
        show Steps p.tables e below (s₁.setTop (mkF m 31 #[.val (.int p0), .val (.int p1), .val (.int (p0 &&& (7 : Int32))), .val (.int v2), .val (.int (p1 &&& (7 : Int32))), .unset, .unset, .unset, .unset, .unset] [])) _
        refine XS.iconst X0.here hx rfl (hb hby at_31) ?_
        show Steps p.tables e below (s₁.setTop (mkF m 32 #[.val (.int p0), .val (.int p1), .val (.int (p0 &&& (7 : Int32))), .val (.int v2), .val (.int (p1 &&& (7 : Int32))), .unset, .unset, .unset, .unset, .unset] [(.int (1 : Int32))])) _
        refine XS.goto X0.here hx rfl (pc0 := 32) (pc' := 36) rfl (hb hby at_32) (by decide) (by decide) ?_
        exact castTop (by rw [hv4, if_neg hc3] <;> rfl) kt
    show Steps p.tables e below (s₁.setTop (mkF m 36 #[.val (.int p0), .val (.int p1), .val (.int (p0 &&& (7 : Int32))), .val (.int v2), .val (.int (p1 &&& (7 : Int32))), .unset, .unset, .unset, .unset, .unset] [(.int v4)])) _
    refine XS.istore X0.here hx rfl (hb hby at_36) rfl (l' := #[.val (.int p0), .val (.int p1), .val (.int (p0 &&& (7 : Int32))), .val (.int v2), .val (.int (p1 &&& (7 : Int32))), .val (.int v4), .unset, .unset, .unset, .unset]) rfl ?_
    show Steps p.tables e below (s₁.setTop (mkF m 38 #[.val (.int p0), .val (.int p1), .val (.int (p0 &&& (7 : Int32))), .val (.int v2), .val (.int (p1 &&& (7 : Int32))), .val (.int v4), .unset, .unset, .unset, .unset] [])) _
    refine XS.iloadN X0.here hx rfl (hb hby at_38) rfl ?_
    show Steps p.tables e below (s₁.setTop (mkF m 39 #[.val (.int p0), .val (.int p1), .val (.int (p0 &&& (7 : Int32))), .val (.int v2), .val (.int (p1 &&& (7 : Int32))), .val (.int v4), .unset, .unset, .unset, .unset] [(.int (p0 &&& (7 : Int32)))])) _
    refine XS.iloadN X0.here hx rfl (hb hby at_39) rfl ?_
    show Steps p.tables e below (s₁.setTop (mkF m 40 #[.val (.int p0), .val (.int p1), .val (.int (p0 &&& (7 : Int32))), .val (.int v2), .val (.int (p1 &&& (7 : Int32))), .val (.int v4), .unset, .unset, .unset, .unset] [(.int v2), (.int (p0 &&& (7 : Int32)))])) _
    refine st5 _ ?_
    show Steps p.tables e below (T5.setTop (mkF m 43 #[.val (.int p0), .val (.int p1), .val (.int (p0 &&& (7 : Int32))), .val (.int v2), .val (.int (p1 &&& (7 : Int32))), .val (.int v4), .unset, .unset, .unset, .unset] [(.ref b5_b)])) _
    refine XS.astore X5.here hx rfl (hb hby at_43) rfl rfl (l' := #[.val (.int p0), .val (.int p1), .val (.int (p0 &&& (7 : Int32))), .val (.int v2), .val (.int (p1 &&& (7 : Int32))), .val (.int v4), .val (.ref b5_b), .unset, .unset, .unset]) rfl ?_
    show Steps p.tables e below (T5.setTop (mkF m 45 #[.val (.int p0), .val (.int p1), .val (.int (p0 &&& (7 : Int32))), .val (.int v2), .val (.int (p1 &&& (7 : Int32))), .val (.int v4), .val (.ref b5_b), .unset, .unset, .unset] [])) _
    refine XS.iload X5.here hx rfl (hb hby at_45) rfl ?_
    show Steps p.tables e below (T5.setTop (mkF m 47 #[.val (.int p0), .val (.int p1), .val (.int (p0 &&& (7 : Int32))), .val (.int v2), .val (.int (p1 &&& (7 : Int32))), .val (.int v4), .val (.ref b5_b), .unset, .unset, .unset] [(.int (p1 &&& (7 : Int32)))])) _
    refine XS.iload X5.here hx rfl (hb hby at_47) rfl ?_
    show Steps p.tables e below (T5.setTop (mkF m 49 #[.val (.int p0), .val (.int p1), .val (.int (p0 &&& (7 : Int32))), .val (.int v2), .val (.int (p1 &&& (7 : Int32))), .val (.int v4), .val (.ref b5_b), .unset, .unset, .unset] [(.int v4), (.int (p1 &&& (7 : Int32)))])) _
    refine st10 _ ?_
    show Steps p.tables e below (T10.setTop (mkF m 52 #[.val (.int p0), .val (.int p1), .val (.int (p0 &&& (7 : Int32))), .val (.int v2), .val (.int (p1 &&& (7 : Int32))), .val (.int v4), .val (.ref b5_b), .unset, .unset, .unset] [(.ref b10_b)])) _
    refine XS.astore X10.here hx rfl (hb hby at_52) rfl rfl (l' := #[.val (.int p0), .val (.int p1), .val (.int (p0 &&& (7 : Int32))), .val (.int v2), .val (.int (p1 &&& (7 : Int32))), .val (.int v4), .val (.ref b5_b), .val (.ref b10_b), .unset, .unset]) rfl ?_
    show Steps p.tables e below (T10.setTop (mkF m 54 #[.val (.int p0), .val (.int p1), .val (.int (p0 &&& (7 : Int32))), .val (.int v2), .val (.int (p1 &&& (7 : Int32))), .val (.int v4), .val (.ref b5_b), .val (.ref b10_b), .unset, .unset] [])) _
    refine st15 _ ?_
    show Steps p.tables e below (T15.setTop (mkF m 57 #[.val (.int p0), .val (.int p1), .val (.int (p0 &&& (7 : Int32))), .val (.int v2), .val (.int (p1 &&& (7 : Int32))), .val (.int v4), .val (.ref b5_b), .val (.ref b10_b), .unset, .unset] [(.ref b15)])) _
    refine XS.dup X15.here hx rfl (hb hby at_57) rfl rfl ?_
    show Steps p.tables e below (T15.setTop (mkF m 58 #[.val (.int p0), .val (.int p1), .val (.int (p0 &&& (7 : Int32))), .val (.int v2), .val (.int (p1 &&& (7 : Int32))), .val (.int v4), .val (.ref b5_b), .val (.ref b10_b), .unset, .unset] [(.ref b15), (.ref b15)])) _
    refine XS.iconst X15.here hx rfl (hb hby at_58) ?_
    show Steps p.tables e below (T15.setTop (mkF m 59 #[.val (.int p0), .val (.int p1), .val (.int (p0 &&& (7 : Int32))), .val (.int v2), .val (.int (p1 &&& (7 : Int32))), .val (.int v4), .val (.ref b5_b), .val (.ref b10_b), .unset, .unset] [(.int (3 : Int32)), (.ref b15), (.ref b15)])) _
    refine st17.trans ?_
    show Steps p.tables e below (T17.setTop (mkF m 62 #[.val (.int p0), .val (.int p1), .val (.int (p0 &&& (7 : Int32))), .val (.int v2), .val (.int (p1 &&& (7 : Int32))), .val (.int v4), .val (.ref b5_b), .val (.ref b10_b), .unset, .unset] [(.ref b15)])) _
    refine XS.astore X17.here hx rfl (hb hby at_62) rfl rfl (l' := #[.val (.int p0), .val (.int p1), .val (.int (p0 &&& (7 : Int32))), .val (.int v2), .val (.int (p1 &&& (7 : Int32))), .val (.int v4), .val (.ref b5_b), .val (.ref b10_b), .val (.ref b15), .unset]) rfl ?_
    show Steps p.tables e below (T17.setTop (mkF m 64 #[.val (.int p0), .val (.int p1), .val (.int (p0 &&& (7 : Int32))), .val (.int v2), .val (.int (p1 &&& (7 : Int32))), .val (.int v4), .val (.ref b5_b), .val (.ref b10_b), .val (.ref b15), .unset] [])) _
    refine XS.aload X17.here hx rfl (hb hby at_64) rfl rfl ?_
    show Steps p.tables e below (T17.setTop (mkF m 66 #[.val (.int p0), .val (.int p1), .val (.int (p0 &&& (7 : Int32))), .val (.int v2), .val (.int (p1 &&& (7 : Int32))), .val (.int v4), .val (.ref b5_b), .val (.ref b10_b), .val (.ref b15), .unset] [(.ref b15)])) _
    refine XS.aload X17.here hx rfl (hb hby at_66) rfl rfl ?_
    show Steps p.tables e below (T17.setTop (mkF m 68 #[.val (.int p0), .val (.int p1), .val (.int (p0 &&& (7 : Int32))), .val (.int v2), .val (.int (p1 &&& (7 : Int32))), .val (.int v4), .val (.ref b5_b), .val (.ref b10_b), .val (.ref b15), .unset] [(.ref b5_b), (.ref b15)])) _
    refine st28.trans ?_
    show Steps p.tables e below (T28.setTop (mkF m 71 #[.val (.int p0), .val (.int p1), .val (.int (p0 &&& (7 : Int32))), .val (.int v2), .val (.int (p1 &&& (7 : Int32))), .val (.int v4), .val (.ref b5_b), .val (.ref b10_b), .val (.ref b15), .unset] [])) _
    refine XS.aload X28.here hx rfl (hb hby at_71) rfl rfl ?_
    show Steps p.tables e below (T28.setTop (mkF m 73 #[.val (.int p0), .val (.int p1), .val (.int (p0 &&& (7 : Int32))), .val (.int v2), .val (.int (p1 &&& (7 : Int32))), .val (.int v4), .val (.ref b5_b), .val (.ref b10_b), .val (.ref b15), .unset] [(.ref b15)])) _
    refine XS.aload X28.here hx rfl (hb hby at_73) rfl rfl ?_
    show Steps p.tables e below (T28.setTop (mkF m 75 #[.val (.int p0), .val (.int p1), .val (.int (p0 &&& (7 : Int32))), .val (.int v2), .val (.int (p1 &&& (7 : Int32))), .val (.int v4), .val (.ref b5_b), .val (.ref b10_b), .val (.ref b15), .unset] [(.ref b10_b), (.ref b15)])) _
    refine st41.trans ?_
    show Steps p.tables e below (T41.setTop (mkF m 78 #[.val (.int p0), .val (.int p1), .val (.int (p0 &&& (7 : Int32))), .val (.int v2), .val (.int (p1 &&& (7 : Int32))), .val (.int v4), .val (.ref b5_b), .val (.ref b10_b), .val (.ref b15), .unset] [])) _
    refine XS.aload X41.here hx rfl (hb hby at_78) rfl rfl ?_
    show Steps p.tables e below (T41.setTop (mkF m 80 #[.val (.int p0), .val (.int p1), .val (.int (p0 &&& (7 : Int32))), .val (.int v2), .val (.int (p1 &&& (7 : Int32))), .val (.int v4), .val (.ref b5_b), .val (.ref b10_b), .val (.ref b15), .unset] [(.ref b15)])) _
    refine st50.trans ?_
    show Steps p.tables e below (T50.setTop (mkF m 83 #[.val (.int p0), .val (.int p1), .val (.int (p0 &&& (7 : Int32))), .val (.int v2), .val (.int (p1 &&& (7 : Int32))), .val (.int v4), .val (.ref b5_b), .val (.ref b10_b), .val (.ref b15), .unset] [(.long (((0 : Int64) + (1 : Int64)) + (1 : Int64)))])) _
    refine X50.ldc2Long hx hown (mvT hZ (hw _ (List.mem_of_getElem? (i := 31) rfl))) (g := (mkF m 83 #[.val (.int p0), .val (.int p1), .val (.int (p0 &&& (7 : Int32))), .val (.int v2), .val (.int (p1 &&& (7 : Int32))), .val (.int v4), .val (.ref b5_b), .val (.ref b10_b), .val (.ref b15), .unset] [(.long (((0 : Int64) + (1 : Int64)) + (1 : Int64)))])) rfl (hb hby at_83) _ ?_
    show Steps p.tables e below (T50.setTop (mkF m 86 #[.val (.int p0), .val (.int p1), .val (.int (p0 &&& (7 : Int32))), .val (.int v2), .val (.int (p1 &&& (7 : Int32))), .val (.int v4), .val (.ref b5_b), .val (.ref b10_b), .val (.ref b15), .unset] [(.long (2 : Int64)), (.long (((0 : Int64) + (1 : Int64)) + (1 : Int64)))])) _
    refine XS.lcmp X50.here hx rfl (hb hby at_86) rfl ?_
    show Steps p.tables e below (T50.setTop (mkF m 87 #[.val (.int p0), .val (.int p1), .val (.int (p0 &&& (7 : Int32))), .val (.int v2), .val (.int (p1 &&& (7 : Int32))), .val (.int v4), .val (.ref b5_b), .val (.ref b10_b), .val (.ref b15), .unset] [(.int (lcmpW (((0 : Int64) + (1 : Int64)) + (1 : Int64)) (2 : Int64)))])) _
    refine own_dia (F := (mkF m 95 #[.val (.int p0), .val (.int p1), .val (.int (p0 &&& (7 : Int32))), .val (.int v2), .val (.int (p1 &&& (7 : Int32))), .val (.int v4), .val (.ref b5_b), .val (.ref b10_b), .val (.ref b15), .unset] [(.int v52)])) ?_ ?_
    · intro kt
      by_cases hc51 : (((0 : Int64) + (1 : Int64)) + (1 : Int64)) = (2 : Int64)
      · show Steps p.tables e below (T50.setTop (mkF m 87 #[.val (.int p0), .val (.int p1), .val (.int (p0 &&& (7 : Int32))), .val (.int v2), .val (.int (p1 &&& (7 : Int32))), .val (.int v4), .val (.ref b5_b), .val (.ref b10_b), .val (.ref b15), .unset] [(.int (lcmpW (((0 : Int64) + (1 : Int64)) + (1 : Int64)) (2 : Int64)))])) _
        refine XS.ifNo X50.here hx rfl (hb hby at_87) rfl ((if0 _ _).trans (teq ((lw_eq (((0 : Int64) + (1 : Int64)) + (1 : Int64)) (2 : Int64)).mpr hc51)).2) ?_
        show Steps p.tables e below (T50.setTop (mkF m 90 #[.val (.int p0), .val (.int p1), .val (.int (p0 &&& (7 : Int32))), .val (.int v2), .val (.int (p1 &&& (7 : Int32))), .val (.int v4), .val (.ref b5_b), .val (.ref b10_b), .val (.ref b15), .unset] [])) _
        refine XS.iconst X50.here hx rfl (hb hby at_90) ?_
        show Steps p.tables e below (T50.setTop (mkF m 91 #[.val (.int p0), .val (.int p1), .val (.int (p0 &&& (7 : Int32))), .val (.int v2), .val (.int (p1 &&& (7 : Int32))), .val (.int v4), .val (.ref b5_b), .val (.ref b10_b), .val (.ref b15), .unset] [(.int (1 : Int32))])) _
        refine XS.goto X50.here hx rfl (pc0 := 91) (pc' := 95) rfl (hb hby at_91) (by decide) (by decide) ?_
        exact castTop (by rw [hv52, if_pos hc51] <;> rfl) kt
      · show Steps p.tables e below (T50.setTop (mkF m 87 #[.val (.int p0), .val (.int p1), .val (.int (p0 &&& (7 : Int32))), .val (.int v2), .val (.int (p1 &&& (7 : Int32))), .val (.int v4), .val (.ref b5_b), .val (.ref b10_b), .val (.ref b15), .unset] [(.int (lcmpW (((0 : Int64) + (1 : Int64)) + (1 : Int64)) (2 : Int64)))])) _
        refine XS.ifYes X50.here hx rfl (pc0 := 87) (pc' := 94) rfl (hb hby at_87) rfl ((if0 _ _).trans (feq (fun q => hc51 ((lw_eq (((0 : Int64) + (1 : Int64)) + (1 : Int64)) (2 : Int64)).mp q))).2) (by decide) (by decide) ?_
        show Steps p.tables e below (T50.setTop (mkF m 94 #[.val (.int p0), .val (.int p1), .val (.int (p0 &&& (7 : Int32))), .val (.int v2), .val (.int (p1 &&& (7 : Int32))), .val (.int v4), .val (.ref b5_b), .val (.ref b10_b), .val (.ref b15), .unset] [])) _
        refine XS.iconst X50.here hx rfl (hb hby at_94) ?_
        exact castTop (by rw [hv52, if_neg hc51] <;> rfl) kt
    show Steps p.tables e below (T50.setTop (mkF m 95 #[.val (.int p0), .val (.int p1), .val (.int (p0 &&& (7 : Int32))), .val (.int v2), .val (.int (p1 &&& (7 : Int32))), .val (.int v4), .val (.ref b5_b), .val (.ref b10_b), .val (.ref b15), .unset] [(.int v52)])) _
    refine XS.istore X50.here hx rfl (hb hby at_95) rfl (l' := #[.val (.int p0), .val (.int p1), .val (.int (p0 &&& (7 : Int32))), .val (.int v2), .val (.int (p1 &&& (7 : Int32))), .val (.int v4), .val (.ref b5_b), .val (.ref b10_b), .val (.ref b15), .val (.int v52)]) rfl ?_
    show Steps p.tables e below (T50.setTop (mkF m 97 #[.val (.int p0), .val (.int p1), .val (.int (p0 &&& (7 : Int32))), .val (.int v2), .val (.int (p1 &&& (7 : Int32))), .val (.int v4), .val (.ref b5_b), .val (.ref b10_b), .val (.ref b15), .val (.int v52)] [])) _
    refine XS.iload X50.here hx rfl (hb hby at_97) rfl ?_
    show Steps p.tables e below (T50.setTop (mkF m 99 #[.val (.int p0), .val (.int p1), .val (.int (p0 &&& (7 : Int32))), .val (.int v2), .val (.int (p1 &&& (7 : Int32))), .val (.int v4), .val (.ref b5_b), .val (.ref b10_b), .val (.ref b15), .val (.int v52)] [(.int v52)])) _
    refine st61 _ ?_
    show Steps p.tables e below (T61.setTop (mkF m 119 #[.val (.int p0), .val (.int p1), .val (.int (p0 &&& (7 : Int32))), .val (.int v2), .val (.int (p1 &&& (7 : Int32))), .val (.int v4), .val (.ref b5_b), .val (.ref b10_b), .val (.ref b15), .val (.int v52)] [(.int v60)])) _
    refine XS.istore X61.here hx rfl (hb hby at_119) rfl (l' := #[.val (.int p0), .val (.int p1), .val (.int (p0 &&& (7 : Int32))), .val (.int v2), .val (.int (p1 &&& (7 : Int32))), .val (.int v4), .val (.ref b5_b), .val (.ref b10_b), .val (.ref b15), .val (.int v60)]) rfl ?_
    show Steps p.tables e below (T61.setTop (mkF m 121 #[.val (.int p0), .val (.int p1), .val (.int (p0 &&& (7 : Int32))), .val (.int v2), .val (.int (p1 &&& (7 : Int32))), .val (.int v4), .val (.ref b5_b), .val (.ref b10_b), .val (.ref b15), .val (.int v60)] [])) _
    refine XS.iload X61.here hx rfl (hb hby at_121) rfl ?_
    show Steps p.tables e below (T61.setTop (mkF m 123 #[.val (.int p0), .val (.int p1), .val (.int (p0 &&& (7 : Int32))), .val (.int v2), .val (.int (p1 &&& (7 : Int32))), .val (.int v4), .val (.ref b5_b), .val (.ref b10_b), .val (.ref b15), .val (.int v60)] [(.int v60)])) _
    refine st70 _ ?_
    show Steps p.tables e below (T70.setTop (mkF m 143 #[.val (.int p0), .val (.int p1), .val (.int (p0 &&& (7 : Int32))), .val (.int v2), .val (.int (p1 &&& (7 : Int32))), .val (.int v4), .val (.ref b5_b), .val (.ref b10_b), .val (.ref b15), .val (.int v60)] [(.int v69)])) _
    refine XS.istore X70.here hx rfl (hb hby at_143) rfl (l' := #[.val (.int p0), .val (.int p1), .val (.int (p0 &&& (7 : Int32))), .val (.int v2), .val (.int (p1 &&& (7 : Int32))), .val (.int v4), .val (.ref b5_b), .val (.ref b10_b), .val (.ref b15), .val (.int v69)]) rfl ?_
    show Steps p.tables e below (T70.setTop (mkF m 145 #[.val (.int p0), .val (.int p1), .val (.int (p0 &&& (7 : Int32))), .val (.int v2), .val (.int (p1 &&& (7 : Int32))), .val (.int v4), .val (.ref b5_b), .val (.ref b10_b), .val (.ref b15), .val (.int v69)] [])) _
    refine XS.iload X70.here hx rfl (hb hby at_145) rfl ?_
    show Steps p.tables e below (T70.setTop (mkF m 147 #[.val (.int p0), .val (.int p1), .val (.int (p0 &&& (7 : Int32))), .val (.int v2), .val (.int (p1 &&& (7 : Int32))), .val (.int v4), .val (.ref b5_b), .val (.ref b10_b), .val (.ref b15), .val (.int v69)] [(.int v69)])) _
    refine st79 _ ?_
    show Steps p.tables e below (T79.setTop (mkF m 167 #[.val (.int p0), .val (.int p1), .val (.int (p0 &&& (7 : Int32))), .val (.int v2), .val (.int (p1 &&& (7 : Int32))), .val (.int v4), .val (.ref b5_b), .val (.ref b10_b), .val (.ref b15), .val (.int v69)] [(.int v78)])) _
    refine XS.istore X79.here hx rfl (hb hby at_167) rfl (l' := #[.val (.int p0), .val (.int p1), .val (.int (p0 &&& (7 : Int32))), .val (.int v2), .val (.int (p1 &&& (7 : Int32))), .val (.int v4), .val (.ref b5_b), .val (.ref b10_b), .val (.ref b15), .val (.int v78)]) rfl ?_
    show Steps p.tables e below (T79.setTop (mkF m 169 #[.val (.int p0), .val (.int p1), .val (.int (p0 &&& (7 : Int32))), .val (.int v2), .val (.int (p1 &&& (7 : Int32))), .val (.int v4), .val (.ref b5_b), .val (.ref b10_b), .val (.ref b15), .val (.int v78)] [])) _
    refine XS.iload X79.here hx rfl (hb hby at_169) rfl ?_
    show Steps p.tables e below (T79.setTop (mkF m 171 #[.val (.int p0), .val (.int p1), .val (.int (p0 &&& (7 : Int32))), .val (.int v2), .val (.int (p1 &&& (7 : Int32))), .val (.int v4), .val (.ref b5_b), .val (.ref b10_b), .val (.ref b15), .val (.int v78)] [(.int v78)])) _
    exact retN X79 hx (t := .boolean) Bd.returns (by simp) (hb hby at_171) hr
  · show Q0 h0 n0 _ T79.heap _
    refine ⟨?_, N79⟩
    have hfin : (nar .boolean v78) = (1 : Int32) := by
      exact (own_law p0 p1 v2 v4 f7 z9 f12 z14 f35 f37 f48 v52 v60 v69 v78 hv2 hv4 hf7 hz9 hf12 hz14 hf35 hf37 hf48 hv52 hv60 hv69 hv78)
    rw [hfin]
set_option maxRecDepth 65536 in
set_option maxHeartbeats 40000000 in
theorem comes_1 {Post : Tables → Env → Array Value → State → Outcome → State → Prop} (hpost : ∀ tb e args s v u, (limb_1_1.after args s (.returned v) u = true ∧ limb_1_2.after args s (.returned v) u = true ∧ True) → FrameEnd s (.returned v) u (Jvm.fieldLocs frame_1_writes args s ++ Jvm.arrayLocs frame_1_arrays args s ++ Jvm.staticLocs frame_1_statics s) 24 128 → Post tb e args s (.returned v) u) :
    ArmFor flags0 classFile x code maxLocals ret World_1 tables_1 room_1 Calls_1 rest_1 Pre_1 Post := by
  intro l hfl _ _ p e ha hc hk s m args below hf hA hF happ hP
  obtain ⟨hcalls, hrest, hpre⟩ := hP
  obtain ⟨-, -, -, hnamed, -, -, -, hat⟩ := (Spec.applies_iff hf).mp happ
  obtain ⟨hg, hn⟩ := and_e (Cond.before_iff.mp (show (Jvm.Cond.and given_1 narrow_1).before args s = true from hpre))
  obtain ⟨gg1, gg2⟩ := and_e hg
  obtain ⟨gg3, gg4⟩ := and_e gg2
  obtain ⟨w0, w1, rfl⟩ : ∃ w0 w1 : Value, args = #[w0, w1] := by
    have hs : args.size = 2 := by simpa [Cond.value, given_1] using gg1
    obtain ⟨L⟩ := args
    match L, hs with
    | [w0, w1], _ => exact ⟨w0, w1, rfl⟩
  have hw := fun d (hd : d ∈ tables_1) => atoms_spec (ws := Jvm.Cond.code x code maxLocals ret :: tables_1) hat d (List.mem_cons_of_mem _ hd)
  have hfit : Fit s := fun {y c} hc i hi => by
    obtain ⟨ha, rfl⟩ := Array.getElem?_eq_some_iff.mp hc
    have q := List.all_eq_true.mp ((Array.all_eq_true_iff_forall_mem.mp hF) _ (Array.getElem_mem ha)) i (List.mem_range.mpr hi)
    simpa [Array.getElem?_eq_getElem hi] using q
  obtain ⟨i0, ei0⟩ := is_v gg3
  obtain rfl : w0 = (.int i0) := Option.some.inj ei0
  obtain ⟨i1, ei1⟩ := is_v gg4
  obtain rfl : w1 = (.int i1) := Option.some.inj ei1
  obtain ⟨n, o, h1, h2, h3, _, L, rfl, ⟨rfl, N⟩, hq⟩ := rm0 l s _ hw tables_1 i0 i1  s.heap s.heap.size (Nat.le_refl _)  p e ha hc hk s m _ below hf ((Spec.applies_iff_loose hf).mp happ).1 ⟨rfl, State.Warmed39.refl s, rfl⟩ trivial
  refine ⟨n, _, h1, h2, h3, hpost _ _ _ _ _ _ ⟨Cond.after_iff.mpr rfl, Cond.after_iff.mpr (eq_i res_at (Term.int_eval (1)) rfl), trivial⟩ ⟨hq.1, hq.2.1, (hq.2.2.sift fun y hy => Or.inr (N y hy)).mono (by decide) (by decide)⟩⟩
theorem main_1_1 : Claimed_1_1 := comes_1 fun _ _ _ _ _ _ h hF => ⟨h.1, hF⟩
theorem main_1_2 : Claimed_1_2 := comes_1 fun _ _ _ _ _ _ h hF => ⟨h.2.1, hF⟩
end Jvm.Pilot.@@N@@
namespace Jvm.Pilot.@@N@@
open Jvm Jvm.ClassFile Sem Op Lib Jvm.Free Jvm.Stand Jvm.Pilot.@@N@@.Jvm.D
/-! MADE BY PROGRAM (witnessworld.py) out of the Statement's table words and the real class files: 11 classes; the members and pool entries that the words name. The judged class is class 1, her method 1. -/
namespace start1
open Jvm.ClassFile
def u (s : String) : CpInfo := .utf8 (stringToUtf16 s)
/-- a pool by its gaps: so many unusable entries, then the entry; so many at the end -/
def gap : Nat → List CpInfo → List CpInfo
  | 0, r => r
  | n + 1, r => .unusable :: gap n r
def poolList (es : List (Nat × CpInfo)) (last : Nat) : List CpInfo := es.foldr (fun e r => gap e.1 (e.2 :: r)) (gap last [])
def pool (es : List (Nat × CpInfo)) (last : Nat) : Array CpInfo := ⟨poolList es last⟩
def fileOf (pool : Array CpInfo) (this : Nat) (attrs : Array Attribute := #[]) (ms : Array MethodInfo := #[]) (fl : Nat := 33) (sup : Nat := 0) (ifs : Array Nat := #[]) (fds : Array FieldInfo := #[]) : ClassFile where
  minorVersion := 0
  majorVersion := 65
  constantPool := pool
  accessFlags := fl
  thisClass := this
  superClass := sup
  interfaces := ifs
  fields := fds
  methods := ms
  attributes := attrs
def plain (name : String) (sup : Option ClassId) : Class where
  name := name
  kind := .ordinary
  loader := none
  accessFlags := 33
  super := sup
  interfaces := #[]
  cf := none
  fields := #[]
  methods := #[]
  instanceTypes := #[]
  staticTypes := #[]
  resolved := #[]
  callSites := []
  init := .initialized
  statics := none
  mirror := none

def pool0 : Array CpInfo := pool [(5, u "<init>"), (0, u "()V"), (1, .class_ 10), (1, u "java/lang/Object")] 113

def k0c0 : Code := { maxStack := 0, maxLocals := 1, code := object_method_1_code, exceptionTable := #[], attributes := #[] }
def k0m0 : Method := { name := "<init>", desc := "()V", sig := { parameters := [], returnType := none }, accessFlags := 1, code := some k0c0 }
/-- java/lang/Object -/
def k0 : Class := { plain "java/lang/Object" none with
  accessFlags := 33
  interfaces := #[]
  cf := some (fileOf pool0 8 #[] #[{ accessFlags := 1, nameIndex := 5, descriptorIndex := 6, attributes := #[] }] 33 0 #[] #[])
  fields := #[]
  methods := #[k0m0]
  instanceTypes := #[]
  staticTypes := #[]
  resolved := Array.replicate 124 none
  statics := none }

def pool1 : Array CpInfo := pool [(2, .class_ 4), (1, u "java/lang/Object"), (0, u "<init>"), (0, u "()V"), (0, .methodref 8 9), (0, .class_ 10), (0, .nameAndType 11 12), (0, u "com/example/uneven_ticks/uneventicks/core/RunStateAdvancePinLaw"), (0, u "subset"), (0, u "(IZ)[I"), (0, .class_ 14), (0, u "com/example/uneven_ticks/uneventicks/core/RunState"), (0, .methodref 13 16), (0, .nameAndType 5 17), (0, u "(I)V"), (0, .methodref 13 19), (0, .nameAndType 20 21), (0, u "advance"), (0, u "([I)V"), (0, .methodref 13 23), (0, .nameAndType 24 25), (0, u "getStepCount"), (0, u "()J"), (0, .long 2), (1, .methodref 8 29), (0, .nameAndType 30 31), (0, u "check"), (0, u "(Lcom/example/uneven_ticks/uneventicks/core/RunState;III)Z"), (0, .methodref 13 33), (0, .nameAndType 34 35), (0, u "getTicks"), (0, u "(I)J"), (0, .methodref 13 37), (0, .nameAndType 38 35), (0, u "getLastTickStep"), (2, u "law"), (0, u "(II)Z")] 5

def k1m0 : Method := { name := "<init>", desc := "()V", sig := { parameters := [], returnType := none }, accessFlags := 1, code := none }
def k1c1 : Code := { maxStack := 4, maxLocals := 10, code := code, exceptionTable := #[], attributes := #[] }
def k1m1 : Method := { name := "law", desc := "(II)Z", sig := { parameters := [.int, .int], returnType := some .boolean }, accessFlags := 9, code := some k1c1 }
def k1c2 : Code := { maxStack := 4, maxLocals := 10, code := method_3_code, exceptionTable := #[], attributes := #[] }
def k1m2 : Method := { name := "check", desc := "(Lcom/example/uneven_ticks/uneventicks/core/RunState;III)Z", sig := { parameters := [(.object "com/example/uneven_ticks/uneventicks/core/RunState"), .int, .int, .int], returnType := some .boolean }, accessFlags := 10, code := some k1c2 }
def k1c3 : Code := { maxStack := 4, maxLocals := 2, code := method_4_code, exceptionTable := #[], attributes := #[] }
def k1m3 : Method := { name := "subset", desc := "(IZ)[I", sig := { parameters := [.int, .boolean], returnType := some (.array .int) }, accessFlags := 10, code := some k1c3 }
/-- com/example/uneven_ticks/uneventicks/core/RunStateAdvancePinLaw -/
def k1 : Class := { plain "com/example/uneven_ticks/uneventicks/core/RunStateAdvancePinLaw" (some 0) with
  accessFlags := 49
  interfaces := #[]
  cf := some (fileOf pool1 8 #[] #[{ accessFlags := 1, nameIndex := 5, descriptorIndex := 6, attributes := #[] }, { accessFlags := 9, nameIndex := 41, descriptorIndex := 42, attributes := #[] }, { accessFlags := 10, nameIndex := 30, descriptorIndex := 31, attributes := #[] }, { accessFlags := 10, nameIndex := 11, descriptorIndex := 12, attributes := #[] }] 49 2 #[] #[])
  fields := #[]
  methods := #[k1m0, k1m1, k1m2, k1m3]
  instanceTypes := #[]
  staticTypes := #[]
  resolved := Array.replicate 48 none
  statics := none }

def pool2 : Array CpInfo := pool [(1, .methodref 2 3), (0, .class_ 4), (0, .nameAndType 5 6), (0, u "java/lang/Object"), (0, u "<init>"), (0, u "()V"), (0, .fieldref 8 9), (0, .class_ 10), (0, .nameAndType 11 12), (0, u "com/example/uneven_ticks/uneventicks/core/RunState"), (0, u "ticks"), (0, u "[J"), (0, .fieldref 8 14), (0, .nameAndType 15 12), (0, u "lastTickSteps"), (0, .fieldref 8 17), (0, .nameAndType 18 19), (0, u "stepCount"), (0, u "J"), (0, u "(I)V"), (2, u "getStepCount"), (0, u "()J"), (0, u "getTicks"), (0, u "(I)J"), (0, u "getLastTickStep"), (0, u "advance"), (0, u "([I)V")] 5

def k2c0 : Code := { maxStack := 2, maxLocals := 2, code := prog_45_method_1_code, exceptionTable := #[], attributes := #[] }
def k2m0 : Method := { name := "<init>", desc := "(I)V", sig := { parameters := [.int], returnType := none }, accessFlags := 0, code := some k2c0 }
def k2c1 : Code := { maxStack := 2, maxLocals := 1, code := prog_45_method_2_code, exceptionTable := #[], attributes := #[] }
def k2m1 : Method := { name := "getStepCount", desc := "()J", sig := { parameters := [], returnType := some .long }, accessFlags := 1, code := some k2c1 }
def k2c2 : Code := { maxStack := 2, maxLocals := 2, code := prog_45_method_3_code, exceptionTable := #[], attributes := #[] }
def k2m2 : Method := { name := "getTicks", desc := "(I)J", sig := { parameters := [.int], returnType := some .long }, accessFlags := 1, code := some k2c2 }
def k2c3 : Code := { maxStack := 2, maxLocals := 2, code := prog_45_method_4_code, exceptionTable := #[], attributes := #[] }
def k2m3 : Method := { name := "getLastTickStep", desc := "(I)J", sig := { parameters := [.int], returnType := some .long }, accessFlags := 1, code := some k2c3 }
def k2c4 : Code := { maxStack := 6, maxLocals := 6, code := prog_45_method_5_code, exceptionTable := #[], attributes := #[] }
def k2m4 : Method := { name := "advance", desc := "([I)V", sig := { parameters := [(.array .int)], returnType := none }, accessFlags := 0, code := some k2c4 }
/-- com/example/uneven_ticks/uneventicks/core/RunState -/
def k2 : Class := { plain "com/example/uneven_ticks/uneventicks/core/RunState" (some 0) with
  accessFlags := 33
  interfaces := #[]
  cf := some (fileOf pool2 8 #[] #[{ accessFlags := 0, nameIndex := 5, descriptorIndex := 20, attributes := #[] }, { accessFlags := 1, nameIndex := 23, descriptorIndex := 24, attributes := #[] }, { accessFlags := 1, nameIndex := 25, descriptorIndex := 26, attributes := #[] }, { accessFlags := 1, nameIndex := 27, descriptorIndex := 26, attributes := #[] }, { accessFlags := 0, nameIndex := 28, descriptorIndex := 29, attributes := #[] }] 33 2 #[] #[{ accessFlags := 18, nameIndex := 11, descriptorIndex := 12, attributes := #[] }, { accessFlags := 18, nameIndex := 15, descriptorIndex := 12, attributes := #[] }, { accessFlags := 2, nameIndex := 18, descriptorIndex := 19, attributes := #[] }])
  fields := #[{ name := "ticks", type := (.array .long), accessFlags := 18, slot := 0, constantValue := 0 }, { name := "lastTickSteps", type := (.array .long), accessFlags := 18, slot := 1, constantValue := 0 }, { name := "stepCount", type := .long, accessFlags := 2, slot := 2, constantValue := 0 }]
  methods := #[k2m0, k2m1, k2m2, k2m3, k2m4]
  instanceTypes := #[(.array .long), (.array .long), .long]
  staticTypes := #[]
  resolved := Array.replicate 35 none
  statics := none }

def pool3 : Array CpInfo := pool [(1, u "java/lang/Cloneable"), (0, .class_ 1), (0, u "java/lang/Object"), (0, .class_ 3)] 3

/-- java/lang/Cloneable -/
def k3 : Class := { plain "java/lang/Cloneable" (some 0) with
  accessFlags := 1537
  interfaces := #[]
  cf := some (fileOf pool3 2 #[] #[] 1537 4 #[] #[])
  fields := #[]
  methods := #[]
  instanceTypes := #[]
  staticTypes := #[]
  resolved := Array.replicate 8 none
  statics := none }

def pool4 : Array CpInfo := pool [(1, u "java/io/Serializable"), (0, .class_ 1), (0, u "java/lang/Object"), (0, .class_ 3)] 3

/-- java/io/Serializable -/
def k4 : Class := { plain "java/io/Serializable" (some 0) with
  accessFlags := 1537
  interfaces := #[]
  cf := some (fileOf pool4 2 #[] #[] 1537 4 #[] #[])
  fields := #[]
  methods := #[]
  instanceTypes := #[]
  staticTypes := #[]
  resolved := Array.replicate 8 none
  statics := none }

/-- the primitive byte -/
def k5 : Class := { plain "byte" none with kind := .primitive 'B', accessFlags := 0x411 }
/-- [B -/
def k6 : Class := { plain "[B" (some 0) with kind := .array 5 .byte, interfaces := #[3, 4], accessFlags := 1041 }

/-- the primitive int -/
def k7 : Class := { plain "int" none with kind := .primitive 'I', accessFlags := 0x411 }
/-- [I -/
def k8 : Class := { plain "[I" (some 0) with kind := .array 7 .int, interfaces := #[3, 4], accessFlags := 1041 }

/-- the primitive long -/
def k9 : Class := { plain "long" none with kind := .primitive 'J', accessFlags := 0x411 }
/-- [J -/
def k10 : Class := { plain "[J" (some 0) with kind := .array 9 .long, interfaces := #[3, 4], accessFlags := 1041 }

def heap : Heap := #[]
def classes : Array Class := #[k0, k1, k2, k3, k4, k5, k6, k7, k8, k9, k10]
def interned : List (Array UInt16 × Addr) := []
def slotsUsed : Nat := 0
def theMethod : MethodId := ⟨1, 1⟩
def args0 : Array Value := #[.int 5, .int 5]
def aboutOver (below : List Frame) : State where
  vm := { classes := classes, interned := interned.toArray }
  heap := heap
  slotsUsed := slotsUsed
  threads := #[{ frames := .invoking theMethod args0 :: below }]
def below0 : List Frame := [.native { method := ⟨0, 0⟩, args := #[] }]
def about1 : State := aboutOver below0
def p0 : Program := .bare "" "" ""
def e0 : Env := launch0.env 0 0 0
theorem w_frames : about1.frames = Frame.invoking theMethod args0 :: below0 := rfl
set_option maxRecDepth 65536 in
theorem w_args : argsFit about1.vm theMethod args0 = true := by decide +kernel
set_option maxRecDepth 65536 in
theorem w_heap : heapFits about1 = true := by decide +kernel
set_option maxRecDepth 65536 in
theorem w_runnable : about1.curStatus? = some .runnable := by decide +kernel
set_option maxRecDepth 65536 in
theorem w_alone : about1.alone = true := by decide +kernel
set_option maxRecDepth 65536 in
theorem w_named : about1.methodNamed? x = some theMethod := by decide +kernel
set_option maxRecDepth 65536 in
theorem w_hears : about1.hears theMethod below0 = true := by decide +kernel
set_option maxRecDepth 65536 in
theorem w_ripe : about1.ripe theMethod args0 below0 = true := by decide +kernel
theorem w_running : about1.status = .running := rfl
set_option maxRecDepth 65536 in
theorem w_room : about1.hasRoom e0.platform room_1 = true :=
  launch0.hasRoom_least _ room_1 (by decide +kernel) (by decide +kernel) (by decide +kernel) (by decide +kernel) (by decide +kernel) (by decide +kernel)
theorem allAtoms_all (ts : List Jvm.Cond) (a : Array Jvm.Value) (st : Jvm.State) : (allAtoms ts).before a st = ts.all (fun c => c.before a st) := by
  induction ts with
  | nil => rfl
  | cons c t ih =>
    show (Jvm.Cond.and c (allAtoms t)).before a st = _
    rw [Jvm.Cond.before_and, ih, List.all_cons]
def words1 : List Jvm.Cond := Jvm.Cond.code x code maxLocals ret :: tables_1
/-- a 'code' word, met by the world's own term for the bytes: nothing is compared byte by byte -/
theorem code_word {y : MethodName} {bytes : ByteArray} {mx : Nat} {rt : Option FieldType} {a : Array Value} {s : State} {m : MethodId} {meth : Method} {c : Code} (h1 : s.methodNamed? y = some m) (h2 : s.vm.method? m = some meth) (h3 : meth.code = some c) (h4 : c.code = bytes)
    (h5 : (c.maxLocals == mx && c.exceptionTable.isEmpty && decide (c.maxStack ≤ mostOperands) && decide (meth.sig.returnType = rt) && !meth.locks && decide (parseMethodDescriptor y.desc = some meth.sig)) = true) : (Jvm.Cond.code y bytes mx rt).before a s = true := by
  simp only [Bool.and_eq_true, beq_iff_eq, Bool.not_eq_true', decide_eq_true_eq] at h5
  obtain ⟨⟨⟨⟨⟨g1, g2⟩, g3⟩, g4⟩, g5⟩, g6⟩ := h5
  simp [Cond.before, Cond.holds, Cond.value, h1, h2, h3, h4, g1, g2, g3, g4, g5, g6]
def isCode : Jvm.Cond → Bool
  | .code _ _ _ _ => true
  | _ => false
theorem all_split {L : List Jvm.Cond} {P : Jvm.Cond → Bool} (h1 : L.all (fun c => isCode c || P c) = true) (h2 : ∀ c ∈ L.filter isCode, P c = true) : L.all P = true := by
  refine List.all_eq_true.mpr fun c hc => ?_
  have h := List.all_eq_true.mp h1 c hc
  rcases Bool.eq_false_or_eq_true (isCode c) with hi | hi
  · exact h2 c (List.mem_filter.mpr ⟨hc, hi⟩)
  · simpa [hi] using h
set_option maxRecDepth 65536 in
theorem w_c0 : (Jvm.Cond.code x code maxLocals ret).before args0 about1 = true := code_word (m := ⟨1, 1⟩) (meth := k1m1) (c := k1c1) (by decide +kernel) rfl rfl rfl (by decide +kernel)
set_option maxRecDepth 65536 in
theorem w_c1 : (Jvm.Cond.code ({ cls := "com/example/uneven_ticks/uneventicks/core/RunStateAdvancePinLaw", name := "subset", desc := "(IZ)[I" } : Jvm.MethodName) method_4_code (2 : Nat) (Option.some (Jvm.ClassFile.FieldType.array Jvm.ClassFile.FieldType.int))).before args0 about1 = true := code_word (m := ⟨1, 3⟩) (meth := k1m3) (c := k1c3) (by decide +kernel) rfl rfl rfl (by decide +kernel)
set_option maxRecDepth 65536 in
theorem w_c2 : (Jvm.Cond.code ({ cls := "com/example/uneven_ticks/uneventicks/core/RunState", name := "<init>", desc := "(I)V" } : Jvm.MethodName) prog_45_method_1_code (2 : Nat) (Option.none : Option Jvm.ClassFile.FieldType)).before args0 about1 = true := code_word (m := ⟨2, 0⟩) (meth := k2m0) (c := k2c0) (by decide +kernel) rfl rfl rfl (by decide +kernel)
set_option maxRecDepth 65536 in
theorem w_c3 : (Jvm.Cond.code ({ cls := "java/lang/Object", name := "<init>", desc := "()V" } : Jvm.MethodName) object_method_1_code (1 : Nat) (Option.none : Option Jvm.ClassFile.FieldType)).before args0 about1 = true := code_word (m := ⟨0, 0⟩) (meth := k0m0) (c := k0c0) (by decide +kernel) rfl rfl rfl (by decide +kernel)
set_option maxRecDepth 65536 in
theorem w_c4 : (Jvm.Cond.code ({ cls := "com/example/uneven_ticks/uneventicks/core/RunState", name := "advance", desc := "([I)V" } : Jvm.MethodName) prog_45_method_5_code (6 : Nat) (Option.none : Option Jvm.ClassFile.FieldType)).before args0 about1 = true := code_word (m := ⟨2, 4⟩) (meth := k2m4) (c := k2c4) (by decide +kernel) rfl rfl rfl (by decide +kernel)
set_option maxRecDepth 65536 in
theorem w_c5 : (Jvm.Cond.code ({ cls := "com/example/uneven_ticks/uneventicks/core/RunState", name := "getStepCount", desc := "()J" } : Jvm.MethodName) prog_45_method_2_code (1 : Nat) (Option.some Jvm.ClassFile.FieldType.long)).before args0 about1 = true := code_word (m := ⟨2, 1⟩) (meth := k2m1) (c := k2c1) (by decide +kernel) rfl rfl rfl (by decide +kernel)
set_option maxRecDepth 65536 in
theorem w_c6 : (Jvm.Cond.code ({ cls := "com/example/uneven_ticks/uneventicks/core/RunStateAdvancePinLaw", name := "check", desc := "(Lcom/example/uneven_ticks/uneventicks/core/RunState;III)Z" } : Jvm.MethodName) method_3_code (10 : Nat) (Option.some Jvm.ClassFile.FieldType.boolean)).before args0 about1 = true := code_word (m := ⟨1, 2⟩) (meth := k1m2) (c := k1c2) (by decide +kernel) rfl rfl rfl (by decide +kernel)
set_option maxRecDepth 65536 in
theorem w_c7 : (Jvm.Cond.code ({ cls := "com/example/uneven_ticks/uneventicks/core/RunState", name := "getTicks", desc := "(I)J" } : Jvm.MethodName) prog_45_method_3_code (2 : Nat) (Option.some Jvm.ClassFile.FieldType.long)).before args0 about1 = true := code_word (m := ⟨2, 2⟩) (meth := k2m2) (c := k2c2) (by decide +kernel) rfl rfl rfl (by decide +kernel)
set_option maxRecDepth 65536 in
theorem w_c8 : (Jvm.Cond.code ({ cls := "com/example/uneven_ticks/uneventicks/core/RunState", name := "getLastTickStep", desc := "(I)J" } : Jvm.MethodName) prog_45_method_4_code (2 : Nat) (Option.some Jvm.ClassFile.FieldType.long)).before args0 about1 = true := code_word (m := ⟨2, 3⟩) (meth := k2m3) (c := k2c3) (by decide +kernel) rfl rfl rfl (by decide +kernel)
def codes1 : List Jvm.Cond := [Jvm.Cond.code x code maxLocals ret, Jvm.Cond.code ({ cls := "com/example/uneven_ticks/uneventicks/core/RunStateAdvancePinLaw", name := "subset", desc := "(IZ)[I" } : Jvm.MethodName) method_4_code (2 : Nat) (Option.some (Jvm.ClassFile.FieldType.array Jvm.ClassFile.FieldType.int)), Jvm.Cond.code ({ cls := "com/example/uneven_ticks/uneventicks/core/RunState", name := "<init>", desc := "(I)V" } : Jvm.MethodName) prog_45_method_1_code (2 : Nat) (Option.none : Option Jvm.ClassFile.FieldType), Jvm.Cond.code ({ cls := "java/lang/Object", name := "<init>", desc := "()V" } : Jvm.MethodName) object_method_1_code (1 : Nat) (Option.none : Option Jvm.ClassFile.FieldType), Jvm.Cond.code ({ cls := "com/example/uneven_ticks/uneventicks/core/RunState", name := "advance", desc := "([I)V" } : Jvm.MethodName) prog_45_method_5_code (6 : Nat) (Option.none : Option Jvm.ClassFile.FieldType), Jvm.Cond.code ({ cls := "com/example/uneven_ticks/uneventicks/core/RunState", name := "getStepCount", desc := "()J" } : Jvm.MethodName) prog_45_method_2_code (1 : Nat) (Option.some Jvm.ClassFile.FieldType.long), Jvm.Cond.code ({ cls := "com/example/uneven_ticks/uneventicks/core/RunStateAdvancePinLaw", name := "check", desc := "(Lcom/example/uneven_ticks/uneventicks/core/RunState;III)Z" } : Jvm.MethodName) method_3_code (10 : Nat) (Option.some Jvm.ClassFile.FieldType.boolean), Jvm.Cond.code ({ cls := "com/example/uneven_ticks/uneventicks/core/RunState", name := "getTicks", desc := "(I)J" } : Jvm.MethodName) prog_45_method_3_code (2 : Nat) (Option.some Jvm.ClassFile.FieldType.long), Jvm.Cond.code ({ cls := "com/example/uneven_ticks/uneventicks/core/RunState", name := "getLastTickStep", desc := "(I)J" } : Jvm.MethodName) prog_45_method_4_code (2 : Nat) (Option.some Jvm.ClassFile.FieldType.long)]
set_option maxRecDepth 65536 in
theorem codes_eq : words1.filter isCode = codes1 := rfl
theorem w_codes : ∀ c ∈ words1.filter isCode, c.before args0 about1 = true := by
  rw [codes_eq]
  intro c hc
  simp only [codes1, List.mem_cons, List.not_mem_nil, or_false] at hc
  rcases hc with rfl | rfl | rfl | rfl | rfl | rfl | rfl | rfl | rfl
  · exact w_c0
  · exact w_c1
  · exact w_c2
  · exact w_c3
  · exact w_c4
  · exact w_c5
  · exact w_c6
  · exact w_c7
  · exact w_c8
set_option maxRecDepth 65536 in
theorem w_t1 : (words1.take 24).all (fun c => isCode c || c.before args0 about1) = true := by decide +kernel
set_option maxRecDepth 65536 in
theorem w_t2 : (words1.drop 24).all (fun c => isCode c || c.before args0 about1) = true := by decide +kernel
theorem w_tables : (allAtoms (Jvm.Cond.code x code maxLocals ret :: tables_1)).before args0 about1 = true := by
  rw [allAtoms_all]
  show words1.all (fun c => c.before args0 about1) = true
  refine all_split ?_ w_codes
  rw [← List.take_append_drop 24 words1, List.all_append, w_t1, w_t2]
  rfl
set_option maxRecDepth 65536 in
theorem w_case : (Jvm.Cond.and given_1 narrow_1).before args0 about1 = true := by decide +kernel
theorem w_applies : (headSpec (Jvm.Cond.code x code maxLocals ret :: tables_1) room_1).applies x e0.platform about1 = true :=
  (Spec.applies_iff w_frames).mpr ⟨w_running, w_runnable, w_alone, w_named, w_hears, w_ripe, w_room, w_tables⟩
theorem atStart : AtStart classFile x code maxLocals ret World_1 tables_1 room_1 Calls_1 rest_1 Pre_1 launch0 p0 e0 about1 theMethod args0 below0 :=
  ⟨lists_1, trivial, launch0.admits_env _ _ _, launch0.least_env, fairChoices_fair.cas, fairChoices_fair.clock, w_frames, w_args, w_heap, w_applies, trivial, trivial, w_case⟩
end start1
theorem witness_1 : WitnessClaimed_1 := ⟨start1.p0, start1.e0, start1.about1, start1.theMethod, start1.args0, start1.below0, start1.atStart⟩
end Jvm.Pilot.@@N@@
