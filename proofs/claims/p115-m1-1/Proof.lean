import JvmDerived
import JvmDerived.Pilot.@@N@@Statement
import JvmDerived.Pilot.@@N@@Code
set_option linter.unusedVariables false
set_option linter.unusedSimpArgs false
namespace Jvm.Pilot.@@N@@
open Jvm Jvm.ClassFile Sem Op Lib Jvm.Free Jvm.Stand Jvm.LawKit Jvm.RoadKit Bundle Jvm.Pilot.@@N@@.Jvm.D
theorem ow {Z : State} {a0 : Array Value} (hw : ∀ d ∈ tables_1, d.before a0 Z = true) {i : Nat} {d : Jvm.Cond} (h : tables_1[i]? = some d) : d.before a0 Z = true := hw d (List.mem_of_getElem? h)
theorem oLt {n m : Nat} (h : Nat.blt n m = true) : n < m := by simpa [Nat.blt_eq] using h
theorem oLe {n m : Nat} (h : Nat.ble n m = true) : n ≤ m := Nat.le_of_ble_eq_true h
theorem ogeI (x : Int32) : -2147483648 ≤ x.toInt := by have := Int32.le_toInt x; omega
theorem oltI' (x : Int32) : x.toInt < 2147483648 := by have := Int32.toInt_lt x; omega
theorem ogeL (x : Int64) : -9223372036854775808 ≤ x.toInt := by have := Int64.le_toInt x; omega
theorem oltL' (x : Int64) : x.toInt < 9223372036854775808 := by have := Int64.toInt_lt x; omega
theorem orI (x : Int32) : -2147483648 ≤ x.toInt ∧ x.toInt < 2147483648 := ⟨ogeI x, oltI' x⟩
theorem orL (x : Int64) : -9223372036854775808 ≤ x.toInt ∧ x.toInt < 9223372036854775808 := ⟨ogeL x, oltL' x⟩
theorem oiadd (x y : Int32) : ((x + y).toInt - (x.toInt + y.toInt)) % 4294967296 = 0 ∧ -2147483648 ≤ (x + y).toInt ∧ (x + y).toInt < 2147483648 := ⟨c_iadd x y, orI _⟩
theorem oisub (x y : Int32) : ((x - y).toInt - (x.toInt - y.toInt)) % 4294967296 = 0 ∧ -2147483648 ≤ (x - y).toInt ∧ (x - y).toInt < 2147483648 := ⟨c_isub x y, orI _⟩
theorem oladd (x y : Int64) : ((x + y).toInt - (x.toInt + y.toInt)) % 18446744073709551616 = 0 ∧ -9223372036854775808 ≤ (x + y).toInt ∧ (x + y).toInt < 9223372036854775808 := ⟨c_ladd x y, orL _⟩
theorem olsub (x y : Int64) : ((x - y).toInt - (x.toInt - y.toInt)) % 18446744073709551616 = 0 ∧ -9223372036854775808 ≤ (x - y).toInt ∧ (x - y).toInt < 9223372036854775808 := ⟨c_lsub x y, orL _⟩
theorem oltI {x y : Int32} (h : x < y) : x.toInt < y.toInt := Int32.lt_iff_toInt_lt.mp h
theorem oltL {x y : Int64} (h : x < y) : x.toInt < y.toInt := Int64.lt_iff_toInt_lt.mp h
theorem onltI {x y : Int32} (h : ¬ x < y) : y.toInt ≤ x.toInt := by rw [Int32.lt_iff_toInt_lt] at h; omega
theorem onltL {x y : Int64} (h : ¬ x < y) : y.toInt ≤ x.toInt := by rw [Int64.lt_iff_toInt_lt] at h; omega
theorem oeqI {x y : Int32} (h : x = y) : x.toInt = y.toInt := congrArg _ h
theorem oeqL {x y : Int64} (h : x = y) : x.toInt = y.toInt := congrArg _ h
theorem oneI {x y : Int32} (h : ¬ x = y) : x.toInt ≠ y.toInt := fun q => h (Int32.toInt_inj.mp q)
theorem oneL {x y : Int64} (h : ¬ x = y) : x.toInt ≠ y.toInt := fun q => h (Int64.toInt_inj.mp q)
theorem oltI_i {x y : Int32} (h : x.toInt < y.toInt) : x < y := Int32.lt_iff_toInt_lt.mpr h
theorem oltL_i {x y : Int64} (h : x.toInt < y.toInt) : x < y := Int64.lt_iff_toInt_lt.mpr h
theorem onltI_i {x y : Int32} (h : y.toInt ≤ x.toInt) : ¬ x < y := by rw [Int32.lt_iff_toInt_lt]; omega
theorem onltL_i {x y : Int64} (h : y.toInt ≤ x.toInt) : ¬ x < y := by rw [Int64.lt_iff_toInt_lt]; omega
theorem oeqI_i {x y : Int32} (h : x.toInt = y.toInt) : x = y := Int32.toInt_inj.mp h
theorem oeqL_i {x y : Int64} (h : x.toInt = y.toInt) : x = y := Int64.toInt_inj.mp h
theorem oneI_i {x y : Int32} (h : x.toInt ≠ y.toInt) : ¬ x = y := fun q => h (congrArg _ q)
theorem oneL_i {x y : Int64} (h : x.toInt ≠ y.toInt) : ¬ x = y := fun q => h (congrArg _ q)
theorem otoI {x y : Int32} (h : x.toInt = y.toInt) : x = y := Int32.toInt_inj.mp h
theorem otoL {x y : Int64} (h : x.toInt = y.toInt) : x = y := Int64.toInt_inj.mp h
theorem omaskI (x m : Int32) (k : Nat) (P : Int) (hk : k ≤ 31) (hm : m.toBitVec.toNat = 2 ^ k - 1) (hP : P = ((2 ^ k : Nat) : Int)) : (x &&& m).toInt = x.toInt % P := by rw [hP]; exact c_mask x m k hk hm
theorem omaskL (x m : Int64) (k : Nat) (P : Int) (hk : k ≤ 63) (hm : m.toBitVec.toNat = 2 ^ k - 1) (hP : P = ((2 ^ k : Nat) : Int)) : (x &&& m).toInt = x.toInt % P := by rw [hP]; exact c_maskL x m k hk hm
theorem oandI (x m : Int32) (hm : 0 ≤ m.toInt) : 0 ≤ (x &&& m).toInt ∧ (x &&& m).toInt ≤ m.toInt := c_and x m hm
theorem oishr (x q : Int32) (k : Nat) (P : Int) (hk : q.toBitVec.toNat % 32 = k) (hP : P = ((2 ^ k : Nat) : Int)) : (x >>> (q &&& 31)).toInt = x.toInt / P := by rw [hP]; exact c_ishr x q k hk
theorem oishl (x q : Int32) (k : Nat) (P : Int) (hk : q.toBitVec.toNat % 32 = k) (hP : P = ((2 ^ k : Nat) : Int)) : ((x <<< (q &&& 31)).toInt - x.toInt * P) % 4294967296 = 0 := by rw [hP]; exact c_ishl x q k hk
theorem oiushr (x q : Int32) (k : Nat) (P : Int) (hk : q.toBitVec.toNat % 32 = k) (hP : P = ((2 ^ k : Nat) : Int)) (h0 : 0 < k) : ((x.toUInt32 >>> (q &&& 31).toUInt32).toInt32).toInt = (x.toInt % 4294967296) / P := by rw [hP]; exact c_iushr x q k hk h0
theorem olshr (x : Int64) (q : Int32) (k : Nat) (P : Int) (hk : q.toBitVec.toNat % 64 = k) (hP : P = ((2 ^ k : Nat) : Int)) : (x >>> (q &&& 0x3f).toInt64).toInt = x.toInt / P := by rw [hP]; exact c_lshr x q k hk
theorem olshl (x : Int64) (q : Int32) (k : Nat) (P : Int) (hk : q.toBitVec.toNat % 64 = k) (hP : P = ((2 ^ k : Nat) : Int)) : ((x <<< (q &&& 0x3f).toInt64).toInt - x.toInt * P) % 18446744073709551616 = 0 := by rw [hP]; exact c_lshl x q k hk
theorem olushr (x : Int64) (q : Int32) (k : Nat) (P : Int) (hk : q.toBitVec.toNat % 64 = k) (hP : P = ((2 ^ k : Nat) : Int)) (h0 : 0 < k) : ((x.toUInt64 >>> (q &&& 0x3f).toInt64.toUInt64).toInt64).toInt = (x.toInt % 18446744073709551616) / P := by rw [hP]; exact c_lushr x q k hk h0
theorem oirem (x y : Int32) (d : Int) (hy : y.toInt = d) (h0 : 0 < d) (h1 : y ≠ -1) : (0 ≤ x.toInt → (x % y).toInt = x.toInt % d) ∧ (x.toInt < 0 → (x % y).toInt = -((-x.toInt) % d)) := c_irem x y d hy
theorem olrem (x y : Int64) (d : Int) (hy : y.toInt = d) (h0 : 0 < d) (h1 : y ≠ -1) : (0 ≤ x.toInt → (x - (x / y) * y).toInt = x.toInt % d) ∧ (x.toInt < 0 → (x - (x / y) * y).toInt = -((-x.toInt) % d)) := c_lrem x y d hy
theorem oidiv (x y : Int32) (d : Int) (hy : y.toInt = d) (h0 : 0 < d) (h1 : y ≠ -1) : (0 ≤ x.toInt → (x / y).toInt = x.toInt / d) ∧ (x.toInt < 0 → (x / y).toInt = -((-x.toInt) / d)) := c_idiv x y d hy h1
theorem oldiv (x y : Int64) (d : Int) (hy : y.toInt = d) (h0 : 0 < d) (h1 : y ≠ -1) : (0 ≤ x.toInt → (x / y).toInt = x.toInt / d) ∧ (x.toInt < 0 → (x / y).toInt = -((-x.toInt) / d)) := c_ldiv x y d hy h1
theorem olremV (x y : Int64) : 0 ≤ x.toInt → 0 < y.toInt → 0 ≤ (x - (x / y) * y).toInt ∧ (x - (x / y) * y).toInt < y.toInt ∧ (x - (x / y) * y).toInt ≤ x.toInt := by
  intro h1 h2
  rw [(c_lrem x y y.toInt rfl).1 h1]
  exact ⟨Int.emod_nonneg _ (by omega), Int.emod_lt_of_pos _ h2, by have q1 := Int.mul_ediv_add_emod x.toInt y.toInt; have q2 := Int.mul_nonneg (Int.le_of_lt h2) (Int.ediv_nonneg h1 (Int.le_of_lt h2)); omega⟩
theorem oiremV (x y : Int32) : 0 ≤ x.toInt → 0 < y.toInt → 0 ≤ (x % y).toInt ∧ (x % y).toInt < y.toInt ∧ (x % y).toInt ≤ x.toInt := by
  intro h1 h2
  rw [(c_irem x y y.toInt rfl).1 h1]
  exact ⟨Int.emod_nonneg _ (by omega), Int.emod_lt_of_pos _ h2, by have q1 := Int.mul_ediv_add_emod x.toInt y.toInt; have q2 := Int.mul_nonneg (Int.le_of_lt h2) (Int.ediv_nonneg h1 (Int.le_of_lt h2)); omega⟩
abbrev o0 : Value := .int (0 : Int32)
abbrev oFK : Type := String × String × String
abbrev oD : Type := Sum (FieldType × List Value) (String × List (oFK × Value))
abbrev oA (ty : FieldType) (vs : List Value) : oD := .inl (ty, vs)
abbrev oO (C : String) (fs : List (oFK × Value)) : oD := .inr (C, fs)
abbrev oDs : Type := List (Addr × oD)
def oSl (Z : State) (f : oFK) : Nat := Jvm.RoadKit.slotOf Z f.1 f.2.1 f.2.2
def oIs (Z : State) (h : Heap) (a : Addr) (d : oD) : Prop :=
  match d with
  | .inl x => ∃ c : Cell, Arr Z h a c x.1 ∧ c.slots = x.2.toArray ∧ (∀ C, x.1 = .object C → Ovr Z c.cls C) ∧ Exa Z h a ("[" ++ x.1.toString) ∧ ∀ v ∈ x.2, fits x.1 v = true
  | .inr x => Exa Z h a x.1 ∧ (∀ f ∈ x.2, Fld Z h a f.1.1 f.1.2.1 f.1.2.2 f.2) ∧ x.2.Pairwise (fun f g => oSl Z f.1 ≠ oSl Z g.1)
def oHP (Z : State) (h0 : Heap) (lo : Nat) (h : Heap) (ds : oDs) : Prop := (Ext h0 h ∧ lo ≤ h.size) ∧ (ds.map (·.1)).Nodup ∧ ∀ x ∈ ds, h0.size ≤ x.1 ∧ oIs Z h x.1 x.2
theorem oExt.refl (h : Heap) : Ext h h := ⟨Nat.le_refl _, fun _ _ q => q⟩
theorem oExt.trans {h h' h'' : Heap} (E : Ext h h') (E' : Ext h' h'') : Ext h h'' := ⟨Nat.le_trans E.1 E'.1, fun a c q => E'.2 a c (E.2 a c q)⟩
theorem oHP.nil (Z : State) (h : Heap) : oHP Z h h.size h [] := ⟨⟨oExt.refl h, Nat.le_refl _⟩, List.nodup_nil, fun x hx => nomatch hx⟩
theorem oIs.lt {Z : State} {h : Heap} {a : Addr} {d : oD} (I : oIs Z h a d) : a < h.size := by
  cases d with
  | inl x => obtain ⟨c, A, -⟩ := I; exact A.lt
  | inr x => exact I.1.lt
theorem oIs.ext {Z : State} {h h' : Heap} {a : Addr} {d : oD} (E : Ext h h') (I : oIs Z h a d) : oIs Z h' a d := by
  cases d with
  | inl x => obtain ⟨c, A, r1, r2, r3, r4⟩ := I; exact ⟨c, A.ext E, r1, r2, r3.ext E, r4⟩
  | inr x => exact ⟨I.1.ext E, fun f hf => (I.2.1 f hf).ext E, I.2.2⟩
theorem oIs.other {Z : State} {h h' : Heap} {a b : Addr} {sl : Nat} {v : Value} {d : oD} (W : Wr h h' a sl v) (ne : b ≠ a) (I : oIs Z h b d) : oIs Z h' b d := by
  cases d with
  | inl x => obtain ⟨c, A, r1, r2, r3, r4⟩ := I; exact ⟨c, A.other W ne, r1, r2, r3.wr W, r4⟩
  | inr x => exact ⟨I.1.wr W, fun f hf => (I.2.1 f hf).other W (Or.inl ne), I.2.2⟩
theorem oHP.at {Z : State} {h0 h : Heap} {lo : Nat} {ds : oDs} (H : oHP Z h0 lo h ds) {i : Nat} {a : Addr} {d : oD} (hi : ds[i]? = some (a, d)) : h0.size ≤ a ∧ oIs Z h a d := H.2.2 (a, d) (List.mem_of_getElem? hi)
theorem oHP.more {Z : State} {h0 h h' : Heap} {lo : Nat} {ds : oDs} (H : oHP Z h0 lo h ds) (E : Ext h h') {lo' : Nat} (hlo : lo' ≤ h'.size) : oHP Z h0 lo' h' ds := ⟨⟨oExt.trans H.1.1 E, hlo⟩, H.2.1, fun x hx => ⟨(H.2.2 x hx).1, (H.2.2 x hx).2.ext E⟩⟩
theorem oHP.new {Z : State} {h0 h h' : Heap} {lo : Nat} {ds : oDs} (H : oHP Z h0 lo h ds) (E : Ext h h') {d : oD} (I : oIs Z h' h.size d) : oHP Z h0 lo h' ((h.size, d) :: ds) := by
  refine ⟨⟨oExt.trans H.1.1 E, Nat.le_trans H.1.2 E.1⟩, ?_, ?_⟩
  · rw [List.map_cons, List.nodup_cons]
    refine ⟨fun q => ?_, H.2.1⟩
    obtain ⟨x, hx, e⟩ := List.mem_map.mp q
    exact absurd e (Nat.ne_of_lt (H.2.2 x hx).2.lt)
  · intro x hx
    rcases List.mem_cons.mp hx with rfl | hx
    · exact ⟨H.1.1.1, I⟩
    · exact ⟨(H.2.2 x hx).1, (H.2.2 x hx).2.ext E⟩
theorem oHP.ne {Z : State} {h0 h : Heap} {lo : Nat} {ds : oDs} (H : oHP Z h0 lo h ds) {i j : Nat} {x y : Addr × oD} (hi : ds[i]? = some x) (hj : ds[j]? = some y) (ne : i ≠ j) : x.1 ≠ y.1 := by
  intro q
  have h1 : (ds.map (·.1))[i]? = some x.1 := by rw [List.getElem?_map, hi]; rfl
  have h2 : (ds.map (·.1))[j]? = some x.1 := by rw [List.getElem?_map, hj, q]; rfl
  obtain ⟨l1, e1⟩ := List.getElem?_eq_some_iff.mp h1
  obtain ⟨l2, e2⟩ := List.getElem?_eq_some_iff.mp h2
  have P := List.pairwise_iff_getElem.mp (List.nodup_iff_pairwise_ne.mp H.2.1)
  rcases Nat.lt_or_gt_of_ne ne with r | r
  · exact P i j l1 l2 r (e1.trans e2.symm)
  · exact P j i l2 l1 r (e2.trans e1.symm)
theorem oHP.wr {Z : State} {h0 h h' : Heap} {lo : Nat} {ds : oDs} (H : oHP Z h0 lo h ds) {i : Nat} {a : Addr} {d d' : oD} {sl : Nat} {v : Value} (hi : ds[i]? = some (a, d)) (W : Wr h h' a sl v) (I : oIs Z h' a d') : oHP Z h0 lo h' (ds.set i (a, d')) := by
  have hl : i < ds.length := (List.getElem?_eq_some_iff.mp hi).1
  have ha := (H.at hi).1
  refine ⟨?_, ?_, ?_⟩
  · obtain ⟨cell, w1, w2, w3, w4⟩ := W
    refine ⟨⟨by rw [w4]; simpa using H.1.1.1, fun b cb hb => ?_⟩, by rw [w4]; simpa using H.1.2⟩
    have hb' := H.1.1.2 b cb hb
    have hlt : b < h0.size := (Array.getElem?_eq_some_iff.mp hb).1
    rw [w4, Array.getElem?_setIfInBounds_ne (Nat.ne_of_gt (Nat.lt_of_lt_of_le hlt ha))]
    exact hb'
  · have e : (ds.set i (a, d')).map (·.1) = ds.map (·.1) := by
      rw [List.map_set]
      have h1 : (ds.map (·.1))[i]? = some a := by rw [List.getElem?_map, hi]; rfl
      obtain ⟨l1, e1⟩ := List.getElem?_eq_some_iff.mp h1
      show (ds.map (·.1)).set i a = _
      rw [← e1, List.set_getElem_self]
    rw [e]; exact H.2.1
  · intro x hx
    obtain ⟨j, hj⟩ := List.mem_iff_getElem?.mp hx
    rw [List.getElem?_set] at hj
    by_cases q : i = j
    · rw [if_pos q, if_pos hl] at hj
      cases hj; exact ⟨ha, I⟩
    · rw [if_neg q] at hj
      have ne : x.1 ≠ a := H.ne hj hi (Ne.symm q)
      obtain ⟨g1, g2⟩ := H.2.2 x (List.mem_of_getElem? hj)
      exact ⟨g1, g2.other W ne⟩
def oB (p : Program) (l : Launch) (e : Env) (R : Room) (s : State) (m : MethodId) (args : Array Value) (below : List Frame) (meth : Method) (c : Code) (Z : State) (h0 : Heap) (lo : Nat) (T : State) (cells slots : Nat) (ds : oDs) : Prop :=
  p.tables.exec = Jvm.exec ∧ Z.Warmed39 s.vm ∧ meth.locks = false ∧ ∃ locs, Stand p l e R s m args below meth c T locs cells slots ∧ Fr h0.size locs ∧ oHP Z h0 lo T.heap ds
def oWin (p : Program) (e : Env) (below : List Frame) (Z : State) (h0 : Heap) (Q : Option Value → oDs → Prop) (E : Outcome → State → List Loc → Prop) (S : State) : Prop :=
  ∃ U o, Steps p.tables e below S U ∧ U.status = .running ∧ Ended U below o ∧ ∃ v L, o = .returned v ∧ (Fr h0.size L ∧ ∃ lo ds, oHP Z h0 lo U.heap ds ∧ Q v ds) ∧ E o U L
/-- the end of a walk, said of the walk's start: the plain frame; the wide one (a String constant may have been interned) -/
def oFE (s : State) (lo kc ks : Nat) (o : Outcome) (U : State) (L : List Loc) : Prop := lo ≤ U.heap.size ∧ FrameEnd s o U L kc ks
def oFW (s : State) (kc ks : Nat) (o : Outcome) (U : State) (L : List Loc) : Prop := ReturnedEndW s o U L kc ks
def oMet (l : Launch) (Z : State) (h0 : Heap) (lo : Nat) (y : MethodName) (bytes : ByteArray) (maxL : Nat) (ret : Option FieldType) (ws : List Jvm.Cond) (rm : Room) (as : Array Value) (ds : oDs) (Q : Option Value → oDs → Prop) : Prop :=
  ∀ h, oHP Z h0 lo h ds → MetFree l y (head1 (Jvm.Cond.code y bytes maxL ret :: ws) rm) (fun a U => a = as ∧ Z.Warmed39 U.vm ∧ U.heap = h) (fun _ _ _ _ _ => True) (fun _ U o U' => ∃ v L, o = .returned v ∧ (Fr h0.size L ∧ ∃ ds', oHP Z h0 lo U'.heap ds' ∧ Q v ds') ∧ FrameEnd U o U' L rm.cells rm.slots)
def oMetW (l : Launch) (Z : State) (h0 : Heap) (lo : Nat) (y : MethodName) (bytes : ByteArray) (maxL : Nat) (ret : Option FieldType) (ws : List Jvm.Cond) (rm : Room) (as : Array Value) (ds : oDs) (Q : Option Value → oDs → Prop) : Prop :=
  ∀ h, oHP Z h0 lo h ds → MetFree l y (head1 (Jvm.Cond.code y bytes maxL ret :: ws) rm) (fun a U => a = as ∧ Z.Warmed39 U.vm ∧ U.heap = h) (fun _ _ _ _ _ => True) (fun _ U o U' => ∃ v L, o = .returned v ∧ (Fr h0.size L ∧ ∃ lo' ds', oHP Z h0 lo' U'.heap ds' ∧ Q v ds') ∧ ReturnedEndW U o U' L rm.cells rm.slots)
theorem oMet.of_body {l : Launch} {Z : State} {h0 : Heap} {lo : Nat} {y : MethodName} {bytes : ByteArray} {maxL : Nat} {ret : Option FieldType} {ws : List Jvm.Cond} {rm : Room} {as : Array Value} {ds : oDs} {Q : Option Value → oDs → Prop} (hpl : plainFor y = true)
    (body : ∀ p e s m below meth c T, oB p l e rm s m as below meth c Z h0 lo T 0 0 ds → c.code = bytes → c.maxLocals = maxL → s.vm.findClass y.cls = some m.cls → meth.name = y.name → meth.sig.returnType = ret → oWin p e below Z h0 Q (oFE s lo rm.cells rm.slots) (T.setTop (entryFrame m as maxL))) : oMet l Z h0 lo y bytes maxL ret ws rm as ds Q := by
  intro h hH
  refine MetFree.of_bodySF hpl hisR ?_
  intro p e s m args below meth c s₁ Bd hml hP hK
  obtain ⟨rfl, hZ, hh⟩ := hP
  have e0 : s₁.heap = h := by rw [← hh, Bd.state]; rfl
  obtain ⟨U, o, h1, h2, h3, v, L, h4, ⟨h5, lo', ds', h6, h7⟩, h8, h9⟩ := body p e s m below meth c s₁ ⟨Bd.exec, hZ, Bd.notSynchronized, [], Stand.of_body Bd, Fr.nil _, e0 ▸ hH⟩ Bd.bytes hml (findClass_of_methodNamed Bd.named) (name_of_methodNamed Bd.named Bd.method).1 Bd.returns
  exact ⟨U, o, h1, h2, h3, v, L, h4, ⟨h5, ds', ⟨⟨h6.1.1, h8⟩, h6.2⟩, h7⟩, h9⟩
theorem oMetW.of_body {l : Launch} {Z : State} {h0 : Heap} {lo : Nat} {y : MethodName} {bytes : ByteArray} {maxL : Nat} {ret : Option FieldType} {ws : List Jvm.Cond} {rm : Room} {as : Array Value} {ds : oDs} {Q : Option Value → oDs → Prop} (hpl : plainFor y = true)
    (body : ∀ p e s m below meth c T (vm : Vm), oB p l e rm (s.setVm vm) m as below meth c Z h0 lo T 0 0 ds → s.Since vm lo → c.code = bytes → c.maxLocals = maxL → (s.setVm vm).vm.findClass y.cls = some m.cls → meth.name = y.name → meth.sig.returnType = ret → oWin p e below Z h0 Q (oFW s rm.cells rm.slots) (T.setTop (entryFrame m as maxL))) : oMetW l Z h0 lo y bytes maxL ret ws rm as ds Q := by
  intro h hH
  refine MetFree.of_bodySF hpl hisR ?_
  intro p e s m args below meth c s₁ Bd hml hP hK
  obtain ⟨rfl, hZ, hh⟩ := hP
  have e0 : s₁.heap = h := by rw [← hh, Bd.state]; rfl
  exact body p e s m below meth c s₁ s.vm ⟨Bd.exec, hZ, Bd.notSynchronized, [], Stand.of_body Bd, Fr.nil _, e0 ▸ hH⟩ ((State.WarmedH.refl s).since lo) Bd.bytes hml (findClass_of_methodNamed Bd.named) (name_of_methodNamed Bd.named Bd.method).1 Bd.returns
section Wlaws
variable {p : Program} {l : Launch} {e : Env} {R : Room} {s : State} {m : MethodId} {args : Array Value} {below : List Frame} {meth : Method} {c : Code} {Z : State} {a0 : Array Value} {h0 : Heap} {lo : Nat} {T : State} {cells slots : Nat} {ds ds' : oDs} {Q : Option Value → oDs → Prop} {E : Outcome → State → List Loc → Prop} {kc ks : Nat} {pc pc' : Nat} {ls ls' : Array Slot} {st : List Value}
theorem oWin.step {S S' : State} (w : oWin p e below Z h0 Q E S') (k : ∀ t, Steps p.tables e below S' t → Steps p.tables e below S t) : oWin p e below Z h0 Q E S := by
  obtain ⟨U, o, h1, r⟩ := w; exact ⟨U, o, k _ h1, r⟩
theorem oWin.steps {S S' : State} (w : oWin p e below Z h0 Q E S') (k : Steps p.tables e below S S') : oWin p e below Z h0 Q E S := by
  obtain ⟨U, o, h1, r⟩ := w; exact ⟨U, o, k.trans h1, r⟩
theorem W_entry {as : Array Value} {maxL : Nat} (h : entryFrame m as maxL = mkF m 0 ls []) (w : oWin p e below Z h0 Q E (T.setTop (mkF m 0 ls []))) : oWin p e below Z h0 Q E (T.setTop (entryFrame m as maxL)) := by rw [h]; exact w
theorem W_iload (B : oB p l e R s m args below meth c Z h0 lo T cells slots ds) {i : Nat} {v : Int32} (hd : decode c.code pc = .ok (.iload i, 2)) (hp : pc + 2 = pc') (hl : ls[i]? = some (.val (.int v))) (w : oWin p e below Z h0 Q E (T.setTop (mkF m pc' ls (.int v :: st)))) : oWin p e below Z h0 Q E (T.setTop (mkF m pc ls (st))) := by
  subst hp
  obtain ⟨hx, hZ, hlk, locs, X, N, H⟩ := B
  exact w.step fun t k => XS.iload X.here hx rfl hd hl k
theorem W_iloadN (B : oB p l e R s m args below meth c Z h0 lo T cells slots ds) {i : Fin 4} {v : Int32} (hd : decode c.code pc = .ok (.iload_n i, 1)) (hp : pc + 1 = pc') (hl : ls[i.val]? = some (.val (.int v))) (w : oWin p e below Z h0 Q E (T.setTop (mkF m pc' ls (.int v :: st)))) : oWin p e below Z h0 Q E (T.setTop (mkF m pc ls (st))) := by
  subst hp
  obtain ⟨hx, hZ, hlk, locs, X, N, H⟩ := B
  exact w.step fun t k => XS.iloadN X.here hx rfl hd hl k
theorem W_istore (B : oB p l e R s m args below meth c Z h0 lo T cells slots ds) {i : Nat} {x v : Int32} (hd : decode c.code pc = .ok (.istore i, 2)) (hp : pc + 2 = pc') (hz : x = v) (hl : storeLocals ls i (.int v) = some ls') (w : oWin p e below Z h0 Q E (T.setTop (mkF m pc' ls' (st)))) : oWin p e below Z h0 Q E (T.setTop (mkF m pc ls (.int x :: st))) := by
  subst hp hz
  obtain ⟨hx, hZ, hlk, locs, X, N, H⟩ := B
  exact w.step fun t k => XS.istore X.here hx rfl hd rfl hl k
theorem W_istoreN (B : oB p l e R s m args below meth c Z h0 lo T cells slots ds) {i : Fin 4} {x v : Int32} (hd : decode c.code pc = .ok (.istore_n i, 1)) (hp : pc + 1 = pc') (hz : x = v) (hl : storeLocals ls i.val (.int v) = some ls') (w : oWin p e below Z h0 Q E (T.setTop (mkF m pc' ls' (st)))) : oWin p e below Z h0 Q E (T.setTop (mkF m pc ls (.int x :: st))) := by
  subst hp hz
  obtain ⟨hx, hZ, hlk, locs, X, N, H⟩ := B
  exact w.step fun t k => XS.istoreN X.here hx rfl hd rfl hl k
theorem W_iadd (B : oB p l e R s m args below meth c Z h0 lo T cells slots ds) {x y z : Int32} (hd : decode c.code pc = .ok (.iadd, 1)) (hp : pc + 1 = pc') (hz : x + y = z) (w : oWin p e below Z h0 Q E (T.setTop (mkF m pc' ls (.int z :: st)))) : oWin p e below Z h0 Q E (T.setTop (mkF m pc ls (.int y :: .int x :: st))) := by
  subst hp hz
  obtain ⟨hx, hZ, hlk, locs, X, N, H⟩ := B
  exact w.step fun t k => XS.iadd X.here hx rfl hd rfl k
theorem W_isub (B : oB p l e R s m args below meth c Z h0 lo T cells slots ds) {x y z : Int32} (hd : decode c.code pc = .ok (.isub, 1)) (hp : pc + 1 = pc') (hz : x - y = z) (w : oWin p e below Z h0 Q E (T.setTop (mkF m pc' ls (.int z :: st)))) : oWin p e below Z h0 Q E (T.setTop (mkF m pc ls (.int y :: .int x :: st))) := by
  subst hp hz
  obtain ⟨hx, hZ, hlk, locs, X, N, H⟩ := B
  exact w.step fun t k => XS.isub X.here hx rfl hd rfl k
theorem W_imul (B : oB p l e R s m args below meth c Z h0 lo T cells slots ds) {x y z : Int32} (hd : decode c.code pc = .ok (.imul, 1)) (hp : pc + 1 = pc') (hz : x * y = z) (w : oWin p e below Z h0 Q E (T.setTop (mkF m pc' ls (.int z :: st)))) : oWin p e below Z h0 Q E (T.setTop (mkF m pc ls (.int y :: .int x :: st))) := by
  subst hp hz
  obtain ⟨hx, hZ, hlk, locs, X, N, H⟩ := B
  exact w.step fun t k => XS.imul X.here hx rfl hd rfl k
theorem W_iand (B : oB p l e R s m args below meth c Z h0 lo T cells slots ds) {x y z : Int32} (hd : decode c.code pc = .ok (.iand, 1)) (hp : pc + 1 = pc') (hz : x &&& y = z) (w : oWin p e below Z h0 Q E (T.setTop (mkF m pc' ls (.int z :: st)))) : oWin p e below Z h0 Q E (T.setTop (mkF m pc ls (.int y :: .int x :: st))) := by
  subst hp hz
  obtain ⟨hx, hZ, hlk, locs, X, N, H⟩ := B
  exact w.step fun t k => XS.iand X.here hx rfl hd rfl k
theorem W_ior (B : oB p l e R s m args below meth c Z h0 lo T cells slots ds) {x y z : Int32} (hd : decode c.code pc = .ok (.ior, 1)) (hp : pc + 1 = pc') (hz : x ||| y = z) (w : oWin p e below Z h0 Q E (T.setTop (mkF m pc' ls (.int z :: st)))) : oWin p e below Z h0 Q E (T.setTop (mkF m pc ls (.int y :: .int x :: st))) := by
  subst hp hz
  obtain ⟨hx, hZ, hlk, locs, X, N, H⟩ := B
  exact w.step fun t k => XS.ior X.here hx rfl hd rfl k
theorem W_ixor (B : oB p l e R s m args below meth c Z h0 lo T cells slots ds) {x y z : Int32} (hd : decode c.code pc = .ok (.ixor, 1)) (hp : pc + 1 = pc') (hz : x ^^^ y = z) (w : oWin p e below Z h0 Q E (T.setTop (mkF m pc' ls (.int z :: st)))) : oWin p e below Z h0 Q E (T.setTop (mkF m pc ls (.int y :: .int x :: st))) := by
  subst hp hz
  obtain ⟨hx, hZ, hlk, locs, X, N, H⟩ := B
  exact w.step fun t k => XS.ixor X.here hx rfl hd rfl k
theorem W_ineg (B : oB p l e R s m args below meth c Z h0 lo T cells slots ds) {x z : Int32} (hd : decode c.code pc = .ok (.ineg, 1)) (hp : pc + 1 = pc') (hz : -x = z) (w : oWin p e below Z h0 Q E (T.setTop (mkF m pc' ls (.int z :: st)))) : oWin p e below Z h0 Q E (T.setTop (mkF m pc ls (.int x :: st))) := by
  subst hp hz
  obtain ⟨hx, hZ, hlk, locs, X, N, H⟩ := B
  exact w.step fun t k => XS.ineg X.here hx rfl hd rfl k
theorem W_idiv (B : oB p l e R s m args below meth c Z h0 lo T cells slots ds) {x y z : Int32} (hd : decode c.code pc = .ok (.idiv, 1)) (hp : pc + 1 = pc') (hy : y ≠ 0) (hz : x / y = z) (w : oWin p e below Z h0 Q E (T.setTop (mkF m pc' ls (.int z :: st)))) : oWin p e below Z h0 Q E (T.setTop (mkF m pc ls (.int y :: .int x :: st))) := by
  subst hp hz
  obtain ⟨hx, hZ, hlk, locs, X, N, H⟩ := B
  exact w.step fun t k => XS.idiv X.here hx rfl hd rfl hy k
theorem W_lload (B : oB p l e R s m args below meth c Z h0 lo T cells slots ds) {i : Nat} {v : Int64} (hd : decode c.code pc = .ok (.lload i, 2)) (hp : pc + 2 = pc') (hl : ls[i]? = some (.val (.long v))) (w : oWin p e below Z h0 Q E (T.setTop (mkF m pc' ls (.long v :: st)))) : oWin p e below Z h0 Q E (T.setTop (mkF m pc ls (st))) := by
  subst hp
  obtain ⟨hx, hZ, hlk, locs, X, N, H⟩ := B
  exact w.step fun t k => XS.lload X.here hx rfl hd hl k
theorem W_lloadN (B : oB p l e R s m args below meth c Z h0 lo T cells slots ds) {i : Fin 4} {v : Int64} (hd : decode c.code pc = .ok (.lload_n i, 1)) (hp : pc + 1 = pc') (hl : ls[i.val]? = some (.val (.long v))) (w : oWin p e below Z h0 Q E (T.setTop (mkF m pc' ls (.long v :: st)))) : oWin p e below Z h0 Q E (T.setTop (mkF m pc ls (st))) := by
  subst hp
  obtain ⟨hx, hZ, hlk, locs, X, N, H⟩ := B
  exact w.step fun t k => XS.lloadN X.here hx rfl hd hl k
theorem W_lstore (B : oB p l e R s m args below meth c Z h0 lo T cells slots ds) {i : Nat} {x v : Int64} (hd : decode c.code pc = .ok (.lstore i, 2)) (hp : pc + 2 = pc') (hz : x = v) (hl : storeLocals ls i (.long v) = some ls') (w : oWin p e below Z h0 Q E (T.setTop (mkF m pc' ls' (st)))) : oWin p e below Z h0 Q E (T.setTop (mkF m pc ls (.long x :: st))) := by
  subst hp hz
  obtain ⟨hx, hZ, hlk, locs, X, N, H⟩ := B
  exact w.step fun t k => XS.lstore X.here hx rfl hd rfl hl k
theorem W_lstoreN (B : oB p l e R s m args below meth c Z h0 lo T cells slots ds) {i : Fin 4} {x v : Int64} (hd : decode c.code pc = .ok (.lstore_n i, 1)) (hp : pc + 1 = pc') (hz : x = v) (hl : storeLocals ls i.val (.long v) = some ls') (w : oWin p e below Z h0 Q E (T.setTop (mkF m pc' ls' (st)))) : oWin p e below Z h0 Q E (T.setTop (mkF m pc ls (.long x :: st))) := by
  subst hp hz
  obtain ⟨hx, hZ, hlk, locs, X, N, H⟩ := B
  exact w.step fun t k => XS.lstoreN X.here hx rfl hd rfl hl k
theorem W_ladd (B : oB p l e R s m args below meth c Z h0 lo T cells slots ds) {x y z : Int64} (hd : decode c.code pc = .ok (.ladd, 1)) (hp : pc + 1 = pc') (hz : x + y = z) (w : oWin p e below Z h0 Q E (T.setTop (mkF m pc' ls (.long z :: st)))) : oWin p e below Z h0 Q E (T.setTop (mkF m pc ls (.long y :: .long x :: st))) := by
  subst hp hz
  obtain ⟨hx, hZ, hlk, locs, X, N, H⟩ := B
  exact w.step fun t k => XS.ladd X.here hx rfl hd rfl k
theorem W_lsub (B : oB p l e R s m args below meth c Z h0 lo T cells slots ds) {x y z : Int64} (hd : decode c.code pc = .ok (.lsub, 1)) (hp : pc + 1 = pc') (hz : x - y = z) (w : oWin p e below Z h0 Q E (T.setTop (mkF m pc' ls (.long z :: st)))) : oWin p e below Z h0 Q E (T.setTop (mkF m pc ls (.long y :: .long x :: st))) := by
  subst hp hz
  obtain ⟨hx, hZ, hlk, locs, X, N, H⟩ := B
  exact w.step fun t k => XS.lsub X.here hx rfl hd rfl k
theorem W_lmul (B : oB p l e R s m args below meth c Z h0 lo T cells slots ds) {x y z : Int64} (hd : decode c.code pc = .ok (.lmul, 1)) (hp : pc + 1 = pc') (hz : x * y = z) (w : oWin p e below Z h0 Q E (T.setTop (mkF m pc' ls (.long z :: st)))) : oWin p e below Z h0 Q E (T.setTop (mkF m pc ls (.long y :: .long x :: st))) := by
  subst hp hz
  obtain ⟨hx, hZ, hlk, locs, X, N, H⟩ := B
  exact w.step fun t k => XS.lmul X.here hx rfl hd rfl k
theorem W_land (B : oB p l e R s m args below meth c Z h0 lo T cells slots ds) {x y z : Int64} (hd : decode c.code pc = .ok (.land, 1)) (hp : pc + 1 = pc') (hz : x &&& y = z) (w : oWin p e below Z h0 Q E (T.setTop (mkF m pc' ls (.long z :: st)))) : oWin p e below Z h0 Q E (T.setTop (mkF m pc ls (.long y :: .long x :: st))) := by
  subst hp hz
  obtain ⟨hx, hZ, hlk, locs, X, N, H⟩ := B
  exact w.step fun t k => XS.land X.here hx rfl hd rfl k
theorem W_lor (B : oB p l e R s m args below meth c Z h0 lo T cells slots ds) {x y z : Int64} (hd : decode c.code pc = .ok (.lor, 1)) (hp : pc + 1 = pc') (hz : x ||| y = z) (w : oWin p e below Z h0 Q E (T.setTop (mkF m pc' ls (.long z :: st)))) : oWin p e below Z h0 Q E (T.setTop (mkF m pc ls (.long y :: .long x :: st))) := by
  subst hp hz
  obtain ⟨hx, hZ, hlk, locs, X, N, H⟩ := B
  exact w.step fun t k => XS.lor X.here hx rfl hd rfl k
theorem W_lxor (B : oB p l e R s m args below meth c Z h0 lo T cells slots ds) {x y z : Int64} (hd : decode c.code pc = .ok (.lxor, 1)) (hp : pc + 1 = pc') (hz : x ^^^ y = z) (w : oWin p e below Z h0 Q E (T.setTop (mkF m pc' ls (.long z :: st)))) : oWin p e below Z h0 Q E (T.setTop (mkF m pc ls (.long y :: .long x :: st))) := by
  subst hp hz
  obtain ⟨hx, hZ, hlk, locs, X, N, H⟩ := B
  exact w.step fun t k => XS.lxor X.here hx rfl hd rfl k
theorem W_lneg (B : oB p l e R s m args below meth c Z h0 lo T cells slots ds) {x z : Int64} (hd : decode c.code pc = .ok (.lneg, 1)) (hp : pc + 1 = pc') (hz : -x = z) (w : oWin p e below Z h0 Q E (T.setTop (mkF m pc' ls (.long z :: st)))) : oWin p e below Z h0 Q E (T.setTop (mkF m pc ls (.long x :: st))) := by
  subst hp hz
  obtain ⟨hx, hZ, hlk, locs, X, N, H⟩ := B
  exact w.step fun t k => XS.lneg X.here hx rfl hd rfl k
theorem W_ldiv (B : oB p l e R s m args below meth c Z h0 lo T cells slots ds) {x y z : Int64} (hd : decode c.code pc = .ok (.ldiv, 1)) (hp : pc + 1 = pc') (hy : y ≠ 0) (hz : x / y = z) (w : oWin p e below Z h0 Q E (T.setTop (mkF m pc' ls (.long z :: st)))) : oWin p e below Z h0 Q E (T.setTop (mkF m pc ls (.long y :: .long x :: st))) := by
  subst hp hz
  obtain ⟨hx, hZ, hlk, locs, X, N, H⟩ := B
  exact w.step fun t k => XS.ldiv X.here hx rfl hd rfl hy k
theorem W_irem (B : oB p l e R s m args below meth c Z h0 lo T cells slots ds) {x y z : Int32} (hd : decode c.code pc = .ok (.irem, 1)) (hp : pc + 1 = pc') (hy : y ≠ 0) (hz : x % y = z) (w : oWin p e below Z h0 Q E (T.setTop (mkF m pc' ls (.int z :: st)))) : oWin p e below Z h0 Q E (T.setTop (mkF m pc ls (.int y :: .int x :: st))) := by
  subst hp hz
  obtain ⟨hx, hZ, hlk, locs, X, N, H⟩ := B
  exact w.step fun t k => iremM X hx rfl hd rfl hy k
theorem W_lrem (B : oB p l e R s m args below meth c Z h0 lo T cells slots ds) {x y z : Int64} (hd : decode c.code pc = .ok (.lrem, 1)) (hp : pc + 1 = pc') (hy : y ≠ 0) (hz : x - (x / y) * y = z) (w : oWin p e below Z h0 Q E (T.setTop (mkF m pc' ls (.long z :: st)))) : oWin p e below Z h0 Q E (T.setTop (mkF m pc ls (.long y :: .long x :: st))) := by
  subst hp hz
  obtain ⟨hx, hZ, hlk, locs, X, N, H⟩ := B
  exact w.step fun t k => XS.lrem X.here hx rfl hd rfl hy k
theorem W_ishl (B : oB p l e R s m args below meth c Z h0 lo T cells slots ds) {x y z : Int32} (hd : decode c.code pc = .ok (.ishl, 1)) (hp : pc + 1 = pc') (hz : x <<< (y &&& 31) = z) (w : oWin p e below Z h0 Q E (T.setTop (mkF m pc' ls (.int z :: st)))) : oWin p e below Z h0 Q E (T.setTop (mkF m pc ls (.int y :: .int x :: st))) := by
  subst hp hz
  obtain ⟨hx, hZ, hlk, locs, X, N, H⟩ := B
  exact w.step fun t k => XS.ishl X.here hx rfl hd rfl k
theorem W_ishr (B : oB p l e R s m args below meth c Z h0 lo T cells slots ds) {x y z : Int32} (hd : decode c.code pc = .ok (.ishr, 1)) (hp : pc + 1 = pc') (hz : x >>> (y &&& 31) = z) (w : oWin p e below Z h0 Q E (T.setTop (mkF m pc' ls (.int z :: st)))) : oWin p e below Z h0 Q E (T.setTop (mkF m pc ls (.int y :: .int x :: st))) := by
  subst hp hz
  obtain ⟨hx, hZ, hlk, locs, X, N, H⟩ := B
  exact w.step fun t k => XS.ishr X.here hx rfl hd rfl k
theorem W_iushr (B : oB p l e R s m args below meth c Z h0 lo T cells slots ds) {x y z : Int32} (hd : decode c.code pc = .ok (.iushr, 1)) (hp : pc + 1 = pc') (hz : (x.toUInt32 >>> (y &&& 31).toUInt32).toInt32 = z) (w : oWin p e below Z h0 Q E (T.setTop (mkF m pc' ls (.int z :: st)))) : oWin p e below Z h0 Q E (T.setTop (mkF m pc ls (.int y :: .int x :: st))) := by
  subst hp hz
  obtain ⟨hx, hZ, hlk, locs, X, N, H⟩ := B
  exact w.step fun t k => XS.iushr X.here hx rfl hd rfl k
theorem W_lshl (B : oB p l e R s m args below meth c Z h0 lo T cells slots ds) {x : Int64} {y : Int32} {z : Int64} (hd : decode c.code pc = .ok (.lshl, 1)) (hp : pc + 1 = pc') (hz : x <<< (y &&& 0x3f).toInt64 = z) (w : oWin p e below Z h0 Q E (T.setTop (mkF m pc' ls (.long z :: st)))) : oWin p e below Z h0 Q E (T.setTop (mkF m pc ls (.int y :: .long x :: st))) := by
  subst hp hz
  obtain ⟨hx, hZ, hlk, locs, X, N, H⟩ := B
  exact w.step fun t k => XS.lshl X.here hx rfl hd rfl k
theorem W_lshr (B : oB p l e R s m args below meth c Z h0 lo T cells slots ds) {x : Int64} {y : Int32} {z : Int64} (hd : decode c.code pc = .ok (.lshr, 1)) (hp : pc + 1 = pc') (hz : x >>> (y &&& 0x3f).toInt64 = z) (w : oWin p e below Z h0 Q E (T.setTop (mkF m pc' ls (.long z :: st)))) : oWin p e below Z h0 Q E (T.setTop (mkF m pc ls (.int y :: .long x :: st))) := by
  subst hp hz
  obtain ⟨hx, hZ, hlk, locs, X, N, H⟩ := B
  exact w.step fun t k => XS.lshr X.here hx rfl hd rfl k
theorem W_lushr (B : oB p l e R s m args below meth c Z h0 lo T cells slots ds) {x : Int64} {y : Int32} {z : Int64} (hd : decode c.code pc = .ok (.lushr, 1)) (hp : pc + 1 = pc') (hz : (x.toUInt64 >>> (y &&& 0x3f).toInt64.toUInt64).toInt64 = z) (w : oWin p e below Z h0 Q E (T.setTop (mkF m pc' ls (.long z :: st)))) : oWin p e below Z h0 Q E (T.setTop (mkF m pc ls (.int y :: .long x :: st))) := by
  subst hp hz
  obtain ⟨hx, hZ, hlk, locs, X, N, H⟩ := B
  exact w.step fun t k => XS.lushr X.here hx rfl hd rfl k
theorem W_i2b (B : oB p l e R s m args below meth c Z h0 lo T cells slots ds) {x : Int32} {z : Int32} (hd : decode c.code pc = .ok (.i2b, 1)) (hp : pc + 1 = pc') (hz : x.toInt8.toInt32 = z) (w : oWin p e below Z h0 Q E (T.setTop (mkF m pc' ls (.int z :: st)))) : oWin p e below Z h0 Q E (T.setTop (mkF m pc ls (.int x :: st))) := by
  subst hp hz
  obtain ⟨hx, hZ, hlk, locs, X, N, H⟩ := B
  exact w.step fun t k => XS.i2b X.here hx rfl hd rfl k
theorem W_i2c (B : oB p l e R s m args below meth c Z h0 lo T cells slots ds) {x : Int32} {z : Int32} (hd : decode c.code pc = .ok (.i2c, 1)) (hp : pc + 1 = pc') (hz : x.toUInt32.toUInt16.toUInt32.toInt32 = z) (w : oWin p e below Z h0 Q E (T.setTop (mkF m pc' ls (.int z :: st)))) : oWin p e below Z h0 Q E (T.setTop (mkF m pc ls (.int x :: st))) := by
  subst hp hz
  obtain ⟨hx, hZ, hlk, locs, X, N, H⟩ := B
  exact w.step fun t k => XS.i2c X.here hx rfl hd rfl k
theorem W_i2s (B : oB p l e R s m args below meth c Z h0 lo T cells slots ds) {x : Int32} {z : Int32} (hd : decode c.code pc = .ok (.i2s, 1)) (hp : pc + 1 = pc') (hz : x.toInt16.toInt32 = z) (w : oWin p e below Z h0 Q E (T.setTop (mkF m pc' ls (.int z :: st)))) : oWin p e below Z h0 Q E (T.setTop (mkF m pc ls (.int x :: st))) := by
  subst hp hz
  obtain ⟨hx, hZ, hlk, locs, X, N, H⟩ := B
  exact w.step fun t k => XS.i2s X.here hx rfl hd rfl k
theorem W_i2l (B : oB p l e R s m args below meth c Z h0 lo T cells slots ds) {x : Int32} {z : Int64} (hd : decode c.code pc = .ok (.i2l, 1)) (hp : pc + 1 = pc') (hz : x.toInt64 = z) (w : oWin p e below Z h0 Q E (T.setTop (mkF m pc' ls (.long z :: st)))) : oWin p e below Z h0 Q E (T.setTop (mkF m pc ls (.int x :: st))) := by
  subst hp hz
  obtain ⟨hx, hZ, hlk, locs, X, N, H⟩ := B
  exact w.step fun t k => XS.i2l X.here hx rfl hd rfl k
theorem W_l2i (B : oB p l e R s m args below meth c Z h0 lo T cells slots ds) {x : Int64} {z : Int32} (hd : decode c.code pc = .ok (.l2i, 1)) (hp : pc + 1 = pc') (hz : x.toInt32 = z) (w : oWin p e below Z h0 Q E (T.setTop (mkF m pc' ls (.int z :: st)))) : oWin p e below Z h0 Q E (T.setTop (mkF m pc ls (.long x :: st))) := by
  subst hp hz
  obtain ⟨hx, hZ, hlk, locs, X, N, H⟩ := B
  exact w.step fun t k => XS.l2i X.here hx rfl hd rfl k
theorem W_iconst (B : oB p l e R s m args below meth c Z h0 lo T cells slots ds) {i : Int} {z : Int32} (hd : decode c.code pc = .ok (.iconst i, 1)) (hp : pc + 1 = pc') (hz : Int32.ofInt i = z) (w : oWin p e below Z h0 Q E (T.setTop (mkF m pc' ls (.int z :: st)))) : oWin p e below Z h0 Q E (T.setTop (mkF m pc ls (st))) := by
  subst hp hz
  obtain ⟨hx, hZ, hlk, locs, X, N, H⟩ := B
  exact w.step fun t k => XS.iconst X.here hx rfl hd k
theorem W_bipush (B : oB p l e R s m args below meth c Z h0 lo T cells slots ds) {i : Int} {z : Int32} (hd : decode c.code pc = .ok (.bipush i, 2)) (hp : pc + 2 = pc') (hz : (Int8.ofInt i).toInt32 = z) (w : oWin p e below Z h0 Q E (T.setTop (mkF m pc' ls (.int z :: st)))) : oWin p e below Z h0 Q E (T.setTop (mkF m pc ls (st))) := by
  subst hp hz
  obtain ⟨hx, hZ, hlk, locs, X, N, H⟩ := B
  exact w.step fun t k => XS.bipush X.here hx rfl hd k
theorem W_sipush (B : oB p l e R s m args below meth c Z h0 lo T cells slots ds) {i : Int} {z : Int32} (hd : decode c.code pc = .ok (.sipush i, 3)) (hp : pc + 3 = pc') (hz : (Int16.ofInt i).toInt32 = z) (w : oWin p e below Z h0 Q E (T.setTop (mkF m pc' ls (.int z :: st)))) : oWin p e below Z h0 Q E (T.setTop (mkF m pc ls (st))) := by
  subst hp hz
  obtain ⟨hx, hZ, hlk, locs, X, N, H⟩ := B
  exact w.step fun t k => XS.sipush X.here hx rfl hd k
theorem W_lconst (B : oB p l e R s m args below meth c Z h0 lo T cells slots ds) {i : Fin 2} {z : Int64} (hd : decode c.code pc = .ok (.lconst i, 1)) (hp : pc + 1 = pc') (hz : Int64.ofNat i = z) (w : oWin p e below Z h0 Q E (T.setTop (mkF m pc' ls (.long z :: st)))) : oWin p e below Z h0 Q E (T.setTop (mkF m pc ls (st))) := by
  subst hp hz
  obtain ⟨hx, hZ, hlk, locs, X, N, H⟩ := B
  exact w.step fun t k => XS.lconst X.here hx rfl hd k
theorem W_aconstNull (B : oB p l e R s m args below meth c Z h0 lo T cells slots ds)  (hd : decode c.code pc = .ok (.aconst_null, 1)) (hp : pc + 1 = pc')  (w : oWin p e below Z h0 Q E (T.setTop (mkF m pc' ls (.null :: st)))) : oWin p e below Z h0 Q E (T.setTop (mkF m pc ls (st))) := by
  subst hp
  obtain ⟨hx, hZ, hlk, locs, X, N, H⟩ := B
  exact w.step fun t k => XS.aconstNull X.here hx rfl hd k
theorem W_aload (B : oB p l e R s m args below meth c Z h0 lo T cells slots ds) {i : Nat} {v : Value} (hd : decode c.code pc = .ok (.aload i, 2)) (hp : pc + 2 = pc') (hl : ls[i]? = some (.val v)) (hv : v.isRef = true) (w : oWin p e below Z h0 Q E (T.setTop (mkF m pc' ls (v :: st)))) : oWin p e below Z h0 Q E (T.setTop (mkF m pc ls (st))) := by
  subst hp
  obtain ⟨hx, hZ, hlk, locs, X, N, H⟩ := B
  exact w.step fun t k => XS.aload X.here hx rfl hd hl hv k
theorem W_aloadN (B : oB p l e R s m args below meth c Z h0 lo T cells slots ds) {i : Fin 4} {v : Value} (hd : decode c.code pc = .ok (.aload_n i, 1)) (hp : pc + 1 = pc') (hl : ls[i.val]? = some (.val v)) (hv : v.isRef = true) (w : oWin p e below Z h0 Q E (T.setTop (mkF m pc' ls (v :: st)))) : oWin p e below Z h0 Q E (T.setTop (mkF m pc ls (st))) := by
  subst hp
  obtain ⟨hx, hZ, hlk, locs, X, N, H⟩ := B
  exact w.step fun t k => XS.aloadN X.here hx rfl hd hl hv k
theorem W_astore (B : oB p l e R s m args below meth c Z h0 lo T cells slots ds) {i : Nat} {x : Value} (hd : decode c.code pc = .ok (.astore i, 2)) (hp : pc + 2 = pc') (hv : x.isRef = true) (hl : storeLocals ls i x = some ls') (w : oWin p e below Z h0 Q E (T.setTop (mkF m pc' ls' (st)))) : oWin p e below Z h0 Q E (T.setTop (mkF m pc ls (x :: st))) := by
  subst hp
  obtain ⟨hx, hZ, hlk, locs, X, N, H⟩ := B
  exact w.step fun t k => XS.astore X.here hx rfl hd rfl hv hl k
theorem W_astoreN (B : oB p l e R s m args below meth c Z h0 lo T cells slots ds) {i : Fin 4} {x : Value} (hd : decode c.code pc = .ok (.astore_n i, 1)) (hp : pc + 1 = pc') (hv : x.isRef = true) (hl : storeLocals ls i.val x = some ls') (w : oWin p e below Z h0 Q E (T.setTop (mkF m pc' ls' (st)))) : oWin p e below Z h0 Q E (T.setTop (mkF m pc ls (x :: st))) := by
  subst hp
  obtain ⟨hx, hZ, hlk, locs, X, N, H⟩ := B
  exact w.step fun t k => XS.astoreN X.here hx rfl hd rfl hv hl k
theorem W_dup (B : oB p l e R s m args below meth c Z h0 lo T cells slots ds) {x : Value} (hd : decode c.code pc = .ok (.dup, 1)) (hp : pc + 1 = pc') (hc : x.category = 1) (w : oWin p e below Z h0 Q E (T.setTop (mkF m pc' ls (x :: x :: st)))) : oWin p e below Z h0 Q E (T.setTop (mkF m pc ls (x :: st))) := by
  subst hp
  obtain ⟨hx, hZ, hlk, locs, X, N, H⟩ := B
  exact w.step fun t k => XS.dup X.here hx rfl hd rfl hc k
theorem W_pop (B : oB p l e R s m args below meth c Z h0 lo T cells slots ds) {x : Value} (hd : decode c.code pc = .ok (.pop, 1)) (hp : pc + 1 = pc') (hc : x.category = 1) (w : oWin p e below Z h0 Q E (T.setTop (mkF m pc' ls (st)))) : oWin p e below Z h0 Q E (T.setTop (mkF m pc ls (x :: st))) := by
  subst hp
  obtain ⟨hx, hZ, hlk, locs, X, N, H⟩ := B
  exact w.step fun t k => XS.pop X.here hx rfl hd rfl hc k
theorem W_dupX1 (B : oB p l e R s m args below meth c Z h0 lo T cells slots ds) {x y : Value} (hd : decode c.code pc = .ok (.dup_x1, 1)) (hp : pc + 1 = pc') (hc : x.category = 1) (hc2 : y.category = 1) (w : oWin p e below Z h0 Q E (T.setTop (mkF m pc' ls (x :: y :: x :: st)))) : oWin p e below Z h0 Q E (T.setTop (mkF m pc ls (x :: y :: st))) := by
  subst hp
  obtain ⟨hx, hZ, hlk, locs, X, N, H⟩ := B
  exact w.step fun t k => XS.dupX1 X.here hx rfl hd rfl hc hc2 k
theorem W_dup2 (B : oB p l e R s m args below meth c Z h0 lo T cells slots ds) {x y : Value} (hd : decode c.code pc = .ok (.dup2, 1)) (hp : pc + 1 = pc') (hc : x.category = 1) (hc2 : y.category = 1) (w : oWin p e below Z h0 Q E (T.setTop (mkF m pc' ls (x :: y :: x :: y :: st)))) : oWin p e below Z h0 Q E (T.setTop (mkF m pc ls (x :: y :: st))) := by
  subst hp
  obtain ⟨hx, hZ, hlk, locs, X, N, H⟩ := B
  refine w.step fun t k => ?_
  show Steps p.tables e below (T.setTop { method := m, pc := pc, locals := ls, stack := x :: y :: st, locked := none }) _
  jvm_step X.here [X.here.top, hx, hd, hc, hc2]
  exact k
theorem W_iinc (B : oB p l e R s m args below meth c Z h0 lo T cells slots ds) {i : Nat} {d : Int} {x z : Int32} (hd : decode c.code pc = .ok (.iinc i d, 3)) (hp : pc + 3 = pc') (hl : ls[i]? = some (.val (.int x))) (hz : x + Int32.ofInt d = z) (hl' : storeLocals ls i (.int z) = some ls') (w : oWin p e below Z h0 Q E (T.setTop (mkF m pc' ls' (st)))) : oWin p e below Z h0 Q E (T.setTop (mkF m pc ls (st))) := by
  subst hp hz
  obtain ⟨hx, hZ, hlk, locs, X, N, H⟩ := B
  exact w.step fun t k => XS.iinc X.here hx rfl hd hl hl' k
theorem W_goto (B : oB p l e R s m args below meth c Z h0 lo T cells slots ds) {o : Int} (hd : decode c.code pc = .ok (.goto o, 3)) (ho : 0 ≤ (pc : Int) + o) (hp : ((pc : Int) + o).toNat = pc') (w : oWin p e below Z h0 Q E (T.setTop (mkF m pc' ls st))) : oWin p e below Z h0 Q E (T.setTop (mkF m pc ls st)) := by
  obtain ⟨hx, hZ, hlk, locs, X, N, H⟩ := B
  exact w.step fun t k => XS.goto X.here hx rfl rfl hd ho hp k
theorem W_icmpY (B : oB p l e R s m args below meth c Z h0 lo T cells slots ds) {cd : ClassFile.Cond} {x y : Int32} {o : Int} (hd : decode c.code pc = .ok (.if_icmp cd o, 3)) (ho : 0 ≤ (pc : Int) + o) (hp : ((pc : Int) + o).toNat = pc') (hc : if_icmp.holds cd x y = true) (w : oWin p e below Z h0 Q E (T.setTop (mkF m pc' ls st))) : oWin p e below Z h0 Q E (T.setTop (mkF m pc ls (.int y :: .int x :: st))) := by
  obtain ⟨hx, hZ, hlk, locs, X, N, H⟩ := B
  exact w.step fun t k => XS.icmpYes X.here hx rfl rfl hd rfl hc ho hp k
theorem W_icmpN (B : oB p l e R s m args below meth c Z h0 lo T cells slots ds) {cd : ClassFile.Cond} {x y : Int32} {o : Int} (hd : decode c.code pc = .ok (.if_icmp cd o, 3)) (hp : pc + 3 = pc') (hc : if_icmp.holds cd x y = false) (w : oWin p e below Z h0 Q E (T.setTop (mkF m pc' ls st))) : oWin p e below Z h0 Q E (T.setTop (mkF m pc ls (.int y :: .int x :: st))) := by
  subst hp
  obtain ⟨hx, hZ, hlk, locs, X, N, H⟩ := B
  exact w.step fun t k => XS.icmpNo X.here hx rfl hd rfl hc k
theorem W_ifY (B : oB p l e R s m args below meth c Z h0 lo T cells slots ds) {cd : ClassFile.Cond} {x : Int32} {o : Int} (hd : decode c.code pc = .ok (.ifCond cd o, 3)) (ho : 0 ≤ (pc : Int) + o) (hp : ((pc : Int) + o).toNat = pc') (hc : if_icmp.holds cd x 0 = true) (w : oWin p e below Z h0 Q E (T.setTop (mkF m pc' ls st))) : oWin p e below Z h0 Q E (T.setTop (mkF m pc ls (.int x :: st))) := by
  obtain ⟨hx, hZ, hlk, locs, X, N, H⟩ := B
  exact w.step fun t k => XS.ifYes X.here hx rfl rfl hd rfl ((if0 _ _).trans hc) ho hp k
theorem W_ifN (B : oB p l e R s m args below meth c Z h0 lo T cells slots ds) {cd : ClassFile.Cond} {x : Int32} {o : Int} (hd : decode c.code pc = .ok (.ifCond cd o, 3)) (hp : pc + 3 = pc') (hc : if_icmp.holds cd x 0 = false) (w : oWin p e below Z h0 Q E (T.setTop (mkF m pc' ls st))) : oWin p e below Z h0 Q E (T.setTop (mkF m pc ls (.int x :: st))) := by
  subst hp
  obtain ⟨hx, hZ, hlk, locs, X, N, H⟩ := B
  exact w.step fun t k => XS.ifNo X.here hx rfl hd rfl ((if0 _ _).trans hc) k
theorem W_icmp_eq (B : oB p l e R s m args below meth c Z h0 lo T cells slots ds) {x y : Int32} {o : Int} {pt : Nat} (hd : decode c.code pc = .ok (.if_icmp .eq o, 3)) (ho : 0 ≤ (pc : Int) + o) (ht : ((pc : Int) + o).toNat = pt) (hp : pc + 3 = pc') (w1 : x = y → oWin p e below Z h0 Q E (T.setTop (mkF m pt ls st))) (w2 : ¬ x = y → oWin p e below Z h0 Q E (T.setTop (mkF m pc' ls st))) : oWin p e below Z h0 Q E (T.setTop (mkF m pc ls (.int y :: .int x :: st))) := by
  by_cases h : x = y
  · exact W_icmpY B hd ho ht (teq h).1 (w1 h)
  · exact W_icmpN B hd hp (feq h).1 (w2 h)
theorem W_if_eq (B : oB p l e R s m args below meth c Z h0 lo T cells slots ds) {x : Int32} {o : Int} {pt : Nat} (hd : decode c.code pc = .ok (.ifCond .eq o, 3)) (ho : 0 ≤ (pc : Int) + o) (ht : ((pc : Int) + o).toNat = pt) (hp : pc + 3 = pc') (w1 : x = 0 → oWin p e below Z h0 Q E (T.setTop (mkF m pt ls st))) (w2 : ¬ x = 0 → oWin p e below Z h0 Q E (T.setTop (mkF m pc' ls st))) : oWin p e below Z h0 Q E (T.setTop (mkF m pc ls (.int x :: st))) := by
  by_cases h : x = 0
  · exact W_ifY B hd ho ht (teq h).1 (w1 h)
  · exact W_ifN B hd hp (feq h).1 (w2 h)
theorem W_lcmpY_eq (B : oB p l e R s m args below meth c Z h0 lo T cells slots ds) {x y : Int64} {o : Int} (hd : decode c.code pc = .ok (.lcmp, 1)) (hd' : decode c.code (pc + 1) = .ok (.ifCond .eq o, 3)) (ho : 0 ≤ ((pc + 1 : Nat) : Int) + o) (ht : (((pc + 1 : Nat) : Int) + o).toNat = pc') (hc : x = y) (w : oWin p e below Z h0 Q E (T.setTop (mkF m pc' ls st))) : oWin p e below Z h0 Q E (T.setTop (mkF m pc ls (.long y :: .long x :: st))) := by
  have w' := W_ifY (x := lcmpV x y) (st := st) B hd' ho ht (by have h : lcmpV x y = 0 := (lc_eq x y).mpr hc; exact (teq h).1) w
  obtain ⟨hx, hZ, hlk, locs, X, N, H⟩ := B
  exact w'.step fun t k => XS.lcmp X.here hx rfl hd rfl (by show Steps p.tables e below (T.setTop (mkF m (pc + 1) ls (.int (lcmpW x y) :: st))) t; rw [lcW]; exact k)
theorem W_lcmpN_eq (B : oB p l e R s m args below meth c Z h0 lo T cells slots ds) {x y : Int64} {o : Int} (hd : decode c.code pc = .ok (.lcmp, 1)) (hd' : decode c.code (pc + 1) = .ok (.ifCond .eq o, 3)) (hp : pc + 1 + 3 = pc') (hc : ¬ x = y) (w : oWin p e below Z h0 Q E (T.setTop (mkF m pc' ls st))) : oWin p e below Z h0 Q E (T.setTop (mkF m pc ls (.long y :: .long x :: st))) := by
  have w' := W_ifN (x := lcmpV x y) (st := st) B hd' hp (by have h : ¬ lcmpV x y = 0 := fun q => hc ((lc_eq x y).mp q); exact (feq h).1) w
  obtain ⟨hx, hZ, hlk, locs, X, N, H⟩ := B
  exact w'.step fun t k => XS.lcmp X.here hx rfl hd rfl (by show Steps p.tables e below (T.setTop (mkF m (pc + 1) ls (.int (lcmpW x y) :: st))) t; rw [lcW]; exact k)
theorem W_lcmp_eq (B : oB p l e R s m args below meth c Z h0 lo T cells slots ds) {x y : Int64} {o : Int} {pt : Nat} (hd : decode c.code pc = .ok (.lcmp, 1)) (hd' : decode c.code (pc + 1) = .ok (.ifCond .eq o, 3)) (ho : 0 ≤ ((pc + 1 : Nat) : Int) + o) (ht : (((pc + 1 : Nat) : Int) + o).toNat = pt) (hp : pc + 1 + 3 = pc') (w1 : x = y → oWin p e below Z h0 Q E (T.setTop (mkF m pt ls st))) (w2 : ¬ x = y → oWin p e below Z h0 Q E (T.setTop (mkF m pc' ls st))) : oWin p e below Z h0 Q E (T.setTop (mkF m pc ls (.long y :: .long x :: st))) := by
  by_cases h : x = y
  · exact W_lcmpY_eq B hd hd' ho ht h (w1 h)
  · exact W_lcmpN_eq B hd hd' hp h (w2 h)
theorem W_icmp_ne (B : oB p l e R s m args below meth c Z h0 lo T cells slots ds) {x y : Int32} {o : Int} {pt : Nat} (hd : decode c.code pc = .ok (.if_icmp .ne o, 3)) (ho : 0 ≤ (pc : Int) + o) (ht : ((pc : Int) + o).toNat = pt) (hp : pc + 3 = pc') (w1 : ¬ x = y → oWin p e below Z h0 Q E (T.setTop (mkF m pt ls st))) (w2 : x = y → oWin p e below Z h0 Q E (T.setTop (mkF m pc' ls st))) : oWin p e below Z h0 Q E (T.setTop (mkF m pc ls (.int y :: .int x :: st))) := by
  by_cases h : x = y
  · exact W_icmpN B hd hp (teq h).2 (w2 h)
  · exact W_icmpY B hd ho ht (feq h).2 (w1 h)
theorem W_if_ne (B : oB p l e R s m args below meth c Z h0 lo T cells slots ds) {x : Int32} {o : Int} {pt : Nat} (hd : decode c.code pc = .ok (.ifCond .ne o, 3)) (ho : 0 ≤ (pc : Int) + o) (ht : ((pc : Int) + o).toNat = pt) (hp : pc + 3 = pc') (w1 : ¬ x = 0 → oWin p e below Z h0 Q E (T.setTop (mkF m pt ls st))) (w2 : x = 0 → oWin p e below Z h0 Q E (T.setTop (mkF m pc' ls st))) : oWin p e below Z h0 Q E (T.setTop (mkF m pc ls (.int x :: st))) := by
  by_cases h : x = 0
  · exact W_ifN B hd hp (teq h).2 (w2 h)
  · exact W_ifY B hd ho ht (feq h).2 (w1 h)
theorem W_lcmpY_ne (B : oB p l e R s m args below meth c Z h0 lo T cells slots ds) {x y : Int64} {o : Int} (hd : decode c.code pc = .ok (.lcmp, 1)) (hd' : decode c.code (pc + 1) = .ok (.ifCond .ne o, 3)) (ho : 0 ≤ ((pc + 1 : Nat) : Int) + o) (ht : (((pc + 1 : Nat) : Int) + o).toNat = pc') (hc : ¬ x = y) (w : oWin p e below Z h0 Q E (T.setTop (mkF m pc' ls st))) : oWin p e below Z h0 Q E (T.setTop (mkF m pc ls (.long y :: .long x :: st))) := by
  have w' := W_ifY (x := lcmpV x y) (st := st) B hd' ho ht (by have h : ¬ lcmpV x y = 0 := fun q => hc ((lc_eq x y).mp q); exact (feq h).2) w
  obtain ⟨hx, hZ, hlk, locs, X, N, H⟩ := B
  exact w'.step fun t k => XS.lcmp X.here hx rfl hd rfl (by show Steps p.tables e below (T.setTop (mkF m (pc + 1) ls (.int (lcmpW x y) :: st))) t; rw [lcW]; exact k)
theorem W_lcmpN_ne (B : oB p l e R s m args below meth c Z h0 lo T cells slots ds) {x y : Int64} {o : Int} (hd : decode c.code pc = .ok (.lcmp, 1)) (hd' : decode c.code (pc + 1) = .ok (.ifCond .ne o, 3)) (hp : pc + 1 + 3 = pc') (hc : x = y) (w : oWin p e below Z h0 Q E (T.setTop (mkF m pc' ls st))) : oWin p e below Z h0 Q E (T.setTop (mkF m pc ls (.long y :: .long x :: st))) := by
  have w' := W_ifN (x := lcmpV x y) (st := st) B hd' hp (by have h : lcmpV x y = 0 := (lc_eq x y).mpr hc; exact (teq h).2) w
  obtain ⟨hx, hZ, hlk, locs, X, N, H⟩ := B
  exact w'.step fun t k => XS.lcmp X.here hx rfl hd rfl (by show Steps p.tables e below (T.setTop (mkF m (pc + 1) ls (.int (lcmpW x y) :: st))) t; rw [lcW]; exact k)
theorem W_lcmp_ne (B : oB p l e R s m args below meth c Z h0 lo T cells slots ds) {x y : Int64} {o : Int} {pt : Nat} (hd : decode c.code pc = .ok (.lcmp, 1)) (hd' : decode c.code (pc + 1) = .ok (.ifCond .ne o, 3)) (ho : 0 ≤ ((pc + 1 : Nat) : Int) + o) (ht : (((pc + 1 : Nat) : Int) + o).toNat = pt) (hp : pc + 1 + 3 = pc') (w1 : ¬ x = y → oWin p e below Z h0 Q E (T.setTop (mkF m pt ls st))) (w2 : x = y → oWin p e below Z h0 Q E (T.setTop (mkF m pc' ls st))) : oWin p e below Z h0 Q E (T.setTop (mkF m pc ls (.long y :: .long x :: st))) := by
  by_cases h : x = y
  · exact W_lcmpN_ne B hd hd' hp h (w2 h)
  · exact W_lcmpY_ne B hd hd' ho ht h (w1 h)
theorem W_icmp_lt (B : oB p l e R s m args below meth c Z h0 lo T cells slots ds) {x y : Int32} {o : Int} {pt : Nat} (hd : decode c.code pc = .ok (.if_icmp .lt o, 3)) (ho : 0 ≤ (pc : Int) + o) (ht : ((pc : Int) + o).toNat = pt) (hp : pc + 3 = pc') (w1 : x < y → oWin p e below Z h0 Q E (T.setTop (mkF m pt ls st))) (w2 : ¬ x < y → oWin p e below Z h0 Q E (T.setTop (mkF m pc' ls st))) : oWin p e below Z h0 Q E (T.setTop (mkF m pc ls (.int y :: .int x :: st))) := by
  by_cases h : x < y
  · exact W_icmpY B hd ho ht (tlt h).1 (w1 h)
  · exact W_icmpN B hd hp (flt h).1 (w2 h)
theorem W_if_lt (B : oB p l e R s m args below meth c Z h0 lo T cells slots ds) {x : Int32} {o : Int} {pt : Nat} (hd : decode c.code pc = .ok (.ifCond .lt o, 3)) (ho : 0 ≤ (pc : Int) + o) (ht : ((pc : Int) + o).toNat = pt) (hp : pc + 3 = pc') (w1 : x < 0 → oWin p e below Z h0 Q E (T.setTop (mkF m pt ls st))) (w2 : ¬ x < 0 → oWin p e below Z h0 Q E (T.setTop (mkF m pc' ls st))) : oWin p e below Z h0 Q E (T.setTop (mkF m pc ls (.int x :: st))) := by
  by_cases h : x < 0
  · exact W_ifY B hd ho ht (tlt h).1 (w1 h)
  · exact W_ifN B hd hp (flt h).1 (w2 h)
theorem W_lcmpY_lt (B : oB p l e R s m args below meth c Z h0 lo T cells slots ds) {x y : Int64} {o : Int} (hd : decode c.code pc = .ok (.lcmp, 1)) (hd' : decode c.code (pc + 1) = .ok (.ifCond .lt o, 3)) (ho : 0 ≤ ((pc + 1 : Nat) : Int) + o) (ht : (((pc + 1 : Nat) : Int) + o).toNat = pc') (hc : x < y) (w : oWin p e below Z h0 Q E (T.setTop (mkF m pc' ls st))) : oWin p e below Z h0 Q E (T.setTop (mkF m pc ls (.long y :: .long x :: st))) := by
  have w' := W_ifY (x := lcmpV x y) (st := st) B hd' ho ht (by have h : lcmpV x y < 0 := (lc_lt x y).mpr hc; exact (tlt h).1) w
  obtain ⟨hx, hZ, hlk, locs, X, N, H⟩ := B
  exact w'.step fun t k => XS.lcmp X.here hx rfl hd rfl (by show Steps p.tables e below (T.setTop (mkF m (pc + 1) ls (.int (lcmpW x y) :: st))) t; rw [lcW]; exact k)
theorem W_lcmpN_lt (B : oB p l e R s m args below meth c Z h0 lo T cells slots ds) {x y : Int64} {o : Int} (hd : decode c.code pc = .ok (.lcmp, 1)) (hd' : decode c.code (pc + 1) = .ok (.ifCond .lt o, 3)) (hp : pc + 1 + 3 = pc') (hc : ¬ x < y) (w : oWin p e below Z h0 Q E (T.setTop (mkF m pc' ls st))) : oWin p e below Z h0 Q E (T.setTop (mkF m pc ls (.long y :: .long x :: st))) := by
  have w' := W_ifN (x := lcmpV x y) (st := st) B hd' hp (by have h : ¬ lcmpV x y < 0 := fun q => hc ((lc_lt x y).mp q); exact (flt h).1) w
  obtain ⟨hx, hZ, hlk, locs, X, N, H⟩ := B
  exact w'.step fun t k => XS.lcmp X.here hx rfl hd rfl (by show Steps p.tables e below (T.setTop (mkF m (pc + 1) ls (.int (lcmpW x y) :: st))) t; rw [lcW]; exact k)
theorem W_lcmp_lt (B : oB p l e R s m args below meth c Z h0 lo T cells slots ds) {x y : Int64} {o : Int} {pt : Nat} (hd : decode c.code pc = .ok (.lcmp, 1)) (hd' : decode c.code (pc + 1) = .ok (.ifCond .lt o, 3)) (ho : 0 ≤ ((pc + 1 : Nat) : Int) + o) (ht : (((pc + 1 : Nat) : Int) + o).toNat = pt) (hp : pc + 1 + 3 = pc') (w1 : x < y → oWin p e below Z h0 Q E (T.setTop (mkF m pt ls st))) (w2 : ¬ x < y → oWin p e below Z h0 Q E (T.setTop (mkF m pc' ls st))) : oWin p e below Z h0 Q E (T.setTop (mkF m pc ls (.long y :: .long x :: st))) := by
  by_cases h : x < y
  · exact W_lcmpY_lt B hd hd' ho ht h (w1 h)
  · exact W_lcmpN_lt B hd hd' hp h (w2 h)
theorem W_icmp_ge (B : oB p l e R s m args below meth c Z h0 lo T cells slots ds) {x y : Int32} {o : Int} {pt : Nat} (hd : decode c.code pc = .ok (.if_icmp .ge o, 3)) (ho : 0 ≤ (pc : Int) + o) (ht : ((pc : Int) + o).toNat = pt) (hp : pc + 3 = pc') (w1 : ¬ x < y → oWin p e below Z h0 Q E (T.setTop (mkF m pt ls st))) (w2 : x < y → oWin p e below Z h0 Q E (T.setTop (mkF m pc' ls st))) : oWin p e below Z h0 Q E (T.setTop (mkF m pc ls (.int y :: .int x :: st))) := by
  by_cases h : x < y
  · exact W_icmpN B hd hp (tlt h).2.1 (w2 h)
  · exact W_icmpY B hd ho ht (flt h).2.1 (w1 h)
theorem W_if_ge (B : oB p l e R s m args below meth c Z h0 lo T cells slots ds) {x : Int32} {o : Int} {pt : Nat} (hd : decode c.code pc = .ok (.ifCond .ge o, 3)) (ho : 0 ≤ (pc : Int) + o) (ht : ((pc : Int) + o).toNat = pt) (hp : pc + 3 = pc') (w1 : ¬ x < 0 → oWin p e below Z h0 Q E (T.setTop (mkF m pt ls st))) (w2 : x < 0 → oWin p e below Z h0 Q E (T.setTop (mkF m pc' ls st))) : oWin p e below Z h0 Q E (T.setTop (mkF m pc ls (.int x :: st))) := by
  by_cases h : x < 0
  · exact W_ifN B hd hp (tlt h).2.1 (w2 h)
  · exact W_ifY B hd ho ht (flt h).2.1 (w1 h)
theorem W_lcmpY_ge (B : oB p l e R s m args below meth c Z h0 lo T cells slots ds) {x y : Int64} {o : Int} (hd : decode c.code pc = .ok (.lcmp, 1)) (hd' : decode c.code (pc + 1) = .ok (.ifCond .ge o, 3)) (ho : 0 ≤ ((pc + 1 : Nat) : Int) + o) (ht : (((pc + 1 : Nat) : Int) + o).toNat = pc') (hc : ¬ x < y) (w : oWin p e below Z h0 Q E (T.setTop (mkF m pc' ls st))) : oWin p e below Z h0 Q E (T.setTop (mkF m pc ls (.long y :: .long x :: st))) := by
  have w' := W_ifY (x := lcmpV x y) (st := st) B hd' ho ht (by have h : ¬ lcmpV x y < 0 := fun q => hc ((lc_lt x y).mp q); exact (flt h).2.1) w
  obtain ⟨hx, hZ, hlk, locs, X, N, H⟩ := B
  exact w'.step fun t k => XS.lcmp X.here hx rfl hd rfl (by show Steps p.tables e below (T.setTop (mkF m (pc + 1) ls (.int (lcmpW x y) :: st))) t; rw [lcW]; exact k)
theorem W_lcmpN_ge (B : oB p l e R s m args below meth c Z h0 lo T cells slots ds) {x y : Int64} {o : Int} (hd : decode c.code pc = .ok (.lcmp, 1)) (hd' : decode c.code (pc + 1) = .ok (.ifCond .ge o, 3)) (hp : pc + 1 + 3 = pc') (hc : x < y) (w : oWin p e below Z h0 Q E (T.setTop (mkF m pc' ls st))) : oWin p e below Z h0 Q E (T.setTop (mkF m pc ls (.long y :: .long x :: st))) := by
  have w' := W_ifN (x := lcmpV x y) (st := st) B hd' hp (by have h : lcmpV x y < 0 := (lc_lt x y).mpr hc; exact (tlt h).2.1) w
  obtain ⟨hx, hZ, hlk, locs, X, N, H⟩ := B
  exact w'.step fun t k => XS.lcmp X.here hx rfl hd rfl (by show Steps p.tables e below (T.setTop (mkF m (pc + 1) ls (.int (lcmpW x y) :: st))) t; rw [lcW]; exact k)
theorem W_lcmp_ge (B : oB p l e R s m args below meth c Z h0 lo T cells slots ds) {x y : Int64} {o : Int} {pt : Nat} (hd : decode c.code pc = .ok (.lcmp, 1)) (hd' : decode c.code (pc + 1) = .ok (.ifCond .ge o, 3)) (ho : 0 ≤ ((pc + 1 : Nat) : Int) + o) (ht : (((pc + 1 : Nat) : Int) + o).toNat = pt) (hp : pc + 1 + 3 = pc') (w1 : ¬ x < y → oWin p e below Z h0 Q E (T.setTop (mkF m pt ls st))) (w2 : x < y → oWin p e below Z h0 Q E (T.setTop (mkF m pc' ls st))) : oWin p e below Z h0 Q E (T.setTop (mkF m pc ls (.long y :: .long x :: st))) := by
  by_cases h : x < y
  · exact W_lcmpN_ge B hd hd' hp h (w2 h)
  · exact W_lcmpY_ge B hd hd' ho ht h (w1 h)
theorem W_icmp_gt (B : oB p l e R s m args below meth c Z h0 lo T cells slots ds) {x y : Int32} {o : Int} {pt : Nat} (hd : decode c.code pc = .ok (.if_icmp .gt o, 3)) (ho : 0 ≤ (pc : Int) + o) (ht : ((pc : Int) + o).toNat = pt) (hp : pc + 3 = pc') (w1 : y < x → oWin p e below Z h0 Q E (T.setTop (mkF m pt ls st))) (w2 : ¬ y < x → oWin p e below Z h0 Q E (T.setTop (mkF m pc' ls st))) : oWin p e below Z h0 Q E (T.setTop (mkF m pc ls (.int y :: .int x :: st))) := by
  by_cases h : y < x
  · exact W_icmpY B hd ho ht (tlt h).2.2.1 (w1 h)
  · exact W_icmpN B hd hp (flt h).2.2.1 (w2 h)
theorem W_if_gt (B : oB p l e R s m args below meth c Z h0 lo T cells slots ds) {x : Int32} {o : Int} {pt : Nat} (hd : decode c.code pc = .ok (.ifCond .gt o, 3)) (ho : 0 ≤ (pc : Int) + o) (ht : ((pc : Int) + o).toNat = pt) (hp : pc + 3 = pc') (w1 : 0 < x → oWin p e below Z h0 Q E (T.setTop (mkF m pt ls st))) (w2 : ¬ 0 < x → oWin p e below Z h0 Q E (T.setTop (mkF m pc' ls st))) : oWin p e below Z h0 Q E (T.setTop (mkF m pc ls (.int x :: st))) := by
  by_cases h : 0 < x
  · exact W_ifY B hd ho ht (tlt h).2.2.1 (w1 h)
  · exact W_ifN B hd hp (flt h).2.2.1 (w2 h)
theorem W_lcmpY_gt (B : oB p l e R s m args below meth c Z h0 lo T cells slots ds) {x y : Int64} {o : Int} (hd : decode c.code pc = .ok (.lcmp, 1)) (hd' : decode c.code (pc + 1) = .ok (.ifCond .gt o, 3)) (ho : 0 ≤ ((pc + 1 : Nat) : Int) + o) (ht : (((pc + 1 : Nat) : Int) + o).toNat = pc') (hc : y < x) (w : oWin p e below Z h0 Q E (T.setTop (mkF m pc' ls st))) : oWin p e below Z h0 Q E (T.setTop (mkF m pc ls (.long y :: .long x :: st))) := by
  have w' := W_ifY (x := lcmpV x y) (st := st) B hd' ho ht (by have h : 0 < lcmpV x y := (lc_gt x y).mpr hc; exact (tlt h).2.2.1) w
  obtain ⟨hx, hZ, hlk, locs, X, N, H⟩ := B
  exact w'.step fun t k => XS.lcmp X.here hx rfl hd rfl (by show Steps p.tables e below (T.setTop (mkF m (pc + 1) ls (.int (lcmpW x y) :: st))) t; rw [lcW]; exact k)
theorem W_lcmpN_gt (B : oB p l e R s m args below meth c Z h0 lo T cells slots ds) {x y : Int64} {o : Int} (hd : decode c.code pc = .ok (.lcmp, 1)) (hd' : decode c.code (pc + 1) = .ok (.ifCond .gt o, 3)) (hp : pc + 1 + 3 = pc') (hc : ¬ y < x) (w : oWin p e below Z h0 Q E (T.setTop (mkF m pc' ls st))) : oWin p e below Z h0 Q E (T.setTop (mkF m pc ls (.long y :: .long x :: st))) := by
  have w' := W_ifN (x := lcmpV x y) (st := st) B hd' hp (by have h : ¬ 0 < lcmpV x y := fun q => hc ((lc_gt x y).mp q); exact (flt h).2.2.1) w
  obtain ⟨hx, hZ, hlk, locs, X, N, H⟩ := B
  exact w'.step fun t k => XS.lcmp X.here hx rfl hd rfl (by show Steps p.tables e below (T.setTop (mkF m (pc + 1) ls (.int (lcmpW x y) :: st))) t; rw [lcW]; exact k)
theorem W_lcmp_gt (B : oB p l e R s m args below meth c Z h0 lo T cells slots ds) {x y : Int64} {o : Int} {pt : Nat} (hd : decode c.code pc = .ok (.lcmp, 1)) (hd' : decode c.code (pc + 1) = .ok (.ifCond .gt o, 3)) (ho : 0 ≤ ((pc + 1 : Nat) : Int) + o) (ht : (((pc + 1 : Nat) : Int) + o).toNat = pt) (hp : pc + 1 + 3 = pc') (w1 : y < x → oWin p e below Z h0 Q E (T.setTop (mkF m pt ls st))) (w2 : ¬ y < x → oWin p e below Z h0 Q E (T.setTop (mkF m pc' ls st))) : oWin p e below Z h0 Q E (T.setTop (mkF m pc ls (.long y :: .long x :: st))) := by
  by_cases h : y < x
  · exact W_lcmpY_gt B hd hd' ho ht h (w1 h)
  · exact W_lcmpN_gt B hd hd' hp h (w2 h)
theorem W_icmp_le (B : oB p l e R s m args below meth c Z h0 lo T cells slots ds) {x y : Int32} {o : Int} {pt : Nat} (hd : decode c.code pc = .ok (.if_icmp .le o, 3)) (ho : 0 ≤ (pc : Int) + o) (ht : ((pc : Int) + o).toNat = pt) (hp : pc + 3 = pc') (w1 : ¬ y < x → oWin p e below Z h0 Q E (T.setTop (mkF m pt ls st))) (w2 : y < x → oWin p e below Z h0 Q E (T.setTop (mkF m pc' ls st))) : oWin p e below Z h0 Q E (T.setTop (mkF m pc ls (.int y :: .int x :: st))) := by
  by_cases h : y < x
  · exact W_icmpN B hd hp (tlt h).2.2.2 (w2 h)
  · exact W_icmpY B hd ho ht (flt h).2.2.2 (w1 h)
theorem W_if_le (B : oB p l e R s m args below meth c Z h0 lo T cells slots ds) {x : Int32} {o : Int} {pt : Nat} (hd : decode c.code pc = .ok (.ifCond .le o, 3)) (ho : 0 ≤ (pc : Int) + o) (ht : ((pc : Int) + o).toNat = pt) (hp : pc + 3 = pc') (w1 : ¬ 0 < x → oWin p e below Z h0 Q E (T.setTop (mkF m pt ls st))) (w2 : 0 < x → oWin p e below Z h0 Q E (T.setTop (mkF m pc' ls st))) : oWin p e below Z h0 Q E (T.setTop (mkF m pc ls (.int x :: st))) := by
  by_cases h : 0 < x
  · exact W_ifN B hd hp (tlt h).2.2.2 (w2 h)
  · exact W_ifY B hd ho ht (flt h).2.2.2 (w1 h)
theorem W_lcmpY_le (B : oB p l e R s m args below meth c Z h0 lo T cells slots ds) {x y : Int64} {o : Int} (hd : decode c.code pc = .ok (.lcmp, 1)) (hd' : decode c.code (pc + 1) = .ok (.ifCond .le o, 3)) (ho : 0 ≤ ((pc + 1 : Nat) : Int) + o) (ht : (((pc + 1 : Nat) : Int) + o).toNat = pc') (hc : ¬ y < x) (w : oWin p e below Z h0 Q E (T.setTop (mkF m pc' ls st))) : oWin p e below Z h0 Q E (T.setTop (mkF m pc ls (.long y :: .long x :: st))) := by
  have w' := W_ifY (x := lcmpV x y) (st := st) B hd' ho ht (by have h : ¬ 0 < lcmpV x y := fun q => hc ((lc_gt x y).mp q); exact (flt h).2.2.2) w
  obtain ⟨hx, hZ, hlk, locs, X, N, H⟩ := B
  exact w'.step fun t k => XS.lcmp X.here hx rfl hd rfl (by show Steps p.tables e below (T.setTop (mkF m (pc + 1) ls (.int (lcmpW x y) :: st))) t; rw [lcW]; exact k)
theorem W_lcmpN_le (B : oB p l e R s m args below meth c Z h0 lo T cells slots ds) {x y : Int64} {o : Int} (hd : decode c.code pc = .ok (.lcmp, 1)) (hd' : decode c.code (pc + 1) = .ok (.ifCond .le o, 3)) (hp : pc + 1 + 3 = pc') (hc : y < x) (w : oWin p e below Z h0 Q E (T.setTop (mkF m pc' ls st))) : oWin p e below Z h0 Q E (T.setTop (mkF m pc ls (.long y :: .long x :: st))) := by
  have w' := W_ifN (x := lcmpV x y) (st := st) B hd' hp (by have h : 0 < lcmpV x y := (lc_gt x y).mpr hc; exact (tlt h).2.2.2) w
  obtain ⟨hx, hZ, hlk, locs, X, N, H⟩ := B
  exact w'.step fun t k => XS.lcmp X.here hx rfl hd rfl (by show Steps p.tables e below (T.setTop (mkF m (pc + 1) ls (.int (lcmpW x y) :: st))) t; rw [lcW]; exact k)
theorem W_lcmp_le (B : oB p l e R s m args below meth c Z h0 lo T cells slots ds) {x y : Int64} {o : Int} {pt : Nat} (hd : decode c.code pc = .ok (.lcmp, 1)) (hd' : decode c.code (pc + 1) = .ok (.ifCond .le o, 3)) (ho : 0 ≤ ((pc + 1 : Nat) : Int) + o) (ht : (((pc + 1 : Nat) : Int) + o).toNat = pt) (hp : pc + 1 + 3 = pc') (w1 : ¬ y < x → oWin p e below Z h0 Q E (T.setTop (mkF m pt ls st))) (w2 : y < x → oWin p e below Z h0 Q E (T.setTop (mkF m pc' ls st))) : oWin p e below Z h0 Q E (T.setTop (mkF m pc ls (.long y :: .long x :: st))) := by
  by_cases h : y < x
  · exact W_lcmpN_le B hd hd' hp h (w2 h)
  · exact W_lcmpY_le B hd hd' ho ht h (w1 h)
theorem W_ifnullY (B : oB p l e R s m args below meth c Z h0 lo T cells slots ds) {o : Int} (hd : decode c.code pc = .ok (.ifnull o, 3)) (ho : 0 ≤ (pc : Int) + o) (hp : ((pc : Int) + o).toNat = pc') (w : oWin p e below Z h0 Q E (T.setTop (mkF m pc' ls st))) : oWin p e below Z h0 Q E (T.setTop (mkF m pc ls (.null :: st))) := by
  obtain ⟨hx, hZ, hlk, locs, X, N, H⟩ := B
  exact w.step fun t k => XS.ifnullYes X.here hx rfl rfl hd rfl ho hp k
theorem W_ifnullN (B : oB p l e R s m args below meth c Z h0 lo T cells slots ds) {o : Int} {a : Addr} (hd : decode c.code pc = .ok (.ifnull o, 3)) (hp : pc + 3 = pc') (w : oWin p e below Z h0 Q E (T.setTop (mkF m pc' ls st))) : oWin p e below Z h0 Q E (T.setTop (mkF m pc ls (.ref a :: st))) := by
  subst hp
  obtain ⟨hx, hZ, hlk, locs, X, N, H⟩ := B
  exact w.step fun t k => XS.ifnullNo X.here hx rfl hd rfl k
theorem W_ifnonnullY (B : oB p l e R s m args below meth c Z h0 lo T cells slots ds) {o : Int} {a : Addr} (hd : decode c.code pc = .ok (.ifnonnull o, 3)) (ho : 0 ≤ (pc : Int) + o) (hp : ((pc : Int) + o).toNat = pc') (w : oWin p e below Z h0 Q E (T.setTop (mkF m pc' ls st))) : oWin p e below Z h0 Q E (T.setTop (mkF m pc ls (.ref a :: st))) := by
  obtain ⟨hx, hZ, hlk, locs, X, N, H⟩ := B
  exact w.step fun t k => XS.ifnonnullYes X.here hx rfl rfl hd rfl ho hp k
theorem W_ifnonnullN (B : oB p l e R s m args below meth c Z h0 lo T cells slots ds) {o : Int} (hd : decode c.code pc = .ok (.ifnonnull o, 3)) (hp : pc + 3 = pc') (w : oWin p e below Z h0 Q E (T.setTop (mkF m pc' ls st))) : oWin p e below Z h0 Q E (T.setTop (mkF m pc ls (.null :: st))) := by
  subst hp
  obtain ⟨hx, hZ, hlk, locs, X, N, H⟩ := B
  exact w.step fun t k => XS.ifnonnullNo X.here hx rfl hd rfl k
theorem W_acmp (B : oB p l e R s m args below meth c Z h0 lo T cells slots ds) {cd : ACond} {o : Int} {x y : Value} {same : Bool} (hd : decode c.code pc = .ok (.if_acmp cd o, 3)) (h1 : x.isRef = true) (h2 : y.isRef = true) (hq : decide (x = y) = same) (ho : 0 ≤ (pc : Int) + o) (hp : pc' = if acV cd same = true then ((pc : Int) + o).toNat else pc + 3) (w : oWin p e below Z h0 Q E (T.setTop (mkF m pc' ls st))) : oWin p e below Z h0 Q E (T.setTop (mkF m pc ls (y :: x :: st))) := by
  obtain ⟨hx, hZ, hlk, locs, X, N, H⟩ := B
  exact w.step fun t k => Jvm.RoadKit.acmp (g := mkF m pc ls (y :: x :: st)) X hx rfl h1 h2 rfl hd rfl hq ho hp k
theorem W_ldcInt (B : oB p l e R s m args below meth c Z h0 lo T cells slots ds) {own : String} {i : Nat} {v : Int32} (hown : s.vm.findClass own = some m.cls) (w : (Jvm.Cond.constant own i v).before a0 Z = true) (hd : decode c.code pc = .ok (.ldc i, 2)) (hp : pc + 2 = pc') (k : oWin p e below Z h0 Q E (T.setTop (mkF m pc' ls (.int v :: st)))) : oWin p e below Z h0 Q E (T.setTop (mkF m pc ls st)) := by
  subst hp
  obtain ⟨hx, hZ, hlk, locs, X, N, H⟩ := B
  exact k.step (X.ldcInt hx hown (mvT hZ w) (g := mkF m pc ls st) rfl hd)
theorem W_ldc2Long (B : oB p l e R s m args below meth c Z h0 lo T cells slots ds) {own : String} {i : Nat} {v : Int64} (hown : s.vm.findClass own = some m.cls) (w : (Jvm.Cond.constantLong own i v).before a0 Z = true) (hd : decode c.code pc = .ok (.ldc2_w i, 3)) (hp : pc + 3 = pc') (k : oWin p e below Z h0 Q E (T.setTop (mkF m pc' ls (.long v :: st)))) : oWin p e below Z h0 Q E (T.setTop (mkF m pc ls st)) := by
  subst hp
  obtain ⟨hx, hZ, hlk, locs, X, N, H⟩ := B
  exact k.step (X.ldc2Long hx hown (mvT hZ w) (g := mkF m pc ls st) rfl hd)
theorem W_getstatic (B : oB p l e R s m args below meth c Z h0 lo T cells slots ds) {own R0 O n d host : String} {i : Nat} {v : Value} (hown : s.vm.findClass own = some m.cls) (w : (Jvm.Cond.fieldLink own i R0 n d).before a0 Z = true ∨ (Jvm.Cond.fieldLinkNest own i R0 n d host).before a0 Z = true) (via : Via Z R0 O n d) (F : Sta Z h0 O n d v) (hd : decode c.code pc = .ok (.getstatic i, 3)) (hp : pc + 3 = pc')
    (k : ∀ T, oB p l e R s m args below meth c Z h0 lo T cells slots ds → oWin p e below Z h0 Q E (T.setTop (mkF m pc' ls (v :: st)))) : oWin p e below Z h0 Q E (T.setTop (mkF m pc ls st)) := by
  subst hp
  obtain ⟨hx, hZ, hlk, locs, X, N, H⟩ := B
  obtain ⟨T', X', e', stp⟩ := getS2 X hx hZ hown w via rfl (F.ext H.1.1) (g := mkF m pc ls st) rfl hd
  exact (k T' ⟨hx, hZ, hlk, locs, X', N, e' ▸ H⟩).step stp
theorem W_getfield (B : oB p l e R s m args below meth c Z h0 lo T cells slots ds) {own R0 O n d host : String} {i j q : Nat} {a : Addr} {C : String} {fs : List (oFK × Value)} {v : Value} (hown : s.vm.findClass own = some m.cls) (w : (Jvm.Cond.fieldLink own i R0 n d).before a0 Z = true ∨ (Jvm.Cond.fieldLinkNest own i R0 n d host).before a0 Z = true) (via : Via Z R0 O n d) (hd : decode c.code pc = .ok (.getfield i, 3)) (hp : pc + 3 = pc')
    (hi : ds[j]? = some (a, oO C fs)) (hf : fs[q]? = some ((O, n, d), v))
    (k : ∀ T, oB p l e R s m args below meth c Z h0 lo T cells slots ds → oWin p e below Z h0 Q E (T.setTop (mkF m pc' ls (v :: st)))) : oWin p e below Z h0 Q E (T.setTop (mkF m pc ls (.ref a :: st))) := by
  subst hp
  obtain ⟨hx, hZ, hlk, locs, X, N, H⟩ := B
  have F := (H.at hi).2.2.1 _ (List.mem_of_getElem? hf)
  obtain ⟨T', X', e', stp⟩ := getF X hx hZ hown w via rfl F (g := mkF m pc ls (.ref a :: st)) rfl rfl hd
  exact (k T' ⟨hx, hZ, hlk, locs, X', N, e' ▸ H⟩).step stp
theorem oIs.put {h h' : Heap} {a : Addr} {C : String} {fs : List (oFK × Value)} {q : Nat} {f : oFK} {old v : Value} (I : oIs Z h a (oO C fs)) (hf : fs[q]? = some (f, old)) (W : Wr h h' a (oSl Z f) v) : oIs Z h' a (oO C (fs.set q (f, v))) := by
  obtain ⟨E, F, P⟩ := I
  have hq : q < fs.length := (List.getElem?_eq_some_iff.mp hf).1
  refine ⟨E.wr W, fun g hg => ?_, ?_⟩
  · obtain ⟨j, hj⟩ := List.mem_iff_getElem?.mp hg
    rw [List.getElem?_set] at hj
    by_cases e : q = j
    · rw [if_pos e, if_pos hq] at hj
      cases hj
      exact Fld.same (Z := Z) (C := f.1) (n := f.2.1) (d := f.2.2) W (F _ (List.mem_of_getElem? hf))
    · rw [if_neg e] at hj
      refine (F g (List.mem_of_getElem? hj)).other W (Or.inr ?_)
      obtain ⟨lj, ej⟩ := List.getElem?_eq_some_iff.mp hj
      obtain ⟨lq, eq⟩ := List.getElem?_eq_some_iff.mp hf
      have P' := List.pairwise_iff_getElem.mp P
      rcases Nat.lt_or_gt_of_ne e with r | r
      · have := P' q j lq lj r
        rw [ej, eq] at this; exact fun z => this z.symm
      · have := P' j q lj lq r
        rw [ej, eq] at this; exact this
  · refine List.pairwise_iff_getElem.mpr fun i j li lj r => ?_
    rw [List.length_set] at li lj
    have P' := List.pairwise_iff_getElem.mp P i j li lj r
    have key : ∀ k (lk : k < fs.length) (lk' : k < (fs.set q (f, v)).length), ((fs.set q (f, v))[k]'lk').1 = (fs[k]).1 := fun k lk lk' => by
      rw [List.getElem_set]
      split
      · rename_i hk; subst hk; obtain ⟨_, eq⟩ := List.getElem?_eq_some_iff.mp hf; rw [eq]
      · rfl
    rw [key i li, key j lj]; exact P'
theorem W_putfield (B : oB p l e R s m args below meth c Z h0 lo T cells slots ds) {own R0 O n d host : String} {i j q kk : Nat} {a : Addr} {C : String} {fs : List (oFK × Value)} {old v : Value} {ty : FieldType} (hown : s.vm.findClass own = some m.cls) (w : (Jvm.Cond.fieldLink own i R0 n d).before a0 Z = true ∨ (Jvm.Cond.fieldLinkNest own i R0 n d host).before a0 Z = true) (via : Via Z R0 O n d) (hd : decode c.code pc = .ok (.putfield i, 3)) (hp : pc + 3 = pc')
    (L : (Jvm.Cond.lays C O n d).before a0 Z = true ∨ ((Jvm.Cond.laysFinal C O n d).before a0 Z = true ∧ own = O ∧ meth.name = "<init>")) (wi : (Jvm.Cond.instantiable C kk).before a0 Z = true) (hty : parseFieldDescriptor d = some ty) (hn : narrow ty v = v) (hft : fits ty v = true)
    (hi : ds[j]? = some (a, oO C fs)) (hf : fs[q]? = some ((O, n, d), old)) (hds : ds.set j (a, oO C (fs.set q ((O, n, d), v))) = ds')
    (k : ∀ T, oB p l e R s m args below meth c Z h0 lo T cells slots ds' → oWin p e below Z h0 Q E (T.setTop (mkF m pc' ls st))) : oWin p e below Z h0 Q E (T.setTop (mkF m pc ls (v :: .ref a :: st))) := by
  subst hp hds
  obtain ⟨hx, hZ, hlk, locs, X, N, H⟩ := B
  obtain ⟨ha, I⟩ := H.at hi
  obtain ⟨T', h', X', e', W, stp⟩ := putF X hx hZ hown w via rfl (I.2.1 _ (List.mem_of_getElem? hf)) I.1 L wi hty hn hft (g := mkF m pc ls (v :: .ref a :: st)) rfl rfl hd
  subst e'
  exact (k T' ⟨hx, hZ, hlk, _, X', Fr.snoc X' N ha, H.wr hi W (I.put hf W)⟩).step stp
def oLaid (Z : State) (a0 : Array Value) (C : String) (f : oFK × Value) : Prop := Laid Z a0 C f.1.1 f.1.2.1 f.1.2.2 ∧ ∃ ty, parseFieldDescriptor f.1.2.2 = some ty ∧ f.2 = defaultValue ty
theorem oAll_nil {P : oFK × Value → Prop} : ∀ f ∈ ([] : List (oFK × Value)), P f := fun _ h => nomatch h
theorem oAll_cons {P : oFK × Value → Prop} {f : oFK × Value} {fs : List (oFK × Value)} (h : P f) (h' : ∀ g ∈ fs, P g) : ∀ g ∈ f :: fs, P g := fun g hg => (List.mem_cons.mp hg).elim (fun e => e ▸ h) (h' g)
theorem W_new (B : oB p l e R s m args below meth c Z h0 lo T cells slots ds) {own C : String} {i n : Nat} {fs : List (oFK × Value)} (hown : s.vm.findClass own = some m.cls) (w : (Jvm.Cond.classLink own i C).before a0 Z = true) (wi : (Jvm.Cond.instantiable C n).before a0 Z = true) (wz : (Jvm.Cond.initialized C).before a0 Z = true) (hd : decode c.code pc = .ok (.new i, 3)) (hp : pc + 3 = pc')
    (hr : cells + 1 ≤ R.cells ∧ slots + n ≤ R.slots) {cells' slots' : Nat} (hc' : cells + 1 = cells') (hs' : slots + n = slots')
    (hfs : ∀ f ∈ fs, oLaid Z a0 C f) (hnd : (fs.map fun f => f.1.2.1).Nodup)
    (k : ∀ T a, oB p l e R s m args below meth c Z h0 lo T cells' slots' ((a, oO C fs) :: ds) → oWin p e below Z h0 Q E (T.setTop (mkF m pc' ls (.ref a :: st)))) : oWin p e below Z h0 Q E (T.setTop (mkF m pc ls st)) := by
  subst hp hc' hs'
  obtain ⟨hx, hZ, hlk, locs, X, N, H⟩ := B
  obtain ⟨T', h', X', e', E, A, D, -, stp⟩ := newO X hx hZ hown w wi wz rfl (g := mkF m pc ls st) rfl hd hr.1 hr.2
  subst e'
  refine (k T' T.heap.size ⟨hx, hZ, hlk, _, X', N, H.new E ⟨A, fun f hf => ?_, ?_⟩⟩).step stp
  · obtain ⟨L, ty, h1, h2⟩ := hfs f hf
    rw [h2]; exact D L h1
  · have P := List.pairwise_map.mp (List.nodup_iff_pairwise_ne.mp hnd)
    refine P.imp_of_mem fun {f g} hf hg ne => ?_
    obtain ⟨L, ty, h1, h2⟩ := hfs f hf
    obtain ⟨L', ty', h1', h2'⟩ := hfs g hg
    exact Jvm.RoadKit.slot_ne L L' ne h1 h1'
theorem W_newarray (B : oB p l e R s m args below meth c Z h0 lo T cells slots ds) {aty : ArrayType} {n : Int32} {cap : Nat} {vs : List Value} (w : (Jvm.Cond.arrayClass (newarray.typeOf aty)).before a0 Z = true) (hd : decode c.code pc = .ok (.newarray aty, 2)) (hp : pc + 2 = pc') (hn : ¬ n < 0) (hcap : n.toNatClampNeg ≤ cap)
    (hr : cap * 8 ≤ 536870912 ∧ cells + 1 ≤ R.cells ∧ slots + cap ≤ R.slots) {cells' slots' : Nat} (hc' : cells + 1 = cells') (hs' : slots + cap = slots') (hvs : List.replicate n.toNatClampNeg (defaultValue (newarray.typeOf aty)) = vs) {ty : FieldType} (hty : newarray.typeOf aty = ty)
    (k : ∀ T a, oB p l e R s m args below meth c Z h0 lo T cells' slots' ((a, oA ty vs) :: ds) → oWin p e below Z h0 Q E (T.setTop (mkF m pc' ls (.ref a :: st)))) : oWin p e below Z h0 Q E (T.setTop (mkF m pc ls (.int n :: st))) := by
  subst hp hc' hs' hvs hty
  obtain ⟨hx, hZ, hlk, locs, X, N, H⟩ := B
  obtain ⟨T', h', cA, X', e', E, A, EA, stp⟩ := newPE X hx hZ w rfl (g := mkF m pc ls (.int n :: st)) rfl hd rfl hn hcap hr.1 hr.2.1 hr.2.2 rfl
  subst e'
  exact (k T' T.heap.size ⟨hx, hZ, hlk, _, X', N, H.new E ⟨_, A, by simp [newA], (fun C hC => by cases aty <;> cases hC), EA, fun v hv => by rw [(List.mem_replicate.mp hv).2]; cases aty <;> rfl⟩⟩).step stp
theorem W_anewarray (B : oB p l e R s m args below meth c Z h0 lo T cells slots ds) {own C : String} {i : Nat} {n : Int32} {cap : Nat} {vs : List Value} (hown : s.vm.findClass own = some m.cls) (w : (Jvm.Cond.classLink own i C).before a0 Z = true) (w2 : (Jvm.Cond.arrayOver (.object C)).before a0 Z = true) (hd : decode c.code pc = .ok (.anewarray i, 3)) (hp : pc + 3 = pc') (hn : ¬ n < 0) (hcap : n.toNatClampNeg ≤ cap)
    (hr : cap * 8 ≤ 536870912 ∧ cells + 1 ≤ R.cells ∧ slots + cap ≤ R.slots) {cells' slots' : Nat} (hc' : cells + 1 = cells') (hs' : slots + cap = slots') (hvs : List.replicate n.toNatClampNeg Value.null = vs)
    (k : ∀ T a, oB p l e R s m args below meth c Z h0 lo T cells' slots' ((a, oA (.object C) vs) :: ds) → oWin p e below Z h0 Q E (T.setTop (mkF m pc' ls (.ref a :: st)))) : oWin p e below Z h0 Q E (T.setTop (mkF m pc ls (.int n :: st))) := by
  subst hp hc' hs' hvs
  obtain ⟨hx, hZ, hlk, locs, X, N, H⟩ := B
  obtain ⟨T', h', cA, X', e', E, A, EA, O, stp⟩ := newRE X hx hZ hown w w2 rfl (g := mkF m pc ls (.int n :: st)) rfl hd rfl hn hcap hr.1 hr.2.1 hr.2.2 rfl
  subst e'
  exact (k T' T.heap.size ⟨hx, hZ, hlk, _, X', N, H.new E ⟨_, A, by simp [newA, defaultValue], (fun C' hC => by cases hC; exact O), EA, fun v hv => by rw [(List.mem_replicate.mp hv).2]; rfl⟩⟩).step stp
theorem W_arraylength (B : oB p l e R s m args below meth c Z h0 lo T cells slots ds) {j : Nat} {a : Addr} {ty : FieldType} {vs : List Value} {z : Int32} (hd : decode c.code pc = .ok (.arraylength, 1)) (hp : pc + 1 = pc') (hi : ds[j]? = some (a, oA ty vs)) (hz : vs.length.toInt32 = z) (w : oWin p e below Z h0 Q E (T.setTop (mkF m pc' ls (.int z :: st)))) : oWin p e below Z h0 Q E (T.setTop (mkF m pc ls (.ref a :: st))) := by
  subst hp hz
  obtain ⟨hx, hZ, hlk, locs, X, N, H⟩ := B
  obtain ⟨-, c', A, e, -⟩ := H.at hi
  have e2 : c'.slots.size = vs.length := by rw [e]; simp
  refine w.step fun t k => X.arraylength hx A.1 (State.isArrayOf_alike hZ.alike A.2.1) (g := mkF m pc ls (.ref a :: st)) rfl rfl hd t ?_
  rw [e2]; exact k
theorem oIn {vs : List Value} {j : Int32} {v : Value} {c' : Cell} (e : c'.slots = vs.toArray) (hj : ¬ j < 0) (hv : vs[j.toNatClampNeg]? = some v) : ¬ (j < 0 ∨ c'.slots.size ≤ j.toNatClampNeg) ∧ c'.slots[j.toNatClampNeg]? = some v := by
  have h1 : j.toNatClampNeg < vs.length := (List.getElem?_eq_some_iff.mp hv).1
  refine ⟨fun q => ?_, by rw [e]; simpa using hv⟩
  rcases q with q | q
  · exact hj q
  · rw [e] at q; simp at q; omega
theorem oIs.store {h h' : Heap} {a : Addr} {ty : FieldType} {vs : List Value} {i : Nat} {v : Value} (I : oIs Z h a (oA ty vs)) (W : Wr h h' a i v) (hv : fits ty v = true) : oIs Z h' a (oA ty (vs.set i v)) := by
  obtain ⟨c', A, e, O, E, F⟩ := I
  refine ⟨_, A.same W, ?_, O, E.wr W, fun w hw => ?_⟩
  · show c'.slots.setIfInBounds i v = _
    rw [e]; simp
  · rcases List.mem_or_eq_of_mem_set hw with q | q
    · exact F w q
    · rw [q]; exact hv
theorem W_clone (B : oB p l e R s m args below meth c Z h0 lo T cells slots ds) {own ad : String} {i j : Nat} {a : Addr} {ty : FieldType} {vs : List Value} {cap W : Nat} (hown : s.vm.findClass own = some m.cls) (w1 : (Jvm.Cond.methodLink own i ⟨ad, "clone", "()Ljava/lang/Object;"⟩).before a0 Z = true) (w2 : (Jvm.Cond.sameMethod ad "java/lang/Object" "clone" "()Ljava/lang/Object;").before a0 Z = true) (w3 : (Jvm.Cond.native ⟨"java/lang/Object", "clone", "()Ljava/lang/Object;"⟩).before a0 Z = true)
    (w4 : (Jvm.Cond.instanceMethod ⟨"java/lang/Object", "clone", "()Ljava/lang/Object;"⟩).before a0 Z = true) (w5 : (Jvm.Cond.selects ad ⟨ad, "clone", "()Ljava/lang/Object;"⟩ ⟨"java/lang/Object", "clone", "()Ljava/lang/Object;"⟩).before a0 Z = true) (w6 : (Jvm.Cond.castable ad "java/lang/Cloneable").before a0 Z = true)
    (had : "[" ++ ty.toString = ad) (hi : ds[j]? = some (a, oA ty vs)) (hd : decode c.code pc = .ok (.invokevirtual i, 3)) (hp : pc + 3 = pc') (hsz : ls.size = c.maxLocals) (hW : (st.map fun v => v.category).sum ≤ W) (hcap : vs.length ≤ cap) (hr : 1 ≤ R.frames ∧ W + 14 ≤ R.locals ∧ cells + 1 ≤ R.cells ∧ slots + cap ≤ R.slots) {cells' slots' : Nat} (hc' : cells + 1 = cells') (hs' : slots + cap = slots')
    (k : ∀ T b, oB p l e R s m args below meth c Z h0 lo T cells' slots' ((b, oA ty vs) :: ds) → oWin p e below Z h0 Q E (T.setTop (mkF m pc' ls (.ref b :: st)))) : oWin p e below Z h0 Q E (T.setTop (mkF m pc ls (.ref a :: st))) := by
  subst hp hc' hs' had
  obtain ⟨hx, hZ, hlk, locs, X, N, H⟩ := B
  obtain ⟨-, c', A, e1, O, E, F⟩ := H.at hi
  have FC : FitC Z c' := fitC_of A fun i hi v hv => F v (by rw [e1] at hv; simpa using List.mem_of_getElem? (l := vs) (by simpa using hv))
  obtain ⟨T', h', X', e', ex, A', E', stp⟩ := cloneA X hx hZ hown w1 w2 w3 w4 w5 w6 rfl A E FC (g := mkF m pc ls (.ref a :: st)) rfl hsz rfl hd hr.1 (W := W) (cap := cap) (by simpa using hW) hr.2.1 (by rw [e1]; simpa using hcap) hr.2.2.1 hr.2.2.2
  subst e'
  exact (k T' T.heap.size ⟨hx, hZ, hlk, _, X', N, H.new ex ⟨_, A', e1, O, E', F⟩⟩).step stp
theorem W_castArr (B : oB p l e R s m args below meth c Z h0 lo T cells slots ds) {own ad : String} {i j : Nat} {a : Addr} {ty : FieldType} {vs : List Value} (hown : s.vm.findClass own = some m.cls) (w : (Jvm.Cond.classLink own i ad).before a0 Z = true) (had : "[" ++ ty.toString = ad) (hi : ds[j]? = some (a, oA ty vs)) (hd : decode c.code pc = .ok (.checkcast i, 3)) (hp : pc + 3 = pc')
    (k : ∀ T, oB p l e R s m args below meth c Z h0 lo T cells slots ds → oWin p e below Z h0 Q E (T.setTop (mkF m pc' ls (.ref a :: st)))) : oWin p e below Z h0 Q E (T.setTop (mkF m pc ls (.ref a :: st))) := by
  subst hp had
  obtain ⟨hx, hZ, hlk, locs, X, N, H⟩ := B
  obtain ⟨-, c', A, e1, O, E, F⟩ := H.at hi
  obtain ⟨T', X', e', stp⟩ := castY X hx hZ hown w rfl (Ins.self E) (g := mkF m pc ls (.ref a :: st)) rfl rfl hd
  exact (k T' ⟨hx, hZ, hlk, locs, X', N, e' ▸ H⟩).step stp
theorem W_iaload (B : oB p l e R s m args below meth c Z h0 lo T cells slots ds) {i : Nat} {a : Addr} {vs : List Value} {j : Int32} {v : Value} (hd : decode c.code pc = .ok (.iaload, 1)) (hp : pc + 1 = pc') (hi : ds[i]? = some (a, oA .int vs)) (hj : ¬ j < 0) (hv : vs[j.toNatClampNeg]? = some v) (w : oWin p e below Z h0 Q E (T.setTop (mkF m pc' ls (v :: st)))) : oWin p e below Z h0 Q E (T.setTop (mkF m pc ls (.int j :: .ref a :: st))) := by
  subst hp
  obtain ⟨hx, hZ, hlk, locs, X, N, H⟩ := B
  obtain ⟨-, c', A, e, -⟩ := H.at hi
  obtain ⟨q1, q2⟩ := oIn e hj hv
  exact w.step fun t k => X.iaload hx A.1 (State.isArrayOf_alike hZ.alike A.2.1) A.2.2 q1 q2 (g := mkF m pc ls (.int j :: .ref a :: st)) rfl rfl hd t k
theorem W_laload (B : oB p l e R s m args below meth c Z h0 lo T cells slots ds) {i : Nat} {a : Addr} {vs : List Value} {j : Int32} {v : Value} (hd : decode c.code pc = .ok (.laload, 1)) (hp : pc + 1 = pc') (hi : ds[i]? = some (a, oA .long vs)) (hj : ¬ j < 0) (hv : vs[j.toNatClampNeg]? = some v) (w : oWin p e below Z h0 Q E (T.setTop (mkF m pc' ls (v :: st)))) : oWin p e below Z h0 Q E (T.setTop (mkF m pc ls (.int j :: .ref a :: st))) := by
  subst hp
  obtain ⟨hx, hZ, hlk, locs, X, N, H⟩ := B
  obtain ⟨-, c', A, e, -⟩ := H.at hi
  obtain ⟨q1, q2⟩ := oIn e hj hv
  exact w.step fun t k => X.laload hx A.1 (State.isArrayOf_alike hZ.alike A.2.1) A.2.2 q1 q2 (g := mkF m pc ls (.int j :: .ref a :: st)) rfl rfl hd t k
theorem W_baload (B : oB p l e R s m args below meth c Z h0 lo T cells slots ds) {i : Nat} {a : Addr} {vs : List Value} {j : Int32} {v : Value} (hd : decode c.code pc = .ok (.baload, 1)) (hp : pc + 1 = pc') (hi : ds[i]? = some (a, oA .byte vs)) (hj : ¬ j < 0) (hv : vs[j.toNatClampNeg]? = some v) (w : oWin p e below Z h0 Q E (T.setTop (mkF m pc' ls (v :: st)))) : oWin p e below Z h0 Q E (T.setTop (mkF m pc ls (.int j :: .ref a :: st))) := by
  subst hp
  obtain ⟨hx, hZ, hlk, locs, X, N, H⟩ := B
  obtain ⟨-, c', A, e, -⟩ := H.at hi
  obtain ⟨q1, q2⟩ := oIn e hj hv
  exact w.step fun t k => X.baloadBytes hx A.1 (State.isArrayOf_alike hZ.alike A.2.1) A.2.2 q1 q2 (g := mkF m pc ls (.int j :: .ref a :: st)) rfl rfl hd t k
theorem W_caload (B : oB p l e R s m args below meth c Z h0 lo T cells slots ds) {i : Nat} {a : Addr} {vs : List Value} {j : Int32} {v : Value} (hd : decode c.code pc = .ok (.caload, 1)) (hp : pc + 1 = pc') (hi : ds[i]? = some (a, oA .char vs)) (hj : ¬ j < 0) (hv : vs[j.toNatClampNeg]? = some v) (w : oWin p e below Z h0 Q E (T.setTop (mkF m pc' ls (v :: st)))) : oWin p e below Z h0 Q E (T.setTop (mkF m pc ls (.int j :: .ref a :: st))) := by
  subst hp
  obtain ⟨hx, hZ, hlk, locs, X, N, H⟩ := B
  obtain ⟨-, c', A, e, -⟩ := H.at hi
  obtain ⟨q1, q2⟩ := oIn e hj hv
  exact w.step fun t k => X.caload hx A.1 (State.isArrayOf_alike hZ.alike A.2.1) A.2.2 q1 q2 (g := mkF m pc ls (.int j :: .ref a :: st)) rfl rfl hd t k
theorem W_aaload (B : oB p l e R s m args below meth c Z h0 lo T cells slots ds) {i : Nat} {a : Addr} {ty : FieldType} {vs : List Value} {j : Int32} {v : Value} (hd : decode c.code pc = .ok (.aaload, 1)) (hp : pc + 1 = pc') (hi : ds[i]? = some (a, oA ty vs)) (hty : ty.isReference = true) (hj : ¬ j < 0) (hv : vs[j.toNatClampNeg]? = some v) (w : oWin p e below Z h0 Q E (T.setTop (mkF m pc' ls (v :: st)))) : oWin p e below Z h0 Q E (T.setTop (mkF m pc ls (.int j :: .ref a :: st))) := by
  subst hp
  obtain ⟨hx, hZ, hlk, locs, X, N, H⟩ := B
  obtain ⟨-, c', A, e, -⟩ := H.at hi
  obtain ⟨q1, q2⟩ := oIn e hj hv
  exact w.step fun t k => X.aaload hx A.1 (State.isArrayOf_alike hZ.alike A.2.1) hty A.2.2 q1 q2 (g := mkF m pc ls (.int j :: .ref a :: st)) rfl rfl hd t k
theorem W_iastore (B : oB p l e R s m args below meth c Z h0 lo T cells slots ds) {i : Nat} {a : Addr} {vs : List Value} {j : Int32} {x : Int32} (hd : decode c.code pc = .ok (.iastore, 1)) (hp : pc + 1 = pc') (hi : ds[i]? = some (a, oA .int vs)) (hj : ¬ j < 0) (hv : j.toNatClampNeg < vs.length) (hds : ds.set i (a, oA .int (vs.set j.toNatClampNeg (.int x))) = ds') (k : ∀ T, oB p l e R s m args below meth c Z h0 lo T cells slots ds' → oWin p e below Z h0 Q E (T.setTop (mkF m pc' ls st))) : oWin p e below Z h0 Q E (T.setTop (mkF m pc ls (.int x :: .int j :: .ref a :: st))) := by
  subst hp hds
  obtain ⟨hx, hZ, hlk, locs, X, N, H⟩ := B
  obtain ⟨ha, I⟩ := H.at hi
  have I' := I
  obtain ⟨c', A, e, -⟩ := I'
  obtain ⟨q1, -⟩ := oIn e hj (List.getElem?_eq_getElem hv)
  obtain ⟨T', h', X', e', W, stp⟩ := stI X hx hZ rfl A q1 (g := mkF m pc ls (.int x :: .int j :: .ref a :: st)) rfl rfl hd
  subst e'
  exact (k T' ⟨hx, hZ, hlk, _, X', Fr.snoc X' N ha, H.wr hi W (I.store W rfl)⟩).step stp
theorem W_lastore (B : oB p l e R s m args below meth c Z h0 lo T cells slots ds) {i : Nat} {a : Addr} {vs : List Value} {j : Int32} {x : Int64} (hd : decode c.code pc = .ok (.lastore, 1)) (hp : pc + 1 = pc') (hi : ds[i]? = some (a, oA .long vs)) (hj : ¬ j < 0) (hv : j.toNatClampNeg < vs.length) (hds : ds.set i (a, oA .long (vs.set j.toNatClampNeg (.long x))) = ds') (k : ∀ T, oB p l e R s m args below meth c Z h0 lo T cells slots ds' → oWin p e below Z h0 Q E (T.setTop (mkF m pc' ls st))) : oWin p e below Z h0 Q E (T.setTop (mkF m pc ls (.long x :: .int j :: .ref a :: st))) := by
  subst hp hds
  obtain ⟨hx, hZ, hlk, locs, X, N, H⟩ := B
  obtain ⟨ha, I⟩ := H.at hi
  have I' := I
  obtain ⟨c', A, e, -⟩ := I'
  obtain ⟨q1, -⟩ := oIn e hj (List.getElem?_eq_getElem hv)
  obtain ⟨T', h', X', e', W, stp⟩ := stJ X hx hZ rfl A q1 (g := mkF m pc ls (.long x :: .int j :: .ref a :: st)) rfl rfl hd
  subst e'
  exact (k T' ⟨hx, hZ, hlk, _, X', Fr.snoc X' N ha, H.wr hi W (I.store W rfl)⟩).step stp
theorem W_bastore (B : oB p l e R s m args below meth c Z h0 lo T cells slots ds) {i : Nat} {a : Addr} {vs : List Value} {j : Int32} {x : Int32} (hd : decode c.code pc = .ok (.bastore, 1)) (hp : pc + 1 = pc') (hi : ds[i]? = some (a, oA .byte vs)) (hj : ¬ j < 0) (hv : j.toNatClampNeg < vs.length) (hds : ds.set i (a, oA .byte (vs.set j.toNatClampNeg (.int (nar .byte x)))) = ds') (k : ∀ T, oB p l e R s m args below meth c Z h0 lo T cells slots ds' → oWin p e below Z h0 Q E (T.setTop (mkF m pc' ls st))) : oWin p e below Z h0 Q E (T.setTop (mkF m pc ls (.int x :: .int j :: .ref a :: st))) := by
  subst hp hds
  obtain ⟨hx, hZ, hlk, locs, X, N, H⟩ := B
  obtain ⟨ha, I⟩ := H.at hi
  have I' := I
  obtain ⟨c', A, e, -⟩ := I'
  obtain ⟨q1, -⟩ := oIn e hj (List.getElem?_eq_getElem hv)
  obtain ⟨T', h', X', e', W, stp⟩ := stB X hx hZ rfl A q1 (g := mkF m pc ls (.int x :: .int j :: .ref a :: st)) rfl rfl hd
  subst e'
  exact (k T' ⟨hx, hZ, hlk, _, X', Fr.snoc X' N ha, H.wr hi W (I.store W (fits_nar_byte x))⟩).step stp
theorem W_castore (B : oB p l e R s m args below meth c Z h0 lo T cells slots ds) {i : Nat} {a : Addr} {vs : List Value} {j : Int32} {x : Int32} (hd : decode c.code pc = .ok (.castore, 1)) (hp : pc + 1 = pc') (hi : ds[i]? = some (a, oA .char vs)) (hj : ¬ j < 0) (hv : j.toNatClampNeg < vs.length) (hds : ds.set i (a, oA .char (vs.set j.toNatClampNeg (.int (nar .char x)))) = ds') (k : ∀ T, oB p l e R s m args below meth c Z h0 lo T cells slots ds' → oWin p e below Z h0 Q E (T.setTop (mkF m pc' ls st))) : oWin p e below Z h0 Q E (T.setTop (mkF m pc ls (.int x :: .int j :: .ref a :: st))) := by
  subst hp hds
  obtain ⟨hx, hZ, hlk, locs, X, N, H⟩ := B
  obtain ⟨ha, I⟩ := H.at hi
  have I' := I
  obtain ⟨c', A, e, -⟩ := I'
  obtain ⟨q1, -⟩ := oIn e hj (List.getElem?_eq_getElem hv)
  obtain ⟨T', h', X', e', W, stp⟩ := stC X hx hZ rfl A q1 (g := mkF m pc ls (.int x :: .int j :: .ref a :: st)) rfl rfl hd
  subst e'
  exact (k T' ⟨hx, hZ, hlk, _, X', Fr.snoc X' N ha, H.wr hi W (I.store W (fits_nar_char x))⟩).step stp
theorem W_aastore (B : oB p l e R s m args below meth c Z h0 lo T cells slots ds) {i i2 : Nat} {a b : Addr} {C C2 : String} {fs : List (oFK × Value)} {vs : List Value} {j : Int32} (hd : decode c.code pc = .ok (.aastore, 1)) (hp : pc + 1 = pc') (hi : ds[i]? = some (a, oA (.object C) vs)) (hj : ¬ j < 0) (hv : j.toNatClampNeg < vs.length) (hb : ds[i2]? = some (b, oO C2 fs)) (hins : C2 = C ∨ (Jvm.Cond.castable C2 C).before a0 Z = true) (hds : ds.set i (a, oA (.object C) (vs.set j.toNatClampNeg (.ref b))) = ds') (k : ∀ T, oB p l e R s m args below meth c Z h0 lo T cells slots ds' → oWin p e below Z h0 Q E (T.setTop (mkF m pc' ls st))) : oWin p e below Z h0 Q E (T.setTop (mkF m pc ls (.ref b :: .int j :: .ref a :: st))) := by
  subst hp hds
  obtain ⟨hx, hZ, hlk, locs, X, N, H⟩ := B
  obtain ⟨ha, I⟩ := H.at hi
  have I' := I
  obtain ⟨c', A, e, O, -⟩ := I'
  obtain ⟨q1, -⟩ := oIn e hj (List.getElem?_eq_getElem hv)
  have E2 := (H.at hb).2.1
  have J : Ins Z T.heap b C true := by
    rcases hins with q | q
    · subst q; exact Ins.self E2
    · exact Ins.of_exa E2 q
  obtain ⟨T', h', X', e', W, stp⟩ := stR X hx hZ rfl A q1 rfl (Sto.of A (O C rfl) J) (g := mkF m pc ls (.ref b :: .int j :: .ref a :: st)) rfl rfl hd
  subst e'
  exact (k T' ⟨hx, hZ, hlk, _, X', Fr.snoc X' N ha, H.wr hi W (I.store W rfl)⟩).step stp
theorem W_initO (B : oB p l e R s m args below meth c Z h0 lo T cells slots ds) {own : String} {i : Nat} {a : Addr} {W : Nat} (hown : s.vm.findClass own = some m.cls) (w1 : (Jvm.Cond.methodLink own i Lib.objectInit).before a0 Z = true) (w2 : (Jvm.Cond.instanceMethod Lib.objectInit).before a0 Z = true) (w3 : (Jvm.Cond.code Lib.objectInit ⟨#[0xb1]⟩ 1 none).before a0 Z = true) (hd : decode c.code pc = .ok (.invokespecial i, 3)) (hp : pc + 3 = pc') (hsz : ls.size = c.maxLocals) (hW : (st.map fun v => v.category).sum ≤ W) (hr : 1 ≤ R.frames ∧ W + 12 ≤ R.locals)
    (k : ∀ T, oB p l e R s m args below meth c Z h0 lo T cells slots ds → oWin p e below Z h0 Q E (T.setTop (mkF m pc' ls st))) : oWin p e below Z h0 Q E (T.setTop (mkF m pc ls (.ref a :: st))) := by
  subst hp
  obtain ⟨hx, hZ, hlk, locs, X, N, H⟩ := B
  obtain ⟨T', X', e', stp⟩ := initO X hx hZ hown w1 w2 w3 rfl (g := mkF m pc ls (.ref a :: st)) rfl hsz rfl hd hr.1 (W := W) (by simpa using hW) hr.2
  exact (k T' ⟨hx, hZ, hlk, locs, X', N, e' ▸ H⟩).step stp
theorem W_callS (B : oB p l e R s m args below meth c Z h0 lo T cells slots ds) {own : String} {i : Nat} {y : MethodName} {bytes : ByteArray} {maxL : Nat} {ret : Option FieldType} {rm : Room} {Q' : Option Value → oDs → Prop} {argsL rest : List Value} {W : Nat} (hown : s.vm.findClass own = some m.cls) (w1 : (Jvm.Cond.methodLink own i y).before a0 Z = true) (w2 : (Jvm.Cond.static y).before a0 Z = true) (w3 : (Jvm.Cond.initialized y.cls).before a0 Z = true) (w4 : (Jvm.Cond.code y bytes maxL ret).before a0 Z = true) (hy : y.cls ≠ "java/lang/invoke/MethodHandle" ∧ y.cls ≠ "java/lang/invoke/VarHandle")
    (hM : oMet l Z h0 lo y bytes maxL ret [] rm argsL.toArray ds Q') (hlen : ∀ sig, parseMethodDescriptor y.desc = some sig → argsL.length = sig.parameters.length) (hd : decode c.code pc = .ok (.invokestatic i, 3)) (hp : pc + 3 = pc') (hst : st = argsL.reverse ++ rest) (hsz : ls.size = c.maxLocals) (hW : (rest.map fun v => v.category).sum ≤ W)
    (hr : rm.frames + 1 ≤ R.frames ∧ W + (maxL + 11) + rm.locals ≤ R.locals ∧ cells + rm.cells ≤ R.cells ∧ slots + rm.slots ≤ R.slots) {cells' slots' : Nat} (hc' : cells + rm.cells = cells') (hs' : slots + rm.slots = slots')
    (k : ∀ T v ds', Q' v ds' → oB p l e R s m args below meth c Z h0 lo T cells' slots' ds' → oWin p e below Z h0 Q E (T.setTop (mkF m pc' ls (v.toList ++ rest)))) : oWin p e below Z h0 Q E (T.setTop (mkF m pc ls st)) := by
  subst hp hst hc' hs'
  obtain ⟨hx, hZ, hlk, locs, X, N, H⟩ := B
  obtain ⟨v, vm1, ⟨T', L', k', n'⟩, -, X', ⟨Lc, ⟨N', ds', H', hQ⟩, e1, e2, e3⟩, stp⟩ := Jvm.LawKit.callS X hx (y := y) hown (mvT hZ w1) (mvT hZ w2) (mvT hZ w3) (mvT hZ w4) hy (backOf (W := W) (Q := fun v h L => Fr h0.size L ∧ ∃ ds', oHP Z h0 lo h ds' ∧ Q' v ds') (hM _ H) hZ w4 w3 hr.1 hr.2.1) (g := mkF m pc ls (argsL.reverse ++ rest)) rfl hsz hlen rfl (by simpa using hW) hd (fun _ _ => ⟨rfl, rfl, hr.2.2.1, hr.2.2.2⟩)
  dsimp only [Pt.U, Pt.locs, Pt.cells, Pt.slots] at X' e1 e2 e3 stp H'
  subst e1 e2 e3
  exact (k T' v ds' hQ ⟨hx, hZ, hlk, _, X', N.app N', H'⟩).step stp
theorem W_init (B : oB p l e R s m args below meth c Z h0 lo T cells slots ds) {own : String} {i : Nat} {y : MethodName} {bytes : ByteArray} {maxL : Nat} {rm : Room} {Q' : Option Value → oDs → Prop} {a : Addr} {argsL rest : List Value} {W : Nat} (hown : s.vm.findClass own = some m.cls) (hy1 : y.name = "<init>") (w1 : (Jvm.Cond.methodLink own i y).before a0 Z = true) (w2 : (Jvm.Cond.instanceMethod y).before a0 Z = true) (w3 : (Jvm.Cond.initialized y.cls).before a0 Z = true) (w4 : (Jvm.Cond.code y bytes maxL none).before a0 Z = true) (hy : y.cls ≠ "java/lang/invoke/MethodHandle" ∧ y.cls ≠ "java/lang/invoke/VarHandle")
    (hM : oMet l Z h0 lo y bytes maxL none [] rm (.ref a :: argsL).toArray ds Q') (hlen : ∀ sig, parseMethodDescriptor y.desc = some sig → argsL.length = sig.parameters.length) (hd : decode c.code pc = .ok (.invokespecial i, 3)) (hp : pc + 3 = pc') (hst : st = argsL.reverse ++ .ref a :: rest) (hsz : ls.size = c.maxLocals) (hW : (rest.map fun v => v.category).sum ≤ W)
    (hr : rm.frames + 1 ≤ R.frames ∧ W + (maxL + 11) + rm.locals ≤ R.locals ∧ cells + rm.cells ≤ R.cells ∧ slots + rm.slots ≤ R.slots) {cells' slots' : Nat} (hc' : cells + rm.cells = cells') (hs' : slots + rm.slots = slots')
    (k : ∀ T v ds', Q' v ds' → oB p l e R s m args below meth c Z h0 lo T cells' slots' ds' → oWin p e below Z h0 Q E (T.setTop (mkF m pc' ls (v.toList ++ rest)))) : oWin p e below Z h0 Q E (T.setTop (mkF m pc ls st)) := by
  subst hp hst hc' hs'
  obtain ⟨hx, hZ, hlk, locs, X, N, H⟩ := B
  obtain ⟨v, vm1, ⟨T', L', k', n'⟩, -, X', ⟨Lc, ⟨N', ds', H', hQ⟩, e1, e2, e3⟩, stp⟩ := X.specialBack hx (y := y) hy1 hown (mvT hZ w1) (mvT hZ w2) (mvT hZ w4) hy (backOf (W := W) (Q := fun v h L => Fr h0.size L ∧ ∃ ds', oHP Z h0 lo h ds' ∧ Q' v ds') (hM _ H) hZ w4 w3 hr.1 hr.2.1) (g := mkF m pc ls (argsL.reverse ++ .ref a :: rest)) rfl hsz (Steps.refl _) (a := a) hlen rfl (by simpa using hW) hd (fun _ _ => ⟨rfl, rfl, hr.2.2.1, hr.2.2.2⟩)
  dsimp only [Pt.U, Pt.locs, Pt.cells, Pt.slots] at X' e1 e2 e3 stp H'
  subst e1 e2 e3
  exact (k T' v ds' hQ ⟨hx, hZ, hlk, _, X', N.app N', H'⟩).steps stp
theorem W_virtual (B : oB p l e R s m args below meth c Z h0 lo T cells slots ds) {own C : String} {i j : Nat} {y z : MethodName} {bytes : ByteArray} {maxL : Nat} {ret : Option FieldType} {rm : Room} {Q' : Option Value → oDs → Prop} {a : Addr} {fs : List (oFK × Value)} {argsL rest : List Value} {W : Nat} (hown : s.vm.findClass own = some m.cls) (w1 : (Jvm.Cond.methodLink own i y).before a0 Z = true) (w2 : (Jvm.Cond.declares y).before a0 Z = true) (hnf : NotFace s y) (ws : (Jvm.Cond.selects C y z).before a0 Z = true) (wm : (Jvm.Cond.instanceMethod z).before a0 Z = true) (w3 : (Jvm.Cond.initialized z.cls).before a0 Z = true) (w4 : (Jvm.Cond.code z bytes maxL ret).before a0 Z = true) (hy : y.cls ≠ "java/lang/invoke/MethodHandle" ∧ y.cls ≠ "java/lang/invoke/VarHandle")
    (hM : oMet l Z h0 lo z bytes maxL ret [] rm (.ref a :: argsL).toArray ds Q') (hlen : ∀ sig, parseMethodDescriptor y.desc = some sig → argsL.length = sig.parameters.length) (hd : decode c.code pc = .ok (.invokevirtual i, 3)) (hp : pc + 3 = pc') (hst : st = argsL.reverse ++ .ref a :: rest) (hsz : ls.size = c.maxLocals) (hW : (rest.map fun v => v.category).sum ≤ W) (hi : ds[j]? = some (a, oO C fs))
    (hr : rm.frames + 1 ≤ R.frames ∧ W + (maxL + 11) + rm.locals ≤ R.locals ∧ cells + rm.cells ≤ R.cells ∧ slots + rm.slots ≤ R.slots) {cells' slots' : Nat} (hc' : cells + rm.cells = cells') (hs' : slots + rm.slots = slots')
    (k : ∀ T v ds', Q' v ds' → oB p l e R s m args below meth c Z h0 lo T cells' slots' ds' → oWin p e below Z h0 Q E (T.setTop (mkF m pc' ls (v.toList ++ rest)))) : oWin p e below Z h0 Q E (T.setTop (mkF m pc ls st)) := by
  subst hp hst hc' hs'
  obtain ⟨hx, hZ, hlk, locs, X, N, H⟩ := B
  obtain ⟨cq, kq, q1, q2, q3⟩ := isOf (T := T) hZ rfl (H.at hi).2.1
  obtain ⟨v, vm1, ⟨T', L', k', n'⟩, -, X', ⟨Lc, ⟨N', ds', H', hQ⟩, e1, e2, e3⟩, stp⟩ := X.virtualBack hx (y := y) (z := z) hown (mvT hZ w1) (mvT hZ w2) hnf (mvT hZ ws) (mvT hZ wm) hy (backOf (W := W) (Q := fun v h L => Fr h0.size L ∧ ∃ ds', oHP Z h0 lo h ds' ∧ Q' v ds') (hM _ H) hZ w4 w3 hr.1 hr.2.1) q1 q3 (g := mkF m pc ls (argsL.reverse ++ .ref a :: rest)) rfl hsz (Steps.refl _) hlen rfl (by simpa using hW) hd (fun _ _ => ⟨rfl, rfl, hr.2.2.1, hr.2.2.2⟩)
  dsimp only [Pt.U, Pt.locs, Pt.cells, Pt.slots] at X' e1 e2 e3 stp H'
  subst e1 e2 e3
  exact (k T' v ds' hQ ⟨hx, hZ, hlk, _, X', N.app N', H'⟩).steps stp
theorem oNotFace (B : oB p l e R s m args below meth c Z h0 lo T cells slots ds) {C : String} {y z : MethodName} (ws : (Jvm.Cond.selects C y z).before a0 Z = true) (hyz : y = z) : NotFace s y := by
  subst hyz; exact notFace_of_selects (args := #[]) (mvT B.2.1 ws)
theorem oWin.leave (B : oB p l e R s m args below meth c Z h0 lo T cells slots ds) {v : Option Value} {S : State} (hv : meth.sig.returnType = none → v = none) (hq : Q v ds) (hr : cells ≤ kc ∧ slots ≤ ks) (hstep : ∀ fs, (∀ (f : JFrame) (acts : List Action), f.method = m → f.locked = none → f.entered = [] → (doReturn e (T.setTop f) acts v).1 = T.setFrames fs) → Steps p.tables e below S (T.setFrames fs)) : oWin p e below Z h0 Q (oFE s lo kc ks) S := by
  obtain ⟨hx, hZ, hlk, locs, X, N, H⟩ := B
  obtain ⟨fs, hrr, hrun, hended, hW, hsame⟩ := X.leave (v := v) hv hlk
  exact ⟨_, _, hstep fs hrr, hrun, hended, v, locs, rfl, ⟨N, lo, ds, H, hq⟩, H.1.2, ⟨_, rfl⟩, hW, hsame.mono hr.1 hr.2⟩
theorem oWin.leaveW {vm₁ : Vm} (B : oB p l e R (s.setVm vm₁) m args below meth c Z h0 lo T cells slots ds) (hS : s.Since vm₁ lo) {v : Option Value} {S : State} (hv : meth.sig.returnType = none → v = none) (hq : Q v ds) (hr : cells ≤ kc ∧ slots ≤ ks) (hstep : ∀ fs, (∀ (f : JFrame) (acts : List Action), f.method = m → f.locked = none → f.entered = [] → (doReturn e (T.setTop f) acts v).1 = T.setFrames fs) → Steps p.tables e below S (T.setFrames fs)) : oWin p e below Z h0 Q (oFW s kc ks) S := by
  obtain ⟨hx, hZ, hlk, locs, X, N, H⟩ := B
  obtain ⟨fs, hrr, hrun, hended, h1, h2, h3, h4⟩ := X.leaveW hS H.1.2 (v := v) hv hlk
  exact ⟨_, _, hstep fs hrr, hrun, hended, v, locs, rfl, ⟨N, lo, ds, H, hq⟩, h1, h2, h3, h4.mono hr.1 hr.2⟩
theorem W_retNW {vm₁ : Vm} (B : oB p l e R (s.setVm vm₁) m args below meth c Z h0 lo T cells slots ds) (hS : s.Since vm₁ lo) {z : Int32} {t : FieldType} (hret : meth.sig.returnType = some t) (ht : t = .boolean ∨ t = .byte ∨ t = .char ∨ t = .short) (hd : decode c.code pc = .ok (.ireturn, 1)) (hr : cells ≤ kc ∧ slots ≤ ks) (hq : Q (some (.int (nar t z))) ds) : oWin p e below Z h0 Q (oFW s kc ks) (T.setTop (mkF m pc ls (.int z :: st))) := by
  have B' := B
  obtain ⟨hx, hZ, hlk, locs, X, N, H⟩ := B'
  exact oWin.leaveW B hS (v := some (.int (nar t z))) (fun h => by rw [hret] at h; cases h) hq hr fun fs hl => retN X hx hret ht hd hl
theorem W_ldcStr {vm₀ : Vm} (B : oB p l e R (s.setVm vm₀) m args below meth c Z h0 lo T cells slots ds) (hS : s.Since vm₀ lo) {own text : String} {i n : Nat} (hown : (s.setVm vm₀).vm.findClass own = some m.cls) (w : (Jvm.Cond.stringLink own i text).before a0 Z = true) (wS : ∀ a ∈ Bundle.stringAtoms, a.before a0 Z = true) (hd : decode c.code pc = .ok (.ldc i, 2)) (hp : pc + 2 = pc') (hn : 4 * text.toList.length ≤ n) (hr : n ≤ 536870912 ∧ cells + 2 ≤ R.cells ∧ slots + (n + 4) ≤ R.slots) {cells' slots' : Nat} (hc' : cells + 2 = cells') (hs' : slots + (n + 4) = slots')
    (k : ∀ T a vm₁ lo', oB p l e R (s.setVm vm₁) m args below meth c Z h0 lo' T cells' slots' ds → s.Since vm₁ lo' → (s.setVm vm₁).vm.findClass own = some m.cls → oWin p e below Z h0 Q E (T.setTop (mkF m pc' ls (.ref a :: st)))) : oWin p e below Z h0 Q E (T.setTop (mkF m pc ls st)) := by
  subst hp hc' hs'
  obtain ⟨hx, hZ, hlk, locs, X, N, H⟩ := B
  obtain ⟨a, T', h', k1, X', e', E1, hS', hk1, hZ', hown', stp⟩ := ldcS X hx hZ hown w wS rfl hS H.1.2 (g := mkF m pc ls st) rfl hd hn hr.1 hr.2.1 hr.2.2
  subst e'
  exact (k T' a T'.vm k1 ⟨hx, hZ', hlk, locs, X', N, H.more E1 hk1⟩ hS' hown').step stp
theorem W_retI (B : oB p l e R s m args below meth c Z h0 lo T cells slots ds) {z : Int32} (hret : meth.sig.returnType = some .int) (hd : decode c.code pc = .ok (.ireturn, 1)) (hr : cells ≤ kc ∧ slots ≤ ks) (hq : Q (some (.int z)) ds) : oWin p e below Z h0 Q (oFE s lo kc ks) (T.setTop (mkF m pc ls (.int z :: st))) := by
  have B' := B
  obtain ⟨hx, hZ, hlk, locs, X, N, H⟩ := B'
  refine oWin.leave B (v := some (.int z)) (fun h => by rw [hret] at h; cases h) hq hr fun fs hl => ?_
  have hm' : T.vm.method? m = some meth := X.method'
  have hn : narrow .int (.int z) = .int z := rfl
  show Steps p.tables e below (T.setTop { method := m, pc := pc, locals := ls, stack := _ :: st, locked := none }) _
  jvm_step X.here [X.here.top, hx, hd, hm', hret, hn]
  first | (intro acts; rw [hl _ acts rfl rfl rfl]) | rw [hl _ _ rfl rfl rfl]
  exact Steps.refl _
theorem W_retL (B : oB p l e R s m args below meth c Z h0 lo T cells slots ds) {z : Int64} (hret : meth.sig.returnType = some .long) (hd : decode c.code pc = .ok (.lreturn, 1)) (hr : cells ≤ kc ∧ slots ≤ ks) (hq : Q (some (.long z)) ds) : oWin p e below Z h0 Q (oFE s lo kc ks) (T.setTop (mkF m pc ls (.long z :: st))) := by
  have B' := B
  obtain ⟨hx, hZ, hlk, locs, X, N, H⟩ := B'
  refine oWin.leave B (v := some (.long z)) (fun h => by rw [hret] at h; cases h) hq hr fun fs hl => ?_
  have hm' : T.vm.method? m = some meth := X.method'
  show Steps p.tables e below (T.setTop { method := m, pc := pc, locals := ls, stack := _ :: st, locked := none }) _
  jvm_step X.here [X.here.top, hx, hd, hm', hret, narrow]
  first | (intro acts; rw [hl _ acts rfl rfl rfl]) | rw [hl _ _ rfl rfl rfl]
  exact Steps.refl _
theorem W_retN (B : oB p l e R s m args below meth c Z h0 lo T cells slots ds) {z : Int32} {t : FieldType} (hret : meth.sig.returnType = some t) (ht : t = .boolean ∨ t = .byte ∨ t = .char ∨ t = .short) (hd : decode c.code pc = .ok (.ireturn, 1)) (hr : cells ≤ kc ∧ slots ≤ ks) (hq : Q (some (.int (nar t z))) ds) : oWin p e below Z h0 Q (oFE s lo kc ks) (T.setTop (mkF m pc ls (.int z :: st))) := by
  have B' := B
  obtain ⟨hx, hZ, hlk, locs, X, N, H⟩ := B'
  exact oWin.leave B (v := some (.int (nar t z))) (fun h => by rw [hret] at h; cases h) hq hr fun fs hl => retN X hx hret ht hd hl
theorem W_retV (B : oB p l e R s m args below meth c Z h0 lo T cells slots ds) (hret : meth.sig.returnType = none) (hd : decode c.code pc = .ok (.return_, 1)) (hr : cells ≤ kc ∧ slots ≤ ks) (hq : Q none ds) : oWin p e below Z h0 Q (oFE s lo kc ks) (T.setTop (mkF m pc ls [])) := by
  have B' := B
  obtain ⟨hx, hZ, hlk, locs, X, N, H⟩ := B'
  exact oWin.leave B (v := none) (fun _ => rfl) hq hr fun fs hl => X.returnOut hx hret hd hl
theorem W_retA (B : oB p l e R s m args below meth c Z h0 lo T cells slots ds) {v : Value} {t : FieldType} (hret : meth.sig.returnType = some t) (ht : t.isReference = true) (hv : v.isRef = true) (hd : decode c.code pc = .ok (.areturn, 1)) (hr : cells ≤ kc ∧ slots ≤ ks) (hq : Q (some v) ds) : oWin p e below Z h0 Q (oFE s lo kc ks) (T.setTop (mkF m pc ls (v :: st))) := by
  have B' := B
  obtain ⟨hx, hZ, hlk, locs, X, N, H⟩ := B'
  refine oWin.leave B (v := some v) (fun h => by rw [hret] at h; cases h) hq hr fun fs hl => ?_
  have hm' : T.vm.method? m = some meth := X.method'
  show Steps p.tables e below (T.setTop { method := m, pc := pc, locals := ls, stack := _ :: st, locked := none }) _
  cases v <;> simp [Value.isRef] at hv
  all_goals
    jvm_step X.here [X.here.top, hx, hd, hm', hret, Value.isRef, FieldType.isReference, ht]
    refine ⟨ht, fun acts => ?_⟩
    rw [hl _ acts rfl rfl rfl]
    exact Steps.refl _
theorem oB_ne (B : oB p l e R s m args below meth c Z h0 lo T cells slots ds) {i j : Nat} {x y : Addr × oD} (hi : ds[i]? = some x) (hj : ds[j]? = some y) (ne : i ≠ j) : x.1 ≠ y.1 := by
  obtain ⟨hx, hZ, hlk, locs, X, N, H⟩ := B
  exact H.ne hi hj ne
theorem oB_new (B : oB p l e R s m args below meth c Z h0 lo T cells slots ds) {i : Nat} {x : Addr × oD} (hi : ds[i]? = some x) : h0.size ≤ x.1 := by
  obtain ⟨hx, hZ, hlk, locs, X, N, H⟩ := B
  exact (H.at (a := x.1) (d := x.2) hi).1
theorem oJoin (B : oB p l e R s m args below meth c Z h0 lo T cells slots ds) {α : Type} (P : α → Prop) (f : α → JFrame) {g : JFrame} (h1 : (∀ z T', P z → oB p l e R s m args below meth c Z h0 lo T' cells slots ds → oWin p e below Z h0 Q E (T'.setTop (f z))) → oWin p e below Z h0 Q E (T.setTop g)) (h2 : ∀ z T', P z → oB p l e R s m args below meth c Z h0 lo T' cells slots ds → oWin p e below Z h0 Q E (T'.setTop (f z))) : oWin p e below Z h0 Q E (T.setTop g) := h1 h2
theorem oJoinD (B : oB p l e R s m args below meth c Z h0 lo T cells slots ds) {α : Type} (cells' slots' : Nat) (P : α → Prop) (f : α → JFrame) (D : α → oDs) {g : JFrame} (h1 : (∀ z T', P z → oB p l e R s m args below meth c Z h0 lo T' cells' slots' (D z) → oWin p e below Z h0 Q E (T'.setTop (f z))) → oWin p e below Z h0 Q E (T.setTop g)) (h2 : ∀ z T', P z → oB p l e R s m args below meth c Z h0 lo T' cells' slots' (D z) → oWin p e below Z h0 Q E (T'.setTop (f z))) : oWin p e below Z h0 Q E (T.setTop g) := h1 h2
theorem oNatLt {x : Int32} {k : Nat} (h : x.toInt < k) (hk : 0 < k) : x.toNatClampNeg < k := by
  show x.toInt.toNat < k
  omega
theorem W_virtualOld (B : oB p l e R s m args below meth c Z h0 lo T cells slots ds) {own C : String} {i : Nat} {y z : MethodName} {bytes : ByteArray} {maxL : Nat} {ret : Option FieldType} {rm : Room} {Q' : Option Value → oDs → Prop} {a : Addr} {argsL rest : List Value} {W : Nat} (hown : s.vm.findClass own = some m.cls) (w1 : (Jvm.Cond.methodLink own i y).before a0 Z = true) (w2 : (Jvm.Cond.declares y).before a0 Z = true) (hnf : NotFace s y) (ws : (Jvm.Cond.selects C y z).before a0 Z = true) (wm : (Jvm.Cond.instanceMethod z).before a0 Z = true) (w3 : (Jvm.Cond.initialized z.cls).before a0 Z = true) (w4 : (Jvm.Cond.code z bytes maxL ret).before a0 Z = true) (hy : y.cls ≠ "java/lang/invoke/MethodHandle" ∧ y.cls ≠ "java/lang/invoke/VarHandle")
    (hM : oMet l Z h0 lo z bytes maxL ret [] rm (.ref a :: argsL).toArray ds Q') (hlen : ∀ sig, parseMethodDescriptor y.desc = some sig → argsL.length = sig.parameters.length) (hd : decode c.code pc = .ok (.invokevirtual i, 3)) (hp : pc + 3 = pc') (hst : st = argsL.reverse ++ .ref a :: rest) (hsz : ls.size = c.maxLocals) (hW : (rest.map fun v => v.category).sum ≤ W) (hE : Exa Z h0 a C)
    (hr : rm.frames + 1 ≤ R.frames ∧ W + (maxL + 11) + rm.locals ≤ R.locals ∧ cells + rm.cells ≤ R.cells ∧ slots + rm.slots ≤ R.slots) {cells' slots' : Nat} (hc' : cells + rm.cells = cells') (hs' : slots + rm.slots = slots')
    (k : ∀ T v ds', Q' v ds' → oB p l e R s m args below meth c Z h0 lo T cells' slots' ds' → oWin p e below Z h0 Q E (T.setTop (mkF m pc' ls (v.toList ++ rest)))) : oWin p e below Z h0 Q E (T.setTop (mkF m pc ls st)) := by
  subst hp hst hc' hs'
  obtain ⟨hx, hZ, hlk, locs, X, N, H⟩ := B
  obtain ⟨cq, kq, q1, q2, q3⟩ := isOf (T := T) hZ rfl (hE.ext H.1.1)
  obtain ⟨v, vm1, ⟨T', L', k', n'⟩, -, X', ⟨Lc, ⟨N', ds', H', hQ⟩, e1, e2, e3⟩, stp⟩ := X.virtualBack hx (y := y) (z := z) hown (mvT hZ w1) (mvT hZ w2) hnf (mvT hZ ws) (mvT hZ wm) hy (backOf (W := W) (Q := fun v h L => Fr h0.size L ∧ ∃ ds', oHP Z h0 lo h ds' ∧ Q' v ds') (hM _ H) hZ w4 w3 hr.1 hr.2.1) q1 q3 (g := mkF m pc ls (argsL.reverse ++ .ref a :: rest)) rfl hsz (Steps.refl _) hlen rfl (by simpa using hW) hd (fun _ _ => ⟨rfl, rfl, hr.2.2.1, hr.2.2.2⟩)
  dsimp only [Pt.U, Pt.locs, Pt.cells, Pt.slots] at X' e1 e2 e3 stp H'
  subst e1 e2 e3
  exact (k T' v ds' hQ ⟨hx, hZ, hlk, _, X', N.app N', H'⟩).steps stp
theorem W_private (B : oB p l e R s m args below meth c Z h0 lo T cells slots ds) {own C : String} {i j : Nat} {y : MethodName} {bytes : ByteArray} {maxL : Nat} {ret : Option FieldType} {rm : Room} {Q' : Option Value → oDs → Prop} {a : Addr} {fs : List (oFK × Value)} {argsL rest : List Value} {W : Nat} (hown : s.vm.findClass own = some m.cls) (w1 : (Jvm.Cond.methodLink own i y).before a0 Z = true) (w2 : (Jvm.Cond.instanceMethod y).before a0 Z = true) (ws : (Jvm.Cond.selects y.cls y y).before a0 Z = true) (wp : (Jvm.Cond.privateMethod y).before a0 Z = true) (w3 : (Jvm.Cond.initialized y.cls).before a0 Z = true) (w4 : (Jvm.Cond.code y bytes maxL ret).before a0 Z = true) (hy : y.cls ≠ "java/lang/invoke/MethodHandle" ∧ y.cls ≠ "java/lang/invoke/VarHandle")
    (hM : oMet l Z h0 lo y bytes maxL ret [] rm (.ref a :: argsL).toArray ds Q') (hlen : ∀ sig, parseMethodDescriptor y.desc = some sig → argsL.length = sig.parameters.length) (hd : decode c.code pc = .ok (.invokevirtual i, 3)) (hp : pc + 3 = pc') (hst : st = argsL.reverse ++ .ref a :: rest) (hsz : ls.size = c.maxLocals) (hW : (rest.map fun v => v.category).sum ≤ W) (hi : ds[j]? = some (a, oO C fs))
    (hr : rm.frames + 1 ≤ R.frames ∧ W + (maxL + 11) + rm.locals ≤ R.locals ∧ cells + rm.cells ≤ R.cells ∧ slots + rm.slots ≤ R.slots) {cells' slots' : Nat} (hc' : cells + rm.cells = cells') (hs' : slots + rm.slots = slots')
    (k : ∀ T v ds', Q' v ds' → oB p l e R s m args below meth c Z h0 lo T cells' slots' ds' → oWin p e below Z h0 Q E (T.setTop (mkF m pc' ls (v.toList ++ rest)))) : oWin p e below Z h0 Q E (T.setTop (mkF m pc ls st)) := by
  subst hp hst hc' hs'
  obtain ⟨hx, hZ, hlk, locs, X, N, H⟩ := B
  obtain ⟨cq, q1, q2⟩ := (H.at hi).2.1.cell
  obtain ⟨v, vm1, ⟨T', L', k', n'⟩, -, X', ⟨Lc, ⟨N', ds', H', hQ⟩, e1, e2, e3⟩, stp⟩ := X.privateBack hx (y := y) hown (mvT hZ w1) (mvT hZ w2) (mvT hZ ws) (Cond.privateMethod_at (mvP hZ wp (args := #[]))) (mvT hZ w4) hy (backOf (W := W) (Q := fun v h L => Fr h0.size L ∧ ∃ ds', oHP Z h0 lo h ds' ∧ Q' v ds') (hM _ H) hZ w4 w3 hr.1 hr.2.1) (g := mkF m pc ls (argsL.reverse ++ .ref a :: rest)) rfl hsz (Steps.refl _) (a := a) q1 q2 hlen rfl (by simpa using hW) hd (fun _ _ => ⟨rfl, rfl, hr.2.2.1, hr.2.2.2⟩)
  dsimp only [Pt.U, Pt.locs, Pt.cells, Pt.slots] at X' e1 e2 e3 stp H'
  subst e1 e2 e3
  exact (k T' v ds' hQ ⟨hx, hZ, hlk, _, X', N.app N', H'⟩).steps stp
end Wlaws
theorem d5_0 : decode jdk_29_method_69_code 0 = .ok (.iload_n 0, 1) := by decide +kernel
theorem d5_1 : decode jdk_29_method_69_code 1 = .ok (.iload_n 1, 1) := by decide +kernel
theorem d5_2 : decode jdk_29_method_69_code 2 = .ok (.if_icmp .gt 7, 3) := by decide +kernel
theorem d5_5 : decode jdk_29_method_69_code 5 = .ok (.iload_n 0, 1) := by decide +kernel
theorem d5_6 : decode jdk_29_method_69_code 6 = .ok (.goto 4, 3) := by decide +kernel
theorem d5_10 : decode jdk_29_method_69_code 10 = .ok (.ireturn, 1) := by decide +kernel
theorem ef_rm_min (m : MethodId)  : entryFrame m #[(.int (16 : Int32)), (.int (2147483639 : Int32))] 2 = mkF m 0 #[.val (.int (16 : Int32)), .val (.int (2147483639 : Int32))] [] := by first | (simp [entryFrame, mkF, argsToLocals, Value.category]; done) | rfl
set_option maxRecDepth 65536 in
set_option maxHeartbeats 40000000 in
theorem rm_min (l : Launch) (Z : State) (a0 : Array Value) (hw : ∀ d ∈ tables_1, d.before a0 Z = true) (h0 : Heap) {lo : Nat} (ds : oDs) :
    oMet l Z h0 lo (⟨"java/lang/Math", "min", "(II)I"⟩ : MethodName) jdk_29_method_69_code 2 (some .int) [] ({ frames := 0, cells := 0, slots := 0, locals := 0 } : Room) #[(.int (16 : Int32)), (.int (2147483639 : Int32))] (ds) (fun (v : Option Value) (d : oDs) => (v = some (.int (16 : Int32)) ∧ (ds) = d)) := by
  refine oMet.of_body (Jvm.Free.JP.mathPlain rfl (by decide +kernel)) ?_
  intro p e s m below meth c T B hby hml hown hnm hret
  refine W_entry (ef_rm_min m ) ?_
  refine W_iloadN B (hb hby d5_0) (pc' := 1) rfl rfl ?_
  refine W_iloadN B (hb hby d5_1) (pc' := 2) rfl rfl ?_
  refine W_icmpN B (hb hby d5_2) (pc' := 5) rfl (by decide) ?_
  refine W_iloadN B (hb hby d5_5) (pc' := 6) rfl rfl ?_
  refine W_goto B (hb hby d5_6) (by decide) (pc' := 10) (by decide) ?_
  refine W_retI B hret (hb hby d5_10) (by decide) ?_
  exact ⟨rfl, rfl⟩
theorem d4_0 : decode prog_15_method_2_code 0 = .ok (.aload_n 0, 1) := by decide +kernel
theorem d4_1 : decode prog_15_method_2_code 1 = .ok (.invokespecial 10, 3) := by decide +kernel
theorem d4_4 : decode prog_15_method_2_code 4 = .ok (.aload_n 0, 1) := by decide +kernel
theorem d4_5 : decode prog_15_method_2_code 5 = .ok (.aload_n 1, 1) := by decide +kernel
theorem d4_6 : decode prog_15_method_2_code 6 = .ok (.putfield 15, 3) := by decide +kernel
abbrev cn0 : String := "com/example/tanglemark/tanglemark/datalog/Ints"
abbrev fk0 : oFK := ("com/example/tanglemark/tanglemark/datalog/Ints", "owner", "Ljava/lang/String;")
abbrev fk1 : oFK := ("com/example/tanglemark/tanglemark/datalog/Ints", "maxLength", "I")
abbrev fk2 : oFK := ("com/example/tanglemark/tanglemark/datalog/Ints", "values", "[I")
abbrev fk3 : oFK := ("com/example/tanglemark/tanglemark/datalog/Ints", "size", "I")
theorem d4_9 : decode prog_15_method_2_code 9 = .ok (.aload_n 0, 1) := by decide +kernel
theorem d4_10 : decode prog_15_method_2_code 10 = .ok (.iload_n 2, 1) := by decide +kernel
theorem d4_11 : decode prog_15_method_2_code 11 = .ok (.putfield 19, 3) := by decide +kernel
theorem d4_14 : decode prog_15_method_2_code 14 = .ok (.aload_n 0, 1) := by decide +kernel
theorem d4_15 : decode prog_15_method_2_code 15 = .ok (.bipush 16, 2) := by decide +kernel
theorem d4_17 : decode prog_15_method_2_code 17 = .ok (.iload_n 2, 1) := by decide +kernel
theorem d4_18 : decode prog_15_method_2_code 18 = .ok (.invokestatic 23, 3) := by decide +kernel
theorem pd_0 : parseMethodDescriptor "(II)I" = some ⟨[.int, .int], some .int⟩ := by decide +kernel
theorem d4_21 : decode prog_15_method_2_code 21 = .ok (.newarray .int, 2) := by decide +kernel
theorem d4_23 : decode prog_15_method_2_code 23 = .ok (.putfield 29, 3) := by decide +kernel
theorem d4_26 : decode prog_15_method_2_code 26 = .ok (.return_, 1) := by decide +kernel
theorem ef_rm_ints2 (m : MethodId) (x0 : Addr) (x1 : Addr) : entryFrame m #[(.ref x0), (.ref x1), (.int (2147483639 : Int32))] 3 = mkF m 0 #[.val (.ref x0), .val (.ref x1), .val (.int (2147483639 : Int32))] [] := by first | (simp [entryFrame, mkF, argsToLocals, Value.category]; done) | rfl
theorem pn_0 : plainName "com/example/tanglemark/tanglemark/datalog/Ints" = true := by first | (simp [plainName, overriddenIn]; done) | decide +kernel
set_option maxRecDepth 65536 in
set_option maxHeartbeats 40000000 in
theorem rm_ints2 (l : Launch) (Z : State) (a0 : Array Value) (hw : ∀ d ∈ tables_1, d.before a0 Z = true) (h0 : Heap) {lo : Nat} (a1 : Addr) (s1 : Addr) (ds : oDs) :
    oMet l Z h0 lo (⟨"com/example/tanglemark/tanglemark/datalog/Ints", "<init>", "(Ljava/lang/String;I)V"⟩ : MethodName) prog_15_method_2_code 3 none [] ({ frames := 1, cells := 1, slots := 16, locals := 14 } : Room) #[(.ref a1), (.ref s1), (.int (2147483639 : Int32))] ((a1, oO cn0 [(fk0, .null), (fk1, (.int (0 : Int32))), (fk2, .null), (fk3, (.int (0 : Int32)))]) :: ds) (fun (v : Option Value) (d : oDs) => (∃ (b : Addr), v = none ∧ ((b, oA .int [o0, o0, o0, o0, o0, o0, o0, o0, o0, o0, o0, o0, o0, o0, o0, o0]) :: (a1, oO cn0 [(fk0, (.ref s1)), (fk1, (.int (2147483639 : Int32))), (fk2, (.ref b)), (fk3, (.int (0 : Int32)))]) :: ds) = d)) := by
  refine oMet.of_body (plainFor_of_name pn_0) ?_
  intro p e s m below meth c T B hby hml hown hnm hret
  refine W_entry (ef_rm_ints2 m a1 s1) ?_
  refine W_aloadN B (hb hby d4_0) (pc' := 1) rfl rfl rfl ?_
  refine W_initO B hown (ow hw (i := 29) rfl) (ow hw (i := 17) rfl) (ow hw (i := 18) rfl) (hb hby d4_1) (pc' := 4) rfl (by rw [hml]; rfl) (W := 0) (oLe rfl) (by decide) ?_
  intro T B
  refine W_aloadN B (hb hby d4_4) (pc' := 5) rfl rfl rfl ?_
  refine W_aloadN B (hb hby d4_5) (pc' := 6) rfl rfl rfl ?_
  refine W_putfield B hown (host := "") (Or.inl (ow hw (i := 30) rfl)) Via.refl (hb hby d4_6) (pc' := 9) rfl (Or.inr ⟨(ow hw (i := 31) rfl), rfl, hnm⟩) (ow hw (i := 20) rfl) (ty := (.object "java/lang/String")) (by decide) rfl rfl (j := 0) rfl (q := 0) rfl (ds' := ((a1, oO cn0 [(fk0, (.ref s1)), (fk1, (.int (0 : Int32))), (fk2, .null), (fk3, (.int (0 : Int32)))]) :: ds)) rfl ?_
  intro T B
  refine W_aloadN B (hb hby d4_9) (pc' := 10) rfl rfl rfl ?_
  refine W_iloadN B (hb hby d4_10) (pc' := 11) rfl rfl ?_
  refine W_putfield B hown (host := "") (Or.inl (ow hw (i := 32) rfl)) Via.refl (hb hby d4_11) (pc' := 14) rfl (Or.inr ⟨(ow hw (i := 33) rfl), rfl, hnm⟩) (ow hw (i := 20) rfl) (ty := .int) (by decide) rfl rfl (j := 0) rfl (q := 1) rfl (ds' := ((a1, oO cn0 [(fk0, (.ref s1)), (fk1, (.int (2147483639 : Int32))), (fk2, .null), (fk3, (.int (0 : Int32)))]) :: ds)) rfl ?_
  intro T B
  refine W_aloadN B (hb hby d4_14) (pc' := 15) rfl rfl rfl ?_
  refine W_bipush B (hb hby d4_15) (pc' := 17) rfl (z := (16 : Int32)) (by decide) ?_
  refine W_iloadN B (hb hby d4_17) (pc' := 18) rfl rfl ?_
  refine W_callS B (y := (⟨"java/lang/Math", "min", "(II)I"⟩ : MethodName)) hown (ow hw (i := 34) rfl) (ow hw (i := 35) rfl) (ow hw (i := 36) rfl) (ow hw (i := 37) rfl) (by decide) (rm_min l Z a0 hw h0 ((a1, oO cn0 [(fk0, (.ref s1)), (fk1, (.int (2147483639 : Int32))), (fk2, .null), (fk3, (.int (0 : Int32)))]) :: ds)) (lenOf pd_0 rfl) (hb hby d4_18) (pc' := 21) rfl (argsL := [(.int (16 : Int32)), (.int (2147483639 : Int32))]) (rest := [(.ref a1)]) rfl (by rw [hml]; rfl) (W := 1) (oLe rfl) (by decide) (cells' := 0) rfl (slots' := 0) rfl ?_
  intro T v_ d_ q_ B
  obtain ⟨rfl, rfl⟩ := q_
  show oWin p e below Z h0 _ _ (T.setTop (mkF m 21 #[.val (.ref a1), .val (.ref s1), .val (.int (2147483639 : Int32))] [(.int (16 : Int32)), (.ref a1)]))
  refine W_newarray B (ow hw (i := 1) rfl) (hb hby d4_21) (pc' := 23) rfl (by decide) (cap := 16) (by decide) (by decide) (cells' := 1) rfl (slots' := 16) rfl (vs := [(.int (0 : Int32)), (.int (0 : Int32)), (.int (0 : Int32)), (.int (0 : Int32)), (.int (0 : Int32)), (.int (0 : Int32)), (.int (0 : Int32)), (.int (0 : Int32)), (.int (0 : Int32)), (.int (0 : Int32)), (.int (0 : Int32)), (.int (0 : Int32)), (.int (0 : Int32)), (.int (0 : Int32)), (.int (0 : Int32)), (.int (0 : Int32))]) rfl (ty := .int) rfl ?_
  intro T b1 B
  refine W_putfield B hown (host := "") (Or.inl (ow hw (i := 38) rfl)) Via.refl (hb hby d4_23) (pc' := 26) rfl (Or.inl (ow hw (i := 39) rfl)) (ow hw (i := 20) rfl) (ty := (.array .int)) (by decide) rfl rfl (j := 1) rfl (q := 2) rfl (ds' := ((b1, oA .int [o0, o0, o0, o0, o0, o0, o0, o0, o0, o0, o0, o0, o0, o0, o0, o0]) :: (a1, oO cn0 [(fk0, (.ref s1)), (fk1, (.int (2147483639 : Int32))), (fk2, (.ref b1)), (fk3, (.int (0 : Int32)))]) :: ds)) rfl ?_
  intro T B
  refine W_retV B hret (hb hby d4_26) (by decide) ?_
  exact ⟨_, rfl, rfl⟩
theorem d3_0 : decode prog_15_method_1_code 0 = .ok (.aload_n 0, 1) := by decide +kernel
theorem d3_1 : decode prog_15_method_1_code 1 = .ok (.aload_n 1, 1) := by decide +kernel
theorem d3_2 : decode prog_15_method_1_code 2 = .ok (.ldc 3, 2) := by decide +kernel
theorem d3_4 : decode prog_15_method_1_code 4 = .ok (.invokespecial 4, 3) := by decide +kernel
theorem pd_1 : parseMethodDescriptor "(Ljava/lang/String;I)V" = some ⟨[(.object "java/lang/String"), .int], none⟩ := by decide +kernel
theorem d3_7 : decode prog_15_method_1_code 7 = .ok (.return_, 1) := by decide +kernel
theorem ef_rm_ints1 (m : MethodId) (x0 : Addr) (x1 : Addr) : entryFrame m #[(.ref x0), (.ref x1)] 2 = mkF m 0 #[.val (.ref x0), .val (.ref x1)] [] := by first | (simp [entryFrame, mkF, argsToLocals, Value.category]; done) | rfl
set_option maxRecDepth 65536 in
set_option maxHeartbeats 40000000 in
theorem rm_ints1 (l : Launch) (Z : State) (a0 : Array Value) (hw : ∀ d ∈ tables_1, d.before a0 Z = true) (h0 : Heap) {lo : Nat} (a1 : Addr) (s1 : Addr) (ds : oDs) :
    oMet l Z h0 lo (⟨"com/example/tanglemark/tanglemark/datalog/Ints", "<init>", "(Ljava/lang/String;)V"⟩ : MethodName) prog_15_method_1_code 2 none [] ({ frames := 2, cells := 1, slots := 16, locals := 28 } : Room) #[(.ref a1), (.ref s1)] ((a1, oO cn0 [(fk0, .null), (fk1, (.int (0 : Int32))), (fk2, .null), (fk3, (.int (0 : Int32)))]) :: ds) (fun (v : Option Value) (d : oDs) => (∃ (b : Addr), v = none ∧ ((b, oA .int [o0, o0, o0, o0, o0, o0, o0, o0, o0, o0, o0, o0, o0, o0, o0, o0]) :: (a1, oO cn0 [(fk0, (.ref s1)), (fk1, (.int (2147483639 : Int32))), (fk2, (.ref b)), (fk3, (.int (0 : Int32)))]) :: ds) = d)) := by
  refine oMet.of_body (plainFor_of_name pn_0) ?_
  intro p e s m below meth c T B hby hml hown hnm hret
  refine W_entry (ef_rm_ints1 m a1 s1) ?_
  refine W_aloadN B (hb hby d3_0) (pc' := 1) rfl rfl rfl ?_
  refine W_aloadN B (hb hby d3_1) (pc' := 2) rfl rfl rfl ?_
  refine W_ldcInt B hown (ow hw (i := 25) rfl) (hb hby d3_2) (pc' := 4) rfl ?_
  refine W_init B (y := (⟨"com/example/tanglemark/tanglemark/datalog/Ints", "<init>", "(Ljava/lang/String;I)V"⟩ : MethodName)) hown rfl (ow hw (i := 26) rfl) (ow hw (i := 27) rfl) (ow hw (i := 21) rfl) (ow hw (i := 28) rfl) (by decide) (a := a1) (rm_ints2 l Z a0 hw h0 a1 s1 (ds)) (lenOf pd_1 rfl) (hb hby d3_4) (pc' := 7) rfl (argsL := [(.ref s1), (.int (2147483639 : Int32))]) (rest := []) rfl (by rw [hml]; rfl) (W := 0) (oLe rfl) (by decide) (cells' := 1) rfl (slots' := 16) rfl ?_
  intro T v_ d_ q_ B
  obtain ⟨b2, rfl, rfl⟩ := q_
  show oWin p e below Z h0 _ _ (T.setTop (mkF m 7 #[.val (.ref a1), .val (.ref s1)] []))
  refine W_retV B hret (hb hby d3_7) (by decide) ?_
  exact ⟨_, rfl, rfl⟩
theorem d1_0 : decode prog_51_method_1_code 0 = .ok (.aload_n 0, 1) := by decide +kernel
theorem d1_1 : decode prog_51_method_1_code 1 = .ok (.invokespecial 1, 3) := by decide +kernel
theorem d1_4 : decode prog_51_method_1_code 4 = .ok (.aload_n 0, 1) := by decide +kernel
theorem d1_5 : decode prog_51_method_1_code 5 = .ok (.new 7, 3) := by decide +kernel
theorem d1_8 : decode prog_51_method_1_code 8 = .ok (.dup, 1) := by decide +kernel
theorem d1_9 : decode prog_51_method_1_code 9 = .ok (.aload_n 1, 1) := by decide +kernel
theorem d1_10 : decode prog_51_method_1_code 10 = .ok (.invokespecial 9, 3) := by decide +kernel
abbrev cn1 : String := "com/example/tanglemark/tanglemark/datalog/SharedSets"
abbrev fk4 : oFK := ("com/example/tanglemark/tanglemark/datalog/SharedSets", "values", "Lcom/example/tanglemark/tanglemark/datalog/Ints;")
abbrev fk5 : oFK := ("com/example/tanglemark/tanglemark/datalog/SharedSets", "from", "Lcom/example/tanglemark/tanglemark/datalog/Ints;")
abbrev fk6 : oFK := ("com/example/tanglemark/tanglemark/datalog/SharedSets", "base", "Lcom/example/tanglemark/tanglemark/datalog/Ints;")
abbrev fk7 : oFK := ("com/example/tanglemark/tanglemark/datalog/SharedSets", "size", "Lcom/example/tanglemark/tanglemark/datalog/Ints;")
abbrev fk8 : oFK := ("com/example/tanglemark/tanglemark/datalog/SharedSets", "parent", "Lcom/example/tanglemark/tanglemark/datalog/Ints;")
abbrev fk9 : oFK := ("com/example/tanglemark/tanglemark/datalog/SharedSets", "root", "Lcom/example/tanglemark/tanglemark/datalog/Ints;")
abbrev fk10 : oFK := ("com/example/tanglemark/tanglemark/datalog/SharedSets", "depth", "Lcom/example/tanglemark/tanglemark/datalog/Ints;")
theorem pd_2 : parseMethodDescriptor "(Ljava/lang/String;)V" = some ⟨[(.object "java/lang/String")], none⟩ := by decide +kernel
theorem d1_13 : decode prog_51_method_1_code 13 = .ok (.putfield 12, 3) := by decide +kernel
theorem d1_16 : decode prog_51_method_1_code 16 = .ok (.aload_n 0, 1) := by decide +kernel
theorem d1_17 : decode prog_51_method_1_code 17 = .ok (.new 7, 3) := by decide +kernel
theorem d1_20 : decode prog_51_method_1_code 20 = .ok (.dup, 1) := by decide +kernel
theorem d1_21 : decode prog_51_method_1_code 21 = .ok (.aload_n 1, 1) := by decide +kernel
theorem d1_22 : decode prog_51_method_1_code 22 = .ok (.invokespecial 9, 3) := by decide +kernel
theorem d1_25 : decode prog_51_method_1_code 25 = .ok (.putfield 18, 3) := by decide +kernel
theorem d1_28 : decode prog_51_method_1_code 28 = .ok (.aload_n 0, 1) := by decide +kernel
theorem d1_29 : decode prog_51_method_1_code 29 = .ok (.new 7, 3) := by decide +kernel
theorem d1_32 : decode prog_51_method_1_code 32 = .ok (.dup, 1) := by decide +kernel
theorem d1_33 : decode prog_51_method_1_code 33 = .ok (.aload_n 1, 1) := by decide +kernel
theorem d1_34 : decode prog_51_method_1_code 34 = .ok (.invokespecial 9, 3) := by decide +kernel
theorem d1_37 : decode prog_51_method_1_code 37 = .ok (.putfield 21, 3) := by decide +kernel
theorem d1_40 : decode prog_51_method_1_code 40 = .ok (.aload_n 0, 1) := by decide +kernel
theorem d1_41 : decode prog_51_method_1_code 41 = .ok (.new 7, 3) := by decide +kernel
theorem d1_44 : decode prog_51_method_1_code 44 = .ok (.dup, 1) := by decide +kernel
theorem d1_45 : decode prog_51_method_1_code 45 = .ok (.aload_n 1, 1) := by decide +kernel
theorem d1_46 : decode prog_51_method_1_code 46 = .ok (.invokespecial 9, 3) := by decide +kernel
theorem d1_49 : decode prog_51_method_1_code 49 = .ok (.putfield 24, 3) := by decide +kernel
theorem d1_52 : decode prog_51_method_1_code 52 = .ok (.aload_n 0, 1) := by decide +kernel
theorem d1_53 : decode prog_51_method_1_code 53 = .ok (.new 7, 3) := by decide +kernel
theorem d1_56 : decode prog_51_method_1_code 56 = .ok (.dup, 1) := by decide +kernel
theorem d1_57 : decode prog_51_method_1_code 57 = .ok (.aload_n 1, 1) := by decide +kernel
theorem d1_58 : decode prog_51_method_1_code 58 = .ok (.invokespecial 9, 3) := by decide +kernel
theorem d1_61 : decode prog_51_method_1_code 61 = .ok (.putfield 27, 3) := by decide +kernel
theorem d1_64 : decode prog_51_method_1_code 64 = .ok (.aload_n 0, 1) := by decide +kernel
theorem d1_65 : decode prog_51_method_1_code 65 = .ok (.new 7, 3) := by decide +kernel
theorem d1_68 : decode prog_51_method_1_code 68 = .ok (.dup, 1) := by decide +kernel
theorem d1_69 : decode prog_51_method_1_code 69 = .ok (.aload_n 1, 1) := by decide +kernel
theorem d1_70 : decode prog_51_method_1_code 70 = .ok (.invokespecial 9, 3) := by decide +kernel
theorem d1_73 : decode prog_51_method_1_code 73 = .ok (.putfield 30, 3) := by decide +kernel
theorem d1_76 : decode prog_51_method_1_code 76 = .ok (.aload_n 0, 1) := by decide +kernel
theorem d1_77 : decode prog_51_method_1_code 77 = .ok (.new 7, 3) := by decide +kernel
theorem d1_80 : decode prog_51_method_1_code 80 = .ok (.dup, 1) := by decide +kernel
theorem d1_81 : decode prog_51_method_1_code 81 = .ok (.aload_n 1, 1) := by decide +kernel
theorem d1_82 : decode prog_51_method_1_code 82 = .ok (.invokespecial 9, 3) := by decide +kernel
theorem d1_85 : decode prog_51_method_1_code 85 = .ok (.putfield 33, 3) := by decide +kernel
theorem d1_88 : decode prog_51_method_1_code 88 = .ok (.return_, 1) := by decide +kernel
theorem ef_rm_sets (m : MethodId) (x0 : Addr) (x1 : Addr) : entryFrame m #[(.ref x0), (.ref x1)] 2 = mkF m 0 #[.val (.ref x0), .val (.ref x1)] [] := by first | (simp [entryFrame, mkF, argsToLocals, Value.category]; done) | rfl
theorem pn_1 : plainName "com/example/tanglemark/tanglemark/datalog/SharedSets" = true := by first | (simp [plainName, overriddenIn]; done) | decide +kernel
set_option maxRecDepth 65536 in
set_option maxHeartbeats 40000000 in
theorem rm_sets (l : Launch) (Z : State) (a0 : Array Value) (hw : ∀ d ∈ tables_1, d.before a0 Z = true) (h0 : Heap) {lo : Nat} (a1 : Addr) (s1 : Addr) (ds : oDs) :
    oMet l Z h0 lo (⟨"com/example/tanglemark/tanglemark/datalog/SharedSets", "<init>", "(Ljava/lang/String;)V"⟩ : MethodName) prog_51_method_1_code 2 none [] ({ frames := 3, cells := 14, slots := 140, locals := 43 } : Room) #[(.ref a1), (.ref s1)] ((a1, oO cn1 [(fk4, .null), (fk5, .null), (fk6, .null), (fk7, .null), (fk8, .null), (fk9, .null), (fk10, .null)]) :: ds) (fun (v : Option Value) (d : oDs) => (∃ (c0 : Addr) (d0 : Addr) (c1 : Addr) (d1 : Addr) (c2 : Addr) (d2 : Addr) (c3 : Addr) (d3 : Addr) (c4 : Addr) (d4 : Addr) (c5 : Addr) (d5 : Addr) (c6 : Addr) (d6 : Addr), v = none ∧ ((d6, oA .int [o0, o0, o0, o0, o0, o0, o0, o0, o0, o0, o0, o0, o0, o0, o0, o0]) :: (c6, oO cn0 [(fk0, (.ref s1)), (fk1, (.int (2147483639 : Int32))), (fk2, (.ref d6)), (fk3, (.int (0 : Int32)))]) :: (d5, oA .int [o0, o0, o0, o0, o0, o0, o0, o0, o0, o0, o0, o0, o0, o0, o0, o0]) :: (c5, oO cn0 [(fk0, (.ref s1)), (fk1, (.int (2147483639 : Int32))), (fk2, (.ref d5)), (fk3, (.int (0 : Int32)))]) :: (d4, oA .int [o0, o0, o0, o0, o0, o0, o0, o0, o0, o0, o0, o0, o0, o0, o0, o0]) :: (c4, oO cn0 [(fk0, (.ref s1)), (fk1, (.int (2147483639 : Int32))), (fk2, (.ref d4)), (fk3, (.int (0 : Int32)))]) :: (d3, oA .int [o0, o0, o0, o0, o0, o0, o0, o0, o0, o0, o0, o0, o0, o0, o0, o0]) :: (c3, oO cn0 [(fk0, (.ref s1)), (fk1, (.int (2147483639 : Int32))), (fk2, (.ref d3)), (fk3, (.int (0 : Int32)))]) :: (d2, oA .int [o0, o0, o0, o0, o0, o0, o0, o0, o0, o0, o0, o0, o0, o0, o0, o0]) :: (c2, oO cn0 [(fk0, (.ref s1)), (fk1, (.int (2147483639 : Int32))), (fk2, (.ref d2)), (fk3, (.int (0 : Int32)))]) :: (d1, oA .int [o0, o0, o0, o0, o0, o0, o0, o0, o0, o0, o0, o0, o0, o0, o0, o0]) :: (c1, oO cn0 [(fk0, (.ref s1)), (fk1, (.int (2147483639 : Int32))), (fk2, (.ref d1)), (fk3, (.int (0 : Int32)))]) :: (d0, oA .int [o0, o0, o0, o0, o0, o0, o0, o0, o0, o0, o0, o0, o0, o0, o0, o0]) :: (c0, oO cn0 [(fk0, (.ref s1)), (fk1, (.int (2147483639 : Int32))), (fk2, (.ref d0)), (fk3, (.int (0 : Int32)))]) :: (a1, oO cn1 [(fk4, (.ref c0)), (fk5, (.ref c1)), (fk6, (.ref c2)), (fk7, (.ref c3)), (fk8, (.ref c4)), (fk9, (.ref c5)), (fk10, (.ref c6))]) :: ds) = d)) := by
  refine oMet.of_body (plainFor_of_name pn_1) ?_
  intro p e s m below meth c T B hby hml hown hnm hret
  refine W_entry (ef_rm_sets m a1 s1) ?_
  refine W_aloadN B (hb hby d1_0) (pc' := 1) rfl rfl rfl ?_
  refine W_initO B hown (ow hw (i := 16) rfl) (ow hw (i := 17) rfl) (ow hw (i := 18) rfl) (hb hby d1_1) (pc' := 4) rfl (by rw [hml]; rfl) (W := 0) (oLe rfl) (by decide) ?_
  intro T B
  refine W_aloadN B (hb hby d1_4) (pc' := 5) rfl rfl rfl ?_
  refine W_new B hown (ow hw (i := 19) rfl) (ow hw (i := 20) rfl) (ow hw (i := 21) rfl) (hb hby d1_5) (pc' := 8) rfl (by decide) (cells' := 1) rfl (slots' := 4) rfl (fs := [(fk0, .null), (fk1, (.int (0 : Int32))), (fk2, .null), (fk3, (.int (0 : Int32)))]) (oAll_cons ⟨Or.inr (ow hw (i := 31) rfl), (.object "java/lang/String"), by decide, rfl⟩ (oAll_cons ⟨Or.inr (ow hw (i := 33) rfl), .int, by decide, rfl⟩ (oAll_cons ⟨Or.inl (ow hw (i := 39) rfl), (.array .int), by decide, rfl⟩ (oAll_cons ⟨Or.inl (ow hw (i := 60) rfl), .int, by decide, rfl⟩ oAll_nil)))) (by decide) ?_
  intro T b3 B
  refine W_dup B (hb hby d1_8) (pc' := 9) rfl rfl ?_
  refine W_aloadN B (hb hby d1_9) (pc' := 10) rfl rfl rfl ?_
  refine W_init B (y := (⟨"com/example/tanglemark/tanglemark/datalog/Ints", "<init>", "(Ljava/lang/String;)V"⟩ : MethodName)) hown rfl (ow hw (i := 22) rfl) (ow hw (i := 23) rfl) (ow hw (i := 21) rfl) (ow hw (i := 24) rfl) (by decide) (a := b3) (rm_ints1 l Z a0 hw h0 b3 s1 ((a1, oO cn1 [(fk4, .null), (fk5, .null), (fk6, .null), (fk7, .null), (fk8, .null), (fk9, .null), (fk10, .null)]) :: ds)) (lenOf pd_2 rfl) (hb hby d1_10) (pc' := 13) rfl (argsL := [(.ref s1)]) (rest := [(.ref b3), (.ref a1)]) rfl (by rw [hml]; rfl) (W := 2) (oLe rfl) (by decide) (cells' := 2) rfl (slots' := 20) rfl ?_
  intro T v_ d_ q_ B
  obtain ⟨b4, rfl, rfl⟩ := q_
  show oWin p e below Z h0 _ _ (T.setTop (mkF m 13 #[.val (.ref a1), .val (.ref s1)] [(.ref b3), (.ref a1)]))
  refine W_putfield B hown (host := "") (Or.inl (ow hw (i := 40) rfl)) Via.refl (hb hby d1_13) (pc' := 16) rfl (Or.inr ⟨(ow hw (i := 41) rfl), rfl, hnm⟩) (ow hw (i := 3) rfl) (ty := (.object "com/example/tanglemark/tanglemark/datalog/Ints")) (by decide) rfl rfl (j := 2) rfl (q := 0) rfl (ds' := ((b4, oA .int [o0, o0, o0, o0, o0, o0, o0, o0, o0, o0, o0, o0, o0, o0, o0, o0]) :: (b3, oO cn0 [(fk0, (.ref s1)), (fk1, (.int (2147483639 : Int32))), (fk2, (.ref b4)), (fk3, (.int (0 : Int32)))]) :: (a1, oO cn1 [(fk4, (.ref b3)), (fk5, .null), (fk6, .null), (fk7, .null), (fk8, .null), (fk9, .null), (fk10, .null)]) :: ds)) rfl ?_
  intro T B
  refine W_aloadN B (hb hby d1_16) (pc' := 17) rfl rfl rfl ?_
  refine W_new B hown (ow hw (i := 19) rfl) (ow hw (i := 20) rfl) (ow hw (i := 21) rfl) (hb hby d1_17) (pc' := 20) rfl (by decide) (cells' := 3) rfl (slots' := 24) rfl (fs := [(fk0, .null), (fk1, (.int (0 : Int32))), (fk2, .null), (fk3, (.int (0 : Int32)))]) (oAll_cons ⟨Or.inr (ow hw (i := 31) rfl), (.object "java/lang/String"), by decide, rfl⟩ (oAll_cons ⟨Or.inr (ow hw (i := 33) rfl), .int, by decide, rfl⟩ (oAll_cons ⟨Or.inl (ow hw (i := 39) rfl), (.array .int), by decide, rfl⟩ (oAll_cons ⟨Or.inl (ow hw (i := 60) rfl), .int, by decide, rfl⟩ oAll_nil)))) (by decide) ?_
  intro T b5 B
  refine W_dup B (hb hby d1_20) (pc' := 21) rfl rfl ?_
  refine W_aloadN B (hb hby d1_21) (pc' := 22) rfl rfl rfl ?_
  refine W_init B (y := (⟨"com/example/tanglemark/tanglemark/datalog/Ints", "<init>", "(Ljava/lang/String;)V"⟩ : MethodName)) hown rfl (ow hw (i := 22) rfl) (ow hw (i := 23) rfl) (ow hw (i := 21) rfl) (ow hw (i := 24) rfl) (by decide) (a := b5) (rm_ints1 l Z a0 hw h0 b5 s1 ((b4, oA .int [o0, o0, o0, o0, o0, o0, o0, o0, o0, o0, o0, o0, o0, o0, o0, o0]) :: (b3, oO cn0 [(fk0, (.ref s1)), (fk1, (.int (2147483639 : Int32))), (fk2, (.ref b4)), (fk3, (.int (0 : Int32)))]) :: (a1, oO cn1 [(fk4, (.ref b3)), (fk5, .null), (fk6, .null), (fk7, .null), (fk8, .null), (fk9, .null), (fk10, .null)]) :: ds)) (lenOf pd_2 rfl) (hb hby d1_22) (pc' := 25) rfl (argsL := [(.ref s1)]) (rest := [(.ref b5), (.ref a1)]) rfl (by rw [hml]; rfl) (W := 2) (oLe rfl) (by decide) (cells' := 4) rfl (slots' := 40) rfl ?_
  intro T v_ d_ q_ B
  obtain ⟨b6, rfl, rfl⟩ := q_
  show oWin p e below Z h0 _ _ (T.setTop (mkF m 25 #[.val (.ref a1), .val (.ref s1)] [(.ref b5), (.ref a1)]))
  refine W_putfield B hown (host := "") (Or.inl (ow hw (i := 42) rfl)) Via.refl (hb hby d1_25) (pc' := 28) rfl (Or.inr ⟨(ow hw (i := 43) rfl), rfl, hnm⟩) (ow hw (i := 3) rfl) (ty := (.object "com/example/tanglemark/tanglemark/datalog/Ints")) (by decide) rfl rfl (j := 4) rfl (q := 1) rfl (ds' := ((b6, oA .int [o0, o0, o0, o0, o0, o0, o0, o0, o0, o0, o0, o0, o0, o0, o0, o0]) :: (b5, oO cn0 [(fk0, (.ref s1)), (fk1, (.int (2147483639 : Int32))), (fk2, (.ref b6)), (fk3, (.int (0 : Int32)))]) :: (b4, oA .int [o0, o0, o0, o0, o0, o0, o0, o0, o0, o0, o0, o0, o0, o0, o0, o0]) :: (b3, oO cn0 [(fk0, (.ref s1)), (fk1, (.int (2147483639 : Int32))), (fk2, (.ref b4)), (fk3, (.int (0 : Int32)))]) :: (a1, oO cn1 [(fk4, (.ref b3)), (fk5, (.ref b5)), (fk6, .null), (fk7, .null), (fk8, .null), (fk9, .null), (fk10, .null)]) :: ds)) rfl ?_
  intro T B
  refine W_aloadN B (hb hby d1_28) (pc' := 29) rfl rfl rfl ?_
  refine W_new B hown (ow hw (i := 19) rfl) (ow hw (i := 20) rfl) (ow hw (i := 21) rfl) (hb hby d1_29) (pc' := 32) rfl (by decide) (cells' := 5) rfl (slots' := 44) rfl (fs := [(fk0, .null), (fk1, (.int (0 : Int32))), (fk2, .null), (fk3, (.int (0 : Int32)))]) (oAll_cons ⟨Or.inr (ow hw (i := 31) rfl), (.object "java/lang/String"), by decide, rfl⟩ (oAll_cons ⟨Or.inr (ow hw (i := 33) rfl), .int, by decide, rfl⟩ (oAll_cons ⟨Or.inl (ow hw (i := 39) rfl), (.array .int), by decide, rfl⟩ (oAll_cons ⟨Or.inl (ow hw (i := 60) rfl), .int, by decide, rfl⟩ oAll_nil)))) (by decide) ?_
  intro T b7 B
  refine W_dup B (hb hby d1_32) (pc' := 33) rfl rfl ?_
  refine W_aloadN B (hb hby d1_33) (pc' := 34) rfl rfl rfl ?_
  refine W_init B (y := (⟨"com/example/tanglemark/tanglemark/datalog/Ints", "<init>", "(Ljava/lang/String;)V"⟩ : MethodName)) hown rfl (ow hw (i := 22) rfl) (ow hw (i := 23) rfl) (ow hw (i := 21) rfl) (ow hw (i := 24) rfl) (by decide) (a := b7) (rm_ints1 l Z a0 hw h0 b7 s1 ((b6, oA .int [o0, o0, o0, o0, o0, o0, o0, o0, o0, o0, o0, o0, o0, o0, o0, o0]) :: (b5, oO cn0 [(fk0, (.ref s1)), (fk1, (.int (2147483639 : Int32))), (fk2, (.ref b6)), (fk3, (.int (0 : Int32)))]) :: (b4, oA .int [o0, o0, o0, o0, o0, o0, o0, o0, o0, o0, o0, o0, o0, o0, o0, o0]) :: (b3, oO cn0 [(fk0, (.ref s1)), (fk1, (.int (2147483639 : Int32))), (fk2, (.ref b4)), (fk3, (.int (0 : Int32)))]) :: (a1, oO cn1 [(fk4, (.ref b3)), (fk5, (.ref b5)), (fk6, .null), (fk7, .null), (fk8, .null), (fk9, .null), (fk10, .null)]) :: ds)) (lenOf pd_2 rfl) (hb hby d1_34) (pc' := 37) rfl (argsL := [(.ref s1)]) (rest := [(.ref b7), (.ref a1)]) rfl (by rw [hml]; rfl) (W := 2) (oLe rfl) (by decide) (cells' := 6) rfl (slots' := 60) rfl ?_
  intro T v_ d_ q_ B
  obtain ⟨b8, rfl, rfl⟩ := q_
  show oWin p e below Z h0 _ _ (T.setTop (mkF m 37 #[.val (.ref a1), .val (.ref s1)] [(.ref b7), (.ref a1)]))
  refine W_putfield B hown (host := "") (Or.inl (ow hw (i := 44) rfl)) Via.refl (hb hby d1_37) (pc' := 40) rfl (Or.inr ⟨(ow hw (i := 45) rfl), rfl, hnm⟩) (ow hw (i := 3) rfl) (ty := (.object "com/example/tanglemark/tanglemark/datalog/Ints")) (by decide) rfl rfl (j := 6) rfl (q := 2) rfl (ds' := ((b8, oA .int [o0, o0, o0, o0, o0, o0, o0, o0, o0, o0, o0, o0, o0, o0, o0, o0]) :: (b7, oO cn0 [(fk0, (.ref s1)), (fk1, (.int (2147483639 : Int32))), (fk2, (.ref b8)), (fk3, (.int (0 : Int32)))]) :: (b6, oA .int [o0, o0, o0, o0, o0, o0, o0, o0, o0, o0, o0, o0, o0, o0, o0, o0]) :: (b5, oO cn0 [(fk0, (.ref s1)), (fk1, (.int (2147483639 : Int32))), (fk2, (.ref b6)), (fk3, (.int (0 : Int32)))]) :: (b4, oA .int [o0, o0, o0, o0, o0, o0, o0, o0, o0, o0, o0, o0, o0, o0, o0, o0]) :: (b3, oO cn0 [(fk0, (.ref s1)), (fk1, (.int (2147483639 : Int32))), (fk2, (.ref b4)), (fk3, (.int (0 : Int32)))]) :: (a1, oO cn1 [(fk4, (.ref b3)), (fk5, (.ref b5)), (fk6, (.ref b7)), (fk7, .null), (fk8, .null), (fk9, .null), (fk10, .null)]) :: ds)) rfl ?_
  intro T B
  refine W_aloadN B (hb hby d1_40) (pc' := 41) rfl rfl rfl ?_
  refine W_new B hown (ow hw (i := 19) rfl) (ow hw (i := 20) rfl) (ow hw (i := 21) rfl) (hb hby d1_41) (pc' := 44) rfl (by decide) (cells' := 7) rfl (slots' := 64) rfl (fs := [(fk0, .null), (fk1, (.int (0 : Int32))), (fk2, .null), (fk3, (.int (0 : Int32)))]) (oAll_cons ⟨Or.inr (ow hw (i := 31) rfl), (.object "java/lang/String"), by decide, rfl⟩ (oAll_cons ⟨Or.inr (ow hw (i := 33) rfl), .int, by decide, rfl⟩ (oAll_cons ⟨Or.inl (ow hw (i := 39) rfl), (.array .int), by decide, rfl⟩ (oAll_cons ⟨Or.inl (ow hw (i := 60) rfl), .int, by decide, rfl⟩ oAll_nil)))) (by decide) ?_
  intro T b9 B
  refine W_dup B (hb hby d1_44) (pc' := 45) rfl rfl ?_
  refine W_aloadN B (hb hby d1_45) (pc' := 46) rfl rfl rfl ?_
  refine W_init B (y := (⟨"com/example/tanglemark/tanglemark/datalog/Ints", "<init>", "(Ljava/lang/String;)V"⟩ : MethodName)) hown rfl (ow hw (i := 22) rfl) (ow hw (i := 23) rfl) (ow hw (i := 21) rfl) (ow hw (i := 24) rfl) (by decide) (a := b9) (rm_ints1 l Z a0 hw h0 b9 s1 ((b8, oA .int [o0, o0, o0, o0, o0, o0, o0, o0, o0, o0, o0, o0, o0, o0, o0, o0]) :: (b7, oO cn0 [(fk0, (.ref s1)), (fk1, (.int (2147483639 : Int32))), (fk2, (.ref b8)), (fk3, (.int (0 : Int32)))]) :: (b6, oA .int [o0, o0, o0, o0, o0, o0, o0, o0, o0, o0, o0, o0, o0, o0, o0, o0]) :: (b5, oO cn0 [(fk0, (.ref s1)), (fk1, (.int (2147483639 : Int32))), (fk2, (.ref b6)), (fk3, (.int (0 : Int32)))]) :: (b4, oA .int [o0, o0, o0, o0, o0, o0, o0, o0, o0, o0, o0, o0, o0, o0, o0, o0]) :: (b3, oO cn0 [(fk0, (.ref s1)), (fk1, (.int (2147483639 : Int32))), (fk2, (.ref b4)), (fk3, (.int (0 : Int32)))]) :: (a1, oO cn1 [(fk4, (.ref b3)), (fk5, (.ref b5)), (fk6, (.ref b7)), (fk7, .null), (fk8, .null), (fk9, .null), (fk10, .null)]) :: ds)) (lenOf pd_2 rfl) (hb hby d1_46) (pc' := 49) rfl (argsL := [(.ref s1)]) (rest := [(.ref b9), (.ref a1)]) rfl (by rw [hml]; rfl) (W := 2) (oLe rfl) (by decide) (cells' := 8) rfl (slots' := 80) rfl ?_
  intro T v_ d_ q_ B
  obtain ⟨b10, rfl, rfl⟩ := q_
  show oWin p e below Z h0 _ _ (T.setTop (mkF m 49 #[.val (.ref a1), .val (.ref s1)] [(.ref b9), (.ref a1)]))
  refine W_putfield B hown (host := "") (Or.inl (ow hw (i := 46) rfl)) Via.refl (hb hby d1_49) (pc' := 52) rfl (Or.inr ⟨(ow hw (i := 47) rfl), rfl, hnm⟩) (ow hw (i := 3) rfl) (ty := (.object "com/example/tanglemark/tanglemark/datalog/Ints")) (by decide) rfl rfl (j := 8) rfl (q := 3) rfl (ds' := ((b10, oA .int [o0, o0, o0, o0, o0, o0, o0, o0, o0, o0, o0, o0, o0, o0, o0, o0]) :: (b9, oO cn0 [(fk0, (.ref s1)), (fk1, (.int (2147483639 : Int32))), (fk2, (.ref b10)), (fk3, (.int (0 : Int32)))]) :: (b8, oA .int [o0, o0, o0, o0, o0, o0, o0, o0, o0, o0, o0, o0, o0, o0, o0, o0]) :: (b7, oO cn0 [(fk0, (.ref s1)), (fk1, (.int (2147483639 : Int32))), (fk2, (.ref b8)), (fk3, (.int (0 : Int32)))]) :: (b6, oA .int [o0, o0, o0, o0, o0, o0, o0, o0, o0, o0, o0, o0, o0, o0, o0, o0]) :: (b5, oO cn0 [(fk0, (.ref s1)), (fk1, (.int (2147483639 : Int32))), (fk2, (.ref b6)), (fk3, (.int (0 : Int32)))]) :: (b4, oA .int [o0, o0, o0, o0, o0, o0, o0, o0, o0, o0, o0, o0, o0, o0, o0, o0]) :: (b3, oO cn0 [(fk0, (.ref s1)), (fk1, (.int (2147483639 : Int32))), (fk2, (.ref b4)), (fk3, (.int (0 : Int32)))]) :: (a1, oO cn1 [(fk4, (.ref b3)), (fk5, (.ref b5)), (fk6, (.ref b7)), (fk7, (.ref b9)), (fk8, .null), (fk9, .null), (fk10, .null)]) :: ds)) rfl ?_
  intro T B
  refine W_aloadN B (hb hby d1_52) (pc' := 53) rfl rfl rfl ?_
  refine W_new B hown (ow hw (i := 19) rfl) (ow hw (i := 20) rfl) (ow hw (i := 21) rfl) (hb hby d1_53) (pc' := 56) rfl (by decide) (cells' := 9) rfl (slots' := 84) rfl (fs := [(fk0, .null), (fk1, (.int (0 : Int32))), (fk2, .null), (fk3, (.int (0 : Int32)))]) (oAll_cons ⟨Or.inr (ow hw (i := 31) rfl), (.object "java/lang/String"), by decide, rfl⟩ (oAll_cons ⟨Or.inr (ow hw (i := 33) rfl), .int, by decide, rfl⟩ (oAll_cons ⟨Or.inl (ow hw (i := 39) rfl), (.array .int), by decide, rfl⟩ (oAll_cons ⟨Or.inl (ow hw (i := 60) rfl), .int, by decide, rfl⟩ oAll_nil)))) (by decide) ?_
  intro T b11 B
  refine W_dup B (hb hby d1_56) (pc' := 57) rfl rfl ?_
  refine W_aloadN B (hb hby d1_57) (pc' := 58) rfl rfl rfl ?_
  refine W_init B (y := (⟨"com/example/tanglemark/tanglemark/datalog/Ints", "<init>", "(Ljava/lang/String;)V"⟩ : MethodName)) hown rfl (ow hw (i := 22) rfl) (ow hw (i := 23) rfl) (ow hw (i := 21) rfl) (ow hw (i := 24) rfl) (by decide) (a := b11) (rm_ints1 l Z a0 hw h0 b11 s1 ((b10, oA .int [o0, o0, o0, o0, o0, o0, o0, o0, o0, o0, o0, o0, o0, o0, o0, o0]) :: (b9, oO cn0 [(fk0, (.ref s1)), (fk1, (.int (2147483639 : Int32))), (fk2, (.ref b10)), (fk3, (.int (0 : Int32)))]) :: (b8, oA .int [o0, o0, o0, o0, o0, o0, o0, o0, o0, o0, o0, o0, o0, o0, o0, o0]) :: (b7, oO cn0 [(fk0, (.ref s1)), (fk1, (.int (2147483639 : Int32))), (fk2, (.ref b8)), (fk3, (.int (0 : Int32)))]) :: (b6, oA .int [o0, o0, o0, o0, o0, o0, o0, o0, o0, o0, o0, o0, o0, o0, o0, o0]) :: (b5, oO cn0 [(fk0, (.ref s1)), (fk1, (.int (2147483639 : Int32))), (fk2, (.ref b6)), (fk3, (.int (0 : Int32)))]) :: (b4, oA .int [o0, o0, o0, o0, o0, o0, o0, o0, o0, o0, o0, o0, o0, o0, o0, o0]) :: (b3, oO cn0 [(fk0, (.ref s1)), (fk1, (.int (2147483639 : Int32))), (fk2, (.ref b4)), (fk3, (.int (0 : Int32)))]) :: (a1, oO cn1 [(fk4, (.ref b3)), (fk5, (.ref b5)), (fk6, (.ref b7)), (fk7, (.ref b9)), (fk8, .null), (fk9, .null), (fk10, .null)]) :: ds)) (lenOf pd_2 rfl) (hb hby d1_58) (pc' := 61) rfl (argsL := [(.ref s1)]) (rest := [(.ref b11), (.ref a1)]) rfl (by rw [hml]; rfl) (W := 2) (oLe rfl) (by decide) (cells' := 10) rfl (slots' := 100) rfl ?_
  intro T v_ d_ q_ B
  obtain ⟨b12, rfl, rfl⟩ := q_
  show oWin p e below Z h0 _ _ (T.setTop (mkF m 61 #[.val (.ref a1), .val (.ref s1)] [(.ref b11), (.ref a1)]))
  refine W_putfield B hown (host := "") (Or.inl (ow hw (i := 48) rfl)) Via.refl (hb hby d1_61) (pc' := 64) rfl (Or.inr ⟨(ow hw (i := 49) rfl), rfl, hnm⟩) (ow hw (i := 3) rfl) (ty := (.object "com/example/tanglemark/tanglemark/datalog/Ints")) (by decide) rfl rfl (j := 10) rfl (q := 4) rfl (ds' := ((b12, oA .int [o0, o0, o0, o0, o0, o0, o0, o0, o0, o0, o0, o0, o0, o0, o0, o0]) :: (b11, oO cn0 [(fk0, (.ref s1)), (fk1, (.int (2147483639 : Int32))), (fk2, (.ref b12)), (fk3, (.int (0 : Int32)))]) :: (b10, oA .int [o0, o0, o0, o0, o0, o0, o0, o0, o0, o0, o0, o0, o0, o0, o0, o0]) :: (b9, oO cn0 [(fk0, (.ref s1)), (fk1, (.int (2147483639 : Int32))), (fk2, (.ref b10)), (fk3, (.int (0 : Int32)))]) :: (b8, oA .int [o0, o0, o0, o0, o0, o0, o0, o0, o0, o0, o0, o0, o0, o0, o0, o0]) :: (b7, oO cn0 [(fk0, (.ref s1)), (fk1, (.int (2147483639 : Int32))), (fk2, (.ref b8)), (fk3, (.int (0 : Int32)))]) :: (b6, oA .int [o0, o0, o0, o0, o0, o0, o0, o0, o0, o0, o0, o0, o0, o0, o0, o0]) :: (b5, oO cn0 [(fk0, (.ref s1)), (fk1, (.int (2147483639 : Int32))), (fk2, (.ref b6)), (fk3, (.int (0 : Int32)))]) :: (b4, oA .int [o0, o0, o0, o0, o0, o0, o0, o0, o0, o0, o0, o0, o0, o0, o0, o0]) :: (b3, oO cn0 [(fk0, (.ref s1)), (fk1, (.int (2147483639 : Int32))), (fk2, (.ref b4)), (fk3, (.int (0 : Int32)))]) :: (a1, oO cn1 [(fk4, (.ref b3)), (fk5, (.ref b5)), (fk6, (.ref b7)), (fk7, (.ref b9)), (fk8, (.ref b11)), (fk9, .null), (fk10, .null)]) :: ds)) rfl ?_
  intro T B
  refine W_aloadN B (hb hby d1_64) (pc' := 65) rfl rfl rfl ?_
  refine W_new B hown (ow hw (i := 19) rfl) (ow hw (i := 20) rfl) (ow hw (i := 21) rfl) (hb hby d1_65) (pc' := 68) rfl (by decide) (cells' := 11) rfl (slots' := 104) rfl (fs := [(fk0, .null), (fk1, (.int (0 : Int32))), (fk2, .null), (fk3, (.int (0 : Int32)))]) (oAll_cons ⟨Or.inr (ow hw (i := 31) rfl), (.object "java/lang/String"), by decide, rfl⟩ (oAll_cons ⟨Or.inr (ow hw (i := 33) rfl), .int, by decide, rfl⟩ (oAll_cons ⟨Or.inl (ow hw (i := 39) rfl), (.array .int), by decide, rfl⟩ (oAll_cons ⟨Or.inl (ow hw (i := 60) rfl), .int, by decide, rfl⟩ oAll_nil)))) (by decide) ?_
  intro T b13 B
  refine W_dup B (hb hby d1_68) (pc' := 69) rfl rfl ?_
  refine W_aloadN B (hb hby d1_69) (pc' := 70) rfl rfl rfl ?_
  refine W_init B (y := (⟨"com/example/tanglemark/tanglemark/datalog/Ints", "<init>", "(Ljava/lang/String;)V"⟩ : MethodName)) hown rfl (ow hw (i := 22) rfl) (ow hw (i := 23) rfl) (ow hw (i := 21) rfl) (ow hw (i := 24) rfl) (by decide) (a := b13) (rm_ints1 l Z a0 hw h0 b13 s1 ((b12, oA .int [o0, o0, o0, o0, o0, o0, o0, o0, o0, o0, o0, o0, o0, o0, o0, o0]) :: (b11, oO cn0 [(fk0, (.ref s1)), (fk1, (.int (2147483639 : Int32))), (fk2, (.ref b12)), (fk3, (.int (0 : Int32)))]) :: (b10, oA .int [o0, o0, o0, o0, o0, o0, o0, o0, o0, o0, o0, o0, o0, o0, o0, o0]) :: (b9, oO cn0 [(fk0, (.ref s1)), (fk1, (.int (2147483639 : Int32))), (fk2, (.ref b10)), (fk3, (.int (0 : Int32)))]) :: (b8, oA .int [o0, o0, o0, o0, o0, o0, o0, o0, o0, o0, o0, o0, o0, o0, o0, o0]) :: (b7, oO cn0 [(fk0, (.ref s1)), (fk1, (.int (2147483639 : Int32))), (fk2, (.ref b8)), (fk3, (.int (0 : Int32)))]) :: (b6, oA .int [o0, o0, o0, o0, o0, o0, o0, o0, o0, o0, o0, o0, o0, o0, o0, o0]) :: (b5, oO cn0 [(fk0, (.ref s1)), (fk1, (.int (2147483639 : Int32))), (fk2, (.ref b6)), (fk3, (.int (0 : Int32)))]) :: (b4, oA .int [o0, o0, o0, o0, o0, o0, o0, o0, o0, o0, o0, o0, o0, o0, o0, o0]) :: (b3, oO cn0 [(fk0, (.ref s1)), (fk1, (.int (2147483639 : Int32))), (fk2, (.ref b4)), (fk3, (.int (0 : Int32)))]) :: (a1, oO cn1 [(fk4, (.ref b3)), (fk5, (.ref b5)), (fk6, (.ref b7)), (fk7, (.ref b9)), (fk8, (.ref b11)), (fk9, .null), (fk10, .null)]) :: ds)) (lenOf pd_2 rfl) (hb hby d1_70) (pc' := 73) rfl (argsL := [(.ref s1)]) (rest := [(.ref b13), (.ref a1)]) rfl (by rw [hml]; rfl) (W := 2) (oLe rfl) (by decide) (cells' := 12) rfl (slots' := 120) rfl ?_
  intro T v_ d_ q_ B
  obtain ⟨b14, rfl, rfl⟩ := q_
  show oWin p e below Z h0 _ _ (T.setTop (mkF m 73 #[.val (.ref a1), .val (.ref s1)] [(.ref b13), (.ref a1)]))
  refine W_putfield B hown (host := "") (Or.inl (ow hw (i := 50) rfl)) Via.refl (hb hby d1_73) (pc' := 76) rfl (Or.inr ⟨(ow hw (i := 51) rfl), rfl, hnm⟩) (ow hw (i := 3) rfl) (ty := (.object "com/example/tanglemark/tanglemark/datalog/Ints")) (by decide) rfl rfl (j := 12) rfl (q := 5) rfl (ds' := ((b14, oA .int [o0, o0, o0, o0, o0, o0, o0, o0, o0, o0, o0, o0, o0, o0, o0, o0]) :: (b13, oO cn0 [(fk0, (.ref s1)), (fk1, (.int (2147483639 : Int32))), (fk2, (.ref b14)), (fk3, (.int (0 : Int32)))]) :: (b12, oA .int [o0, o0, o0, o0, o0, o0, o0, o0, o0, o0, o0, o0, o0, o0, o0, o0]) :: (b11, oO cn0 [(fk0, (.ref s1)), (fk1, (.int (2147483639 : Int32))), (fk2, (.ref b12)), (fk3, (.int (0 : Int32)))]) :: (b10, oA .int [o0, o0, o0, o0, o0, o0, o0, o0, o0, o0, o0, o0, o0, o0, o0, o0]) :: (b9, oO cn0 [(fk0, (.ref s1)), (fk1, (.int (2147483639 : Int32))), (fk2, (.ref b10)), (fk3, (.int (0 : Int32)))]) :: (b8, oA .int [o0, o0, o0, o0, o0, o0, o0, o0, o0, o0, o0, o0, o0, o0, o0, o0]) :: (b7, oO cn0 [(fk0, (.ref s1)), (fk1, (.int (2147483639 : Int32))), (fk2, (.ref b8)), (fk3, (.int (0 : Int32)))]) :: (b6, oA .int [o0, o0, o0, o0, o0, o0, o0, o0, o0, o0, o0, o0, o0, o0, o0, o0]) :: (b5, oO cn0 [(fk0, (.ref s1)), (fk1, (.int (2147483639 : Int32))), (fk2, (.ref b6)), (fk3, (.int (0 : Int32)))]) :: (b4, oA .int [o0, o0, o0, o0, o0, o0, o0, o0, o0, o0, o0, o0, o0, o0, o0, o0]) :: (b3, oO cn0 [(fk0, (.ref s1)), (fk1, (.int (2147483639 : Int32))), (fk2, (.ref b4)), (fk3, (.int (0 : Int32)))]) :: (a1, oO cn1 [(fk4, (.ref b3)), (fk5, (.ref b5)), (fk6, (.ref b7)), (fk7, (.ref b9)), (fk8, (.ref b11)), (fk9, (.ref b13)), (fk10, .null)]) :: ds)) rfl ?_
  intro T B
  refine W_aloadN B (hb hby d1_76) (pc' := 77) rfl rfl rfl ?_
  refine W_new B hown (ow hw (i := 19) rfl) (ow hw (i := 20) rfl) (ow hw (i := 21) rfl) (hb hby d1_77) (pc' := 80) rfl (by decide) (cells' := 13) rfl (slots' := 124) rfl (fs := [(fk0, .null), (fk1, (.int (0 : Int32))), (fk2, .null), (fk3, (.int (0 : Int32)))]) (oAll_cons ⟨Or.inr (ow hw (i := 31) rfl), (.object "java/lang/String"), by decide, rfl⟩ (oAll_cons ⟨Or.inr (ow hw (i := 33) rfl), .int, by decide, rfl⟩ (oAll_cons ⟨Or.inl (ow hw (i := 39) rfl), (.array .int), by decide, rfl⟩ (oAll_cons ⟨Or.inl (ow hw (i := 60) rfl), .int, by decide, rfl⟩ oAll_nil)))) (by decide) ?_
  intro T b15 B
  refine W_dup B (hb hby d1_80) (pc' := 81) rfl rfl ?_
  refine W_aloadN B (hb hby d1_81) (pc' := 82) rfl rfl rfl ?_
  refine W_init B (y := (⟨"com/example/tanglemark/tanglemark/datalog/Ints", "<init>", "(Ljava/lang/String;)V"⟩ : MethodName)) hown rfl (ow hw (i := 22) rfl) (ow hw (i := 23) rfl) (ow hw (i := 21) rfl) (ow hw (i := 24) rfl) (by decide) (a := b15) (rm_ints1 l Z a0 hw h0 b15 s1 ((b14, oA .int [o0, o0, o0, o0, o0, o0, o0, o0, o0, o0, o0, o0, o0, o0, o0, o0]) :: (b13, oO cn0 [(fk0, (.ref s1)), (fk1, (.int (2147483639 : Int32))), (fk2, (.ref b14)), (fk3, (.int (0 : Int32)))]) :: (b12, oA .int [o0, o0, o0, o0, o0, o0, o0, o0, o0, o0, o0, o0, o0, o0, o0, o0]) :: (b11, oO cn0 [(fk0, (.ref s1)), (fk1, (.int (2147483639 : Int32))), (fk2, (.ref b12)), (fk3, (.int (0 : Int32)))]) :: (b10, oA .int [o0, o0, o0, o0, o0, o0, o0, o0, o0, o0, o0, o0, o0, o0, o0, o0]) :: (b9, oO cn0 [(fk0, (.ref s1)), (fk1, (.int (2147483639 : Int32))), (fk2, (.ref b10)), (fk3, (.int (0 : Int32)))]) :: (b8, oA .int [o0, o0, o0, o0, o0, o0, o0, o0, o0, o0, o0, o0, o0, o0, o0, o0]) :: (b7, oO cn0 [(fk0, (.ref s1)), (fk1, (.int (2147483639 : Int32))), (fk2, (.ref b8)), (fk3, (.int (0 : Int32)))]) :: (b6, oA .int [o0, o0, o0, o0, o0, o0, o0, o0, o0, o0, o0, o0, o0, o0, o0, o0]) :: (b5, oO cn0 [(fk0, (.ref s1)), (fk1, (.int (2147483639 : Int32))), (fk2, (.ref b6)), (fk3, (.int (0 : Int32)))]) :: (b4, oA .int [o0, o0, o0, o0, o0, o0, o0, o0, o0, o0, o0, o0, o0, o0, o0, o0]) :: (b3, oO cn0 [(fk0, (.ref s1)), (fk1, (.int (2147483639 : Int32))), (fk2, (.ref b4)), (fk3, (.int (0 : Int32)))]) :: (a1, oO cn1 [(fk4, (.ref b3)), (fk5, (.ref b5)), (fk6, (.ref b7)), (fk7, (.ref b9)), (fk8, (.ref b11)), (fk9, (.ref b13)), (fk10, .null)]) :: ds)) (lenOf pd_2 rfl) (hb hby d1_82) (pc' := 85) rfl (argsL := [(.ref s1)]) (rest := [(.ref b15), (.ref a1)]) rfl (by rw [hml]; rfl) (W := 2) (oLe rfl) (by decide) (cells' := 14) rfl (slots' := 140) rfl ?_
  intro T v_ d_ q_ B
  obtain ⟨b16, rfl, rfl⟩ := q_
  show oWin p e below Z h0 _ _ (T.setTop (mkF m 85 #[.val (.ref a1), .val (.ref s1)] [(.ref b15), (.ref a1)]))
  refine W_putfield B hown (host := "") (Or.inl (ow hw (i := 52) rfl)) Via.refl (hb hby d1_85) (pc' := 88) rfl (Or.inr ⟨(ow hw (i := 53) rfl), rfl, hnm⟩) (ow hw (i := 3) rfl) (ty := (.object "com/example/tanglemark/tanglemark/datalog/Ints")) (by decide) rfl rfl (j := 14) rfl (q := 6) rfl (ds' := ((b16, oA .int [o0, o0, o0, o0, o0, o0, o0, o0, o0, o0, o0, o0, o0, o0, o0, o0]) :: (b15, oO cn0 [(fk0, (.ref s1)), (fk1, (.int (2147483639 : Int32))), (fk2, (.ref b16)), (fk3, (.int (0 : Int32)))]) :: (b14, oA .int [o0, o0, o0, o0, o0, o0, o0, o0, o0, o0, o0, o0, o0, o0, o0, o0]) :: (b13, oO cn0 [(fk0, (.ref s1)), (fk1, (.int (2147483639 : Int32))), (fk2, (.ref b14)), (fk3, (.int (0 : Int32)))]) :: (b12, oA .int [o0, o0, o0, o0, o0, o0, o0, o0, o0, o0, o0, o0, o0, o0, o0, o0]) :: (b11, oO cn0 [(fk0, (.ref s1)), (fk1, (.int (2147483639 : Int32))), (fk2, (.ref b12)), (fk3, (.int (0 : Int32)))]) :: (b10, oA .int [o0, o0, o0, o0, o0, o0, o0, o0, o0, o0, o0, o0, o0, o0, o0, o0]) :: (b9, oO cn0 [(fk0, (.ref s1)), (fk1, (.int (2147483639 : Int32))), (fk2, (.ref b10)), (fk3, (.int (0 : Int32)))]) :: (b8, oA .int [o0, o0, o0, o0, o0, o0, o0, o0, o0, o0, o0, o0, o0, o0, o0, o0]) :: (b7, oO cn0 [(fk0, (.ref s1)), (fk1, (.int (2147483639 : Int32))), (fk2, (.ref b8)), (fk3, (.int (0 : Int32)))]) :: (b6, oA .int [o0, o0, o0, o0, o0, o0, o0, o0, o0, o0, o0, o0, o0, o0, o0, o0]) :: (b5, oO cn0 [(fk0, (.ref s1)), (fk1, (.int (2147483639 : Int32))), (fk2, (.ref b6)), (fk3, (.int (0 : Int32)))]) :: (b4, oA .int [o0, o0, o0, o0, o0, o0, o0, o0, o0, o0, o0, o0, o0, o0, o0, o0]) :: (b3, oO cn0 [(fk0, (.ref s1)), (fk1, (.int (2147483639 : Int32))), (fk2, (.ref b4)), (fk3, (.int (0 : Int32)))]) :: (a1, oO cn1 [(fk4, (.ref b3)), (fk5, (.ref b5)), (fk6, (.ref b7)), (fk7, (.ref b9)), (fk8, (.ref b11)), (fk9, (.ref b13)), (fk10, (.ref b15))]) :: ds)) rfl ?_
  intro T B
  refine W_retV B hret (hb hby d1_88) (by decide) ?_
  exact ⟨_, _, _, _, _, _, _, _, _, _, _, _, _, _, rfl, rfl⟩
theorem own_c4 {v k : Int32} (h : v = k &&& (3 : Int32)) : 0 ≤ v.toInt ∧ v.toInt ≤ 3 := by
  have q := c_and k 3 (by decide)
  rw [← h] at q
  have e3 : (3 : Int32).toInt = 3 := rfl
  omega
theorem own_c3 {v x : Int32} (h : v = (x &&& (2147483647 : Int32)) % (3 : Int32)) : v = 0 ∨ v = 1 ∨ v = 2 := by
  have f1 := omaskI x 2147483647 31 2147483648 (by decide) (by decide) (by decide)
  have f2 := oirem (x &&& (2147483647 : Int32)) 3 3 rfl (by decide) (by decide)
  rw [← h] at f2
  have f3 := ogeI x
  have : v.toInt = 0 ∨ v.toInt = 1 ∨ v.toInt = 2 := by omega
  exact this.imp (fun e => otoI e) fun t => t.imp (fun e => otoI e) fun e => otoI e
theorem d7_0 : decode prog_15_method_3_code 0 = .ok (.aload_n 0, 1) := by decide +kernel
theorem d7_1 : decode prog_15_method_3_code 1 = .ok (.getfield 33, 3) := by decide +kernel
theorem d7_4 : decode prog_15_method_3_code 4 = .ok (.aload_n 0, 1) := by decide +kernel
theorem d7_5 : decode prog_15_method_3_code 5 = .ok (.getfield 29, 3) := by decide +kernel
theorem d7_8 : decode prog_15_method_3_code 8 = .ok (.arraylength, 1) := by decide +kernel
theorem d7_9 : decode prog_15_method_3_code 9 = .ok (.if_icmp .ne 64, 3) := by decide +kernel
theorem d7_73 : decode prog_15_method_3_code 73 = .ok (.aload_n 0, 1) := by decide +kernel
theorem d7_74 : decode prog_15_method_3_code 74 = .ok (.getfield 29, 3) := by decide +kernel
theorem d7_77 : decode prog_15_method_3_code 77 = .ok (.aload_n 0, 1) := by decide +kernel
theorem d7_78 : decode prog_15_method_3_code 78 = .ok (.dup, 1) := by decide +kernel
theorem d7_79 : decode prog_15_method_3_code 79 = .ok (.getfield 33, 3) := by decide +kernel
theorem d7_82 : decode prog_15_method_3_code 82 = .ok (.dup_x1, 1) := by decide +kernel
theorem d7_83 : decode prog_15_method_3_code 83 = .ok (.iconst 1, 1) := by decide +kernel
theorem d7_84 : decode prog_15_method_3_code 84 = .ok (.iadd, 1) := by decide +kernel
theorem d7_85 : decode prog_15_method_3_code 85 = .ok (.putfield 33, 3) := by decide +kernel
theorem d7_88 : decode prog_15_method_3_code 88 = .ok (.iload_n 1, 1) := by decide +kernel
theorem d7_89 : decode prog_15_method_3_code 89 = .ok (.iastore, 1) := by decide +kernel
theorem d7_90 : decode prog_15_method_3_code 90 = .ok (.return_, 1) := by decide +kernel
theorem ef_rm_ia0 (m : MethodId) (x0 : Addr) (x1 : Int32) : entryFrame m #[(.ref x0), (.int x1)] 2 = mkF m 0 #[.val (.ref x0), .val (.int x1)] [] := by first | (simp [entryFrame, mkF, argsToLocals, Value.category]; done) | rfl
set_option maxRecDepth 65536 in
set_option maxHeartbeats 40000000 in
theorem rm_ia0 (l : Launch) (Z : State) (a0 : Array Value) (hw : ∀ d ∈ tables_1, d.before a0 Z = true) (h0 : Heap) {lo : Nat} (c1 : Addr) (d1 : Addr) (s1 : Addr) (x1 : Int32) (n1 : Int32) (vs : List Value) (e0 : Addr × oD) (e1 : Addr × oD) (e2 : Addr × oD) (e3 : Addr × oD) (e4 : Addr × oD) (e5 : Addr × oD) (e6 : Addr × oD) (e7 : Addr × oD) (e8 : Addr × oD) (e9 : Addr × oD) (e10 : Addr × oD) (e11 : Addr × oD) (ds : oDs) (hl : vs.length = 16) (hn : ¬ n1 = (16 : Int32)) (hp : ¬ n1 < 0) (hi : n1.toNatClampNeg < vs.length) :
    oMet l Z h0 lo (⟨"com/example/tanglemark/tanglemark/datalog/Ints", "add", "(I)V"⟩ : MethodName) prog_15_method_3_code 2 none [] ({ frames := 0, cells := 0, slots := 0, locals := 0 } : Room) #[(.ref c1), (.int x1)] (e0 :: e1 :: e2 :: e3 :: e4 :: e5 :: e6 :: e7 :: e8 :: e9 :: e10 :: e11 :: (d1, oA .int vs) :: (c1, oO cn0 [(fk0, (.ref s1)), (fk1, (.int (2147483639 : Int32))), (fk2, (.ref d1)), (fk3, (.int n1))]) :: ds) (fun (v : Option Value) (d : oDs) => (v = none ∧ (e0 :: e1 :: e2 :: e3 :: e4 :: e5 :: e6 :: e7 :: e8 :: e9 :: e10 :: e11 :: (d1, oA .int (vs.set n1.toNatClampNeg (.int x1))) :: (c1, oO cn0 [(fk0, (.ref s1)), (fk1, (.int (2147483639 : Int32))), (fk2, (.ref d1)), (fk3, (.int (n1 + (1 : Int32))))]) :: ds) = d)) := by
  refine oMet.of_body (plainFor_of_name pn_0) ?_
  intro p e s m below meth c T B hby hml hown hnm hret
  refine W_entry (ef_rm_ia0 m c1 x1) ?_
  refine W_aloadN B (hb hby d7_0) (pc' := 1) rfl rfl rfl ?_
  refine W_getfield B hown (host := "") (Or.inl (ow hw (i := 66) rfl)) Via.refl (hb hby d7_1) (pc' := 4) rfl (j := 13) rfl (q := 3) rfl ?_
  intro T B
  refine W_aloadN B (hb hby d7_4) (pc' := 5) rfl rfl rfl ?_
  refine W_getfield B hown (host := "") (Or.inl (ow hw (i := 38) rfl)) Via.refl (hb hby d7_5) (pc' := 8) rfl (j := 13) rfl (q := 2) rfl ?_
  intro T B
  refine W_arraylength B (hb hby d7_8) (pc' := 9) rfl (j := 12) rfl (z := (16 : Int32)) (by rw [hl]; rfl) ?_
  refine W_icmpY B (hb hby d7_9) (by decide) (pc' := 73) (by decide) (feq hn).2 ?_
  refine W_aloadN B (hb hby d7_73) (pc' := 74) rfl rfl rfl ?_
  refine W_getfield B hown (host := "") (Or.inl (ow hw (i := 38) rfl)) Via.refl (hb hby d7_74) (pc' := 77) rfl (j := 13) rfl (q := 2) rfl ?_
  intro T B
  refine W_aloadN B (hb hby d7_77) (pc' := 78) rfl rfl rfl ?_
  refine W_dup B (hb hby d7_78) (pc' := 79) rfl rfl ?_
  refine W_getfield B hown (host := "") (Or.inl (ow hw (i := 66) rfl)) Via.refl (hb hby d7_79) (pc' := 82) rfl (j := 13) rfl (q := 3) rfl ?_
  intro T B
  refine W_dupX1 B (hb hby d7_82) (pc' := 83) rfl rfl rfl ?_
  refine W_iconst B (hb hby d7_83) (pc' := 84) rfl (z := (1 : Int32)) (by decide) ?_
  refine W_iadd B (hb hby d7_84) (pc' := 85) rfl (z := (n1 + (1 : Int32))) rfl ?_
  refine W_putfield B hown (host := "") (Or.inl (ow hw (i := 66) rfl)) Via.refl (hb hby d7_85) (pc' := 88) rfl (Or.inl (ow hw (i := 60) rfl)) (ow hw (i := 20) rfl) (ty := .int) (by decide) rfl rfl (j := 13) rfl (q := 3) rfl (ds' := (e0 :: e1 :: e2 :: e3 :: e4 :: e5 :: e6 :: e7 :: e8 :: e9 :: e10 :: e11 :: (d1, oA .int vs) :: (c1, oO cn0 [(fk0, (.ref s1)), (fk1, (.int (2147483639 : Int32))), (fk2, (.ref d1)), (fk3, (.int (n1 + (1 : Int32))))]) :: ds)) rfl ?_
  intro T B
  refine W_iloadN B (hb hby d7_88) (pc' := 89) rfl rfl ?_
  refine W_iastore B (hb hby d7_89) (pc' := 90) rfl (i := 12) rfl hp hi (ds' := (e0 :: e1 :: e2 :: e3 :: e4 :: e5 :: e6 :: e7 :: e8 :: e9 :: e10 :: e11 :: (d1, oA .int (vs.set n1.toNatClampNeg (.int x1))) :: (c1, oO cn0 [(fk0, (.ref s1)), (fk1, (.int (2147483639 : Int32))), (fk2, (.ref d1)), (fk3, (.int (n1 + (1 : Int32))))]) :: ds)) rfl ?_
  intro T B
  refine W_retV B hret (hb hby d7_90) (by decide) ?_
  exact ⟨rfl, rfl⟩
theorem ef_rm_ia1 (m : MethodId) (x0 : Addr) (x1 : Int32) : entryFrame m #[(.ref x0), (.int x1)] 2 = mkF m 0 #[.val (.ref x0), .val (.int x1)] [] := by first | (simp [entryFrame, mkF, argsToLocals, Value.category]; done) | rfl
set_option maxRecDepth 65536 in
set_option maxHeartbeats 40000000 in
theorem rm_ia1 (l : Launch) (Z : State) (a0 : Array Value) (hw : ∀ d ∈ tables_1, d.before a0 Z = true) (h0 : Heap) {lo : Nat} (c1 : Addr) (d1 : Addr) (s1 : Addr) (x1 : Int32) (n1 : Int32) (vs : List Value) (e0 : Addr × oD) (e1 : Addr × oD) (e2 : Addr × oD) (e3 : Addr × oD) (e4 : Addr × oD) (e5 : Addr × oD) (e6 : Addr × oD) (e7 : Addr × oD) (e8 : Addr × oD) (e9 : Addr × oD) (ds : oDs) (hl : vs.length = 16) (hn : ¬ n1 = (16 : Int32)) (hp : ¬ n1 < 0) (hi : n1.toNatClampNeg < vs.length) :
    oMet l Z h0 lo (⟨"com/example/tanglemark/tanglemark/datalog/Ints", "add", "(I)V"⟩ : MethodName) prog_15_method_3_code 2 none [] ({ frames := 0, cells := 0, slots := 0, locals := 0 } : Room) #[(.ref c1), (.int x1)] (e0 :: e1 :: e2 :: e3 :: e4 :: e5 :: e6 :: e7 :: e8 :: e9 :: (d1, oA .int vs) :: (c1, oO cn0 [(fk0, (.ref s1)), (fk1, (.int (2147483639 : Int32))), (fk2, (.ref d1)), (fk3, (.int n1))]) :: ds) (fun (v : Option Value) (d : oDs) => (v = none ∧ (e0 :: e1 :: e2 :: e3 :: e4 :: e5 :: e6 :: e7 :: e8 :: e9 :: (d1, oA .int (vs.set n1.toNatClampNeg (.int x1))) :: (c1, oO cn0 [(fk0, (.ref s1)), (fk1, (.int (2147483639 : Int32))), (fk2, (.ref d1)), (fk3, (.int (n1 + (1 : Int32))))]) :: ds) = d)) := by
  refine oMet.of_body (plainFor_of_name pn_0) ?_
  intro p e s m below meth c T B hby hml hown hnm hret
  refine W_entry (ef_rm_ia1 m c1 x1) ?_
  refine W_aloadN B (hb hby d7_0) (pc' := 1) rfl rfl rfl ?_
  refine W_getfield B hown (host := "") (Or.inl (ow hw (i := 66) rfl)) Via.refl (hb hby d7_1) (pc' := 4) rfl (j := 11) rfl (q := 3) rfl ?_
  intro T B
  refine W_aloadN B (hb hby d7_4) (pc' := 5) rfl rfl rfl ?_
  refine W_getfield B hown (host := "") (Or.inl (ow hw (i := 38) rfl)) Via.refl (hb hby d7_5) (pc' := 8) rfl (j := 11) rfl (q := 2) rfl ?_
  intro T B
  refine W_arraylength B (hb hby d7_8) (pc' := 9) rfl (j := 10) rfl (z := (16 : Int32)) (by rw [hl]; rfl) ?_
  refine W_icmpY B (hb hby d7_9) (by decide) (pc' := 73) (by decide) (feq hn).2 ?_
  refine W_aloadN B (hb hby d7_73) (pc' := 74) rfl rfl rfl ?_
  refine W_getfield B hown (host := "") (Or.inl (ow hw (i := 38) rfl)) Via.refl (hb hby d7_74) (pc' := 77) rfl (j := 11) rfl (q := 2) rfl ?_
  intro T B
  refine W_aloadN B (hb hby d7_77) (pc' := 78) rfl rfl rfl ?_
  refine W_dup B (hb hby d7_78) (pc' := 79) rfl rfl ?_
  refine W_getfield B hown (host := "") (Or.inl (ow hw (i := 66) rfl)) Via.refl (hb hby d7_79) (pc' := 82) rfl (j := 11) rfl (q := 3) rfl ?_
  intro T B
  refine W_dupX1 B (hb hby d7_82) (pc' := 83) rfl rfl rfl ?_
  refine W_iconst B (hb hby d7_83) (pc' := 84) rfl (z := (1 : Int32)) (by decide) ?_
  refine W_iadd B (hb hby d7_84) (pc' := 85) rfl (z := (n1 + (1 : Int32))) rfl ?_
  refine W_putfield B hown (host := "") (Or.inl (ow hw (i := 66) rfl)) Via.refl (hb hby d7_85) (pc' := 88) rfl (Or.inl (ow hw (i := 60) rfl)) (ow hw (i := 20) rfl) (ty := .int) (by decide) rfl rfl (j := 11) rfl (q := 3) rfl (ds' := (e0 :: e1 :: e2 :: e3 :: e4 :: e5 :: e6 :: e7 :: e8 :: e9 :: (d1, oA .int vs) :: (c1, oO cn0 [(fk0, (.ref s1)), (fk1, (.int (2147483639 : Int32))), (fk2, (.ref d1)), (fk3, (.int (n1 + (1 : Int32))))]) :: ds)) rfl ?_
  intro T B
  refine W_iloadN B (hb hby d7_88) (pc' := 89) rfl rfl ?_
  refine W_iastore B (hb hby d7_89) (pc' := 90) rfl (i := 10) rfl hp hi (ds' := (e0 :: e1 :: e2 :: e3 :: e4 :: e5 :: e6 :: e7 :: e8 :: e9 :: (d1, oA .int (vs.set n1.toNatClampNeg (.int x1))) :: (c1, oO cn0 [(fk0, (.ref s1)), (fk1, (.int (2147483639 : Int32))), (fk2, (.ref d1)), (fk3, (.int (n1 + (1 : Int32))))]) :: ds)) rfl ?_
  intro T B
  refine W_retV B hret (hb hby d7_90) (by decide) ?_
  exact ⟨rfl, rfl⟩
theorem ef_rm_ia2 (m : MethodId) (x0 : Addr) (x1 : Int32) : entryFrame m #[(.ref x0), (.int x1)] 2 = mkF m 0 #[.val (.ref x0), .val (.int x1)] [] := by first | (simp [entryFrame, mkF, argsToLocals, Value.category]; done) | rfl
set_option maxRecDepth 65536 in
set_option maxHeartbeats 40000000 in
theorem rm_ia2 (l : Launch) (Z : State) (a0 : Array Value) (hw : ∀ d ∈ tables_1, d.before a0 Z = true) (h0 : Heap) {lo : Nat} (c1 : Addr) (d1 : Addr) (s1 : Addr) (x1 : Int32) (n1 : Int32) (vs : List Value) (e0 : Addr × oD) (e1 : Addr × oD) (e2 : Addr × oD) (e3 : Addr × oD) (e4 : Addr × oD) (e5 : Addr × oD) (e6 : Addr × oD) (e7 : Addr × oD) (ds : oDs) (hl : vs.length = 16) (hn : ¬ n1 = (16 : Int32)) (hp : ¬ n1 < 0) (hi : n1.toNatClampNeg < vs.length) :
    oMet l Z h0 lo (⟨"com/example/tanglemark/tanglemark/datalog/Ints", "add", "(I)V"⟩ : MethodName) prog_15_method_3_code 2 none [] ({ frames := 0, cells := 0, slots := 0, locals := 0 } : Room) #[(.ref c1), (.int x1)] (e0 :: e1 :: e2 :: e3 :: e4 :: e5 :: e6 :: e7 :: (d1, oA .int vs) :: (c1, oO cn0 [(fk0, (.ref s1)), (fk1, (.int (2147483639 : Int32))), (fk2, (.ref d1)), (fk3, (.int n1))]) :: ds) (fun (v : Option Value) (d : oDs) => (v = none ∧ (e0 :: e1 :: e2 :: e3 :: e4 :: e5 :: e6 :: e7 :: (d1, oA .int (vs.set n1.toNatClampNeg (.int x1))) :: (c1, oO cn0 [(fk0, (.ref s1)), (fk1, (.int (2147483639 : Int32))), (fk2, (.ref d1)), (fk3, (.int (n1 + (1 : Int32))))]) :: ds) = d)) := by
  refine oMet.of_body (plainFor_of_name pn_0) ?_
  intro p e s m below meth c T B hby hml hown hnm hret
  refine W_entry (ef_rm_ia2 m c1 x1) ?_
  refine W_aloadN B (hb hby d7_0) (pc' := 1) rfl rfl rfl ?_
  refine W_getfield B hown (host := "") (Or.inl (ow hw (i := 66) rfl)) Via.refl (hb hby d7_1) (pc' := 4) rfl (j := 9) rfl (q := 3) rfl ?_
  intro T B
  refine W_aloadN B (hb hby d7_4) (pc' := 5) rfl rfl rfl ?_
  refine W_getfield B hown (host := "") (Or.inl (ow hw (i := 38) rfl)) Via.refl (hb hby d7_5) (pc' := 8) rfl (j := 9) rfl (q := 2) rfl ?_
  intro T B
  refine W_arraylength B (hb hby d7_8) (pc' := 9) rfl (j := 8) rfl (z := (16 : Int32)) (by rw [hl]; rfl) ?_
  refine W_icmpY B (hb hby d7_9) (by decide) (pc' := 73) (by decide) (feq hn).2 ?_
  refine W_aloadN B (hb hby d7_73) (pc' := 74) rfl rfl rfl ?_
  refine W_getfield B hown (host := "") (Or.inl (ow hw (i := 38) rfl)) Via.refl (hb hby d7_74) (pc' := 77) rfl (j := 9) rfl (q := 2) rfl ?_
  intro T B
  refine W_aloadN B (hb hby d7_77) (pc' := 78) rfl rfl rfl ?_
  refine W_dup B (hb hby d7_78) (pc' := 79) rfl rfl ?_
  refine W_getfield B hown (host := "") (Or.inl (ow hw (i := 66) rfl)) Via.refl (hb hby d7_79) (pc' := 82) rfl (j := 9) rfl (q := 3) rfl ?_
  intro T B
  refine W_dupX1 B (hb hby d7_82) (pc' := 83) rfl rfl rfl ?_
  refine W_iconst B (hb hby d7_83) (pc' := 84) rfl (z := (1 : Int32)) (by decide) ?_
  refine W_iadd B (hb hby d7_84) (pc' := 85) rfl (z := (n1 + (1 : Int32))) rfl ?_
  refine W_putfield B hown (host := "") (Or.inl (ow hw (i := 66) rfl)) Via.refl (hb hby d7_85) (pc' := 88) rfl (Or.inl (ow hw (i := 60) rfl)) (ow hw (i := 20) rfl) (ty := .int) (by decide) rfl rfl (j := 9) rfl (q := 3) rfl (ds' := (e0 :: e1 :: e2 :: e3 :: e4 :: e5 :: e6 :: e7 :: (d1, oA .int vs) :: (c1, oO cn0 [(fk0, (.ref s1)), (fk1, (.int (2147483639 : Int32))), (fk2, (.ref d1)), (fk3, (.int (n1 + (1 : Int32))))]) :: ds)) rfl ?_
  intro T B
  refine W_iloadN B (hb hby d7_88) (pc' := 89) rfl rfl ?_
  refine W_iastore B (hb hby d7_89) (pc' := 90) rfl (i := 8) rfl hp hi (ds' := (e0 :: e1 :: e2 :: e3 :: e4 :: e5 :: e6 :: e7 :: (d1, oA .int (vs.set n1.toNatClampNeg (.int x1))) :: (c1, oO cn0 [(fk0, (.ref s1)), (fk1, (.int (2147483639 : Int32))), (fk2, (.ref d1)), (fk3, (.int (n1 + (1 : Int32))))]) :: ds)) rfl ?_
  intro T B
  refine W_retV B hret (hb hby d7_90) (by decide) ?_
  exact ⟨rfl, rfl⟩
theorem ef_rm_ia3 (m : MethodId) (x0 : Addr) (x1 : Int32) : entryFrame m #[(.ref x0), (.int x1)] 2 = mkF m 0 #[.val (.ref x0), .val (.int x1)] [] := by first | (simp [entryFrame, mkF, argsToLocals, Value.category]; done) | rfl
set_option maxRecDepth 65536 in
set_option maxHeartbeats 40000000 in
theorem rm_ia3 (l : Launch) (Z : State) (a0 : Array Value) (hw : ∀ d ∈ tables_1, d.before a0 Z = true) (h0 : Heap) {lo : Nat} (c1 : Addr) (d1 : Addr) (s1 : Addr) (x1 : Int32) (n1 : Int32) (vs : List Value) (e0 : Addr × oD) (e1 : Addr × oD) (e2 : Addr × oD) (e3 : Addr × oD) (e4 : Addr × oD) (e5 : Addr × oD) (ds : oDs) (hl : vs.length = 16) (hn : ¬ n1 = (16 : Int32)) (hp : ¬ n1 < 0) (hi : n1.toNatClampNeg < vs.length) :
    oMet l Z h0 lo (⟨"com/example/tanglemark/tanglemark/datalog/Ints", "add", "(I)V"⟩ : MethodName) prog_15_method_3_code 2 none [] ({ frames := 0, cells := 0, slots := 0, locals := 0 } : Room) #[(.ref c1), (.int x1)] (e0 :: e1 :: e2 :: e3 :: e4 :: e5 :: (d1, oA .int vs) :: (c1, oO cn0 [(fk0, (.ref s1)), (fk1, (.int (2147483639 : Int32))), (fk2, (.ref d1)), (fk3, (.int n1))]) :: ds) (fun (v : Option Value) (d : oDs) => (v = none ∧ (e0 :: e1 :: e2 :: e3 :: e4 :: e5 :: (d1, oA .int (vs.set n1.toNatClampNeg (.int x1))) :: (c1, oO cn0 [(fk0, (.ref s1)), (fk1, (.int (2147483639 : Int32))), (fk2, (.ref d1)), (fk3, (.int (n1 + (1 : Int32))))]) :: ds) = d)) := by
  refine oMet.of_body (plainFor_of_name pn_0) ?_
  intro p e s m below meth c T B hby hml hown hnm hret
  refine W_entry (ef_rm_ia3 m c1 x1) ?_
  refine W_aloadN B (hb hby d7_0) (pc' := 1) rfl rfl rfl ?_
  refine W_getfield B hown (host := "") (Or.inl (ow hw (i := 66) rfl)) Via.refl (hb hby d7_1) (pc' := 4) rfl (j := 7) rfl (q := 3) rfl ?_
  intro T B
  refine W_aloadN B (hb hby d7_4) (pc' := 5) rfl rfl rfl ?_
  refine W_getfield B hown (host := "") (Or.inl (ow hw (i := 38) rfl)) Via.refl (hb hby d7_5) (pc' := 8) rfl (j := 7) rfl (q := 2) rfl ?_
  intro T B
  refine W_arraylength B (hb hby d7_8) (pc' := 9) rfl (j := 6) rfl (z := (16 : Int32)) (by rw [hl]; rfl) ?_
  refine W_icmpY B (hb hby d7_9) (by decide) (pc' := 73) (by decide) (feq hn).2 ?_
  refine W_aloadN B (hb hby d7_73) (pc' := 74) rfl rfl rfl ?_
  refine W_getfield B hown (host := "") (Or.inl (ow hw (i := 38) rfl)) Via.refl (hb hby d7_74) (pc' := 77) rfl (j := 7) rfl (q := 2) rfl ?_
  intro T B
  refine W_aloadN B (hb hby d7_77) (pc' := 78) rfl rfl rfl ?_
  refine W_dup B (hb hby d7_78) (pc' := 79) rfl rfl ?_
  refine W_getfield B hown (host := "") (Or.inl (ow hw (i := 66) rfl)) Via.refl (hb hby d7_79) (pc' := 82) rfl (j := 7) rfl (q := 3) rfl ?_
  intro T B
  refine W_dupX1 B (hb hby d7_82) (pc' := 83) rfl rfl rfl ?_
  refine W_iconst B (hb hby d7_83) (pc' := 84) rfl (z := (1 : Int32)) (by decide) ?_
  refine W_iadd B (hb hby d7_84) (pc' := 85) rfl (z := (n1 + (1 : Int32))) rfl ?_
  refine W_putfield B hown (host := "") (Or.inl (ow hw (i := 66) rfl)) Via.refl (hb hby d7_85) (pc' := 88) rfl (Or.inl (ow hw (i := 60) rfl)) (ow hw (i := 20) rfl) (ty := .int) (by decide) rfl rfl (j := 7) rfl (q := 3) rfl (ds' := (e0 :: e1 :: e2 :: e3 :: e4 :: e5 :: (d1, oA .int vs) :: (c1, oO cn0 [(fk0, (.ref s1)), (fk1, (.int (2147483639 : Int32))), (fk2, (.ref d1)), (fk3, (.int (n1 + (1 : Int32))))]) :: ds)) rfl ?_
  intro T B
  refine W_iloadN B (hb hby d7_88) (pc' := 89) rfl rfl ?_
  refine W_iastore B (hb hby d7_89) (pc' := 90) rfl (i := 6) rfl hp hi (ds' := (e0 :: e1 :: e2 :: e3 :: e4 :: e5 :: (d1, oA .int (vs.set n1.toNatClampNeg (.int x1))) :: (c1, oO cn0 [(fk0, (.ref s1)), (fk1, (.int (2147483639 : Int32))), (fk2, (.ref d1)), (fk3, (.int (n1 + (1 : Int32))))]) :: ds)) rfl ?_
  intro T B
  refine W_retV B hret (hb hby d7_90) (by decide) ?_
  exact ⟨rfl, rfl⟩
theorem ef_rm_ia4 (m : MethodId) (x0 : Addr) (x1 : Int32) : entryFrame m #[(.ref x0), (.int x1)] 2 = mkF m 0 #[.val (.ref x0), .val (.int x1)] [] := by first | (simp [entryFrame, mkF, argsToLocals, Value.category]; done) | rfl
set_option maxRecDepth 65536 in
set_option maxHeartbeats 40000000 in
theorem rm_ia4 (l : Launch) (Z : State) (a0 : Array Value) (hw : ∀ d ∈ tables_1, d.before a0 Z = true) (h0 : Heap) {lo : Nat} (c1 : Addr) (d1 : Addr) (s1 : Addr) (x1 : Int32) (n1 : Int32) (vs : List Value) (e0 : Addr × oD) (e1 : Addr × oD) (e2 : Addr × oD) (e3 : Addr × oD) (ds : oDs) (hl : vs.length = 16) (hn : ¬ n1 = (16 : Int32)) (hp : ¬ n1 < 0) (hi : n1.toNatClampNeg < vs.length) :
    oMet l Z h0 lo (⟨"com/example/tanglemark/tanglemark/datalog/Ints", "add", "(I)V"⟩ : MethodName) prog_15_method_3_code 2 none [] ({ frames := 0, cells := 0, slots := 0, locals := 0 } : Room) #[(.ref c1), (.int x1)] (e0 :: e1 :: e2 :: e3 :: (d1, oA .int vs) :: (c1, oO cn0 [(fk0, (.ref s1)), (fk1, (.int (2147483639 : Int32))), (fk2, (.ref d1)), (fk3, (.int n1))]) :: ds) (fun (v : Option Value) (d : oDs) => (v = none ∧ (e0 :: e1 :: e2 :: e3 :: (d1, oA .int (vs.set n1.toNatClampNeg (.int x1))) :: (c1, oO cn0 [(fk0, (.ref s1)), (fk1, (.int (2147483639 : Int32))), (fk2, (.ref d1)), (fk3, (.int (n1 + (1 : Int32))))]) :: ds) = d)) := by
  refine oMet.of_body (plainFor_of_name pn_0) ?_
  intro p e s m below meth c T B hby hml hown hnm hret
  refine W_entry (ef_rm_ia4 m c1 x1) ?_
  refine W_aloadN B (hb hby d7_0) (pc' := 1) rfl rfl rfl ?_
  refine W_getfield B hown (host := "") (Or.inl (ow hw (i := 66) rfl)) Via.refl (hb hby d7_1) (pc' := 4) rfl (j := 5) rfl (q := 3) rfl ?_
  intro T B
  refine W_aloadN B (hb hby d7_4) (pc' := 5) rfl rfl rfl ?_
  refine W_getfield B hown (host := "") (Or.inl (ow hw (i := 38) rfl)) Via.refl (hb hby d7_5) (pc' := 8) rfl (j := 5) rfl (q := 2) rfl ?_
  intro T B
  refine W_arraylength B (hb hby d7_8) (pc' := 9) rfl (j := 4) rfl (z := (16 : Int32)) (by rw [hl]; rfl) ?_
  refine W_icmpY B (hb hby d7_9) (by decide) (pc' := 73) (by decide) (feq hn).2 ?_
  refine W_aloadN B (hb hby d7_73) (pc' := 74) rfl rfl rfl ?_
  refine W_getfield B hown (host := "") (Or.inl (ow hw (i := 38) rfl)) Via.refl (hb hby d7_74) (pc' := 77) rfl (j := 5) rfl (q := 2) rfl ?_
  intro T B
  refine W_aloadN B (hb hby d7_77) (pc' := 78) rfl rfl rfl ?_
  refine W_dup B (hb hby d7_78) (pc' := 79) rfl rfl ?_
  refine W_getfield B hown (host := "") (Or.inl (ow hw (i := 66) rfl)) Via.refl (hb hby d7_79) (pc' := 82) rfl (j := 5) rfl (q := 3) rfl ?_
  intro T B
  refine W_dupX1 B (hb hby d7_82) (pc' := 83) rfl rfl rfl ?_
  refine W_iconst B (hb hby d7_83) (pc' := 84) rfl (z := (1 : Int32)) (by decide) ?_
  refine W_iadd B (hb hby d7_84) (pc' := 85) rfl (z := (n1 + (1 : Int32))) rfl ?_
  refine W_putfield B hown (host := "") (Or.inl (ow hw (i := 66) rfl)) Via.refl (hb hby d7_85) (pc' := 88) rfl (Or.inl (ow hw (i := 60) rfl)) (ow hw (i := 20) rfl) (ty := .int) (by decide) rfl rfl (j := 5) rfl (q := 3) rfl (ds' := (e0 :: e1 :: e2 :: e3 :: (d1, oA .int vs) :: (c1, oO cn0 [(fk0, (.ref s1)), (fk1, (.int (2147483639 : Int32))), (fk2, (.ref d1)), (fk3, (.int (n1 + (1 : Int32))))]) :: ds)) rfl ?_
  intro T B
  refine W_iloadN B (hb hby d7_88) (pc' := 89) rfl rfl ?_
  refine W_iastore B (hb hby d7_89) (pc' := 90) rfl (i := 4) rfl hp hi (ds' := (e0 :: e1 :: e2 :: e3 :: (d1, oA .int (vs.set n1.toNatClampNeg (.int x1))) :: (c1, oO cn0 [(fk0, (.ref s1)), (fk1, (.int (2147483639 : Int32))), (fk2, (.ref d1)), (fk3, (.int (n1 + (1 : Int32))))]) :: ds)) rfl ?_
  intro T B
  refine W_retV B hret (hb hby d7_90) (by decide) ?_
  exact ⟨rfl, rfl⟩
theorem ef_rm_ia5 (m : MethodId) (x0 : Addr) (x1 : Int32) : entryFrame m #[(.ref x0), (.int x1)] 2 = mkF m 0 #[.val (.ref x0), .val (.int x1)] [] := by first | (simp [entryFrame, mkF, argsToLocals, Value.category]; done) | rfl
set_option maxRecDepth 65536 in
set_option maxHeartbeats 40000000 in
theorem rm_ia5 (l : Launch) (Z : State) (a0 : Array Value) (hw : ∀ d ∈ tables_1, d.before a0 Z = true) (h0 : Heap) {lo : Nat} (c1 : Addr) (d1 : Addr) (s1 : Addr) (x1 : Int32) (n1 : Int32) (vs : List Value) (e0 : Addr × oD) (e1 : Addr × oD) (ds : oDs) (hl : vs.length = 16) (hn : ¬ n1 = (16 : Int32)) (hp : ¬ n1 < 0) (hi : n1.toNatClampNeg < vs.length) :
    oMet l Z h0 lo (⟨"com/example/tanglemark/tanglemark/datalog/Ints", "add", "(I)V"⟩ : MethodName) prog_15_method_3_code 2 none [] ({ frames := 0, cells := 0, slots := 0, locals := 0 } : Room) #[(.ref c1), (.int x1)] (e0 :: e1 :: (d1, oA .int vs) :: (c1, oO cn0 [(fk0, (.ref s1)), (fk1, (.int (2147483639 : Int32))), (fk2, (.ref d1)), (fk3, (.int n1))]) :: ds) (fun (v : Option Value) (d : oDs) => (v = none ∧ (e0 :: e1 :: (d1, oA .int (vs.set n1.toNatClampNeg (.int x1))) :: (c1, oO cn0 [(fk0, (.ref s1)), (fk1, (.int (2147483639 : Int32))), (fk2, (.ref d1)), (fk3, (.int (n1 + (1 : Int32))))]) :: ds) = d)) := by
  refine oMet.of_body (plainFor_of_name pn_0) ?_
  intro p e s m below meth c T B hby hml hown hnm hret
  refine W_entry (ef_rm_ia5 m c1 x1) ?_
  refine W_aloadN B (hb hby d7_0) (pc' := 1) rfl rfl rfl ?_
  refine W_getfield B hown (host := "") (Or.inl (ow hw (i := 66) rfl)) Via.refl (hb hby d7_1) (pc' := 4) rfl (j := 3) rfl (q := 3) rfl ?_
  intro T B
  refine W_aloadN B (hb hby d7_4) (pc' := 5) rfl rfl rfl ?_
  refine W_getfield B hown (host := "") (Or.inl (ow hw (i := 38) rfl)) Via.refl (hb hby d7_5) (pc' := 8) rfl (j := 3) rfl (q := 2) rfl ?_
  intro T B
  refine W_arraylength B (hb hby d7_8) (pc' := 9) rfl (j := 2) rfl (z := (16 : Int32)) (by rw [hl]; rfl) ?_
  refine W_icmpY B (hb hby d7_9) (by decide) (pc' := 73) (by decide) (feq hn).2 ?_
  refine W_aloadN B (hb hby d7_73) (pc' := 74) rfl rfl rfl ?_
  refine W_getfield B hown (host := "") (Or.inl (ow hw (i := 38) rfl)) Via.refl (hb hby d7_74) (pc' := 77) rfl (j := 3) rfl (q := 2) rfl ?_
  intro T B
  refine W_aloadN B (hb hby d7_77) (pc' := 78) rfl rfl rfl ?_
  refine W_dup B (hb hby d7_78) (pc' := 79) rfl rfl ?_
  refine W_getfield B hown (host := "") (Or.inl (ow hw (i := 66) rfl)) Via.refl (hb hby d7_79) (pc' := 82) rfl (j := 3) rfl (q := 3) rfl ?_
  intro T B
  refine W_dupX1 B (hb hby d7_82) (pc' := 83) rfl rfl rfl ?_
  refine W_iconst B (hb hby d7_83) (pc' := 84) rfl (z := (1 : Int32)) (by decide) ?_
  refine W_iadd B (hb hby d7_84) (pc' := 85) rfl (z := (n1 + (1 : Int32))) rfl ?_
  refine W_putfield B hown (host := "") (Or.inl (ow hw (i := 66) rfl)) Via.refl (hb hby d7_85) (pc' := 88) rfl (Or.inl (ow hw (i := 60) rfl)) (ow hw (i := 20) rfl) (ty := .int) (by decide) rfl rfl (j := 3) rfl (q := 3) rfl (ds' := (e0 :: e1 :: (d1, oA .int vs) :: (c1, oO cn0 [(fk0, (.ref s1)), (fk1, (.int (2147483639 : Int32))), (fk2, (.ref d1)), (fk3, (.int (n1 + (1 : Int32))))]) :: ds)) rfl ?_
  intro T B
  refine W_iloadN B (hb hby d7_88) (pc' := 89) rfl rfl ?_
  refine W_iastore B (hb hby d7_89) (pc' := 90) rfl (i := 2) rfl hp hi (ds' := (e0 :: e1 :: (d1, oA .int (vs.set n1.toNatClampNeg (.int x1))) :: (c1, oO cn0 [(fk0, (.ref s1)), (fk1, (.int (2147483639 : Int32))), (fk2, (.ref d1)), (fk3, (.int (n1 + (1 : Int32))))]) :: ds)) rfl ?_
  intro T B
  refine W_retV B hret (hb hby d7_90) (by decide) ?_
  exact ⟨rfl, rfl⟩
theorem ef_rm_ia6 (m : MethodId) (x0 : Addr) (x1 : Int32) : entryFrame m #[(.ref x0), (.int x1)] 2 = mkF m 0 #[.val (.ref x0), .val (.int x1)] [] := by first | (simp [entryFrame, mkF, argsToLocals, Value.category]; done) | rfl
set_option maxRecDepth 65536 in
set_option maxHeartbeats 40000000 in
theorem rm_ia6 (l : Launch) (Z : State) (a0 : Array Value) (hw : ∀ d ∈ tables_1, d.before a0 Z = true) (h0 : Heap) {lo : Nat} (c1 : Addr) (d1 : Addr) (s1 : Addr) (x1 : Int32) (n1 : Int32) (vs : List Value) (ds : oDs) (hl : vs.length = 16) (hn : ¬ n1 = (16 : Int32)) (hp : ¬ n1 < 0) (hi : n1.toNatClampNeg < vs.length) :
    oMet l Z h0 lo (⟨"com/example/tanglemark/tanglemark/datalog/Ints", "add", "(I)V"⟩ : MethodName) prog_15_method_3_code 2 none [] ({ frames := 0, cells := 0, slots := 0, locals := 0 } : Room) #[(.ref c1), (.int x1)] ((d1, oA .int vs) :: (c1, oO cn0 [(fk0, (.ref s1)), (fk1, (.int (2147483639 : Int32))), (fk2, (.ref d1)), (fk3, (.int n1))]) :: ds) (fun (v : Option Value) (d : oDs) => (v = none ∧ ((d1, oA .int (vs.set n1.toNatClampNeg (.int x1))) :: (c1, oO cn0 [(fk0, (.ref s1)), (fk1, (.int (2147483639 : Int32))), (fk2, (.ref d1)), (fk3, (.int (n1 + (1 : Int32))))]) :: ds) = d)) := by
  refine oMet.of_body (plainFor_of_name pn_0) ?_
  intro p e s m below meth c T B hby hml hown hnm hret
  refine W_entry (ef_rm_ia6 m c1 x1) ?_
  refine W_aloadN B (hb hby d7_0) (pc' := 1) rfl rfl rfl ?_
  refine W_getfield B hown (host := "") (Or.inl (ow hw (i := 66) rfl)) Via.refl (hb hby d7_1) (pc' := 4) rfl (j := 1) rfl (q := 3) rfl ?_
  intro T B
  refine W_aloadN B (hb hby d7_4) (pc' := 5) rfl rfl rfl ?_
  refine W_getfield B hown (host := "") (Or.inl (ow hw (i := 38) rfl)) Via.refl (hb hby d7_5) (pc' := 8) rfl (j := 1) rfl (q := 2) rfl ?_
  intro T B
  refine W_arraylength B (hb hby d7_8) (pc' := 9) rfl (j := 0) rfl (z := (16 : Int32)) (by rw [hl]; rfl) ?_
  refine W_icmpY B (hb hby d7_9) (by decide) (pc' := 73) (by decide) (feq hn).2 ?_
  refine W_aloadN B (hb hby d7_73) (pc' := 74) rfl rfl rfl ?_
  refine W_getfield B hown (host := "") (Or.inl (ow hw (i := 38) rfl)) Via.refl (hb hby d7_74) (pc' := 77) rfl (j := 1) rfl (q := 2) rfl ?_
  intro T B
  refine W_aloadN B (hb hby d7_77) (pc' := 78) rfl rfl rfl ?_
  refine W_dup B (hb hby d7_78) (pc' := 79) rfl rfl ?_
  refine W_getfield B hown (host := "") (Or.inl (ow hw (i := 66) rfl)) Via.refl (hb hby d7_79) (pc' := 82) rfl (j := 1) rfl (q := 3) rfl ?_
  intro T B
  refine W_dupX1 B (hb hby d7_82) (pc' := 83) rfl rfl rfl ?_
  refine W_iconst B (hb hby d7_83) (pc' := 84) rfl (z := (1 : Int32)) (by decide) ?_
  refine W_iadd B (hb hby d7_84) (pc' := 85) rfl (z := (n1 + (1 : Int32))) rfl ?_
  refine W_putfield B hown (host := "") (Or.inl (ow hw (i := 66) rfl)) Via.refl (hb hby d7_85) (pc' := 88) rfl (Or.inl (ow hw (i := 60) rfl)) (ow hw (i := 20) rfl) (ty := .int) (by decide) rfl rfl (j := 1) rfl (q := 3) rfl (ds' := ((d1, oA .int vs) :: (c1, oO cn0 [(fk0, (.ref s1)), (fk1, (.int (2147483639 : Int32))), (fk2, (.ref d1)), (fk3, (.int (n1 + (1 : Int32))))]) :: ds)) rfl ?_
  intro T B
  refine W_iloadN B (hb hby d7_88) (pc' := 89) rfl rfl ?_
  refine W_iastore B (hb hby d7_89) (pc' := 90) rfl (i := 0) rfl hp hi (ds' := ((d1, oA .int (vs.set n1.toNatClampNeg (.int x1))) :: (c1, oO cn0 [(fk0, (.ref s1)), (fk1, (.int (2147483639 : Int32))), (fk2, (.ref d1)), (fk3, (.int (n1 + (1 : Int32))))]) :: ds)) rfl ?_
  intro T B
  refine W_retV B hret (hb hby d7_90) (by decide) ?_
  exact ⟨rfl, rfl⟩
theorem d8_0 : decode prog_51_method_3_code 0 = .ok (.aload_n 0, 1) := by decide +kernel
theorem d8_1 : decode prog_51_method_3_code 1 = .ok (.getfield 24, 3) := by decide +kernel
theorem d8_4 : decode prog_51_method_3_code 4 = .ok (.getfield 39, 3) := by decide +kernel
theorem d8_7 : decode prog_51_method_3_code 7 = .ok (.iload_n 1, 1) := by decide +kernel
theorem d8_8 : decode prog_51_method_3_code 8 = .ok (.iaload, 1) := by decide +kernel
theorem d8_9 : decode prog_51_method_3_code 9 = .ok (.ireturn, 1) := by decide +kernel
theorem ef_rm_size (m : MethodId) (x0 : Addr) (x1 : Int32) : entryFrame m #[(.ref x0), (.int x1)] 2 = mkF m 0 #[.val (.ref x0), .val (.int x1)] [] := by first | (simp [entryFrame, mkF, argsToLocals, Value.category]; done) | rfl
set_option maxRecDepth 65536 in
set_option maxHeartbeats 40000000 in
theorem rm_size (l : Launch) (Z : State) (a0 : Array Value) (hw : ∀ d ∈ tables_1, d.before a0 Z = true) (h0 : Heap) {lo : Nat} (a1 : Addr) (i1 : Int32) (c0 : Addr) (c1 : Addr) (c2 : Addr) (c3 : Addr) (c4 : Addr) (c5 : Addr) (c6 : Addr) (d3 : Addr) (s1 : Addr) (n1 : Int32) (vs : List Value) (x1 : Int32) (e0 : Addr × oD) (e1 : Addr × oD) (e2 : Addr × oD) (e3 : Addr × oD) (e4 : Addr × oD) (e5 : Addr × oD) (g0 : Addr × oD) (g1 : Addr × oD) (g2 : Addr × oD) (g3 : Addr × oD) (g4 : Addr × oD) (g5 : Addr × oD) (ds : oDs) (hp : ¬ i1 < 0) (hv : vs[i1.toNatClampNeg]? = some (.int x1)) :
    oMet l Z h0 lo (⟨"com/example/tanglemark/tanglemark/datalog/SharedSets", "size", "(I)I"⟩ : MethodName) prog_51_method_3_code 2 (some .int) [] ({ frames := 0, cells := 0, slots := 0, locals := 0 } : Room) #[(.ref a1), (.int i1)] (e0 :: e1 :: e2 :: e3 :: e4 :: e5 :: (d3, oA .int vs) :: (c3, oO cn0 [(fk0, (.ref s1)), (fk1, (.int (2147483639 : Int32))), (fk2, (.ref d3)), (fk3, (.int n1))]) :: g0 :: g1 :: g2 :: g3 :: g4 :: g5 :: (a1, oO cn1 [(fk4, (.ref c0)), (fk5, (.ref c1)), (fk6, (.ref c2)), (fk7, (.ref c3)), (fk8, (.ref c4)), (fk9, (.ref c5)), (fk10, (.ref c6))]) :: ds) (fun (v : Option Value) (d : oDs) => (v = some (.int x1) ∧ (e0 :: e1 :: e2 :: e3 :: e4 :: e5 :: (d3, oA .int vs) :: (c3, oO cn0 [(fk0, (.ref s1)), (fk1, (.int (2147483639 : Int32))), (fk2, (.ref d3)), (fk3, (.int n1))]) :: g0 :: g1 :: g2 :: g3 :: g4 :: g5 :: (a1, oO cn1 [(fk4, (.ref c0)), (fk5, (.ref c1)), (fk6, (.ref c2)), (fk7, (.ref c3)), (fk8, (.ref c4)), (fk9, (.ref c5)), (fk10, (.ref c6))]) :: ds) = d)) := by
  refine oMet.of_body (plainFor_of_name pn_1) ?_
  intro p e s m below meth c T B hby hml hown hnm hret
  refine W_entry (ef_rm_size m a1 i1) ?_
  refine W_aloadN B (hb hby d8_0) (pc' := 1) rfl rfl rfl ?_
  refine W_getfield B hown (host := "") (Or.inl (ow hw (i := 46) rfl)) Via.refl (hb hby d8_1) (pc' := 4) rfl (j := 14) rfl (q := 3) rfl ?_
  intro T B
  refine W_getfield B hown (host := "") (Or.inl (ow hw (i := 67) rfl)) Via.refl (hb hby d8_4) (pc' := 7) rfl (j := 7) rfl (q := 2) rfl ?_
  intro T B
  refine W_iloadN B (hb hby d8_7) (pc' := 8) rfl rfl ?_
  refine W_iaload B (hb hby d8_8) (pc' := 9) rfl (i := 6) rfl hp (v := (.int x1)) hv ?_
  refine W_retI B hret (hb hby d8_9) (by decide) ?_
  exact ⟨rfl, rfl⟩
theorem d6_0 : decode prog_51_method_2_code 0 = .ok (.aload_n 0, 1) := by decide +kernel
theorem d6_1 : decode prog_51_method_2_code 1 = .ok (.getfield 12, 3) := by decide +kernel
theorem d6_4 : decode prog_51_method_2_code 4 = .ok (.getfield 36, 3) := by decide +kernel
theorem d6_7 : decode prog_51_method_2_code 7 = .ok (.istore 4, 2) := by decide +kernel
theorem d6_9 : decode prog_51_method_2_code 9 = .ok (.iload_n 1, 1) := by decide +kernel
theorem d6_10 : decode prog_51_method_2_code 10 = .ok (.ifCond .lt 21, 3) := by decide +kernel
theorem d6_31 : decode prog_51_method_2_code 31 = .ok (.iconst 0, 1) := by decide +kernel
theorem d6_32 : decode prog_51_method_2_code 32 = .ok (.istore 5, 2) := by decide +kernel
theorem d6_34 : decode prog_51_method_2_code 34 = .ok (.iload_n 1, 1) := by decide +kernel
theorem d6_35 : decode prog_51_method_2_code 35 = .ok (.ifCond .lt 41, 3) := by decide +kernel
theorem d6_76 : decode prog_51_method_2_code 76 = .ok (.iconst 0, 1) := by decide +kernel
theorem d6_77 : decode prog_51_method_2_code 77 = .ok (.istore 6, 2) := by decide +kernel
theorem d6_79 : decode prog_51_method_2_code 79 = .ok (.iload 6, 2) := by decide +kernel
theorem d6_81 : decode prog_51_method_2_code 81 = .ok (.iload_n 3, 1) := by decide +kernel
theorem d6_82 : decode prog_51_method_2_code 82 = .ok (.if_icmp .ge 20, 3) := by decide +kernel
theorem d6_85 : decode prog_51_method_2_code 85 = .ok (.aload_n 0, 1) := by decide +kernel
theorem d6_86 : decode prog_51_method_2_code 86 = .ok (.getfield 12, 3) := by decide +kernel
theorem d6_89 : decode prog_51_method_2_code 89 = .ok (.aload_n 2, 1) := by decide +kernel
theorem d6_90 : decode prog_51_method_2_code 90 = .ok (.iload 6, 2) := by decide +kernel
theorem d6_92 : decode prog_51_method_2_code 92 = .ok (.iaload, 1) := by decide +kernel
theorem d6_93 : decode prog_51_method_2_code 93 = .ok (.invokevirtual 49, 3) := by decide +kernel
theorem pd_3 : parseMethodDescriptor "(I)V" = some ⟨[.int], none⟩ := by decide +kernel
theorem d6_96 : decode prog_51_method_2_code 96 = .ok (.iinc 6 1, 3) := by decide +kernel
theorem d6_99 : decode prog_51_method_2_code 99 = .ok (.goto (-20), 3) := by decide +kernel
theorem d6_102 : decode prog_51_method_2_code 102 = .ok (.iload 5, 2) := by decide +kernel
theorem d6_104 : decode prog_51_method_2_code 104 = .ok (.ifCond .eq 11, 3) := by decide +kernel
theorem d6_115 : decode prog_51_method_2_code 115 = .ok (.iconst 0, 1) := by decide +kernel
theorem d6_116 : decode prog_51_method_2_code 116 = .ok (.istore 6, 2) := by decide +kernel
theorem d6_118 : decode prog_51_method_2_code 118 = .ok (.aload_n 0, 1) := by decide +kernel
theorem d6_119 : decode prog_51_method_2_code 119 = .ok (.getfield 24, 3) := by decide +kernel
theorem d6_122 : decode prog_51_method_2_code 122 = .ok (.getfield 36, 3) := by decide +kernel
theorem d6_125 : decode prog_51_method_2_code 125 = .ok (.istore 7, 2) := by decide +kernel
theorem d6_127 : decode prog_51_method_2_code 127 = .ok (.aload_n 0, 1) := by decide +kernel
theorem d6_128 : decode prog_51_method_2_code 128 = .ok (.getfield 30, 3) := by decide +kernel
theorem d6_131 : decode prog_51_method_2_code 131 = .ok (.iload 5, 2) := by decide +kernel
theorem d6_133 : decode prog_51_method_2_code 133 = .ok (.ifCond .eq 15, 3) := by decide +kernel
theorem d6_148 : decode prog_51_method_2_code 148 = .ok (.iload 7, 2) := by decide +kernel
theorem d6_150 : decode prog_51_method_2_code 150 = .ok (.invokevirtual 49, 3) := by decide +kernel
theorem d6_153 : decode prog_51_method_2_code 153 = .ok (.aload_n 0, 1) := by decide +kernel
theorem d6_154 : decode prog_51_method_2_code 154 = .ok (.getfield 18, 3) := by decide +kernel
theorem d6_157 : decode prog_51_method_2_code 157 = .ok (.iload 4, 2) := by decide +kernel
theorem d6_159 : decode prog_51_method_2_code 159 = .ok (.invokevirtual 49, 3) := by decide +kernel
theorem d6_162 : decode prog_51_method_2_code 162 = .ok (.aload_n 0, 1) := by decide +kernel
theorem d6_163 : decode prog_51_method_2_code 163 = .ok (.getfield 21, 3) := by decide +kernel
theorem d6_166 : decode prog_51_method_2_code 166 = .ok (.iload 6, 2) := by decide +kernel
theorem d6_168 : decode prog_51_method_2_code 168 = .ok (.invokevirtual 49, 3) := by decide +kernel
theorem d6_171 : decode prog_51_method_2_code 171 = .ok (.aload_n 0, 1) := by decide +kernel
theorem d6_172 : decode prog_51_method_2_code 172 = .ok (.getfield 24, 3) := by decide +kernel
theorem d6_175 : decode prog_51_method_2_code 175 = .ok (.iload 6, 2) := by decide +kernel
theorem d6_177 : decode prog_51_method_2_code 177 = .ok (.aload_n 0, 1) := by decide +kernel
theorem d6_178 : decode prog_51_method_2_code 178 = .ok (.getfield 12, 3) := by decide +kernel
theorem d6_181 : decode prog_51_method_2_code 181 = .ok (.getfield 36, 3) := by decide +kernel
theorem d6_184 : decode prog_51_method_2_code 184 = .ok (.iadd, 1) := by decide +kernel
theorem d6_185 : decode prog_51_method_2_code 185 = .ok (.iload 4, 2) := by decide +kernel
theorem d6_187 : decode prog_51_method_2_code 187 = .ok (.isub, 1) := by decide +kernel
theorem d6_188 : decode prog_51_method_2_code 188 = .ok (.invokevirtual 49, 3) := by decide +kernel
theorem d6_191 : decode prog_51_method_2_code 191 = .ok (.aload_n 0, 1) := by decide +kernel
theorem d6_192 : decode prog_51_method_2_code 192 = .ok (.getfield 27, 3) := by decide +kernel
theorem d6_195 : decode prog_51_method_2_code 195 = .ok (.iload 5, 2) := by decide +kernel
theorem d6_197 : decode prog_51_method_2_code 197 = .ok (.ifCond .eq 7, 3) := by decide +kernel
theorem d6_204 : decode prog_51_method_2_code 204 = .ok (.iconst (-1), 1) := by decide +kernel
theorem d6_205 : decode prog_51_method_2_code 205 = .ok (.invokevirtual 49, 3) := by decide +kernel
theorem d6_208 : decode prog_51_method_2_code 208 = .ok (.aload_n 0, 1) := by decide +kernel
theorem d6_209 : decode prog_51_method_2_code 209 = .ok (.getfield 33, 3) := by decide +kernel
theorem d6_212 : decode prog_51_method_2_code 212 = .ok (.iload 5, 2) := by decide +kernel
theorem d6_214 : decode prog_51_method_2_code 214 = .ok (.ifCond .eq 17, 3) := by decide +kernel
theorem d6_231 : decode prog_51_method_2_code 231 = .ok (.iconst 1, 1) := by decide +kernel
theorem d6_232 : decode prog_51_method_2_code 232 = .ok (.invokevirtual 49, 3) := by decide +kernel
theorem d6_235 : decode prog_51_method_2_code 235 = .ok (.iload 7, 2) := by decide +kernel
theorem d6_237 : decode prog_51_method_2_code 237 = .ok (.ireturn, 1) := by decide +kernel
theorem ef_rm_add0m (m : MethodId) (x0 : Addr) (x2 : Addr) (x3 : Int32) : entryFrame m #[(.ref x0), (.int (-1 : Int32)), (.ref x2), (.int x3)] 8 = mkF m 0 #[.val (.ref x0), .val (.int (-1 : Int32)), .val (.ref x2), .val (.int x3), .unset, .unset, .unset, .unset] [] := by first | (simp [entryFrame, mkF, argsToLocals, Value.category]; done) | rfl
set_option maxRecDepth 65536 in
set_option maxHeartbeats 40000000 in
theorem rm_add0m (l : Launch) (Z : State) (a0 : Array Value) (hw : ∀ d ∈ tables_1, d.before a0 Z = true) (h0 : Heap) {lo : Nat} (a1 : Addr) (o1 : Addr) (s1 : Addr) (c0 : Addr) (d0 : Addr) (c1 : Addr) (d1 : Addr) (c2 : Addr) (d2 : Addr) (c3 : Addr) (d3 : Addr) (c4 : Addr) (d4 : Addr) (c5 : Addr) (d5 : Addr) (c6 : Addr) (d6 : Addr) (q1 : Int32) (n1 : Int32) (vs : List Value) (w0 : Int32) (w1 : Int32) (w2 : Int32) (g0 : Addr × oD) (g1 : Addr × oD) (ds : oDs) (hvs : vs.length = 16) (hn : 0 ≤ n1.toInt ∧ n1.toInt ≤ 6) (hq : 0 ≤ q1.toInt ∧ q1.toInt ≤ 3) :
    oMet l Z h0 lo (⟨"com/example/tanglemark/tanglemark/datalog/SharedSets", "add", "(I[II)I"⟩ : MethodName) prog_51_method_2_code 8 (some .int) [] ({ frames := 1, cells := 0, slots := 0, locals := 13 } : Room) #[(.ref a1), (.int (-1 : Int32)), (.ref o1), (.int q1)] ((d6, oA .int [o0, o0, o0, o0, o0, o0, o0, o0, o0, o0, o0, o0, o0, o0, o0, o0]) :: (c6, oO cn0 [(fk0, (.ref s1)), (fk1, (.int (2147483639 : Int32))), (fk2, (.ref d6)), (fk3, (.int (0 : Int32)))]) :: (d5, oA .int [o0, o0, o0, o0, o0, o0, o0, o0, o0, o0, o0, o0, o0, o0, o0, o0]) :: (c5, oO cn0 [(fk0, (.ref s1)), (fk1, (.int (2147483639 : Int32))), (fk2, (.ref d5)), (fk3, (.int (0 : Int32)))]) :: (d4, oA .int [o0, o0, o0, o0, o0, o0, o0, o0, o0, o0, o0, o0, o0, o0, o0, o0]) :: (c4, oO cn0 [(fk0, (.ref s1)), (fk1, (.int (2147483639 : Int32))), (fk2, (.ref d4)), (fk3, (.int (0 : Int32)))]) :: (d3, oA .int [o0, o0, o0, o0, o0, o0, o0, o0, o0, o0, o0, o0, o0, o0, o0, o0]) :: (c3, oO cn0 [(fk0, (.ref s1)), (fk1, (.int (2147483639 : Int32))), (fk2, (.ref d3)), (fk3, (.int (0 : Int32)))]) :: (d2, oA .int [o0, o0, o0, o0, o0, o0, o0, o0, o0, o0, o0, o0, o0, o0, o0, o0]) :: (c2, oO cn0 [(fk0, (.ref s1)), (fk1, (.int (2147483639 : Int32))), (fk2, (.ref d2)), (fk3, (.int (0 : Int32)))]) :: (d1, oA .int [o0, o0, o0, o0, o0, o0, o0, o0, o0, o0, o0, o0, o0, o0, o0, o0]) :: (c1, oO cn0 [(fk0, (.ref s1)), (fk1, (.int (2147483639 : Int32))), (fk2, (.ref d1)), (fk3, (.int (0 : Int32)))]) :: (d0, oA .int vs) :: (c0, oO cn0 [(fk0, (.ref s1)), (fk1, (.int (2147483639 : Int32))), (fk2, (.ref d0)), (fk3, (.int n1))]) :: (a1, oO cn1 [(fk4, (.ref c0)), (fk5, (.ref c1)), (fk6, (.ref c2)), (fk7, (.ref c3)), (fk8, (.ref c4)), (fk9, (.ref c5)), (fk10, (.ref c6))]) :: g0 :: g1 :: (o1, oA .int [(.int w0), (.int w1), (.int w2)]) :: ds) (fun (v : Option Value) (d : oDs) => (∃ (us : List Value) (n2 : Int32), (us.length = 16) ∧ (n2.toInt = n1.toInt + q1.toInt) ∧ v = some (.int (0 : Int32)) ∧ ((d6, oA .int [(.int (1 : Int32)), o0, o0, o0, o0, o0, o0, o0, o0, o0, o0, o0, o0, o0, o0, o0]) :: (c6, oO cn0 [(fk0, (.ref s1)), (fk1, (.int (2147483639 : Int32))), (fk2, (.ref d6)), (fk3, (.int (1 : Int32)))]) :: (d5, oA .int [o0, o0, o0, o0, o0, o0, o0, o0, o0, o0, o0, o0, o0, o0, o0, o0]) :: (c5, oO cn0 [(fk0, (.ref s1)), (fk1, (.int (2147483639 : Int32))), (fk2, (.ref d5)), (fk3, (.int (1 : Int32)))]) :: (d4, oA .int [(.int (-1 : Int32)), o0, o0, o0, o0, o0, o0, o0, o0, o0, o0, o0, o0, o0, o0, o0]) :: (c4, oO cn0 [(fk0, (.ref s1)), (fk1, (.int (2147483639 : Int32))), (fk2, (.ref d4)), (fk3, (.int (1 : Int32)))]) :: (d3, oA .int [(.int (((0 : Int32) + n2) - n1)), o0, o0, o0, o0, o0, o0, o0, o0, o0, o0, o0, o0, o0, o0, o0]) :: (c3, oO cn0 [(fk0, (.ref s1)), (fk1, (.int (2147483639 : Int32))), (fk2, (.ref d3)), (fk3, (.int (1 : Int32)))]) :: (d2, oA .int [o0, o0, o0, o0, o0, o0, o0, o0, o0, o0, o0, o0, o0, o0, o0, o0]) :: (c2, oO cn0 [(fk0, (.ref s1)), (fk1, (.int (2147483639 : Int32))), (fk2, (.ref d2)), (fk3, (.int (1 : Int32)))]) :: (d1, oA .int [(.int n1), o0, o0, o0, o0, o0, o0, o0, o0, o0, o0, o0, o0, o0, o0, o0]) :: (c1, oO cn0 [(fk0, (.ref s1)), (fk1, (.int (2147483639 : Int32))), (fk2, (.ref d1)), (fk3, (.int (1 : Int32)))]) :: (d0, oA .int us) :: (c0, oO cn0 [(fk0, (.ref s1)), (fk1, (.int (2147483639 : Int32))), (fk2, (.ref d0)), (fk3, (.int n2))]) :: (a1, oO cn1 [(fk4, (.ref c0)), (fk5, (.ref c1)), (fk6, (.ref c2)), (fk7, (.ref c3)), (fk8, (.ref c4)), (fk9, (.ref c5)), (fk10, (.ref c6))]) :: g0 :: g1 :: (o1, oA .int [(.int w0), (.int w1), (.int w2)]) :: ds) = d)) := by
  refine oMet.of_body (plainFor_of_name pn_1) ?_
  intro p e s m below meth c T B hby hml hown hnm hret
  refine W_entry (ef_rm_add0m m a1 o1 q1) ?_
  refine W_aloadN B (hb hby d6_0) (pc' := 1) rfl rfl rfl ?_
  refine W_getfield B hown (host := "") (Or.inl (ow hw (i := 40) rfl)) Via.refl (hb hby d6_1) (pc' := 4) rfl (j := 14) rfl (q := 0) rfl ?_
  intro T B
  refine W_getfield B hown (host := "") (Or.inl (ow hw (i := 59) rfl)) Via.refl (hb hby d6_4) (pc' := 7) rfl (j := 13) rfl (q := 3) rfl ?_
  intro T B
  refine W_istore B (hb hby d6_7) (pc' := 9) rfl (v := n1) rfl (ls' := #[.val (.ref a1), .val (.int (-1 : Int32)), .val (.ref o1), .val (.int q1), .val (.int n1), .unset, .unset, .unset]) rfl ?_
  refine W_iloadN B (hb hby d6_9) (pc' := 10) rfl rfl ?_
  refine W_ifY B (hb hby d6_10) (by decide) (pc' := 31) (by decide) (by decide) ?_
  refine W_iconst B (hb hby d6_31) (pc' := 32) rfl (z := (0 : Int32)) (by decide) ?_
  refine W_istore B (hb hby d6_32) (pc' := 34) rfl (v := (0 : Int32)) rfl (ls' := #[.val (.ref a1), .val (.int (-1 : Int32)), .val (.ref o1), .val (.int q1), .val (.int n1), .val (.int (0 : Int32)), .unset, .unset]) rfl ?_
  refine W_iloadN B (hb hby d6_34) (pc' := 35) rfl rfl ?_
  refine W_ifY B (hb hby d6_35) (by decide) (pc' := 76) (by decide) (by decide) ?_
  refine oJoinD B 0 0 (fun z : List Value × Int32 × Int32 => z.1.length = 16 ∧ z.2.1.toInt = n1.toInt + q1.toInt) (fun z => (mkF m 102 #[.val (.ref a1), .val (.int (-1 : Int32)), .val (.ref o1), .val (.int q1), .val (.int n1), .val (.int (0 : Int32)), .val (.int z.2.2), .unset] [])) (fun z => ((d6, oA .int [o0, o0, o0, o0, o0, o0, o0, o0, o0, o0, o0, o0, o0, o0, o0, o0]) :: (c6, oO cn0 [(fk0, (.ref s1)), (fk1, (.int (2147483639 : Int32))), (fk2, (.ref d6)), (fk3, (.int (0 : Int32)))]) :: (d5, oA .int [o0, o0, o0, o0, o0, o0, o0, o0, o0, o0, o0, o0, o0, o0, o0, o0]) :: (c5, oO cn0 [(fk0, (.ref s1)), (fk1, (.int (2147483639 : Int32))), (fk2, (.ref d5)), (fk3, (.int (0 : Int32)))]) :: (d4, oA .int [o0, o0, o0, o0, o0, o0, o0, o0, o0, o0, o0, o0, o0, o0, o0, o0]) :: (c4, oO cn0 [(fk0, (.ref s1)), (fk1, (.int (2147483639 : Int32))), (fk2, (.ref d4)), (fk3, (.int (0 : Int32)))]) :: (d3, oA .int [o0, o0, o0, o0, o0, o0, o0, o0, o0, o0, o0, o0, o0, o0, o0, o0]) :: (c3, oO cn0 [(fk0, (.ref s1)), (fk1, (.int (2147483639 : Int32))), (fk2, (.ref d3)), (fk3, (.int (0 : Int32)))]) :: (d2, oA .int [o0, o0, o0, o0, o0, o0, o0, o0, o0, o0, o0, o0, o0, o0, o0, o0]) :: (c2, oO cn0 [(fk0, (.ref s1)), (fk1, (.int (2147483639 : Int32))), (fk2, (.ref d2)), (fk3, (.int (0 : Int32)))]) :: (d1, oA .int [o0, o0, o0, o0, o0, o0, o0, o0, o0, o0, o0, o0, o0, o0, o0, o0]) :: (c1, oO cn0 [(fk0, (.ref s1)), (fk1, (.int (2147483639 : Int32))), (fk2, (.ref d1)), (fk3, (.int (0 : Int32)))]) :: (d0, oA .int z.1) :: (c0, oO cn0 [(fk0, (.ref s1)), (fk1, (.int (2147483639 : Int32))), (fk2, (.ref d0)), (fk3, (.int z.2.1))]) :: (a1, oO cn1 [(fk4, (.ref c0)), (fk5, (.ref c1)), (fk6, (.ref c2)), (fk7, (.ref c3)), (fk8, (.ref c4)), (fk9, (.ref c5)), (fk10, (.ref c6))]) :: g0 :: g1 :: (o1, oA .int [(.int w0), (.int w1), (.int w2)]) :: ds)) ?_ ?_
  · intro kJ
    refine W_iconst B (hb hby d6_76) (pc' := 77) rfl (z := (0 : Int32)) (by decide) ?_
    refine W_istore B (hb hby d6_77) (pc' := 79) rfl (v := (0 : Int32)) rfl (ls' := #[.val (.ref a1), .val (.int (-1 : Int32)), .val (.ref o1), .val (.int q1), .val (.int n1), .val (.int (0 : Int32)), .val (.int (0 : Int32)), .unset]) rfl ?_
    refine W_iload B (hb hby d6_79) (pc' := 81) rfl rfl ?_
    refine W_iloadN B (hb hby d6_81) (pc' := 82) rfl rfl ?_
    refine W_icmp_ge B (hb hby d6_82) (by decide) (pt := 102) (by decide) (pc' := 85) rfl (fun (c18 : ¬ (0 : Int32) < q1) => ?_) (fun (c18 : (0 : Int32) < q1) => ?_)
    · refine kJ (vs, n1, (0 : Int32)) _ ⟨?_, ?_⟩ B
      · first | exact hvs | simp [hvs]
      · show (n1).toInt = n1.toInt + q1.toInt
        have fq1 := orI n1
        have fq2 := orI q1
        have fq3 := hn
        have fq4 := hq
        have fq5 : ((0 : Int32)).toInt = 0 := rfl
        have fq6 := onltI c18
        omega
    refine W_aloadN B (hb hby d6_85) (pc' := 86) rfl rfl rfl ?_
    refine W_getfield B hown (host := "") (Or.inl (ow hw (i := 40) rfl)) Via.refl (hb hby d6_86) (pc' := 89) rfl (j := 14) rfl (q := 0) rfl ?_
    intro T B
    refine W_aloadN B (hb hby d6_89) (pc' := 90) rfl rfl rfl ?_
    refine W_iload B (hb hby d6_90) (pc' := 92) rfl rfl ?_
    refine W_iaload B (hb hby d6_92) (pc' := 93) rfl (i := 17) rfl (by decide) (v := (.int w0)) rfl ?_
    have n19 : ¬ n1 = (16 : Int32) := by
      refine oneI_i ?_
      have fq1 := orI n1
      have fq2 : ((16 : Int32)).toInt = 16 := rfl
      have fq3 := hn
      have fq4 := orI q1
      have fq5 := hq
      have fq6 : ((0 : Int32)).toInt = 0 := rfl
      have fq7 := oltI c18
      omega
    have n20 : ¬ n1 < (0 : Int32) := by
      refine onltI_i ?_
      have fq1 := orI n1
      have fq2 : ((0 : Int32)).toInt = 0 := rfl
      have fq3 := hn
      have fq4 := orI q1
      have fq5 := hq
      have fq6 := oltI c18
      have fq7 : ((16 : Int32)).toInt = 16 := rfl
      have fq8 := oneI n19
      omega
    have u21 : (vs).length = 16 := by first | exact hvs | simp [hvs]
    have u22 : (n1).toNatClampNeg < (vs).length := by
      rw [u21]
      refine oNatLt ?_ (by decide)
      have fq1 := orI n1
      have fq2 := hn
      have fq3 := orI q1
      have fq4 := hq
      have fq5 : ((0 : Int32)).toInt = 0 := rfl
      have fq6 := oltI c18
      have fq7 : ((16 : Int32)).toInt = 16 := rfl
      have fq8 := oneI n19
      have fq9 := onltI n20
      omega
    refine W_virtual B (y := (⟨"com/example/tanglemark/tanglemark/datalog/Ints", "add", "(I)V"⟩ : MethodName)) (z := (⟨"com/example/tanglemark/tanglemark/datalog/Ints", "add", "(I)V"⟩ : MethodName)) hown (ow hw (i := 61) rfl) (ow hw (i := 62) rfl) (oNotFace B (ow hw (i := 64) rfl) rfl) (ow hw (i := 64) rfl) (ow hw (i := 63) rfl) (ow hw (i := 21) rfl) (ow hw (i := 65) rfl) (by decide) (a := c0) (rm_ia0 l Z a0 hw h0 c0 d0 s1 w0 n1 vs (d6, oA .int [o0, o0, o0, o0, o0, o0, o0, o0, o0, o0, o0, o0, o0, o0, o0, o0]) (c6, oO cn0 [(fk0, (.ref s1)), (fk1, (.int (2147483639 : Int32))), (fk2, (.ref d6)), (fk3, (.int (0 : Int32)))]) (d5, oA .int [o0, o0, o0, o0, o0, o0, o0, o0, o0, o0, o0, o0, o0, o0, o0, o0]) (c5, oO cn0 [(fk0, (.ref s1)), (fk1, (.int (2147483639 : Int32))), (fk2, (.ref d5)), (fk3, (.int (0 : Int32)))]) (d4, oA .int [o0, o0, o0, o0, o0, o0, o0, o0, o0, o0, o0, o0, o0, o0, o0, o0]) (c4, oO cn0 [(fk0, (.ref s1)), (fk1, (.int (2147483639 : Int32))), (fk2, (.ref d4)), (fk3, (.int (0 : Int32)))]) (d3, oA .int [o0, o0, o0, o0, o0, o0, o0, o0, o0, o0, o0, o0, o0, o0, o0, o0]) (c3, oO cn0 [(fk0, (.ref s1)), (fk1, (.int (2147483639 : Int32))), (fk2, (.ref d3)), (fk3, (.int (0 : Int32)))]) (d2, oA .int [o0, o0, o0, o0, o0, o0, o0, o0, o0, o0, o0, o0, o0, o0, o0, o0]) (c2, oO cn0 [(fk0, (.ref s1)), (fk1, (.int (2147483639 : Int32))), (fk2, (.ref d2)), (fk3, (.int (0 : Int32)))]) (d1, oA .int [o0, o0, o0, o0, o0, o0, o0, o0, o0, o0, o0, o0, o0, o0, o0, o0]) (c1, oO cn0 [(fk0, (.ref s1)), (fk1, (.int (2147483639 : Int32))), (fk2, (.ref d1)), (fk3, (.int (0 : Int32)))]) ((a1, oO cn1 [(fk4, (.ref c0)), (fk5, (.ref c1)), (fk6, (.ref c2)), (fk7, (.ref c3)), (fk8, (.ref c4)), (fk9, (.ref c5)), (fk10, (.ref c6))]) :: g0 :: g1 :: (o1, oA .int [(.int w0), (.int w1), (.int w2)]) :: ds) u21 n19 n20 u22) (lenOf pd_3 rfl) (hb hby d6_93) (pc' := 96) rfl (argsL := [(.int w0)]) (rest := []) rfl (by rw [hml]; rfl) (W := 0) (oLe rfl) (j := 13) rfl (by decide) (cells' := 0) rfl (slots' := 0) rfl ?_
    intro T v_ d_ q_ B
    obtain ⟨rfl, rfl⟩ := q_
    show oWin p e below Z h0 _ _ (T.setTop (mkF m 96 #[.val (.ref a1), .val (.int (-1 : Int32)), .val (.ref o1), .val (.int q1), .val (.int n1), .val (.int (0 : Int32)), .val (.int (0 : Int32)), .unset] []))
    refine W_iinc B (hb hby d6_96) (pc' := 99) rfl rfl (z := (1 : Int32)) (by decide) (ls' := #[.val (.ref a1), .val (.int (-1 : Int32)), .val (.ref o1), .val (.int q1), .val (.int n1), .val (.int (0 : Int32)), .val (.int (1 : Int32)), .unset]) rfl ?_
    refine W_goto B (hb hby d6_99) (by decide) (pc' := 79) (by decide) ?_
    refine W_iload B (hb hby d6_79) (pc' := 81) rfl rfl ?_
    refine W_iloadN B (hb hby d6_81) (pc' := 82) rfl rfl ?_
    refine W_icmp_ge B (hb hby d6_82) (by decide) (pt := 102) (by decide) (pc' := 85) rfl (fun (c23 : ¬ (1 : Int32) < q1) => ?_) (fun (c23 : (1 : Int32) < q1) => ?_)
    · refine kJ ((vs.set (n1).toNatClampNeg (.int w0)), (n1 + (1 : Int32)), (1 : Int32)) _ ⟨?_, ?_⟩ B
      · first | exact hvs | simp [hvs]
      · show ((n1 + (1 : Int32))).toInt = n1.toInt + q1.toInt
        have fq1 := orI n1
        have fq2 : ((1 : Int32)).toInt = 1 := rfl
        have fq3 := oiadd n1 (1 : Int32)
        have fq4 := orI q1
        have fq5 := hn
        have fq6 := hq
        have fq7 : ((0 : Int32)).toInt = 0 := rfl
        have fq8 := oltI c18
        have fq9 : ((16 : Int32)).toInt = 16 := rfl
        have fq10 := oneI n19
        have fq11 := onltI n20
        have fq12 := onltI c23
        omega
    refine W_aloadN B (hb hby d6_85) (pc' := 86) rfl rfl rfl ?_
    refine W_getfield B hown (host := "") (Or.inl (ow hw (i := 40) rfl)) Via.refl (hb hby d6_86) (pc' := 89) rfl (j := 14) rfl (q := 0) rfl ?_
    intro T B
    refine W_aloadN B (hb hby d6_89) (pc' := 90) rfl rfl rfl ?_
    refine W_iload B (hb hby d6_90) (pc' := 92) rfl rfl ?_
    refine W_iaload B (hb hby d6_92) (pc' := 93) rfl (i := 17) rfl (by decide) (v := (.int w1)) rfl ?_
    have n24 : ¬ (n1 + (1 : Int32)) = (16 : Int32) := by
      refine oneI_i ?_
      have fq1 := orI n1
      have fq2 : ((1 : Int32)).toInt = 1 := rfl
      have fq3 := oiadd n1 (1 : Int32)
      have fq4 : ((16 : Int32)).toInt = 16 := rfl
      have fq5 := hn
      have fq6 := orI q1
      have fq7 := hq
      have fq8 : ((0 : Int32)).toInt = 0 := rfl
      have fq9 := oltI c18
      have fq10 := oneI n19
      have fq11 := onltI n20
      have fq12 := oltI c23
      omega
    have n25 : ¬ (n1 + (1 : Int32)) < (0 : Int32) := by
      refine onltI_i ?_
      have fq1 := orI n1
      have fq2 : ((1 : Int32)).toInt = 1 := rfl
      have fq3 := oiadd n1 (1 : Int32)
      have fq4 : ((0 : Int32)).toInt = 0 := rfl
      have fq5 := hn
      have fq6 := orI q1
      have fq7 := hq
      have fq8 := oltI c18
      have fq9 : ((16 : Int32)).toInt = 16 := rfl
      have fq10 := oneI n19
      have fq11 := onltI n20
      have fq12 := oltI c23
      have fq13 := oneI n24
      omega
    have u26 : ((vs.set (n1).toNatClampNeg (.int w0))).length = 16 := by first | exact hvs | simp [hvs]
    have u27 : ((n1 + (1 : Int32))).toNatClampNeg < ((vs.set (n1).toNatClampNeg (.int w0))).length := by
      rw [u26]
      refine oNatLt ?_ (by decide)
      have fq1 := orI n1
      have fq2 : ((1 : Int32)).toInt = 1 := rfl
      have fq3 := oiadd n1 (1 : Int32)
      have fq4 := hn
      have fq5 := orI q1
      have fq6 := hq
      have fq7 : ((0 : Int32)).toInt = 0 := rfl
      have fq8 := oltI c18
      have fq9 : ((16 : Int32)).toInt = 16 := rfl
      have fq10 := oneI n19
      have fq11 := onltI n20
      have fq12 := oltI c23
      have fq13 := oneI n24
      have fq14 := onltI n25
      omega
    refine W_virtual B (y := (⟨"com/example/tanglemark/tanglemark/datalog/Ints", "add", "(I)V"⟩ : MethodName)) (z := (⟨"com/example/tanglemark/tanglemark/datalog/Ints", "add", "(I)V"⟩ : MethodName)) hown (ow hw (i := 61) rfl) (ow hw (i := 62) rfl) (oNotFace B (ow hw (i := 64) rfl) rfl) (ow hw (i := 64) rfl) (ow hw (i := 63) rfl) (ow hw (i := 21) rfl) (ow hw (i := 65) rfl) (by decide) (a := c0) (rm_ia0 l Z a0 hw h0 c0 d0 s1 w1 (n1 + (1 : Int32)) (vs.set (n1).toNatClampNeg (.int w0)) (d6, oA .int [o0, o0, o0, o0, o0, o0, o0, o0, o0, o0, o0, o0, o0, o0, o0, o0]) (c6, oO cn0 [(fk0, (.ref s1)), (fk1, (.int (2147483639 : Int32))), (fk2, (.ref d6)), (fk3, (.int (0 : Int32)))]) (d5, oA .int [o0, o0, o0, o0, o0, o0, o0, o0, o0, o0, o0, o0, o0, o0, o0, o0]) (c5, oO cn0 [(fk0, (.ref s1)), (fk1, (.int (2147483639 : Int32))), (fk2, (.ref d5)), (fk3, (.int (0 : Int32)))]) (d4, oA .int [o0, o0, o0, o0, o0, o0, o0, o0, o0, o0, o0, o0, o0, o0, o0, o0]) (c4, oO cn0 [(fk0, (.ref s1)), (fk1, (.int (2147483639 : Int32))), (fk2, (.ref d4)), (fk3, (.int (0 : Int32)))]) (d3, oA .int [o0, o0, o0, o0, o0, o0, o0, o0, o0, o0, o0, o0, o0, o0, o0, o0]) (c3, oO cn0 [(fk0, (.ref s1)), (fk1, (.int (2147483639 : Int32))), (fk2, (.ref d3)), (fk3, (.int (0 : Int32)))]) (d2, oA .int [o0, o0, o0, o0, o0, o0, o0, o0, o0, o0, o0, o0, o0, o0, o0, o0]) (c2, oO cn0 [(fk0, (.ref s1)), (fk1, (.int (2147483639 : Int32))), (fk2, (.ref d2)), (fk3, (.int (0 : Int32)))]) (d1, oA .int [o0, o0, o0, o0, o0, o0, o0, o0, o0, o0, o0, o0, o0, o0, o0, o0]) (c1, oO cn0 [(fk0, (.ref s1)), (fk1, (.int (2147483639 : Int32))), (fk2, (.ref d1)), (fk3, (.int (0 : Int32)))]) ((a1, oO cn1 [(fk4, (.ref c0)), (fk5, (.ref c1)), (fk6, (.ref c2)), (fk7, (.ref c3)), (fk8, (.ref c4)), (fk9, (.ref c5)), (fk10, (.ref c6))]) :: g0 :: g1 :: (o1, oA .int [(.int w0), (.int w1), (.int w2)]) :: ds) u26 n24 n25 u27) (lenOf pd_3 rfl) (hb hby d6_93) (pc' := 96) rfl (argsL := [(.int w1)]) (rest := []) rfl (by rw [hml]; rfl) (W := 0) (oLe rfl) (j := 13) rfl (by decide) (cells' := 0) rfl (slots' := 0) rfl ?_
    intro T v_ d_ q_ B
    obtain ⟨rfl, rfl⟩ := q_
    show oWin p e below Z h0 _ _ (T.setTop (mkF m 96 #[.val (.ref a1), .val (.int (-1 : Int32)), .val (.ref o1), .val (.int q1), .val (.int n1), .val (.int (0 : Int32)), .val (.int (1 : Int32)), .unset] []))
    refine W_iinc B (hb hby d6_96) (pc' := 99) rfl rfl (z := (2 : Int32)) (by decide) (ls' := #[.val (.ref a1), .val (.int (-1 : Int32)), .val (.ref o1), .val (.int q1), .val (.int n1), .val (.int (0 : Int32)), .val (.int (2 : Int32)), .unset]) rfl ?_
    refine W_goto B (hb hby d6_99) (by decide) (pc' := 79) (by decide) ?_
    refine W_iload B (hb hby d6_79) (pc' := 81) rfl rfl ?_
    refine W_iloadN B (hb hby d6_81) (pc' := 82) rfl rfl ?_
    refine W_icmp_ge B (hb hby d6_82) (by decide) (pt := 102) (by decide) (pc' := 85) rfl (fun (c28 : ¬ (2 : Int32) < q1) => ?_) (fun (c28 : (2 : Int32) < q1) => ?_)
    · refine kJ (((vs.set (n1).toNatClampNeg (.int w0)).set ((n1 + (1 : Int32))).toNatClampNeg (.int w1)), ((n1 + (1 : Int32)) + (1 : Int32)), (2 : Int32)) _ ⟨?_, ?_⟩ B
      · first | exact hvs | simp [hvs]
      · show (((n1 + (1 : Int32)) + (1 : Int32))).toInt = n1.toInt + q1.toInt
        have fq1 := orI n1
        have fq2 : ((1 : Int32)).toInt = 1 := rfl
        have fq3 := oiadd n1 (1 : Int32)
        have fq4 := oiadd (n1 + (1 : Int32)) (1 : Int32)
        have fq5 := orI q1
        have fq6 := hn
        have fq7 := hq
        have fq8 : ((0 : Int32)).toInt = 0 := rfl
        have fq9 := oltI c18
        have fq10 : ((16 : Int32)).toInt = 16 := rfl
        have fq11 := oneI n19
        have fq12 := onltI n20
        have fq13 := oltI c23
        have fq14 := oneI n24
        have fq15 := onltI n25
        have fq16 : ((2 : Int32)).toInt = 2 := rfl
        have fq17 := onltI c28
        omega
    refine W_aloadN B (hb hby d6_85) (pc' := 86) rfl rfl rfl ?_
    refine W_getfield B hown (host := "") (Or.inl (ow hw (i := 40) rfl)) Via.refl (hb hby d6_86) (pc' := 89) rfl (j := 14) rfl (q := 0) rfl ?_
    intro T B
    refine W_aloadN B (hb hby d6_89) (pc' := 90) rfl rfl rfl ?_
    refine W_iload B (hb hby d6_90) (pc' := 92) rfl rfl ?_
    refine W_iaload B (hb hby d6_92) (pc' := 93) rfl (i := 17) rfl (by decide) (v := (.int w2)) rfl ?_
    have n29 : ¬ ((n1 + (1 : Int32)) + (1 : Int32)) = (16 : Int32) := by
      refine oneI_i ?_
      have fq1 := orI n1
      have fq2 : ((1 : Int32)).toInt = 1 := rfl
      have fq3 := oiadd n1 (1 : Int32)
      have fq4 := oiadd (n1 + (1 : Int32)) (1 : Int32)
      have fq5 : ((16 : Int32)).toInt = 16 := rfl
      have fq6 := hn
      have fq7 := orI q1
      have fq8 := hq
      have fq9 : ((0 : Int32)).toInt = 0 := rfl
      have fq10 := oltI c18
      have fq11 := oneI n19
      have fq12 := onltI n20
      have fq13 := oltI c23
      have fq14 := oneI n24
      have fq15 := onltI n25
      have fq16 : ((2 : Int32)).toInt = 2 := rfl
      have fq17 := oltI c28
      omega
    have n30 : ¬ ((n1 + (1 : Int32)) + (1 : Int32)) < (0 : Int32) := by
      refine onltI_i ?_
      have fq1 := orI n1
      have fq2 : ((1 : Int32)).toInt = 1 := rfl
      have fq3 := oiadd n1 (1 : Int32)
      have fq4 := oiadd (n1 + (1 : Int32)) (1 : Int32)
      have fq5 : ((0 : Int32)).toInt = 0 := rfl
      have fq6 := hn
      have fq7 := orI q1
      have fq8 := hq
      have fq9 := oltI c18
      have fq10 : ((16 : Int32)).toInt = 16 := rfl
      have fq11 := oneI n19
      have fq12 := onltI n20
      have fq13 := oltI c23
      have fq14 := oneI n24
      have fq15 := onltI n25
      have fq16 : ((2 : Int32)).toInt = 2 := rfl
      have fq17 := oltI c28
      have fq18 := oneI n29
      omega
    have u31 : (((vs.set (n1).toNatClampNeg (.int w0)).set ((n1 + (1 : Int32))).toNatClampNeg (.int w1))).length = 16 := by first | exact hvs | simp [hvs]
    have u32 : (((n1 + (1 : Int32)) + (1 : Int32))).toNatClampNeg < (((vs.set (n1).toNatClampNeg (.int w0)).set ((n1 + (1 : Int32))).toNatClampNeg (.int w1))).length := by
      rw [u31]
      refine oNatLt ?_ (by decide)
      have fq1 := orI n1
      have fq2 : ((1 : Int32)).toInt = 1 := rfl
      have fq3 := oiadd n1 (1 : Int32)
      have fq4 := oiadd (n1 + (1 : Int32)) (1 : Int32)
      have fq5 := hn
      have fq6 := orI q1
      have fq7 := hq
      have fq8 : ((0 : Int32)).toInt = 0 := rfl
      have fq9 := oltI c18
      have fq10 : ((16 : Int32)).toInt = 16 := rfl
      have fq11 := oneI n19
      have fq12 := onltI n20
      have fq13 := oltI c23
      have fq14 := oneI n24
      have fq15 := onltI n25
      have fq16 : ((2 : Int32)).toInt = 2 := rfl
      have fq17 := oltI c28
      have fq18 := oneI n29
      have fq19 := onltI n30
      omega
    refine W_virtual B (y := (⟨"com/example/tanglemark/tanglemark/datalog/Ints", "add", "(I)V"⟩ : MethodName)) (z := (⟨"com/example/tanglemark/tanglemark/datalog/Ints", "add", "(I)V"⟩ : MethodName)) hown (ow hw (i := 61) rfl) (ow hw (i := 62) rfl) (oNotFace B (ow hw (i := 64) rfl) rfl) (ow hw (i := 64) rfl) (ow hw (i := 63) rfl) (ow hw (i := 21) rfl) (ow hw (i := 65) rfl) (by decide) (a := c0) (rm_ia0 l Z a0 hw h0 c0 d0 s1 w2 ((n1 + (1 : Int32)) + (1 : Int32)) ((vs.set (n1).toNatClampNeg (.int w0)).set ((n1 + (1 : Int32))).toNatClampNeg (.int w1)) (d6, oA .int [o0, o0, o0, o0, o0, o0, o0, o0, o0, o0, o0, o0, o0, o0, o0, o0]) (c6, oO cn0 [(fk0, (.ref s1)), (fk1, (.int (2147483639 : Int32))), (fk2, (.ref d6)), (fk3, (.int (0 : Int32)))]) (d5, oA .int [o0, o0, o0, o0, o0, o0, o0, o0, o0, o0, o0, o0, o0, o0, o0, o0]) (c5, oO cn0 [(fk0, (.ref s1)), (fk1, (.int (2147483639 : Int32))), (fk2, (.ref d5)), (fk3, (.int (0 : Int32)))]) (d4, oA .int [o0, o0, o0, o0, o0, o0, o0, o0, o0, o0, o0, o0, o0, o0, o0, o0]) (c4, oO cn0 [(fk0, (.ref s1)), (fk1, (.int (2147483639 : Int32))), (fk2, (.ref d4)), (fk3, (.int (0 : Int32)))]) (d3, oA .int [o0, o0, o0, o0, o0, o0, o0, o0, o0, o0, o0, o0, o0, o0, o0, o0]) (c3, oO cn0 [(fk0, (.ref s1)), (fk1, (.int (2147483639 : Int32))), (fk2, (.ref d3)), (fk3, (.int (0 : Int32)))]) (d2, oA .int [o0, o0, o0, o0, o0, o0, o0, o0, o0, o0, o0, o0, o0, o0, o0, o0]) (c2, oO cn0 [(fk0, (.ref s1)), (fk1, (.int (2147483639 : Int32))), (fk2, (.ref d2)), (fk3, (.int (0 : Int32)))]) (d1, oA .int [o0, o0, o0, o0, o0, o0, o0, o0, o0, o0, o0, o0, o0, o0, o0, o0]) (c1, oO cn0 [(fk0, (.ref s1)), (fk1, (.int (2147483639 : Int32))), (fk2, (.ref d1)), (fk3, (.int (0 : Int32)))]) ((a1, oO cn1 [(fk4, (.ref c0)), (fk5, (.ref c1)), (fk6, (.ref c2)), (fk7, (.ref c3)), (fk8, (.ref c4)), (fk9, (.ref c5)), (fk10, (.ref c6))]) :: g0 :: g1 :: (o1, oA .int [(.int w0), (.int w1), (.int w2)]) :: ds) u31 n29 n30 u32) (lenOf pd_3 rfl) (hb hby d6_93) (pc' := 96) rfl (argsL := [(.int w2)]) (rest := []) rfl (by rw [hml]; rfl) (W := 0) (oLe rfl) (j := 13) rfl (by decide) (cells' := 0) rfl (slots' := 0) rfl ?_
    intro T v_ d_ q_ B
    obtain ⟨rfl, rfl⟩ := q_
    show oWin p e below Z h0 _ _ (T.setTop (mkF m 96 #[.val (.ref a1), .val (.int (-1 : Int32)), .val (.ref o1), .val (.int q1), .val (.int n1), .val (.int (0 : Int32)), .val (.int (2 : Int32)), .unset] []))
    refine W_iinc B (hb hby d6_96) (pc' := 99) rfl rfl (z := (3 : Int32)) (by decide) (ls' := #[.val (.ref a1), .val (.int (-1 : Int32)), .val (.ref o1), .val (.int q1), .val (.int n1), .val (.int (0 : Int32)), .val (.int (3 : Int32)), .unset]) rfl ?_
    refine W_goto B (hb hby d6_99) (by decide) (pc' := 79) (by decide) ?_
    have n33 : ¬ (3 : Int32) < q1 := by
      refine onltI_i ?_
      have fq1 : ((3 : Int32)).toInt = 3 := rfl
      have fq2 := orI q1
      have fq3 := orI n1
      have fq4 := hn
      have fq5 := hq
      have fq6 : ((0 : Int32)).toInt = 0 := rfl
      have fq7 := oltI c18
      have fq8 : ((16 : Int32)).toInt = 16 := rfl
      have fq9 := oneI n19
      have fq10 := onltI n20
      have fq11 : ((1 : Int32)).toInt = 1 := rfl
      have fq12 := oltI c23
      have fq13 := oiadd n1 (1 : Int32)
      have fq14 := oneI n24
      have fq15 := onltI n25
      have fq16 : ((2 : Int32)).toInt = 2 := rfl
      have fq17 := oltI c28
      have fq18 := oiadd (n1 + (1 : Int32)) (1 : Int32)
      have fq19 := oneI n29
      have fq20 := onltI n30
      omega
    refine W_iload B (hb hby d6_79) (pc' := 81) rfl rfl ?_
    refine W_iloadN B (hb hby d6_81) (pc' := 82) rfl rfl ?_
    refine W_icmpY B (hb hby d6_82) (by decide) (pc' := 102) (by decide) (flt n33).2.1 ?_
    refine kJ ((((vs.set (n1).toNatClampNeg (.int w0)).set ((n1 + (1 : Int32))).toNatClampNeg (.int w1)).set (((n1 + (1 : Int32)) + (1 : Int32))).toNatClampNeg (.int w2)), (((n1 + (1 : Int32)) + (1 : Int32)) + (1 : Int32)), (3 : Int32)) _ ⟨?_, ?_⟩ B
    · first | exact hvs | simp [hvs]
    · show ((((n1 + (1 : Int32)) + (1 : Int32)) + (1 : Int32))).toInt = n1.toInt + q1.toInt
      have fq1 := orI n1
      have fq2 : ((1 : Int32)).toInt = 1 := rfl
      have fq3 := oiadd n1 (1 : Int32)
      have fq4 := oiadd (n1 + (1 : Int32)) (1 : Int32)
      have fq5 := oiadd ((n1 + (1 : Int32)) + (1 : Int32)) (1 : Int32)
      have fq6 := orI q1
      have fq7 := hn
      have fq8 := hq
      have fq9 : ((0 : Int32)).toInt = 0 := rfl
      have fq10 := oltI c18
      have fq11 : ((16 : Int32)).toInt = 16 := rfl
      have fq12 := oneI n19
      have fq13 := onltI n20
      have fq14 := oltI c23
      have fq15 := oneI n24
      have fq16 := onltI n25
      have fq17 : ((2 : Int32)).toInt = 2 := rfl
      have fq18 := oltI c28
      have fq19 := oneI n29
      have fq20 := onltI n30
      have fq21 : ((3 : Int32)).toInt = 3 := rfl
      have fq22 := onltI n33
      omega
  intro z_ T hz B
  obtain ⟨us, n2, i2⟩ := z_
  obtain ⟨hus, hj⟩ := hz
  dsimp only at hus hj B
  show oWin p e below Z h0 _ _ (T.setTop (mkF m 102 #[.val (.ref a1), .val (.int (-1 : Int32)), .val (.ref o1), .val (.int q1), .val (.int n1), .val (.int (0 : Int32)), .val (.int i2), .unset] []))
  refine W_iload B (hb hby d6_102) (pc' := 104) rfl rfl ?_
  refine W_ifY B (hb hby d6_104) (by decide) (pc' := 115) (by decide) (by decide) ?_
  refine W_iconst B (hb hby d6_115) (pc' := 116) rfl (z := (0 : Int32)) (by decide) ?_
  refine W_istore B (hb hby d6_116) (pc' := 118) rfl (v := (0 : Int32)) rfl (ls' := #[.val (.ref a1), .val (.int (-1 : Int32)), .val (.ref o1), .val (.int q1), .val (.int n1), .val (.int (0 : Int32)), .val (.int (0 : Int32)), .unset]) rfl ?_
  refine W_aloadN B (hb hby d6_118) (pc' := 119) rfl rfl rfl ?_
  refine W_getfield B hown (host := "") (Or.inl (ow hw (i := 46) rfl)) Via.refl (hb hby d6_119) (pc' := 122) rfl (j := 14) rfl (q := 3) rfl ?_
  intro T B
  refine W_getfield B hown (host := "") (Or.inl (ow hw (i := 59) rfl)) Via.refl (hb hby d6_122) (pc' := 125) rfl (j := 7) rfl (q := 3) rfl ?_
  intro T B
  refine W_istore B (hb hby d6_125) (pc' := 127) rfl (v := (0 : Int32)) rfl (ls' := #[.val (.ref a1), .val (.int (-1 : Int32)), .val (.ref o1), .val (.int q1), .val (.int n1), .val (.int (0 : Int32)), .val (.int (0 : Int32)), .val (.int (0 : Int32))]) rfl ?_
  refine W_aloadN B (hb hby d6_127) (pc' := 128) rfl rfl rfl ?_
  refine W_getfield B hown (host := "") (Or.inl (ow hw (i := 50) rfl)) Via.refl (hb hby d6_128) (pc' := 131) rfl (j := 14) rfl (q := 5) rfl ?_
  intro T B
  refine W_iload B (hb hby d6_131) (pc' := 133) rfl rfl ?_
  refine W_ifY B (hb hby d6_133) (by decide) (pc' := 148) (by decide) (by decide) ?_
  refine W_iload B (hb hby d6_148) (pc' := 150) rfl rfl ?_
  refine W_virtual B (y := (⟨"com/example/tanglemark/tanglemark/datalog/Ints", "add", "(I)V"⟩ : MethodName)) (z := (⟨"com/example/tanglemark/tanglemark/datalog/Ints", "add", "(I)V"⟩ : MethodName)) hown (ow hw (i := 61) rfl) (ow hw (i := 62) rfl) (oNotFace B (ow hw (i := 64) rfl) rfl) (ow hw (i := 64) rfl) (ow hw (i := 63) rfl) (ow hw (i := 21) rfl) (ow hw (i := 65) rfl) (by decide) (a := c5) (rm_ia5 l Z a0 hw h0 c5 d5 s1 (0 : Int32) (0 : Int32) [o0, o0, o0, o0, o0, o0, o0, o0, o0, o0, o0, o0, o0, o0, o0, o0] (d6, oA .int [o0, o0, o0, o0, o0, o0, o0, o0, o0, o0, o0, o0, o0, o0, o0, o0]) (c6, oO cn0 [(fk0, (.ref s1)), (fk1, (.int (2147483639 : Int32))), (fk2, (.ref d6)), (fk3, (.int (0 : Int32)))]) ((d4, oA .int [o0, o0, o0, o0, o0, o0, o0, o0, o0, o0, o0, o0, o0, o0, o0, o0]) :: (c4, oO cn0 [(fk0, (.ref s1)), (fk1, (.int (2147483639 : Int32))), (fk2, (.ref d4)), (fk3, (.int (0 : Int32)))]) :: (d3, oA .int [o0, o0, o0, o0, o0, o0, o0, o0, o0, o0, o0, o0, o0, o0, o0, o0]) :: (c3, oO cn0 [(fk0, (.ref s1)), (fk1, (.int (2147483639 : Int32))), (fk2, (.ref d3)), (fk3, (.int (0 : Int32)))]) :: (d2, oA .int [o0, o0, o0, o0, o0, o0, o0, o0, o0, o0, o0, o0, o0, o0, o0, o0]) :: (c2, oO cn0 [(fk0, (.ref s1)), (fk1, (.int (2147483639 : Int32))), (fk2, (.ref d2)), (fk3, (.int (0 : Int32)))]) :: (d1, oA .int [o0, o0, o0, o0, o0, o0, o0, o0, o0, o0, o0, o0, o0, o0, o0, o0]) :: (c1, oO cn0 [(fk0, (.ref s1)), (fk1, (.int (2147483639 : Int32))), (fk2, (.ref d1)), (fk3, (.int (0 : Int32)))]) :: (d0, oA .int us) :: (c0, oO cn0 [(fk0, (.ref s1)), (fk1, (.int (2147483639 : Int32))), (fk2, (.ref d0)), (fk3, (.int n2))]) :: (a1, oO cn1 [(fk4, (.ref c0)), (fk5, (.ref c1)), (fk6, (.ref c2)), (fk7, (.ref c3)), (fk8, (.ref c4)), (fk9, (.ref c5)), (fk10, (.ref c6))]) :: g0 :: g1 :: (o1, oA .int [(.int w0), (.int w1), (.int w2)]) :: ds) rfl (by decide) (by decide) (oLt rfl)) (lenOf pd_3 rfl) (hb hby d6_150) (pc' := 153) rfl (argsL := [(.int (0 : Int32))]) (rest := []) rfl (by rw [hml]; rfl) (W := 0) (oLe rfl) (j := 3) rfl (by decide) (cells' := 0) rfl (slots' := 0) rfl ?_
  intro T v_ d_ q_ B
  obtain ⟨rfl, rfl⟩ := q_
  show oWin p e below Z h0 _ _ (T.setTop (mkF m 153 #[.val (.ref a1), .val (.int (-1 : Int32)), .val (.ref o1), .val (.int q1), .val (.int n1), .val (.int (0 : Int32)), .val (.int (0 : Int32)), .val (.int (0 : Int32))] []))
  refine W_aloadN B (hb hby d6_153) (pc' := 154) rfl rfl rfl ?_
  refine W_getfield B hown (host := "") (Or.inl (ow hw (i := 42) rfl)) Via.refl (hb hby d6_154) (pc' := 157) rfl (j := 14) rfl (q := 1) rfl ?_
  intro T B
  refine W_iload B (hb hby d6_157) (pc' := 159) rfl rfl ?_
  refine W_virtual B (y := (⟨"com/example/tanglemark/tanglemark/datalog/Ints", "add", "(I)V"⟩ : MethodName)) (z := (⟨"com/example/tanglemark/tanglemark/datalog/Ints", "add", "(I)V"⟩ : MethodName)) hown (ow hw (i := 61) rfl) (ow hw (i := 62) rfl) (oNotFace B (ow hw (i := 64) rfl) rfl) (ow hw (i := 64) rfl) (ow hw (i := 63) rfl) (ow hw (i := 21) rfl) (ow hw (i := 65) rfl) (by decide) (a := c1) (rm_ia1 l Z a0 hw h0 c1 d1 s1 n1 (0 : Int32) [o0, o0, o0, o0, o0, o0, o0, o0, o0, o0, o0, o0, o0, o0, o0, o0] (d6, oA .int [o0, o0, o0, o0, o0, o0, o0, o0, o0, o0, o0, o0, o0, o0, o0, o0]) (c6, oO cn0 [(fk0, (.ref s1)), (fk1, (.int (2147483639 : Int32))), (fk2, (.ref d6)), (fk3, (.int (0 : Int32)))]) (d5, oA .int [o0, o0, o0, o0, o0, o0, o0, o0, o0, o0, o0, o0, o0, o0, o0, o0]) (c5, oO cn0 [(fk0, (.ref s1)), (fk1, (.int (2147483639 : Int32))), (fk2, (.ref d5)), (fk3, (.int (1 : Int32)))]) (d4, oA .int [o0, o0, o0, o0, o0, o0, o0, o0, o0, o0, o0, o0, o0, o0, o0, o0]) (c4, oO cn0 [(fk0, (.ref s1)), (fk1, (.int (2147483639 : Int32))), (fk2, (.ref d4)), (fk3, (.int (0 : Int32)))]) (d3, oA .int [o0, o0, o0, o0, o0, o0, o0, o0, o0, o0, o0, o0, o0, o0, o0, o0]) (c3, oO cn0 [(fk0, (.ref s1)), (fk1, (.int (2147483639 : Int32))), (fk2, (.ref d3)), (fk3, (.int (0 : Int32)))]) (d2, oA .int [o0, o0, o0, o0, o0, o0, o0, o0, o0, o0, o0, o0, o0, o0, o0, o0]) (c2, oO cn0 [(fk0, (.ref s1)), (fk1, (.int (2147483639 : Int32))), (fk2, (.ref d2)), (fk3, (.int (0 : Int32)))]) ((d0, oA .int us) :: (c0, oO cn0 [(fk0, (.ref s1)), (fk1, (.int (2147483639 : Int32))), (fk2, (.ref d0)), (fk3, (.int n2))]) :: (a1, oO cn1 [(fk4, (.ref c0)), (fk5, (.ref c1)), (fk6, (.ref c2)), (fk7, (.ref c3)), (fk8, (.ref c4)), (fk9, (.ref c5)), (fk10, (.ref c6))]) :: g0 :: g1 :: (o1, oA .int [(.int w0), (.int w1), (.int w2)]) :: ds) rfl (by decide) (by decide) (oLt rfl)) (lenOf pd_3 rfl) (hb hby d6_159) (pc' := 162) rfl (argsL := [(.int n1)]) (rest := []) rfl (by rw [hml]; rfl) (W := 0) (oLe rfl) (j := 11) rfl (by decide) (cells' := 0) rfl (slots' := 0) rfl ?_
  intro T v_ d_ q_ B
  obtain ⟨rfl, rfl⟩ := q_
  show oWin p e below Z h0 _ _ (T.setTop (mkF m 162 #[.val (.ref a1), .val (.int (-1 : Int32)), .val (.ref o1), .val (.int q1), .val (.int n1), .val (.int (0 : Int32)), .val (.int (0 : Int32)), .val (.int (0 : Int32))] []))
  refine W_aloadN B (hb hby d6_162) (pc' := 163) rfl rfl rfl ?_
  refine W_getfield B hown (host := "") (Or.inl (ow hw (i := 44) rfl)) Via.refl (hb hby d6_163) (pc' := 166) rfl (j := 14) rfl (q := 2) rfl ?_
  intro T B
  refine W_iload B (hb hby d6_166) (pc' := 168) rfl rfl ?_
  refine W_virtual B (y := (⟨"com/example/tanglemark/tanglemark/datalog/Ints", "add", "(I)V"⟩ : MethodName)) (z := (⟨"com/example/tanglemark/tanglemark/datalog/Ints", "add", "(I)V"⟩ : MethodName)) hown (ow hw (i := 61) rfl) (ow hw (i := 62) rfl) (oNotFace B (ow hw (i := 64) rfl) rfl) (ow hw (i := 64) rfl) (ow hw (i := 63) rfl) (ow hw (i := 21) rfl) (ow hw (i := 65) rfl) (by decide) (a := c2) (rm_ia2 l Z a0 hw h0 c2 d2 s1 (0 : Int32) (0 : Int32) [o0, o0, o0, o0, o0, o0, o0, o0, o0, o0, o0, o0, o0, o0, o0, o0] (d6, oA .int [o0, o0, o0, o0, o0, o0, o0, o0, o0, o0, o0, o0, o0, o0, o0, o0]) (c6, oO cn0 [(fk0, (.ref s1)), (fk1, (.int (2147483639 : Int32))), (fk2, (.ref d6)), (fk3, (.int (0 : Int32)))]) (d5, oA .int [o0, o0, o0, o0, o0, o0, o0, o0, o0, o0, o0, o0, o0, o0, o0, o0]) (c5, oO cn0 [(fk0, (.ref s1)), (fk1, (.int (2147483639 : Int32))), (fk2, (.ref d5)), (fk3, (.int (1 : Int32)))]) (d4, oA .int [o0, o0, o0, o0, o0, o0, o0, o0, o0, o0, o0, o0, o0, o0, o0, o0]) (c4, oO cn0 [(fk0, (.ref s1)), (fk1, (.int (2147483639 : Int32))), (fk2, (.ref d4)), (fk3, (.int (0 : Int32)))]) (d3, oA .int [o0, o0, o0, o0, o0, o0, o0, o0, o0, o0, o0, o0, o0, o0, o0, o0]) (c3, oO cn0 [(fk0, (.ref s1)), (fk1, (.int (2147483639 : Int32))), (fk2, (.ref d3)), (fk3, (.int (0 : Int32)))]) ((d1, oA .int [(.int n1), o0, o0, o0, o0, o0, o0, o0, o0, o0, o0, o0, o0, o0, o0, o0]) :: (c1, oO cn0 [(fk0, (.ref s1)), (fk1, (.int (2147483639 : Int32))), (fk2, (.ref d1)), (fk3, (.int (1 : Int32)))]) :: (d0, oA .int us) :: (c0, oO cn0 [(fk0, (.ref s1)), (fk1, (.int (2147483639 : Int32))), (fk2, (.ref d0)), (fk3, (.int n2))]) :: (a1, oO cn1 [(fk4, (.ref c0)), (fk5, (.ref c1)), (fk6, (.ref c2)), (fk7, (.ref c3)), (fk8, (.ref c4)), (fk9, (.ref c5)), (fk10, (.ref c6))]) :: g0 :: g1 :: (o1, oA .int [(.int w0), (.int w1), (.int w2)]) :: ds) rfl (by decide) (by decide) (oLt rfl)) (lenOf pd_3 rfl) (hb hby d6_168) (pc' := 171) rfl (argsL := [(.int (0 : Int32))]) (rest := []) rfl (by rw [hml]; rfl) (W := 0) (oLe rfl) (j := 9) rfl (by decide) (cells' := 0) rfl (slots' := 0) rfl ?_
  intro T v_ d_ q_ B
  obtain ⟨rfl, rfl⟩ := q_
  show oWin p e below Z h0 _ _ (T.setTop (mkF m 171 #[.val (.ref a1), .val (.int (-1 : Int32)), .val (.ref o1), .val (.int q1), .val (.int n1), .val (.int (0 : Int32)), .val (.int (0 : Int32)), .val (.int (0 : Int32))] []))
  refine W_aloadN B (hb hby d6_171) (pc' := 172) rfl rfl rfl ?_
  refine W_getfield B hown (host := "") (Or.inl (ow hw (i := 46) rfl)) Via.refl (hb hby d6_172) (pc' := 175) rfl (j := 14) rfl (q := 3) rfl ?_
  intro T B
  refine W_iload B (hb hby d6_175) (pc' := 177) rfl rfl ?_
  refine W_aloadN B (hb hby d6_177) (pc' := 178) rfl rfl rfl ?_
  refine W_getfield B hown (host := "") (Or.inl (ow hw (i := 40) rfl)) Via.refl (hb hby d6_178) (pc' := 181) rfl (j := 14) rfl (q := 0) rfl ?_
  intro T B
  refine W_getfield B hown (host := "") (Or.inl (ow hw (i := 59) rfl)) Via.refl (hb hby d6_181) (pc' := 184) rfl (j := 13) rfl (q := 3) rfl ?_
  intro T B
  refine W_iadd B (hb hby d6_184) (pc' := 185) rfl (z := ((0 : Int32) + n2)) rfl ?_
  refine W_iload B (hb hby d6_185) (pc' := 187) rfl rfl ?_
  refine W_isub B (hb hby d6_187) (pc' := 188) rfl (z := (((0 : Int32) + n2) - n1)) rfl ?_
  refine W_virtual B (y := (⟨"com/example/tanglemark/tanglemark/datalog/Ints", "add", "(I)V"⟩ : MethodName)) (z := (⟨"com/example/tanglemark/tanglemark/datalog/Ints", "add", "(I)V"⟩ : MethodName)) hown (ow hw (i := 61) rfl) (ow hw (i := 62) rfl) (oNotFace B (ow hw (i := 64) rfl) rfl) (ow hw (i := 64) rfl) (ow hw (i := 63) rfl) (ow hw (i := 21) rfl) (ow hw (i := 65) rfl) (by decide) (a := c3) (rm_ia3 l Z a0 hw h0 c3 d3 s1 (((0 : Int32) + n2) - n1) (0 : Int32) [o0, o0, o0, o0, o0, o0, o0, o0, o0, o0, o0, o0, o0, o0, o0, o0] (d6, oA .int [o0, o0, o0, o0, o0, o0, o0, o0, o0, o0, o0, o0, o0, o0, o0, o0]) (c6, oO cn0 [(fk0, (.ref s1)), (fk1, (.int (2147483639 : Int32))), (fk2, (.ref d6)), (fk3, (.int (0 : Int32)))]) (d5, oA .int [o0, o0, o0, o0, o0, o0, o0, o0, o0, o0, o0, o0, o0, o0, o0, o0]) (c5, oO cn0 [(fk0, (.ref s1)), (fk1, (.int (2147483639 : Int32))), (fk2, (.ref d5)), (fk3, (.int (1 : Int32)))]) (d4, oA .int [o0, o0, o0, o0, o0, o0, o0, o0, o0, o0, o0, o0, o0, o0, o0, o0]) (c4, oO cn0 [(fk0, (.ref s1)), (fk1, (.int (2147483639 : Int32))), (fk2, (.ref d4)), (fk3, (.int (0 : Int32)))]) ((d2, oA .int [o0, o0, o0, o0, o0, o0, o0, o0, o0, o0, o0, o0, o0, o0, o0, o0]) :: (c2, oO cn0 [(fk0, (.ref s1)), (fk1, (.int (2147483639 : Int32))), (fk2, (.ref d2)), (fk3, (.int (1 : Int32)))]) :: (d1, oA .int [(.int n1), o0, o0, o0, o0, o0, o0, o0, o0, o0, o0, o0, o0, o0, o0, o0]) :: (c1, oO cn0 [(fk0, (.ref s1)), (fk1, (.int (2147483639 : Int32))), (fk2, (.ref d1)), (fk3, (.int (1 : Int32)))]) :: (d0, oA .int us) :: (c0, oO cn0 [(fk0, (.ref s1)), (fk1, (.int (2147483639 : Int32))), (fk2, (.ref d0)), (fk3, (.int n2))]) :: (a1, oO cn1 [(fk4, (.ref c0)), (fk5, (.ref c1)), (fk6, (.ref c2)), (fk7, (.ref c3)), (fk8, (.ref c4)), (fk9, (.ref c5)), (fk10, (.ref c6))]) :: g0 :: g1 :: (o1, oA .int [(.int w0), (.int w1), (.int w2)]) :: ds) rfl (by decide) (by decide) (oLt rfl)) (lenOf pd_3 rfl) (hb hby d6_188) (pc' := 191) rfl (argsL := [(.int (((0 : Int32) + n2) - n1))]) (rest := []) rfl (by rw [hml]; rfl) (W := 0) (oLe rfl) (j := 7) rfl (by decide) (cells' := 0) rfl (slots' := 0) rfl ?_
  intro T v_ d_ q_ B
  obtain ⟨rfl, rfl⟩ := q_
  show oWin p e below Z h0 _ _ (T.setTop (mkF m 191 #[.val (.ref a1), .val (.int (-1 : Int32)), .val (.ref o1), .val (.int q1), .val (.int n1), .val (.int (0 : Int32)), .val (.int (0 : Int32)), .val (.int (0 : Int32))] []))
  refine W_aloadN B (hb hby d6_191) (pc' := 192) rfl rfl rfl ?_
  refine W_getfield B hown (host := "") (Or.inl (ow hw (i := 48) rfl)) Via.refl (hb hby d6_192) (pc' := 195) rfl (j := 14) rfl (q := 4) rfl ?_
  intro T B
  refine W_iload B (hb hby d6_195) (pc' := 197) rfl rfl ?_
  refine W_ifY B (hb hby d6_197) (by decide) (pc' := 204) (by decide) (by decide) ?_
  refine W_iconst B (hb hby d6_204) (pc' := 205) rfl (z := (-1 : Int32)) (by decide) ?_
  refine W_virtual B (y := (⟨"com/example/tanglemark/tanglemark/datalog/Ints", "add", "(I)V"⟩ : MethodName)) (z := (⟨"com/example/tanglemark/tanglemark/datalog/Ints", "add", "(I)V"⟩ : MethodName)) hown (ow hw (i := 61) rfl) (ow hw (i := 62) rfl) (oNotFace B (ow hw (i := 64) rfl) rfl) (ow hw (i := 64) rfl) (ow hw (i := 63) rfl) (ow hw (i := 21) rfl) (ow hw (i := 65) rfl) (by decide) (a := c4) (rm_ia4 l Z a0 hw h0 c4 d4 s1 (-1 : Int32) (0 : Int32) [o0, o0, o0, o0, o0, o0, o0, o0, o0, o0, o0, o0, o0, o0, o0, o0] (d6, oA .int [o0, o0, o0, o0, o0, o0, o0, o0, o0, o0, o0, o0, o0, o0, o0, o0]) (c6, oO cn0 [(fk0, (.ref s1)), (fk1, (.int (2147483639 : Int32))), (fk2, (.ref d6)), (fk3, (.int (0 : Int32)))]) (d5, oA .int [o0, o0, o0, o0, o0, o0, o0, o0, o0, o0, o0, o0, o0, o0, o0, o0]) (c5, oO cn0 [(fk0, (.ref s1)), (fk1, (.int (2147483639 : Int32))), (fk2, (.ref d5)), (fk3, (.int (1 : Int32)))]) ((d3, oA .int [(.int (((0 : Int32) + n2) - n1)), o0, o0, o0, o0, o0, o0, o0, o0, o0, o0, o0, o0, o0, o0, o0]) :: (c3, oO cn0 [(fk0, (.ref s1)), (fk1, (.int (2147483639 : Int32))), (fk2, (.ref d3)), (fk3, (.int (1 : Int32)))]) :: (d2, oA .int [o0, o0, o0, o0, o0, o0, o0, o0, o0, o0, o0, o0, o0, o0, o0, o0]) :: (c2, oO cn0 [(fk0, (.ref s1)), (fk1, (.int (2147483639 : Int32))), (fk2, (.ref d2)), (fk3, (.int (1 : Int32)))]) :: (d1, oA .int [(.int n1), o0, o0, o0, o0, o0, o0, o0, o0, o0, o0, o0, o0, o0, o0, o0]) :: (c1, oO cn0 [(fk0, (.ref s1)), (fk1, (.int (2147483639 : Int32))), (fk2, (.ref d1)), (fk3, (.int (1 : Int32)))]) :: (d0, oA .int us) :: (c0, oO cn0 [(fk0, (.ref s1)), (fk1, (.int (2147483639 : Int32))), (fk2, (.ref d0)), (fk3, (.int n2))]) :: (a1, oO cn1 [(fk4, (.ref c0)), (fk5, (.ref c1)), (fk6, (.ref c2)), (fk7, (.ref c3)), (fk8, (.ref c4)), (fk9, (.ref c5)), (fk10, (.ref c6))]) :: g0 :: g1 :: (o1, oA .int [(.int w0), (.int w1), (.int w2)]) :: ds) rfl (by decide) (by decide) (oLt rfl)) (lenOf pd_3 rfl) (hb hby d6_205) (pc' := 208) rfl (argsL := [(.int (-1 : Int32))]) (rest := []) rfl (by rw [hml]; rfl) (W := 0) (oLe rfl) (j := 5) rfl (by decide) (cells' := 0) rfl (slots' := 0) rfl ?_
  intro T v_ d_ q_ B
  obtain ⟨rfl, rfl⟩ := q_
  show oWin p e below Z h0 _ _ (T.setTop (mkF m 208 #[.val (.ref a1), .val (.int (-1 : Int32)), .val (.ref o1), .val (.int q1), .val (.int n1), .val (.int (0 : Int32)), .val (.int (0 : Int32)), .val (.int (0 : Int32))] []))
  refine W_aloadN B (hb hby d6_208) (pc' := 209) rfl rfl rfl ?_
  refine W_getfield B hown (host := "") (Or.inl (ow hw (i := 52) rfl)) Via.refl (hb hby d6_209) (pc' := 212) rfl (j := 14) rfl (q := 6) rfl ?_
  intro T B
  refine W_iload B (hb hby d6_212) (pc' := 214) rfl rfl ?_
  refine W_ifY B (hb hby d6_214) (by decide) (pc' := 231) (by decide) (by decide) ?_
  refine W_iconst B (hb hby d6_231) (pc' := 232) rfl (z := (1 : Int32)) (by decide) ?_
  refine W_virtual B (y := (⟨"com/example/tanglemark/tanglemark/datalog/Ints", "add", "(I)V"⟩ : MethodName)) (z := (⟨"com/example/tanglemark/tanglemark/datalog/Ints", "add", "(I)V"⟩ : MethodName)) hown (ow hw (i := 61) rfl) (ow hw (i := 62) rfl) (oNotFace B (ow hw (i := 64) rfl) rfl) (ow hw (i := 64) rfl) (ow hw (i := 63) rfl) (ow hw (i := 21) rfl) (ow hw (i := 65) rfl) (by decide) (a := c6) (rm_ia6 l Z a0 hw h0 c6 d6 s1 (1 : Int32) (0 : Int32) [o0, o0, o0, o0, o0, o0, o0, o0, o0, o0, o0, o0, o0, o0, o0, o0]  ((d5, oA .int [o0, o0, o0, o0, o0, o0, o0, o0, o0, o0, o0, o0, o0, o0, o0, o0]) :: (c5, oO cn0 [(fk0, (.ref s1)), (fk1, (.int (2147483639 : Int32))), (fk2, (.ref d5)), (fk3, (.int (1 : Int32)))]) :: (d4, oA .int [(.int (-1 : Int32)), o0, o0, o0, o0, o0, o0, o0, o0, o0, o0, o0, o0, o0, o0, o0]) :: (c4, oO cn0 [(fk0, (.ref s1)), (fk1, (.int (2147483639 : Int32))), (fk2, (.ref d4)), (fk3, (.int (1 : Int32)))]) :: (d3, oA .int [(.int (((0 : Int32) + n2) - n1)), o0, o0, o0, o0, o0, o0, o0, o0, o0, o0, o0, o0, o0, o0, o0]) :: (c3, oO cn0 [(fk0, (.ref s1)), (fk1, (.int (2147483639 : Int32))), (fk2, (.ref d3)), (fk3, (.int (1 : Int32)))]) :: (d2, oA .int [o0, o0, o0, o0, o0, o0, o0, o0, o0, o0, o0, o0, o0, o0, o0, o0]) :: (c2, oO cn0 [(fk0, (.ref s1)), (fk1, (.int (2147483639 : Int32))), (fk2, (.ref d2)), (fk3, (.int (1 : Int32)))]) :: (d1, oA .int [(.int n1), o0, o0, o0, o0, o0, o0, o0, o0, o0, o0, o0, o0, o0, o0, o0]) :: (c1, oO cn0 [(fk0, (.ref s1)), (fk1, (.int (2147483639 : Int32))), (fk2, (.ref d1)), (fk3, (.int (1 : Int32)))]) :: (d0, oA .int us) :: (c0, oO cn0 [(fk0, (.ref s1)), (fk1, (.int (2147483639 : Int32))), (fk2, (.ref d0)), (fk3, (.int n2))]) :: (a1, oO cn1 [(fk4, (.ref c0)), (fk5, (.ref c1)), (fk6, (.ref c2)), (fk7, (.ref c3)), (fk8, (.ref c4)), (fk9, (.ref c5)), (fk10, (.ref c6))]) :: g0 :: g1 :: (o1, oA .int [(.int w0), (.int w1), (.int w2)]) :: ds) rfl (by decide) (by decide) (oLt rfl)) (lenOf pd_3 rfl) (hb hby d6_232) (pc' := 235) rfl (argsL := [(.int (1 : Int32))]) (rest := []) rfl (by rw [hml]; rfl) (W := 0) (oLe rfl) (j := 1) rfl (by decide) (cells' := 0) rfl (slots' := 0) rfl ?_
  intro T v_ d_ q_ B
  obtain ⟨rfl, rfl⟩ := q_
  show oWin p e below Z h0 _ _ (T.setTop (mkF m 235 #[.val (.ref a1), .val (.int (-1 : Int32)), .val (.ref o1), .val (.int q1), .val (.int n1), .val (.int (0 : Int32)), .val (.int (0 : Int32)), .val (.int (0 : Int32))] []))
  refine W_iload B (hb hby d6_235) (pc' := 237) rfl rfl ?_
  refine W_retI B hret (hb hby d6_237) (by decide) ?_
  exact ⟨_, _, hus, hj, rfl, rfl⟩
theorem ef_rm_add1m (m : MethodId) (x0 : Addr) (x2 : Addr) (x3 : Int32) : entryFrame m #[(.ref x0), (.int (-1 : Int32)), (.ref x2), (.int x3)] 8 = mkF m 0 #[.val (.ref x0), .val (.int (-1 : Int32)), .val (.ref x2), .val (.int x3), .unset, .unset, .unset, .unset] [] := by first | (simp [entryFrame, mkF, argsToLocals, Value.category]; done) | rfl
set_option maxRecDepth 65536 in
set_option maxHeartbeats 40000000 in
theorem rm_add1m (l : Launch) (Z : State) (a0 : Array Value) (hw : ∀ d ∈ tables_1, d.before a0 Z = true) (h0 : Heap) {lo : Nat} (a1 : Addr) (o1 : Addr) (s1 : Addr) (c0 : Addr) (d0 : Addr) (c1 : Addr) (d1 : Addr) (c2 : Addr) (d2 : Addr) (c3 : Addr) (d3 : Addr) (c4 : Addr) (d4 : Addr) (c5 : Addr) (d5 : Addr) (c6 : Addr) (d6 : Addr) (q1 : Int32) (n1 : Int32) (vs : List Value) (f0 : Int32) (b0 : Int32) (z0 : Int32) (p0 : Int32) (r0 : Int32) (t0 : Int32) (w0 : Int32) (w1 : Int32) (w2 : Int32) (g0 : Addr × oD) (g2 : Addr × oD) (ds : oDs) (hvs : vs.length = 16) (hn : 0 ≤ n1.toInt ∧ n1.toInt ≤ 6) (hq : 0 ≤ q1.toInt ∧ q1.toInt ≤ 3) :
    oMet l Z h0 lo (⟨"com/example/tanglemark/tanglemark/datalog/SharedSets", "add", "(I[II)I"⟩ : MethodName) prog_51_method_2_code 8 (some .int) [] ({ frames := 1, cells := 0, slots := 0, locals := 13 } : Room) #[(.ref a1), (.int (-1 : Int32)), (.ref o1), (.int q1)] ((d6, oA .int [(.int t0), o0, o0, o0, o0, o0, o0, o0, o0, o0, o0, o0, o0, o0, o0, o0]) :: (c6, oO cn0 [(fk0, (.ref s1)), (fk1, (.int (2147483639 : Int32))), (fk2, (.ref d6)), (fk3, (.int (1 : Int32)))]) :: (d5, oA .int [(.int r0), o0, o0, o0, o0, o0, o0, o0, o0, o0, o0, o0, o0, o0, o0, o0]) :: (c5, oO cn0 [(fk0, (.ref s1)), (fk1, (.int (2147483639 : Int32))), (fk2, (.ref d5)), (fk3, (.int (1 : Int32)))]) :: (d4, oA .int [(.int p0), o0, o0, o0, o0, o0, o0, o0, o0, o0, o0, o0, o0, o0, o0, o0]) :: (c4, oO cn0 [(fk0, (.ref s1)), (fk1, (.int (2147483639 : Int32))), (fk2, (.ref d4)), (fk3, (.int (1 : Int32)))]) :: (d3, oA .int [(.int z0), o0, o0, o0, o0, o0, o0, o0, o0, o0, o0, o0, o0, o0, o0, o0]) :: (c3, oO cn0 [(fk0, (.ref s1)), (fk1, (.int (2147483639 : Int32))), (fk2, (.ref d3)), (fk3, (.int (1 : Int32)))]) :: (d2, oA .int [(.int b0), o0, o0, o0, o0, o0, o0, o0, o0, o0, o0, o0, o0, o0, o0, o0]) :: (c2, oO cn0 [(fk0, (.ref s1)), (fk1, (.int (2147483639 : Int32))), (fk2, (.ref d2)), (fk3, (.int (1 : Int32)))]) :: (d1, oA .int [(.int f0), o0, o0, o0, o0, o0, o0, o0, o0, o0, o0, o0, o0, o0, o0, o0]) :: (c1, oO cn0 [(fk0, (.ref s1)), (fk1, (.int (2147483639 : Int32))), (fk2, (.ref d1)), (fk3, (.int (1 : Int32)))]) :: (d0, oA .int vs) :: (c0, oO cn0 [(fk0, (.ref s1)), (fk1, (.int (2147483639 : Int32))), (fk2, (.ref d0)), (fk3, (.int n1))]) :: (a1, oO cn1 [(fk4, (.ref c0)), (fk5, (.ref c1)), (fk6, (.ref c2)), (fk7, (.ref c3)), (fk8, (.ref c4)), (fk9, (.ref c5)), (fk10, (.ref c6))]) :: g0 :: (o1, oA .int [(.int w0), (.int w1), (.int w2)]) :: g2 :: ds) (fun (v : Option Value) (d : oDs) => (∃ (us : List Value) (n2 : Int32), (us.length = 16) ∧ (n2.toInt = n1.toInt + q1.toInt) ∧ v = some (.int (1 : Int32)) ∧ ((d6, oA .int [(.int t0), (.int (1 : Int32)), o0, o0, o0, o0, o0, o0, o0, o0, o0, o0, o0, o0, o0, o0]) :: (c6, oO cn0 [(fk0, (.ref s1)), (fk1, (.int (2147483639 : Int32))), (fk2, (.ref d6)), (fk3, (.int (2 : Int32)))]) :: (d5, oA .int [(.int r0), (.int (1 : Int32)), o0, o0, o0, o0, o0, o0, o0, o0, o0, o0, o0, o0, o0, o0]) :: (c5, oO cn0 [(fk0, (.ref s1)), (fk1, (.int (2147483639 : Int32))), (fk2, (.ref d5)), (fk3, (.int (2 : Int32)))]) :: (d4, oA .int [(.int p0), (.int (-1 : Int32)), o0, o0, o0, o0, o0, o0, o0, o0, o0, o0, o0, o0, o0, o0]) :: (c4, oO cn0 [(fk0, (.ref s1)), (fk1, (.int (2147483639 : Int32))), (fk2, (.ref d4)), (fk3, (.int (2 : Int32)))]) :: (d3, oA .int [(.int z0), (.int (((0 : Int32) + n2) - n1)), o0, o0, o0, o0, o0, o0, o0, o0, o0, o0, o0, o0, o0, o0]) :: (c3, oO cn0 [(fk0, (.ref s1)), (fk1, (.int (2147483639 : Int32))), (fk2, (.ref d3)), (fk3, (.int (2 : Int32)))]) :: (d2, oA .int [(.int b0), o0, o0, o0, o0, o0, o0, o0, o0, o0, o0, o0, o0, o0, o0, o0]) :: (c2, oO cn0 [(fk0, (.ref s1)), (fk1, (.int (2147483639 : Int32))), (fk2, (.ref d2)), (fk3, (.int (2 : Int32)))]) :: (d1, oA .int [(.int f0), (.int n1), o0, o0, o0, o0, o0, o0, o0, o0, o0, o0, o0, o0, o0, o0]) :: (c1, oO cn0 [(fk0, (.ref s1)), (fk1, (.int (2147483639 : Int32))), (fk2, (.ref d1)), (fk3, (.int (2 : Int32)))]) :: (d0, oA .int us) :: (c0, oO cn0 [(fk0, (.ref s1)), (fk1, (.int (2147483639 : Int32))), (fk2, (.ref d0)), (fk3, (.int n2))]) :: (a1, oO cn1 [(fk4, (.ref c0)), (fk5, (.ref c1)), (fk6, (.ref c2)), (fk7, (.ref c3)), (fk8, (.ref c4)), (fk9, (.ref c5)), (fk10, (.ref c6))]) :: g0 :: (o1, oA .int [(.int w0), (.int w1), (.int w2)]) :: g2 :: ds) = d)) := by
  refine oMet.of_body (plainFor_of_name pn_1) ?_
  intro p e s m below meth c T B hby hml hown hnm hret
  refine W_entry (ef_rm_add1m m a1 o1 q1) ?_
  refine W_aloadN B (hb hby d6_0) (pc' := 1) rfl rfl rfl ?_
  refine W_getfield B hown (host := "") (Or.inl (ow hw (i := 40) rfl)) Via.refl (hb hby d6_1) (pc' := 4) rfl (j := 14) rfl (q := 0) rfl ?_
  intro T B
  refine W_getfield B hown (host := "") (Or.inl (ow hw (i := 59) rfl)) Via.refl (hb hby d6_4) (pc' := 7) rfl (j := 13) rfl (q := 3) rfl ?_
  intro T B
  refine W_istore B (hb hby d6_7) (pc' := 9) rfl (v := n1) rfl (ls' := #[.val (.ref a1), .val (.int (-1 : Int32)), .val (.ref o1), .val (.int q1), .val (.int n1), .unset, .unset, .unset]) rfl ?_
  refine W_iloadN B (hb hby d6_9) (pc' := 10) rfl rfl ?_
  refine W_ifY B (hb hby d6_10) (by decide) (pc' := 31) (by decide) (by decide) ?_
  refine W_iconst B (hb hby d6_31) (pc' := 32) rfl (z := (0 : Int32)) (by decide) ?_
  refine W_istore B (hb hby d6_32) (pc' := 34) rfl (v := (0 : Int32)) rfl (ls' := #[.val (.ref a1), .val (.int (-1 : Int32)), .val (.ref o1), .val (.int q1), .val (.int n1), .val (.int (0 : Int32)), .unset, .unset]) rfl ?_
  refine W_iloadN B (hb hby d6_34) (pc' := 35) rfl rfl ?_
  refine W_ifY B (hb hby d6_35) (by decide) (pc' := 76) (by decide) (by decide) ?_
  refine oJoinD B 0 0 (fun z : List Value × Int32 × Int32 => z.1.length = 16 ∧ z.2.1.toInt = n1.toInt + q1.toInt) (fun z => (mkF m 102 #[.val (.ref a1), .val (.int (-1 : Int32)), .val (.ref o1), .val (.int q1), .val (.int n1), .val (.int (0 : Int32)), .val (.int z.2.2), .unset] [])) (fun z => ((d6, oA .int [(.int t0), o0, o0, o0, o0, o0, o0, o0, o0, o0, o0, o0, o0, o0, o0, o0]) :: (c6, oO cn0 [(fk0, (.ref s1)), (fk1, (.int (2147483639 : Int32))), (fk2, (.ref d6)), (fk3, (.int (1 : Int32)))]) :: (d5, oA .int [(.int r0), o0, o0, o0, o0, o0, o0, o0, o0, o0, o0, o0, o0, o0, o0, o0]) :: (c5, oO cn0 [(fk0, (.ref s1)), (fk1, (.int (2147483639 : Int32))), (fk2, (.ref d5)), (fk3, (.int (1 : Int32)))]) :: (d4, oA .int [(.int p0), o0, o0, o0, o0, o0, o0, o0, o0, o0, o0, o0, o0, o0, o0, o0]) :: (c4, oO cn0 [(fk0, (.ref s1)), (fk1, (.int (2147483639 : Int32))), (fk2, (.ref d4)), (fk3, (.int (1 : Int32)))]) :: (d3, oA .int [(.int z0), o0, o0, o0, o0, o0, o0, o0, o0, o0, o0, o0, o0, o0, o0, o0]) :: (c3, oO cn0 [(fk0, (.ref s1)), (fk1, (.int (2147483639 : Int32))), (fk2, (.ref d3)), (fk3, (.int (1 : Int32)))]) :: (d2, oA .int [(.int b0), o0, o0, o0, o0, o0, o0, o0, o0, o0, o0, o0, o0, o0, o0, o0]) :: (c2, oO cn0 [(fk0, (.ref s1)), (fk1, (.int (2147483639 : Int32))), (fk2, (.ref d2)), (fk3, (.int (1 : Int32)))]) :: (d1, oA .int [(.int f0), o0, o0, o0, o0, o0, o0, o0, o0, o0, o0, o0, o0, o0, o0, o0]) :: (c1, oO cn0 [(fk0, (.ref s1)), (fk1, (.int (2147483639 : Int32))), (fk2, (.ref d1)), (fk3, (.int (1 : Int32)))]) :: (d0, oA .int z.1) :: (c0, oO cn0 [(fk0, (.ref s1)), (fk1, (.int (2147483639 : Int32))), (fk2, (.ref d0)), (fk3, (.int z.2.1))]) :: (a1, oO cn1 [(fk4, (.ref c0)), (fk5, (.ref c1)), (fk6, (.ref c2)), (fk7, (.ref c3)), (fk8, (.ref c4)), (fk9, (.ref c5)), (fk10, (.ref c6))]) :: g0 :: (o1, oA .int [(.int w0), (.int w1), (.int w2)]) :: g2 :: ds)) ?_ ?_
  · intro kJ
    refine W_iconst B (hb hby d6_76) (pc' := 77) rfl (z := (0 : Int32)) (by decide) ?_
    refine W_istore B (hb hby d6_77) (pc' := 79) rfl (v := (0 : Int32)) rfl (ls' := #[.val (.ref a1), .val (.int (-1 : Int32)), .val (.ref o1), .val (.int q1), .val (.int n1), .val (.int (0 : Int32)), .val (.int (0 : Int32)), .unset]) rfl ?_
    refine W_iload B (hb hby d6_79) (pc' := 81) rfl rfl ?_
    refine W_iloadN B (hb hby d6_81) (pc' := 82) rfl rfl ?_
    refine W_icmp_ge B (hb hby d6_82) (by decide) (pt := 102) (by decide) (pc' := 85) rfl (fun (c35 : ¬ (0 : Int32) < q1) => ?_) (fun (c35 : (0 : Int32) < q1) => ?_)
    · refine kJ (vs, n1, (0 : Int32)) _ ⟨?_, ?_⟩ B
      · first | exact hvs | simp [hvs]
      · show (n1).toInt = n1.toInt + q1.toInt
        have fq1 := orI n1
        have fq2 := orI q1
        have fq3 := hn
        have fq4 := hq
        have fq5 : ((0 : Int32)).toInt = 0 := rfl
        have fq6 := onltI c35
        omega
    refine W_aloadN B (hb hby d6_85) (pc' := 86) rfl rfl rfl ?_
    refine W_getfield B hown (host := "") (Or.inl (ow hw (i := 40) rfl)) Via.refl (hb hby d6_86) (pc' := 89) rfl (j := 14) rfl (q := 0) rfl ?_
    intro T B
    refine W_aloadN B (hb hby d6_89) (pc' := 90) rfl rfl rfl ?_
    refine W_iload B (hb hby d6_90) (pc' := 92) rfl rfl ?_
    refine W_iaload B (hb hby d6_92) (pc' := 93) rfl (i := 16) rfl (by decide) (v := (.int w0)) rfl ?_
    have n36 : ¬ n1 = (16 : Int32) := by
      refine oneI_i ?_
      have fq1 := orI n1
      have fq2 : ((16 : Int32)).toInt = 16 := rfl
      have fq3 := hn
      have fq4 := orI q1
      have fq5 := hq
      have fq6 : ((0 : Int32)).toInt = 0 := rfl
      have fq7 := oltI c35
      omega
    have n37 : ¬ n1 < (0 : Int32) := by
      refine onltI_i ?_
      have fq1 := orI n1
      have fq2 : ((0 : Int32)).toInt = 0 := rfl
      have fq3 := hn
      have fq4 := orI q1
      have fq5 := hq
      have fq6 := oltI c35
      have fq7 : ((16 : Int32)).toInt = 16 := rfl
      have fq8 := oneI n36
      omega
    have u38 : (vs).length = 16 := by first | exact hvs | simp [hvs]
    have u39 : (n1).toNatClampNeg < (vs).length := by
      rw [u38]
      refine oNatLt ?_ (by decide)
      have fq1 := orI n1
      have fq2 := hn
      have fq3 := orI q1
      have fq4 := hq
      have fq5 : ((0 : Int32)).toInt = 0 := rfl
      have fq6 := oltI c35
      have fq7 : ((16 : Int32)).toInt = 16 := rfl
      have fq8 := oneI n36
      have fq9 := onltI n37
      omega
    refine W_virtual B (y := (⟨"com/example/tanglemark/tanglemark/datalog/Ints", "add", "(I)V"⟩ : MethodName)) (z := (⟨"com/example/tanglemark/tanglemark/datalog/Ints", "add", "(I)V"⟩ : MethodName)) hown (ow hw (i := 61) rfl) (ow hw (i := 62) rfl) (oNotFace B (ow hw (i := 64) rfl) rfl) (ow hw (i := 64) rfl) (ow hw (i := 63) rfl) (ow hw (i := 21) rfl) (ow hw (i := 65) rfl) (by decide) (a := c0) (rm_ia0 l Z a0 hw h0 c0 d0 s1 w0 n1 vs (d6, oA .int [(.int t0), o0, o0, o0, o0, o0, o0, o0, o0, o0, o0, o0, o0, o0, o0, o0]) (c6, oO cn0 [(fk0, (.ref s1)), (fk1, (.int (2147483639 : Int32))), (fk2, (.ref d6)), (fk3, (.int (1 : Int32)))]) (d5, oA .int [(.int r0), o0, o0, o0, o0, o0, o0, o0, o0, o0, o0, o0, o0, o0, o0, o0]) (c5, oO cn0 [(fk0, (.ref s1)), (fk1, (.int (2147483639 : Int32))), (fk2, (.ref d5)), (fk3, (.int (1 : Int32)))]) (d4, oA .int [(.int p0), o0, o0, o0, o0, o0, o0, o0, o0, o0, o0, o0, o0, o0, o0, o0]) (c4, oO cn0 [(fk0, (.ref s1)), (fk1, (.int (2147483639 : Int32))), (fk2, (.ref d4)), (fk3, (.int (1 : Int32)))]) (d3, oA .int [(.int z0), o0, o0, o0, o0, o0, o0, o0, o0, o0, o0, o0, o0, o0, o0, o0]) (c3, oO cn0 [(fk0, (.ref s1)), (fk1, (.int (2147483639 : Int32))), (fk2, (.ref d3)), (fk3, (.int (1 : Int32)))]) (d2, oA .int [(.int b0), o0, o0, o0, o0, o0, o0, o0, o0, o0, o0, o0, o0, o0, o0, o0]) (c2, oO cn0 [(fk0, (.ref s1)), (fk1, (.int (2147483639 : Int32))), (fk2, (.ref d2)), (fk3, (.int (1 : Int32)))]) (d1, oA .int [(.int f0), o0, o0, o0, o0, o0, o0, o0, o0, o0, o0, o0, o0, o0, o0, o0]) (c1, oO cn0 [(fk0, (.ref s1)), (fk1, (.int (2147483639 : Int32))), (fk2, (.ref d1)), (fk3, (.int (1 : Int32)))]) ((a1, oO cn1 [(fk4, (.ref c0)), (fk5, (.ref c1)), (fk6, (.ref c2)), (fk7, (.ref c3)), (fk8, (.ref c4)), (fk9, (.ref c5)), (fk10, (.ref c6))]) :: g0 :: (o1, oA .int [(.int w0), (.int w1), (.int w2)]) :: g2 :: ds) u38 n36 n37 u39) (lenOf pd_3 rfl) (hb hby d6_93) (pc' := 96) rfl (argsL := [(.int w0)]) (rest := []) rfl (by rw [hml]; rfl) (W := 0) (oLe rfl) (j := 13) rfl (by decide) (cells' := 0) rfl (slots' := 0) rfl ?_
    intro T v_ d_ q_ B
    obtain ⟨rfl, rfl⟩ := q_
    show oWin p e below Z h0 _ _ (T.setTop (mkF m 96 #[.val (.ref a1), .val (.int (-1 : Int32)), .val (.ref o1), .val (.int q1), .val (.int n1), .val (.int (0 : Int32)), .val (.int (0 : Int32)), .unset] []))
    refine W_iinc B (hb hby d6_96) (pc' := 99) rfl rfl (z := (1 : Int32)) (by decide) (ls' := #[.val (.ref a1), .val (.int (-1 : Int32)), .val (.ref o1), .val (.int q1), .val (.int n1), .val (.int (0 : Int32)), .val (.int (1 : Int32)), .unset]) rfl ?_
    refine W_goto B (hb hby d6_99) (by decide) (pc' := 79) (by decide) ?_
    refine W_iload B (hb hby d6_79) (pc' := 81) rfl rfl ?_
    refine W_iloadN B (hb hby d6_81) (pc' := 82) rfl rfl ?_
    refine W_icmp_ge B (hb hby d6_82) (by decide) (pt := 102) (by decide) (pc' := 85) rfl (fun (c40 : ¬ (1 : Int32) < q1) => ?_) (fun (c40 : (1 : Int32) < q1) => ?_)
    · refine kJ ((vs.set (n1).toNatClampNeg (.int w0)), (n1 + (1 : Int32)), (1 : Int32)) _ ⟨?_, ?_⟩ B
      · first | exact hvs | simp [hvs]
      · show ((n1 + (1 : Int32))).toInt = n1.toInt + q1.toInt
        have fq1 := orI n1
        have fq2 : ((1 : Int32)).toInt = 1 := rfl
        have fq3 := oiadd n1 (1 : Int32)
        have fq4 := orI q1
        have fq5 := hn
        have fq6 := hq
        have fq7 : ((0 : Int32)).toInt = 0 := rfl
        have fq8 := oltI c35
        have fq9 : ((16 : Int32)).toInt = 16 := rfl
        have fq10 := oneI n36
        have fq11 := onltI n37
        have fq12 := onltI c40
        omega
    refine W_aloadN B (hb hby d6_85) (pc' := 86) rfl rfl rfl ?_
    refine W_getfield B hown (host := "") (Or.inl (ow hw (i := 40) rfl)) Via.refl (hb hby d6_86) (pc' := 89) rfl (j := 14) rfl (q := 0) rfl ?_
    intro T B
    refine W_aloadN B (hb hby d6_89) (pc' := 90) rfl rfl rfl ?_
    refine W_iload B (hb hby d6_90) (pc' := 92) rfl rfl ?_
    refine W_iaload B (hb hby d6_92) (pc' := 93) rfl (i := 16) rfl (by decide) (v := (.int w1)) rfl ?_
    have n41 : ¬ (n1 + (1 : Int32)) = (16 : Int32) := by
      refine oneI_i ?_
      have fq1 := orI n1
      have fq2 : ((1 : Int32)).toInt = 1 := rfl
      have fq3 := oiadd n1 (1 : Int32)
      have fq4 : ((16 : Int32)).toInt = 16 := rfl
      have fq5 := hn
      have fq6 := orI q1
      have fq7 := hq
      have fq8 : ((0 : Int32)).toInt = 0 := rfl
      have fq9 := oltI c35
      have fq10 := oneI n36
      have fq11 := onltI n37
      have fq12 := oltI c40
      omega
    have n42 : ¬ (n1 + (1 : Int32)) < (0 : Int32) := by
      refine onltI_i ?_
      have fq1 := orI n1
      have fq2 : ((1 : Int32)).toInt = 1 := rfl
      have fq3 := oiadd n1 (1 : Int32)
      have fq4 : ((0 : Int32)).toInt = 0 := rfl
      have fq5 := hn
      have fq6 := orI q1
      have fq7 := hq
      have fq8 := oltI c35
      have fq9 : ((16 : Int32)).toInt = 16 := rfl
      have fq10 := oneI n36
      have fq11 := onltI n37
      have fq12 := oltI c40
      have fq13 := oneI n41
      omega
    have u43 : ((vs.set (n1).toNatClampNeg (.int w0))).length = 16 := by first | exact hvs | simp [hvs]
    have u44 : ((n1 + (1 : Int32))).toNatClampNeg < ((vs.set (n1).toNatClampNeg (.int w0))).length := by
      rw [u43]
      refine oNatLt ?_ (by decide)
      have fq1 := orI n1
      have fq2 : ((1 : Int32)).toInt = 1 := rfl
      have fq3 := oiadd n1 (1 : Int32)
      have fq4 := hn
      have fq5 := orI q1
      have fq6 := hq
      have fq7 : ((0 : Int32)).toInt = 0 := rfl
      have fq8 := oltI c35
      have fq9 : ((16 : Int32)).toInt = 16 := rfl
      have fq10 := oneI n36
      have fq11 := onltI n37
      have fq12 := oltI c40
      have fq13 := oneI n41
      have fq14 := onltI n42
      omega
    refine W_virtual B (y := (⟨"com/example/tanglemark/tanglemark/datalog/Ints", "add", "(I)V"⟩ : MethodName)) (z := (⟨"com/example/tanglemark/tanglemark/datalog/Ints", "add", "(I)V"⟩ : MethodName)) hown (ow hw (i := 61) rfl) (ow hw (i := 62) rfl) (oNotFace B (ow hw (i := 64) rfl) rfl) (ow hw (i := 64) rfl) (ow hw (i := 63) rfl) (ow hw (i := 21) rfl) (ow hw (i := 65) rfl) (by decide) (a := c0) (rm_ia0 l Z a0 hw h0 c0 d0 s1 w1 (n1 + (1 : Int32)) (vs.set (n1).toNatClampNeg (.int w0)) (d6, oA .int [(.int t0), o0, o0, o0, o0, o0, o0, o0, o0, o0, o0, o0, o0, o0, o0, o0]) (c6, oO cn0 [(fk0, (.ref s1)), (fk1, (.int (2147483639 : Int32))), (fk2, (.ref d6)), (fk3, (.int (1 : Int32)))]) (d5, oA .int [(.int r0), o0, o0, o0, o0, o0, o0, o0, o0, o0, o0, o0, o0, o0, o0, o0]) (c5, oO cn0 [(fk0, (.ref s1)), (fk1, (.int (2147483639 : Int32))), (fk2, (.ref d5)), (fk3, (.int (1 : Int32)))]) (d4, oA .int [(.int p0), o0, o0, o0, o0, o0, o0, o0, o0, o0, o0, o0, o0, o0, o0, o0]) (c4, oO cn0 [(fk0, (.ref s1)), (fk1, (.int (2147483639 : Int32))), (fk2, (.ref d4)), (fk3, (.int (1 : Int32)))]) (d3, oA .int [(.int z0), o0, o0, o0, o0, o0, o0, o0, o0, o0, o0, o0, o0, o0, o0, o0]) (c3, oO cn0 [(fk0, (.ref s1)), (fk1, (.int (2147483639 : Int32))), (fk2, (.ref d3)), (fk3, (.int (1 : Int32)))]) (d2, oA .int [(.int b0), o0, o0, o0, o0, o0, o0, o0, o0, o0, o0, o0, o0, o0, o0, o0]) (c2, oO cn0 [(fk0, (.ref s1)), (fk1, (.int (2147483639 : Int32))), (fk2, (.ref d2)), (fk3, (.int (1 : Int32)))]) (d1, oA .int [(.int f0), o0, o0, o0, o0, o0, o0, o0, o0, o0, o0, o0, o0, o0, o0, o0]) (c1, oO cn0 [(fk0, (.ref s1)), (fk1, (.int (2147483639 : Int32))), (fk2, (.ref d1)), (fk3, (.int (1 : Int32)))]) ((a1, oO cn1 [(fk4, (.ref c0)), (fk5, (.ref c1)), (fk6, (.ref c2)), (fk7, (.ref c3)), (fk8, (.ref c4)), (fk9, (.ref c5)), (fk10, (.ref c6))]) :: g0 :: (o1, oA .int [(.int w0), (.int w1), (.int w2)]) :: g2 :: ds) u43 n41 n42 u44) (lenOf pd_3 rfl) (hb hby d6_93) (pc' := 96) rfl (argsL := [(.int w1)]) (rest := []) rfl (by rw [hml]; rfl) (W := 0) (oLe rfl) (j := 13) rfl (by decide) (cells' := 0) rfl (slots' := 0) rfl ?_
    intro T v_ d_ q_ B
    obtain ⟨rfl, rfl⟩ := q_
    show oWin p e below Z h0 _ _ (T.setTop (mkF m 96 #[.val (.ref a1), .val (.int (-1 : Int32)), .val (.ref o1), .val (.int q1), .val (.int n1), .val (.int (0 : Int32)), .val (.int (1 : Int32)), .unset] []))
    refine W_iinc B (hb hby d6_96) (pc' := 99) rfl rfl (z := (2 : Int32)) (by decide) (ls' := #[.val (.ref a1), .val (.int (-1 : Int32)), .val (.ref o1), .val (.int q1), .val (.int n1), .val (.int (0 : Int32)), .val (.int (2 : Int32)), .unset]) rfl ?_
    refine W_goto B (hb hby d6_99) (by decide) (pc' := 79) (by decide) ?_
    refine W_iload B (hb hby d6_79) (pc' := 81) rfl rfl ?_
    refine W_iloadN B (hb hby d6_81) (pc' := 82) rfl rfl ?_
    refine W_icmp_ge B (hb hby d6_82) (by decide) (pt := 102) (by decide) (pc' := 85) rfl (fun (c45 : ¬ (2 : Int32) < q1) => ?_) (fun (c45 : (2 : Int32) < q1) => ?_)
    · refine kJ (((vs.set (n1).toNatClampNeg (.int w0)).set ((n1 + (1 : Int32))).toNatClampNeg (.int w1)), ((n1 + (1 : Int32)) + (1 : Int32)), (2 : Int32)) _ ⟨?_, ?_⟩ B
      · first | exact hvs | simp [hvs]
      · show (((n1 + (1 : Int32)) + (1 : Int32))).toInt = n1.toInt + q1.toInt
        have fq1 := orI n1
        have fq2 : ((1 : Int32)).toInt = 1 := rfl
        have fq3 := oiadd n1 (1 : Int32)
        have fq4 := oiadd (n1 + (1 : Int32)) (1 : Int32)
        have fq5 := orI q1
        have fq6 := hn
        have fq7 := hq
        have fq8 : ((0 : Int32)).toInt = 0 := rfl
        have fq9 := oltI c35
        have fq10 : ((16 : Int32)).toInt = 16 := rfl
        have fq11 := oneI n36
        have fq12 := onltI n37
        have fq13 := oltI c40
        have fq14 := oneI n41
        have fq15 := onltI n42
        have fq16 : ((2 : Int32)).toInt = 2 := rfl
        have fq17 := onltI c45
        omega
    refine W_aloadN B (hb hby d6_85) (pc' := 86) rfl rfl rfl ?_
    refine W_getfield B hown (host := "") (Or.inl (ow hw (i := 40) rfl)) Via.refl (hb hby d6_86) (pc' := 89) rfl (j := 14) rfl (q := 0) rfl ?_
    intro T B
    refine W_aloadN B (hb hby d6_89) (pc' := 90) rfl rfl rfl ?_
    refine W_iload B (hb hby d6_90) (pc' := 92) rfl rfl ?_
    refine W_iaload B (hb hby d6_92) (pc' := 93) rfl (i := 16) rfl (by decide) (v := (.int w2)) rfl ?_
    have n46 : ¬ ((n1 + (1 : Int32)) + (1 : Int32)) = (16 : Int32) := by
      refine oneI_i ?_
      have fq1 := orI n1
      have fq2 : ((1 : Int32)).toInt = 1 := rfl
      have fq3 := oiadd n1 (1 : Int32)
      have fq4 := oiadd (n1 + (1 : Int32)) (1 : Int32)
      have fq5 : ((16 : Int32)).toInt = 16 := rfl
      have fq6 := hn
      have fq7 := orI q1
      have fq8 := hq
      have fq9 : ((0 : Int32)).toInt = 0 := rfl
      have fq10 := oltI c35
      have fq11 := oneI n36
      have fq12 := onltI n37
      have fq13 := oltI c40
      have fq14 := oneI n41
      have fq15 := onltI n42
      have fq16 : ((2 : Int32)).toInt = 2 := rfl
      have fq17 := oltI c45
      omega
    have n47 : ¬ ((n1 + (1 : Int32)) + (1 : Int32)) < (0 : Int32) := by
      refine onltI_i ?_
      have fq1 := orI n1
      have fq2 : ((1 : Int32)).toInt = 1 := rfl
      have fq3 := oiadd n1 (1 : Int32)
      have fq4 := oiadd (n1 + (1 : Int32)) (1 : Int32)
      have fq5 : ((0 : Int32)).toInt = 0 := rfl
      have fq6 := hn
      have fq7 := orI q1
      have fq8 := hq
      have fq9 := oltI c35
      have fq10 : ((16 : Int32)).toInt = 16 := rfl
      have fq11 := oneI n36
      have fq12 := onltI n37
      have fq13 := oltI c40
      have fq14 := oneI n41
      have fq15 := onltI n42
      have fq16 : ((2 : Int32)).toInt = 2 := rfl
      have fq17 := oltI c45
      have fq18 := oneI n46
      omega
    have u48 : (((vs.set (n1).toNatClampNeg (.int w0)).set ((n1 + (1 : Int32))).toNatClampNeg (.int w1))).length = 16 := by first | exact hvs | simp [hvs]
    have u49 : (((n1 + (1 : Int32)) + (1 : Int32))).toNatClampNeg < (((vs.set (n1).toNatClampNeg (.int w0)).set ((n1 + (1 : Int32))).toNatClampNeg (.int w1))).length := by
      rw [u48]
      refine oNatLt ?_ (by decide)
      have fq1 := orI n1
      have fq2 : ((1 : Int32)).toInt = 1 := rfl
      have fq3 := oiadd n1 (1 : Int32)
      have fq4 := oiadd (n1 + (1 : Int32)) (1 : Int32)
      have fq5 := hn
      have fq6 := orI q1
      have fq7 := hq
      have fq8 : ((0 : Int32)).toInt = 0 := rfl
      have fq9 := oltI c35
      have fq10 : ((16 : Int32)).toInt = 16 := rfl
      have fq11 := oneI n36
      have fq12 := onltI n37
      have fq13 := oltI c40
      have fq14 := oneI n41
      have fq15 := onltI n42
      have fq16 : ((2 : Int32)).toInt = 2 := rfl
      have fq17 := oltI c45
      have fq18 := oneI n46
      have fq19 := onltI n47
      omega
    refine W_virtual B (y := (⟨"com/example/tanglemark/tanglemark/datalog/Ints", "add", "(I)V"⟩ : MethodName)) (z := (⟨"com/example/tanglemark/tanglemark/datalog/Ints", "add", "(I)V"⟩ : MethodName)) hown (ow hw (i := 61) rfl) (ow hw (i := 62) rfl) (oNotFace B (ow hw (i := 64) rfl) rfl) (ow hw (i := 64) rfl) (ow hw (i := 63) rfl) (ow hw (i := 21) rfl) (ow hw (i := 65) rfl) (by decide) (a := c0) (rm_ia0 l Z a0 hw h0 c0 d0 s1 w2 ((n1 + (1 : Int32)) + (1 : Int32)) ((vs.set (n1).toNatClampNeg (.int w0)).set ((n1 + (1 : Int32))).toNatClampNeg (.int w1)) (d6, oA .int [(.int t0), o0, o0, o0, o0, o0, o0, o0, o0, o0, o0, o0, o0, o0, o0, o0]) (c6, oO cn0 [(fk0, (.ref s1)), (fk1, (.int (2147483639 : Int32))), (fk2, (.ref d6)), (fk3, (.int (1 : Int32)))]) (d5, oA .int [(.int r0), o0, o0, o0, o0, o0, o0, o0, o0, o0, o0, o0, o0, o0, o0, o0]) (c5, oO cn0 [(fk0, (.ref s1)), (fk1, (.int (2147483639 : Int32))), (fk2, (.ref d5)), (fk3, (.int (1 : Int32)))]) (d4, oA .int [(.int p0), o0, o0, o0, o0, o0, o0, o0, o0, o0, o0, o0, o0, o0, o0, o0]) (c4, oO cn0 [(fk0, (.ref s1)), (fk1, (.int (2147483639 : Int32))), (fk2, (.ref d4)), (fk3, (.int (1 : Int32)))]) (d3, oA .int [(.int z0), o0, o0, o0, o0, o0, o0, o0, o0, o0, o0, o0, o0, o0, o0, o0]) (c3, oO cn0 [(fk0, (.ref s1)), (fk1, (.int (2147483639 : Int32))), (fk2, (.ref d3)), (fk3, (.int (1 : Int32)))]) (d2, oA .int [(.int b0), o0, o0, o0, o0, o0, o0, o0, o0, o0, o0, o0, o0, o0, o0, o0]) (c2, oO cn0 [(fk0, (.ref s1)), (fk1, (.int (2147483639 : Int32))), (fk2, (.ref d2)), (fk3, (.int (1 : Int32)))]) (d1, oA .int [(.int f0), o0, o0, o0, o0, o0, o0, o0, o0, o0, o0, o0, o0, o0, o0, o0]) (c1, oO cn0 [(fk0, (.ref s1)), (fk1, (.int (2147483639 : Int32))), (fk2, (.ref d1)), (fk3, (.int (1 : Int32)))]) ((a1, oO cn1 [(fk4, (.ref c0)), (fk5, (.ref c1)), (fk6, (.ref c2)), (fk7, (.ref c3)), (fk8, (.ref c4)), (fk9, (.ref c5)), (fk10, (.ref c6))]) :: g0 :: (o1, oA .int [(.int w0), (.int w1), (.int w2)]) :: g2 :: ds) u48 n46 n47 u49) (lenOf pd_3 rfl) (hb hby d6_93) (pc' := 96) rfl (argsL := [(.int w2)]) (rest := []) rfl (by rw [hml]; rfl) (W := 0) (oLe rfl) (j := 13) rfl (by decide) (cells' := 0) rfl (slots' := 0) rfl ?_
    intro T v_ d_ q_ B
    obtain ⟨rfl, rfl⟩ := q_
    show oWin p e below Z h0 _ _ (T.setTop (mkF m 96 #[.val (.ref a1), .val (.int (-1 : Int32)), .val (.ref o1), .val (.int q1), .val (.int n1), .val (.int (0 : Int32)), .val (.int (2 : Int32)), .unset] []))
    refine W_iinc B (hb hby d6_96) (pc' := 99) rfl rfl (z := (3 : Int32)) (by decide) (ls' := #[.val (.ref a1), .val (.int (-1 : Int32)), .val (.ref o1), .val (.int q1), .val (.int n1), .val (.int (0 : Int32)), .val (.int (3 : Int32)), .unset]) rfl ?_
    refine W_goto B (hb hby d6_99) (by decide) (pc' := 79) (by decide) ?_
    have n50 : ¬ (3 : Int32) < q1 := by
      refine onltI_i ?_
      have fq1 : ((3 : Int32)).toInt = 3 := rfl
      have fq2 := orI q1
      have fq3 := orI n1
      have fq4 := hn
      have fq5 := hq
      have fq6 : ((0 : Int32)).toInt = 0 := rfl
      have fq7 := oltI c35
      have fq8 : ((16 : Int32)).toInt = 16 := rfl
      have fq9 := oneI n36
      have fq10 := onltI n37
      have fq11 : ((1 : Int32)).toInt = 1 := rfl
      have fq12 := oltI c40
      have fq13 := oiadd n1 (1 : Int32)
      have fq14 := oneI n41
      have fq15 := onltI n42
      have fq16 : ((2 : Int32)).toInt = 2 := rfl
      have fq17 := oltI c45
      have fq18 := oiadd (n1 + (1 : Int32)) (1 : Int32)
      have fq19 := oneI n46
      have fq20 := onltI n47
      omega
    refine W_iload B (hb hby d6_79) (pc' := 81) rfl rfl ?_
    refine W_iloadN B (hb hby d6_81) (pc' := 82) rfl rfl ?_
    refine W_icmpY B (hb hby d6_82) (by decide) (pc' := 102) (by decide) (flt n50).2.1 ?_
    refine kJ ((((vs.set (n1).toNatClampNeg (.int w0)).set ((n1 + (1 : Int32))).toNatClampNeg (.int w1)).set (((n1 + (1 : Int32)) + (1 : Int32))).toNatClampNeg (.int w2)), (((n1 + (1 : Int32)) + (1 : Int32)) + (1 : Int32)), (3 : Int32)) _ ⟨?_, ?_⟩ B
    · first | exact hvs | simp [hvs]
    · show ((((n1 + (1 : Int32)) + (1 : Int32)) + (1 : Int32))).toInt = n1.toInt + q1.toInt
      have fq1 := orI n1
      have fq2 : ((1 : Int32)).toInt = 1 := rfl
      have fq3 := oiadd n1 (1 : Int32)
      have fq4 := oiadd (n1 + (1 : Int32)) (1 : Int32)
      have fq5 := oiadd ((n1 + (1 : Int32)) + (1 : Int32)) (1 : Int32)
      have fq6 := orI q1
      have fq7 := hn
      have fq8 := hq
      have fq9 : ((0 : Int32)).toInt = 0 := rfl
      have fq10 := oltI c35
      have fq11 : ((16 : Int32)).toInt = 16 := rfl
      have fq12 := oneI n36
      have fq13 := onltI n37
      have fq14 := oltI c40
      have fq15 := oneI n41
      have fq16 := onltI n42
      have fq17 : ((2 : Int32)).toInt = 2 := rfl
      have fq18 := oltI c45
      have fq19 := oneI n46
      have fq20 := onltI n47
      have fq21 : ((3 : Int32)).toInt = 3 := rfl
      have fq22 := onltI n50
      omega
  intro z_ T hz B
  obtain ⟨us, n2, i2⟩ := z_
  obtain ⟨hus, hj⟩ := hz
  dsimp only at hus hj B
  show oWin p e below Z h0 _ _ (T.setTop (mkF m 102 #[.val (.ref a1), .val (.int (-1 : Int32)), .val (.ref o1), .val (.int q1), .val (.int n1), .val (.int (0 : Int32)), .val (.int i2), .unset] []))
  refine W_iload B (hb hby d6_102) (pc' := 104) rfl rfl ?_
  refine W_ifY B (hb hby d6_104) (by decide) (pc' := 115) (by decide) (by decide) ?_
  refine W_iconst B (hb hby d6_115) (pc' := 116) rfl (z := (0 : Int32)) (by decide) ?_
  refine W_istore B (hb hby d6_116) (pc' := 118) rfl (v := (0 : Int32)) rfl (ls' := #[.val (.ref a1), .val (.int (-1 : Int32)), .val (.ref o1), .val (.int q1), .val (.int n1), .val (.int (0 : Int32)), .val (.int (0 : Int32)), .unset]) rfl ?_
  refine W_aloadN B (hb hby d6_118) (pc' := 119) rfl rfl rfl ?_
  refine W_getfield B hown (host := "") (Or.inl (ow hw (i := 46) rfl)) Via.refl (hb hby d6_119) (pc' := 122) rfl (j := 14) rfl (q := 3) rfl ?_
  intro T B
  refine W_getfield B hown (host := "") (Or.inl (ow hw (i := 59) rfl)) Via.refl (hb hby d6_122) (pc' := 125) rfl (j := 7) rfl (q := 3) rfl ?_
  intro T B
  refine W_istore B (hb hby d6_125) (pc' := 127) rfl (v := (1 : Int32)) rfl (ls' := #[.val (.ref a1), .val (.int (-1 : Int32)), .val (.ref o1), .val (.int q1), .val (.int n1), .val (.int (0 : Int32)), .val (.int (0 : Int32)), .val (.int (1 : Int32))]) rfl ?_
  refine W_aloadN B (hb hby d6_127) (pc' := 128) rfl rfl rfl ?_
  refine W_getfield B hown (host := "") (Or.inl (ow hw (i := 50) rfl)) Via.refl (hb hby d6_128) (pc' := 131) rfl (j := 14) rfl (q := 5) rfl ?_
  intro T B
  refine W_iload B (hb hby d6_131) (pc' := 133) rfl rfl ?_
  refine W_ifY B (hb hby d6_133) (by decide) (pc' := 148) (by decide) (by decide) ?_
  refine W_iload B (hb hby d6_148) (pc' := 150) rfl rfl ?_
  refine W_virtual B (y := (⟨"com/example/tanglemark/tanglemark/datalog/Ints", "add", "(I)V"⟩ : MethodName)) (z := (⟨"com/example/tanglemark/tanglemark/datalog/Ints", "add", "(I)V"⟩ : MethodName)) hown (ow hw (i := 61) rfl) (ow hw (i := 62) rfl) (oNotFace B (ow hw (i := 64) rfl) rfl) (ow hw (i := 64) rfl) (ow hw (i := 63) rfl) (ow hw (i := 21) rfl) (ow hw (i := 65) rfl) (by decide) (a := c5) (rm_ia5 l Z a0 hw h0 c5 d5 s1 (1 : Int32) (1 : Int32) [(.int r0), o0, o0, o0, o0, o0, o0, o0, o0, o0, o0, o0, o0, o0, o0, o0] (d6, oA .int [(.int t0), o0, o0, o0, o0, o0, o0, o0, o0, o0, o0, o0, o0, o0, o0, o0]) (c6, oO cn0 [(fk0, (.ref s1)), (fk1, (.int (2147483639 : Int32))), (fk2, (.ref d6)), (fk3, (.int (1 : Int32)))]) ((d4, oA .int [(.int p0), o0, o0, o0, o0, o0, o0, o0, o0, o0, o0, o0, o0, o0, o0, o0]) :: (c4, oO cn0 [(fk0, (.ref s1)), (fk1, (.int (2147483639 : Int32))), (fk2, (.ref d4)), (fk3, (.int (1 : Int32)))]) :: (d3, oA .int [(.int z0), o0, o0, o0, o0, o0, o0, o0, o0, o0, o0, o0, o0, o0, o0, o0]) :: (c3, oO cn0 [(fk0, (.ref s1)), (fk1, (.int (2147483639 : Int32))), (fk2, (.ref d3)), (fk3, (.int (1 : Int32)))]) :: (d2, oA .int [(.int b0), o0, o0, o0, o0, o0, o0, o0, o0, o0, o0, o0, o0, o0, o0, o0]) :: (c2, oO cn0 [(fk0, (.ref s1)), (fk1, (.int (2147483639 : Int32))), (fk2, (.ref d2)), (fk3, (.int (1 : Int32)))]) :: (d1, oA .int [(.int f0), o0, o0, o0, o0, o0, o0, o0, o0, o0, o0, o0, o0, o0, o0, o0]) :: (c1, oO cn0 [(fk0, (.ref s1)), (fk1, (.int (2147483639 : Int32))), (fk2, (.ref d1)), (fk3, (.int (1 : Int32)))]) :: (d0, oA .int us) :: (c0, oO cn0 [(fk0, (.ref s1)), (fk1, (.int (2147483639 : Int32))), (fk2, (.ref d0)), (fk3, (.int n2))]) :: (a1, oO cn1 [(fk4, (.ref c0)), (fk5, (.ref c1)), (fk6, (.ref c2)), (fk7, (.ref c3)), (fk8, (.ref c4)), (fk9, (.ref c5)), (fk10, (.ref c6))]) :: g0 :: (o1, oA .int [(.int w0), (.int w1), (.int w2)]) :: g2 :: ds) rfl (by decide) (by decide) (oLt rfl)) (lenOf pd_3 rfl) (hb hby d6_150) (pc' := 153) rfl (argsL := [(.int (1 : Int32))]) (rest := []) rfl (by rw [hml]; rfl) (W := 0) (oLe rfl) (j := 3) rfl (by decide) (cells' := 0) rfl (slots' := 0) rfl ?_
  intro T v_ d_ q_ B
  obtain ⟨rfl, rfl⟩ := q_
  show oWin p e below Z h0 _ _ (T.setTop (mkF m 153 #[.val (.ref a1), .val (.int (-1 : Int32)), .val (.ref o1), .val (.int q1), .val (.int n1), .val (.int (0 : Int32)), .val (.int (0 : Int32)), .val (.int (1 : Int32))] []))
  refine W_aloadN B (hb hby d6_153) (pc' := 154) rfl rfl rfl ?_
  refine W_getfield B hown (host := "") (Or.inl (ow hw (i := 42) rfl)) Via.refl (hb hby d6_154) (pc' := 157) rfl (j := 14) rfl (q := 1) rfl ?_
  intro T B
  refine W_iload B (hb hby d6_157) (pc' := 159) rfl rfl ?_
  refine W_virtual B (y := (⟨"com/example/tanglemark/tanglemark/datalog/Ints", "add", "(I)V"⟩ : MethodName)) (z := (⟨"com/example/tanglemark/tanglemark/datalog/Ints", "add", "(I)V"⟩ : MethodName)) hown (ow hw (i := 61) rfl) (ow hw (i := 62) rfl) (oNotFace B (ow hw (i := 64) rfl) rfl) (ow hw (i := 64) rfl) (ow hw (i := 63) rfl) (ow hw (i := 21) rfl) (ow hw (i := 65) rfl) (by decide) (a := c1) (rm_ia1 l Z a0 hw h0 c1 d1 s1 n1 (1 : Int32) [(.int f0), o0, o0, o0, o0, o0, o0, o0, o0, o0, o0, o0, o0, o0, o0, o0] (d6, oA .int [(.int t0), o0, o0, o0, o0, o0, o0, o0, o0, o0, o0, o0, o0, o0, o0, o0]) (c6, oO cn0 [(fk0, (.ref s1)), (fk1, (.int (2147483639 : Int32))), (fk2, (.ref d6)), (fk3, (.int (1 : Int32)))]) (d5, oA .int [(.int r0), (.int (1 : Int32)), o0, o0, o0, o0, o0, o0, o0, o0, o0, o0, o0, o0, o0, o0]) (c5, oO cn0 [(fk0, (.ref s1)), (fk1, (.int (2147483639 : Int32))), (fk2, (.ref d5)), (fk3, (.int (2 : Int32)))]) (d4, oA .int [(.int p0), o0, o0, o0, o0, o0, o0, o0, o0, o0, o0, o0, o0, o0, o0, o0]) (c4, oO cn0 [(fk0, (.ref s1)), (fk1, (.int (2147483639 : Int32))), (fk2, (.ref d4)), (fk3, (.int (1 : Int32)))]) (d3, oA .int [(.int z0), o0, o0, o0, o0, o0, o0, o0, o0, o0, o0, o0, o0, o0, o0, o0]) (c3, oO cn0 [(fk0, (.ref s1)), (fk1, (.int (2147483639 : Int32))), (fk2, (.ref d3)), (fk3, (.int (1 : Int32)))]) (d2, oA .int [(.int b0), o0, o0, o0, o0, o0, o0, o0, o0, o0, o0, o0, o0, o0, o0, o0]) (c2, oO cn0 [(fk0, (.ref s1)), (fk1, (.int (2147483639 : Int32))), (fk2, (.ref d2)), (fk3, (.int (1 : Int32)))]) ((d0, oA .int us) :: (c0, oO cn0 [(fk0, (.ref s1)), (fk1, (.int (2147483639 : Int32))), (fk2, (.ref d0)), (fk3, (.int n2))]) :: (a1, oO cn1 [(fk4, (.ref c0)), (fk5, (.ref c1)), (fk6, (.ref c2)), (fk7, (.ref c3)), (fk8, (.ref c4)), (fk9, (.ref c5)), (fk10, (.ref c6))]) :: g0 :: (o1, oA .int [(.int w0), (.int w1), (.int w2)]) :: g2 :: ds) rfl (by decide) (by decide) (oLt rfl)) (lenOf pd_3 rfl) (hb hby d6_159) (pc' := 162) rfl (argsL := [(.int n1)]) (rest := []) rfl (by rw [hml]; rfl) (W := 0) (oLe rfl) (j := 11) rfl (by decide) (cells' := 0) rfl (slots' := 0) rfl ?_
  intro T v_ d_ q_ B
  obtain ⟨rfl, rfl⟩ := q_
  show oWin p e below Z h0 _ _ (T.setTop (mkF m 162 #[.val (.ref a1), .val (.int (-1 : Int32)), .val (.ref o1), .val (.int q1), .val (.int n1), .val (.int (0 : Int32)), .val (.int (0 : Int32)), .val (.int (1 : Int32))] []))
  refine W_aloadN B (hb hby d6_162) (pc' := 163) rfl rfl rfl ?_
  refine W_getfield B hown (host := "") (Or.inl (ow hw (i := 44) rfl)) Via.refl (hb hby d6_163) (pc' := 166) rfl (j := 14) rfl (q := 2) rfl ?_
  intro T B
  refine W_iload B (hb hby d6_166) (pc' := 168) rfl rfl ?_
  refine W_virtual B (y := (⟨"com/example/tanglemark/tanglemark/datalog/Ints", "add", "(I)V"⟩ : MethodName)) (z := (⟨"com/example/tanglemark/tanglemark/datalog/Ints", "add", "(I)V"⟩ : MethodName)) hown (ow hw (i := 61) rfl) (ow hw (i := 62) rfl) (oNotFace B (ow hw (i := 64) rfl) rfl) (ow hw (i := 64) rfl) (ow hw (i := 63) rfl) (ow hw (i := 21) rfl) (ow hw (i := 65) rfl) (by decide) (a := c2) (rm_ia2 l Z a0 hw h0 c2 d2 s1 (0 : Int32) (1 : Int32) [(.int b0), o0, o0, o0, o0, o0, o0, o0, o0, o0, o0, o0, o0, o0, o0, o0] (d6, oA .int [(.int t0), o0, o0, o0, o0, o0, o0, o0, o0, o0, o0, o0, o0, o0, o0, o0]) (c6, oO cn0 [(fk0, (.ref s1)), (fk1, (.int (2147483639 : Int32))), (fk2, (.ref d6)), (fk3, (.int (1 : Int32)))]) (d5, oA .int [(.int r0), (.int (1 : Int32)), o0, o0, o0, o0, o0, o0, o0, o0, o0, o0, o0, o0, o0, o0]) (c5, oO cn0 [(fk0, (.ref s1)), (fk1, (.int (2147483639 : Int32))), (fk2, (.ref d5)), (fk3, (.int (2 : Int32)))]) (d4, oA .int [(.int p0), o0, o0, o0, o0, o0, o0, o0, o0, o0, o0, o0, o0, o0, o0, o0]) (c4, oO cn0 [(fk0, (.ref s1)), (fk1, (.int (2147483639 : Int32))), (fk2, (.ref d4)), (fk3, (.int (1 : Int32)))]) (d3, oA .int [(.int z0), o0, o0, o0, o0, o0, o0, o0, o0, o0, o0, o0, o0, o0, o0, o0]) (c3, oO cn0 [(fk0, (.ref s1)), (fk1, (.int (2147483639 : Int32))), (fk2, (.ref d3)), (fk3, (.int (1 : Int32)))]) ((d1, oA .int [(.int f0), (.int n1), o0, o0, o0, o0, o0, o0, o0, o0, o0, o0, o0, o0, o0, o0]) :: (c1, oO cn0 [(fk0, (.ref s1)), (fk1, (.int (2147483639 : Int32))), (fk2, (.ref d1)), (fk3, (.int (2 : Int32)))]) :: (d0, oA .int us) :: (c0, oO cn0 [(fk0, (.ref s1)), (fk1, (.int (2147483639 : Int32))), (fk2, (.ref d0)), (fk3, (.int n2))]) :: (a1, oO cn1 [(fk4, (.ref c0)), (fk5, (.ref c1)), (fk6, (.ref c2)), (fk7, (.ref c3)), (fk8, (.ref c4)), (fk9, (.ref c5)), (fk10, (.ref c6))]) :: g0 :: (o1, oA .int [(.int w0), (.int w1), (.int w2)]) :: g2 :: ds) rfl (by decide) (by decide) (oLt rfl)) (lenOf pd_3 rfl) (hb hby d6_168) (pc' := 171) rfl (argsL := [(.int (0 : Int32))]) (rest := []) rfl (by rw [hml]; rfl) (W := 0) (oLe rfl) (j := 9) rfl (by decide) (cells' := 0) rfl (slots' := 0) rfl ?_
  intro T v_ d_ q_ B
  obtain ⟨rfl, rfl⟩ := q_
  show oWin p e below Z h0 _ _ (T.setTop (mkF m 171 #[.val (.ref a1), .val (.int (-1 : Int32)), .val (.ref o1), .val (.int q1), .val (.int n1), .val (.int (0 : Int32)), .val (.int (0 : Int32)), .val (.int (1 : Int32))] []))
  refine W_aloadN B (hb hby d6_171) (pc' := 172) rfl rfl rfl ?_
  refine W_getfield B hown (host := "") (Or.inl (ow hw (i := 46) rfl)) Via.refl (hb hby d6_172) (pc' := 175) rfl (j := 14) rfl (q := 3) rfl ?_
  intro T B
  refine W_iload B (hb hby d6_175) (pc' := 177) rfl rfl ?_
  refine W_aloadN B (hb hby d6_177) (pc' := 178) rfl rfl rfl ?_
  refine W_getfield B hown (host := "") (Or.inl (ow hw (i := 40) rfl)) Via.refl (hb hby d6_178) (pc' := 181) rfl (j := 14) rfl (q := 0) rfl ?_
  intro T B
  refine W_getfield B hown (host := "") (Or.inl (ow hw (i := 59) rfl)) Via.refl (hb hby d6_181) (pc' := 184) rfl (j := 13) rfl (q := 3) rfl ?_
  intro T B
  refine W_iadd B (hb hby d6_184) (pc' := 185) rfl (z := ((0 : Int32) + n2)) rfl ?_
  refine W_iload B (hb hby d6_185) (pc' := 187) rfl rfl ?_
  refine W_isub B (hb hby d6_187) (pc' := 188) rfl (z := (((0 : Int32) + n2) - n1)) rfl ?_
  refine W_virtual B (y := (⟨"com/example/tanglemark/tanglemark/datalog/Ints", "add", "(I)V"⟩ : MethodName)) (z := (⟨"com/example/tanglemark/tanglemark/datalog/Ints", "add", "(I)V"⟩ : MethodName)) hown (ow hw (i := 61) rfl) (ow hw (i := 62) rfl) (oNotFace B (ow hw (i := 64) rfl) rfl) (ow hw (i := 64) rfl) (ow hw (i := 63) rfl) (ow hw (i := 21) rfl) (ow hw (i := 65) rfl) (by decide) (a := c3) (rm_ia3 l Z a0 hw h0 c3 d3 s1 (((0 : Int32) + n2) - n1) (1 : Int32) [(.int z0), o0, o0, o0, o0, o0, o0, o0, o0, o0, o0, o0, o0, o0, o0, o0] (d6, oA .int [(.int t0), o0, o0, o0, o0, o0, o0, o0, o0, o0, o0, o0, o0, o0, o0, o0]) (c6, oO cn0 [(fk0, (.ref s1)), (fk1, (.int (2147483639 : Int32))), (fk2, (.ref d6)), (fk3, (.int (1 : Int32)))]) (d5, oA .int [(.int r0), (.int (1 : Int32)), o0, o0, o0, o0, o0, o0, o0, o0, o0, o0, o0, o0, o0, o0]) (c5, oO cn0 [(fk0, (.ref s1)), (fk1, (.int (2147483639 : Int32))), (fk2, (.ref d5)), (fk3, (.int (2 : Int32)))]) (d4, oA .int [(.int p0), o0, o0, o0, o0, o0, o0, o0, o0, o0, o0, o0, o0, o0, o0, o0]) (c4, oO cn0 [(fk0, (.ref s1)), (fk1, (.int (2147483639 : Int32))), (fk2, (.ref d4)), (fk3, (.int (1 : Int32)))]) ((d2, oA .int [(.int b0), o0, o0, o0, o0, o0, o0, o0, o0, o0, o0, o0, o0, o0, o0, o0]) :: (c2, oO cn0 [(fk0, (.ref s1)), (fk1, (.int (2147483639 : Int32))), (fk2, (.ref d2)), (fk3, (.int (2 : Int32)))]) :: (d1, oA .int [(.int f0), (.int n1), o0, o0, o0, o0, o0, o0, o0, o0, o0, o0, o0, o0, o0, o0]) :: (c1, oO cn0 [(fk0, (.ref s1)), (fk1, (.int (2147483639 : Int32))), (fk2, (.ref d1)), (fk3, (.int (2 : Int32)))]) :: (d0, oA .int us) :: (c0, oO cn0 [(fk0, (.ref s1)), (fk1, (.int (2147483639 : Int32))), (fk2, (.ref d0)), (fk3, (.int n2))]) :: (a1, oO cn1 [(fk4, (.ref c0)), (fk5, (.ref c1)), (fk6, (.ref c2)), (fk7, (.ref c3)), (fk8, (.ref c4)), (fk9, (.ref c5)), (fk10, (.ref c6))]) :: g0 :: (o1, oA .int [(.int w0), (.int w1), (.int w2)]) :: g2 :: ds) rfl (by decide) (by decide) (oLt rfl)) (lenOf pd_3 rfl) (hb hby d6_188) (pc' := 191) rfl (argsL := [(.int (((0 : Int32) + n2) - n1))]) (rest := []) rfl (by rw [hml]; rfl) (W := 0) (oLe rfl) (j := 7) rfl (by decide) (cells' := 0) rfl (slots' := 0) rfl ?_
  intro T v_ d_ q_ B
  obtain ⟨rfl, rfl⟩ := q_
  show oWin p e below Z h0 _ _ (T.setTop (mkF m 191 #[.val (.ref a1), .val (.int (-1 : Int32)), .val (.ref o1), .val (.int q1), .val (.int n1), .val (.int (0 : Int32)), .val (.int (0 : Int32)), .val (.int (1 : Int32))] []))
  refine W_aloadN B (hb hby d6_191) (pc' := 192) rfl rfl rfl ?_
  refine W_getfield B hown (host := "") (Or.inl (ow hw (i := 48) rfl)) Via.refl (hb hby d6_192) (pc' := 195) rfl (j := 14) rfl (q := 4) rfl ?_
  intro T B
  refine W_iload B (hb hby d6_195) (pc' := 197) rfl rfl ?_
  refine W_ifY B (hb hby d6_197) (by decide) (pc' := 204) (by decide) (by decide) ?_
  refine W_iconst B (hb hby d6_204) (pc' := 205) rfl (z := (-1 : Int32)) (by decide) ?_
  refine W_virtual B (y := (⟨"com/example/tanglemark/tanglemark/datalog/Ints", "add", "(I)V"⟩ : MethodName)) (z := (⟨"com/example/tanglemark/tanglemark/datalog/Ints", "add", "(I)V"⟩ : MethodName)) hown (ow hw (i := 61) rfl) (ow hw (i := 62) rfl) (oNotFace B (ow hw (i := 64) rfl) rfl) (ow hw (i := 64) rfl) (ow hw (i := 63) rfl) (ow hw (i := 21) rfl) (ow hw (i := 65) rfl) (by decide) (a := c4) (rm_ia4 l Z a0 hw h0 c4 d4 s1 (-1 : Int32) (1 : Int32) [(.int p0), o0, o0, o0, o0, o0, o0, o0, o0, o0, o0, o0, o0, o0, o0, o0] (d6, oA .int [(.int t0), o0, o0, o0, o0, o0, o0, o0, o0, o0, o0, o0, o0, o0, o0, o0]) (c6, oO cn0 [(fk0, (.ref s1)), (fk1, (.int (2147483639 : Int32))), (fk2, (.ref d6)), (fk3, (.int (1 : Int32)))]) (d5, oA .int [(.int r0), (.int (1 : Int32)), o0, o0, o0, o0, o0, o0, o0, o0, o0, o0, o0, o0, o0, o0]) (c5, oO cn0 [(fk0, (.ref s1)), (fk1, (.int (2147483639 : Int32))), (fk2, (.ref d5)), (fk3, (.int (2 : Int32)))]) ((d3, oA .int [(.int z0), (.int (((0 : Int32) + n2) - n1)), o0, o0, o0, o0, o0, o0, o0, o0, o0, o0, o0, o0, o0, o0]) :: (c3, oO cn0 [(fk0, (.ref s1)), (fk1, (.int (2147483639 : Int32))), (fk2, (.ref d3)), (fk3, (.int (2 : Int32)))]) :: (d2, oA .int [(.int b0), o0, o0, o0, o0, o0, o0, o0, o0, o0, o0, o0, o0, o0, o0, o0]) :: (c2, oO cn0 [(fk0, (.ref s1)), (fk1, (.int (2147483639 : Int32))), (fk2, (.ref d2)), (fk3, (.int (2 : Int32)))]) :: (d1, oA .int [(.int f0), (.int n1), o0, o0, o0, o0, o0, o0, o0, o0, o0, o0, o0, o0, o0, o0]) :: (c1, oO cn0 [(fk0, (.ref s1)), (fk1, (.int (2147483639 : Int32))), (fk2, (.ref d1)), (fk3, (.int (2 : Int32)))]) :: (d0, oA .int us) :: (c0, oO cn0 [(fk0, (.ref s1)), (fk1, (.int (2147483639 : Int32))), (fk2, (.ref d0)), (fk3, (.int n2))]) :: (a1, oO cn1 [(fk4, (.ref c0)), (fk5, (.ref c1)), (fk6, (.ref c2)), (fk7, (.ref c3)), (fk8, (.ref c4)), (fk9, (.ref c5)), (fk10, (.ref c6))]) :: g0 :: (o1, oA .int [(.int w0), (.int w1), (.int w2)]) :: g2 :: ds) rfl (by decide) (by decide) (oLt rfl)) (lenOf pd_3 rfl) (hb hby d6_205) (pc' := 208) rfl (argsL := [(.int (-1 : Int32))]) (rest := []) rfl (by rw [hml]; rfl) (W := 0) (oLe rfl) (j := 5) rfl (by decide) (cells' := 0) rfl (slots' := 0) rfl ?_
  intro T v_ d_ q_ B
  obtain ⟨rfl, rfl⟩ := q_
  show oWin p e below Z h0 _ _ (T.setTop (mkF m 208 #[.val (.ref a1), .val (.int (-1 : Int32)), .val (.ref o1), .val (.int q1), .val (.int n1), .val (.int (0 : Int32)), .val (.int (0 : Int32)), .val (.int (1 : Int32))] []))
  refine W_aloadN B (hb hby d6_208) (pc' := 209) rfl rfl rfl ?_
  refine W_getfield B hown (host := "") (Or.inl (ow hw (i := 52) rfl)) Via.refl (hb hby d6_209) (pc' := 212) rfl (j := 14) rfl (q := 6) rfl ?_
  intro T B
  refine W_iload B (hb hby d6_212) (pc' := 214) rfl rfl ?_
  refine W_ifY B (hb hby d6_214) (by decide) (pc' := 231) (by decide) (by decide) ?_
  refine W_iconst B (hb hby d6_231) (pc' := 232) rfl (z := (1 : Int32)) (by decide) ?_
  refine W_virtual B (y := (⟨"com/example/tanglemark/tanglemark/datalog/Ints", "add", "(I)V"⟩ : MethodName)) (z := (⟨"com/example/tanglemark/tanglemark/datalog/Ints", "add", "(I)V"⟩ : MethodName)) hown (ow hw (i := 61) rfl) (ow hw (i := 62) rfl) (oNotFace B (ow hw (i := 64) rfl) rfl) (ow hw (i := 64) rfl) (ow hw (i := 63) rfl) (ow hw (i := 21) rfl) (ow hw (i := 65) rfl) (by decide) (a := c6) (rm_ia6 l Z a0 hw h0 c6 d6 s1 (1 : Int32) (1 : Int32) [(.int t0), o0, o0, o0, o0, o0, o0, o0, o0, o0, o0, o0, o0, o0, o0, o0]  ((d5, oA .int [(.int r0), (.int (1 : Int32)), o0, o0, o0, o0, o0, o0, o0, o0, o0, o0, o0, o0, o0, o0]) :: (c5, oO cn0 [(fk0, (.ref s1)), (fk1, (.int (2147483639 : Int32))), (fk2, (.ref d5)), (fk3, (.int (2 : Int32)))]) :: (d4, oA .int [(.int p0), (.int (-1 : Int32)), o0, o0, o0, o0, o0, o0, o0, o0, o0, o0, o0, o0, o0, o0]) :: (c4, oO cn0 [(fk0, (.ref s1)), (fk1, (.int (2147483639 : Int32))), (fk2, (.ref d4)), (fk3, (.int (2 : Int32)))]) :: (d3, oA .int [(.int z0), (.int (((0 : Int32) + n2) - n1)), o0, o0, o0, o0, o0, o0, o0, o0, o0, o0, o0, o0, o0, o0]) :: (c3, oO cn0 [(fk0, (.ref s1)), (fk1, (.int (2147483639 : Int32))), (fk2, (.ref d3)), (fk3, (.int (2 : Int32)))]) :: (d2, oA .int [(.int b0), o0, o0, o0, o0, o0, o0, o0, o0, o0, o0, o0, o0, o0, o0, o0]) :: (c2, oO cn0 [(fk0, (.ref s1)), (fk1, (.int (2147483639 : Int32))), (fk2, (.ref d2)), (fk3, (.int (2 : Int32)))]) :: (d1, oA .int [(.int f0), (.int n1), o0, o0, o0, o0, o0, o0, o0, o0, o0, o0, o0, o0, o0, o0]) :: (c1, oO cn0 [(fk0, (.ref s1)), (fk1, (.int (2147483639 : Int32))), (fk2, (.ref d1)), (fk3, (.int (2 : Int32)))]) :: (d0, oA .int us) :: (c0, oO cn0 [(fk0, (.ref s1)), (fk1, (.int (2147483639 : Int32))), (fk2, (.ref d0)), (fk3, (.int n2))]) :: (a1, oO cn1 [(fk4, (.ref c0)), (fk5, (.ref c1)), (fk6, (.ref c2)), (fk7, (.ref c3)), (fk8, (.ref c4)), (fk9, (.ref c5)), (fk10, (.ref c6))]) :: g0 :: (o1, oA .int [(.int w0), (.int w1), (.int w2)]) :: g2 :: ds) rfl (by decide) (by decide) (oLt rfl)) (lenOf pd_3 rfl) (hb hby d6_232) (pc' := 235) rfl (argsL := [(.int (1 : Int32))]) (rest := []) rfl (by rw [hml]; rfl) (W := 0) (oLe rfl) (j := 1) rfl (by decide) (cells' := 0) rfl (slots' := 0) rfl ?_
  intro T v_ d_ q_ B
  obtain ⟨rfl, rfl⟩ := q_
  show oWin p e below Z h0 _ _ (T.setTop (mkF m 235 #[.val (.ref a1), .val (.int (-1 : Int32)), .val (.ref o1), .val (.int q1), .val (.int n1), .val (.int (0 : Int32)), .val (.int (0 : Int32)), .val (.int (1 : Int32))] []))
  refine W_iload B (hb hby d6_235) (pc' := 237) rfl rfl ?_
  refine W_retI B hret (hb hby d6_237) (by decide) ?_
  exact ⟨_, _, hus, hj, rfl, rfl⟩
theorem d6_13 : decode prog_51_method_2_code 13 = .ok (.aload_n 0, 1) := by decide +kernel
theorem d6_14 : decode prog_51_method_2_code 14 = .ok (.getfield 33, 3) := by decide +kernel
theorem d6_17 : decode prog_51_method_2_code 17 = .ok (.getfield 39, 3) := by decide +kernel
theorem d6_20 : decode prog_51_method_2_code 20 = .ok (.iload_n 1, 1) := by decide +kernel
theorem d6_21 : decode prog_51_method_2_code 21 = .ok (.iaload, 1) := by decide +kernel
theorem d6_22 : decode prog_51_method_2_code 22 = .ok (.bipush 16, 2) := by decide +kernel
theorem d6_24 : decode prog_51_method_2_code 24 = .ok (.if_icmp .ge 7, 3) := by decide +kernel
theorem d6_27 : decode prog_51_method_2_code 27 = .ok (.iconst 1, 1) := by decide +kernel
theorem d6_28 : decode prog_51_method_2_code 28 = .ok (.goto 4, 3) := by decide +kernel
theorem d6_38 : decode prog_51_method_2_code 38 = .ok (.iload 5, 2) := by decide +kernel
theorem d6_40 : decode prog_51_method_2_code 40 = .ok (.ifCond .ne 36, 3) := by decide +kernel
theorem d6_107 : decode prog_51_method_2_code 107 = .ok (.aload_n 0, 1) := by decide +kernel
theorem d6_108 : decode prog_51_method_2_code 108 = .ok (.iload_n 1, 1) := by decide +kernel
theorem d6_109 : decode prog_51_method_2_code 109 = .ok (.invokevirtual 42, 3) := by decide +kernel
theorem pd_4 : parseMethodDescriptor "(I)I" = some ⟨[.int], some .int⟩ := by decide +kernel
theorem d6_112 : decode prog_51_method_2_code 112 = .ok (.goto 4, 3) := by decide +kernel
theorem d6_136 : decode prog_51_method_2_code 136 = .ok (.aload_n 0, 1) := by decide +kernel
theorem d6_137 : decode prog_51_method_2_code 137 = .ok (.getfield 30, 3) := by decide +kernel
theorem d6_140 : decode prog_51_method_2_code 140 = .ok (.getfield 39, 3) := by decide +kernel
theorem d6_143 : decode prog_51_method_2_code 143 = .ok (.iload_n 1, 1) := by decide +kernel
theorem d6_144 : decode prog_51_method_2_code 144 = .ok (.iaload, 1) := by decide +kernel
theorem d6_145 : decode prog_51_method_2_code 145 = .ok (.goto 5, 3) := by decide +kernel
theorem d6_200 : decode prog_51_method_2_code 200 = .ok (.iload_n 1, 1) := by decide +kernel
theorem d6_201 : decode prog_51_method_2_code 201 = .ok (.goto 4, 3) := by decide +kernel
theorem d6_217 : decode prog_51_method_2_code 217 = .ok (.aload_n 0, 1) := by decide +kernel
theorem d6_218 : decode prog_51_method_2_code 218 = .ok (.getfield 33, 3) := by decide +kernel
theorem d6_221 : decode prog_51_method_2_code 221 = .ok (.getfield 39, 3) := by decide +kernel
theorem d6_224 : decode prog_51_method_2_code 224 = .ok (.iload_n 1, 1) := by decide +kernel
theorem d6_225 : decode prog_51_method_2_code 225 = .ok (.iaload, 1) := by decide +kernel
theorem d6_226 : decode prog_51_method_2_code 226 = .ok (.iconst 1, 1) := by decide +kernel
theorem d6_227 : decode prog_51_method_2_code 227 = .ok (.iadd, 1) := by decide +kernel
theorem d6_228 : decode prog_51_method_2_code 228 = .ok (.goto 4, 3) := by decide +kernel
theorem ef_rm_add10 (m : MethodId) (x0 : Addr) (x2 : Addr) (x3 : Int32) : entryFrame m #[(.ref x0), (.int (0 : Int32)), (.ref x2), (.int x3)] 8 = mkF m 0 #[.val (.ref x0), .val (.int (0 : Int32)), .val (.ref x2), .val (.int x3), .unset, .unset, .unset, .unset] [] := by first | (simp [entryFrame, mkF, argsToLocals, Value.category]; done) | rfl
set_option maxRecDepth 65536 in
set_option maxHeartbeats 40000000 in
theorem rm_add10 (l : Launch) (Z : State) (a0 : Array Value) (hw : ∀ d ∈ tables_1, d.before a0 Z = true) (h0 : Heap) {lo : Nat} (a1 : Addr) (o1 : Addr) (s1 : Addr) (c0 : Addr) (d0 : Addr) (c1 : Addr) (d1 : Addr) (c2 : Addr) (d2 : Addr) (c3 : Addr) (d3 : Addr) (c4 : Addr) (d4 : Addr) (c5 : Addr) (d5 : Addr) (c6 : Addr) (d6 : Addr) (q1 : Int32) (n1 : Int32) (vs : List Value) (f0 : Int32) (b0 : Int32) (z0 : Int32) (p0 : Int32) (r0 : Int32) (t0 : Int32) (w0 : Int32) (w1 : Int32) (w2 : Int32) (g0 : Addr × oD) (g2 : Addr × oD) (ds : oDs) (hvs : vs.length = 16) (hn : 0 ≤ n1.toInt ∧ n1.toInt ≤ 6) (hq : 0 ≤ q1.toInt ∧ q1.toInt ≤ 3) (ht : t0 < (16 : Int32)) :
    oMet l Z h0 lo (⟨"com/example/tanglemark/tanglemark/datalog/SharedSets", "add", "(I[II)I"⟩ : MethodName) prog_51_method_2_code 8 (some .int) [] ({ frames := 1, cells := 0, slots := 0, locals := 13 } : Room) #[(.ref a1), (.int (0 : Int32)), (.ref o1), (.int q1)] ((d6, oA .int [(.int t0), o0, o0, o0, o0, o0, o0, o0, o0, o0, o0, o0, o0, o0, o0, o0]) :: (c6, oO cn0 [(fk0, (.ref s1)), (fk1, (.int (2147483639 : Int32))), (fk2, (.ref d6)), (fk3, (.int (1 : Int32)))]) :: (d5, oA .int [(.int r0), o0, o0, o0, o0, o0, o0, o0, o0, o0, o0, o0, o0, o0, o0, o0]) :: (c5, oO cn0 [(fk0, (.ref s1)), (fk1, (.int (2147483639 : Int32))), (fk2, (.ref d5)), (fk3, (.int (1 : Int32)))]) :: (d4, oA .int [(.int p0), o0, o0, o0, o0, o0, o0, o0, o0, o0, o0, o0, o0, o0, o0, o0]) :: (c4, oO cn0 [(fk0, (.ref s1)), (fk1, (.int (2147483639 : Int32))), (fk2, (.ref d4)), (fk3, (.int (1 : Int32)))]) :: (d3, oA .int [(.int z0), o0, o0, o0, o0, o0, o0, o0, o0, o0, o0, o0, o0, o0, o0, o0]) :: (c3, oO cn0 [(fk0, (.ref s1)), (fk1, (.int (2147483639 : Int32))), (fk2, (.ref d3)), (fk3, (.int (1 : Int32)))]) :: (d2, oA .int [(.int b0), o0, o0, o0, o0, o0, o0, o0, o0, o0, o0, o0, o0, o0, o0, o0]) :: (c2, oO cn0 [(fk0, (.ref s1)), (fk1, (.int (2147483639 : Int32))), (fk2, (.ref d2)), (fk3, (.int (1 : Int32)))]) :: (d1, oA .int [(.int f0), o0, o0, o0, o0, o0, o0, o0, o0, o0, o0, o0, o0, o0, o0, o0]) :: (c1, oO cn0 [(fk0, (.ref s1)), (fk1, (.int (2147483639 : Int32))), (fk2, (.ref d1)), (fk3, (.int (1 : Int32)))]) :: (d0, oA .int vs) :: (c0, oO cn0 [(fk0, (.ref s1)), (fk1, (.int (2147483639 : Int32))), (fk2, (.ref d0)), (fk3, (.int n1))]) :: (a1, oO cn1 [(fk4, (.ref c0)), (fk5, (.ref c1)), (fk6, (.ref c2)), (fk7, (.ref c3)), (fk8, (.ref c4)), (fk9, (.ref c5)), (fk10, (.ref c6))]) :: g0 :: (o1, oA .int [(.int w0), (.int w1), (.int w2)]) :: g2 :: ds) (fun (v : Option Value) (d : oDs) => (∃ (us : List Value) (n2 : Int32), (us.length = 16) ∧ (n2.toInt = n1.toInt + q1.toInt) ∧ v = some (.int (1 : Int32)) ∧ ((d6, oA .int [(.int t0), (.int (t0 + (1 : Int32))), o0, o0, o0, o0, o0, o0, o0, o0, o0, o0, o0, o0, o0, o0]) :: (c6, oO cn0 [(fk0, (.ref s1)), (fk1, (.int (2147483639 : Int32))), (fk2, (.ref d6)), (fk3, (.int (2 : Int32)))]) :: (d5, oA .int [(.int r0), (.int r0), o0, o0, o0, o0, o0, o0, o0, o0, o0, o0, o0, o0, o0, o0]) :: (c5, oO cn0 [(fk0, (.ref s1)), (fk1, (.int (2147483639 : Int32))), (fk2, (.ref d5)), (fk3, (.int (2 : Int32)))]) :: (d4, oA .int [(.int p0), o0, o0, o0, o0, o0, o0, o0, o0, o0, o0, o0, o0, o0, o0, o0]) :: (c4, oO cn0 [(fk0, (.ref s1)), (fk1, (.int (2147483639 : Int32))), (fk2, (.ref d4)), (fk3, (.int (2 : Int32)))]) :: (d3, oA .int [(.int z0), (.int ((z0 + n2) - n1)), o0, o0, o0, o0, o0, o0, o0, o0, o0, o0, o0, o0, o0, o0]) :: (c3, oO cn0 [(fk0, (.ref s1)), (fk1, (.int (2147483639 : Int32))), (fk2, (.ref d3)), (fk3, (.int (2 : Int32)))]) :: (d2, oA .int [(.int b0), (.int z0), o0, o0, o0, o0, o0, o0, o0, o0, o0, o0, o0, o0, o0, o0]) :: (c2, oO cn0 [(fk0, (.ref s1)), (fk1, (.int (2147483639 : Int32))), (fk2, (.ref d2)), (fk3, (.int (2 : Int32)))]) :: (d1, oA .int [(.int f0), (.int n1), o0, o0, o0, o0, o0, o0, o0, o0, o0, o0, o0, o0, o0, o0]) :: (c1, oO cn0 [(fk0, (.ref s1)), (fk1, (.int (2147483639 : Int32))), (fk2, (.ref d1)), (fk3, (.int (2 : Int32)))]) :: (d0, oA .int us) :: (c0, oO cn0 [(fk0, (.ref s1)), (fk1, (.int (2147483639 : Int32))), (fk2, (.ref d0)), (fk3, (.int n2))]) :: (a1, oO cn1 [(fk4, (.ref c0)), (fk5, (.ref c1)), (fk6, (.ref c2)), (fk7, (.ref c3)), (fk8, (.ref c4)), (fk9, (.ref c5)), (fk10, (.ref c6))]) :: g0 :: (o1, oA .int [(.int w0), (.int w1), (.int w2)]) :: g2 :: ds) = d)) := by
  refine oMet.of_body (plainFor_of_name pn_1) ?_
  intro p e s m below meth c T B hby hml hown hnm hret
  refine W_entry (ef_rm_add10 m a1 o1 q1) ?_
  refine W_aloadN B (hb hby d6_0) (pc' := 1) rfl rfl rfl ?_
  refine W_getfield B hown (host := "") (Or.inl (ow hw (i := 40) rfl)) Via.refl (hb hby d6_1) (pc' := 4) rfl (j := 14) rfl (q := 0) rfl ?_
  intro T B
  refine W_getfield B hown (host := "") (Or.inl (ow hw (i := 59) rfl)) Via.refl (hb hby d6_4) (pc' := 7) rfl (j := 13) rfl (q := 3) rfl ?_
  intro T B
  refine W_istore B (hb hby d6_7) (pc' := 9) rfl (v := n1) rfl (ls' := #[.val (.ref a1), .val (.int (0 : Int32)), .val (.ref o1), .val (.int q1), .val (.int n1), .unset, .unset, .unset]) rfl ?_
  refine W_iloadN B (hb hby d6_9) (pc' := 10) rfl rfl ?_
  refine W_ifN B (hb hby d6_10) (pc' := 13) rfl (by decide) ?_
  refine W_aloadN B (hb hby d6_13) (pc' := 14) rfl rfl rfl ?_
  refine W_getfield B hown (host := "") (Or.inl (ow hw (i := 52) rfl)) Via.refl (hb hby d6_14) (pc' := 17) rfl (j := 14) rfl (q := 6) rfl ?_
  intro T B
  refine W_getfield B hown (host := "") (Or.inl (ow hw (i := 67) rfl)) Via.refl (hb hby d6_17) (pc' := 20) rfl (j := 1) rfl (q := 2) rfl ?_
  intro T B
  refine W_iloadN B (hb hby d6_20) (pc' := 21) rfl rfl ?_
  refine W_iaload B (hb hby d6_21) (pc' := 22) rfl (i := 0) rfl (by decide) (v := (.int t0)) rfl ?_
  refine W_bipush B (hb hby d6_22) (pc' := 24) rfl (z := (16 : Int32)) (by decide) ?_
  refine W_icmpN B (hb hby d6_24) (pc' := 27) rfl (tlt ht).2.1 ?_
  refine W_iconst B (hb hby d6_27) (pc' := 28) rfl (z := (1 : Int32)) (by decide) ?_
  refine W_goto B (hb hby d6_28) (by decide) (pc' := 32) (by decide) ?_
  refine W_istore B (hb hby d6_32) (pc' := 34) rfl (v := (1 : Int32)) rfl (ls' := #[.val (.ref a1), .val (.int (0 : Int32)), .val (.ref o1), .val (.int q1), .val (.int n1), .val (.int (1 : Int32)), .unset, .unset]) rfl ?_
  refine W_iloadN B (hb hby d6_34) (pc' := 35) rfl rfl ?_
  refine W_ifN B (hb hby d6_35) (pc' := 38) rfl (by decide) ?_
  refine W_iload B (hb hby d6_38) (pc' := 40) rfl rfl ?_
  refine W_ifY B (hb hby d6_40) (by decide) (pc' := 76) (by decide) (by decide) ?_
  refine oJoinD B 0 0 (fun z : List Value × Int32 × Int32 => z.1.length = 16 ∧ z.2.1.toInt = n1.toInt + q1.toInt) (fun z => (mkF m 102 #[.val (.ref a1), .val (.int (0 : Int32)), .val (.ref o1), .val (.int q1), .val (.int n1), .val (.int (1 : Int32)), .val (.int z.2.2), .unset] [])) (fun z => ((d6, oA .int [(.int t0), o0, o0, o0, o0, o0, o0, o0, o0, o0, o0, o0, o0, o0, o0, o0]) :: (c6, oO cn0 [(fk0, (.ref s1)), (fk1, (.int (2147483639 : Int32))), (fk2, (.ref d6)), (fk3, (.int (1 : Int32)))]) :: (d5, oA .int [(.int r0), o0, o0, o0, o0, o0, o0, o0, o0, o0, o0, o0, o0, o0, o0, o0]) :: (c5, oO cn0 [(fk0, (.ref s1)), (fk1, (.int (2147483639 : Int32))), (fk2, (.ref d5)), (fk3, (.int (1 : Int32)))]) :: (d4, oA .int [(.int p0), o0, o0, o0, o0, o0, o0, o0, o0, o0, o0, o0, o0, o0, o0, o0]) :: (c4, oO cn0 [(fk0, (.ref s1)), (fk1, (.int (2147483639 : Int32))), (fk2, (.ref d4)), (fk3, (.int (1 : Int32)))]) :: (d3, oA .int [(.int z0), o0, o0, o0, o0, o0, o0, o0, o0, o0, o0, o0, o0, o0, o0, o0]) :: (c3, oO cn0 [(fk0, (.ref s1)), (fk1, (.int (2147483639 : Int32))), (fk2, (.ref d3)), (fk3, (.int (1 : Int32)))]) :: (d2, oA .int [(.int b0), o0, o0, o0, o0, o0, o0, o0, o0, o0, o0, o0, o0, o0, o0, o0]) :: (c2, oO cn0 [(fk0, (.ref s1)), (fk1, (.int (2147483639 : Int32))), (fk2, (.ref d2)), (fk3, (.int (1 : Int32)))]) :: (d1, oA .int [(.int f0), o0, o0, o0, o0, o0, o0, o0, o0, o0, o0, o0, o0, o0, o0, o0]) :: (c1, oO cn0 [(fk0, (.ref s1)), (fk1, (.int (2147483639 : Int32))), (fk2, (.ref d1)), (fk3, (.int (1 : Int32)))]) :: (d0, oA .int z.1) :: (c0, oO cn0 [(fk0, (.ref s1)), (fk1, (.int (2147483639 : Int32))), (fk2, (.ref d0)), (fk3, (.int z.2.1))]) :: (a1, oO cn1 [(fk4, (.ref c0)), (fk5, (.ref c1)), (fk6, (.ref c2)), (fk7, (.ref c3)), (fk8, (.ref c4)), (fk9, (.ref c5)), (fk10, (.ref c6))]) :: g0 :: (o1, oA .int [(.int w0), (.int w1), (.int w2)]) :: g2 :: ds)) ?_ ?_
  · intro kJ
    refine W_iconst B (hb hby d6_76) (pc' := 77) rfl (z := (0 : Int32)) (by decide) ?_
    refine W_istore B (hb hby d6_77) (pc' := 79) rfl (v := (0 : Int32)) rfl (ls' := #[.val (.ref a1), .val (.int (0 : Int32)), .val (.ref o1), .val (.int q1), .val (.int n1), .val (.int (1 : Int32)), .val (.int (0 : Int32)), .unset]) rfl ?_
    refine W_iload B (hb hby d6_79) (pc' := 81) rfl rfl ?_
    refine W_iloadN B (hb hby d6_81) (pc' := 82) rfl rfl ?_
    refine W_icmp_ge B (hb hby d6_82) (by decide) (pt := 102) (by decide) (pc' := 85) rfl (fun (c52 : ¬ (0 : Int32) < q1) => ?_) (fun (c52 : (0 : Int32) < q1) => ?_)
    · refine kJ (vs, n1, (0 : Int32)) _ ⟨?_, ?_⟩ B
      · first | exact hvs | simp [hvs]
      · show (n1).toInt = n1.toInt + q1.toInt
        have fq1 := orI n1
        have fq2 := orI q1
        have fq3 := hn
        have fq4 := hq
        have fq5 : ((0 : Int32)).toInt = 0 := rfl
        have fq6 := onltI c52
        omega
    refine W_aloadN B (hb hby d6_85) (pc' := 86) rfl rfl rfl ?_
    refine W_getfield B hown (host := "") (Or.inl (ow hw (i := 40) rfl)) Via.refl (hb hby d6_86) (pc' := 89) rfl (j := 14) rfl (q := 0) rfl ?_
    intro T B
    refine W_aloadN B (hb hby d6_89) (pc' := 90) rfl rfl rfl ?_
    refine W_iload B (hb hby d6_90) (pc' := 92) rfl rfl ?_
    refine W_iaload B (hb hby d6_92) (pc' := 93) rfl (i := 16) rfl (by decide) (v := (.int w0)) rfl ?_
    have n53 : ¬ n1 = (16 : Int32) := by
      refine oneI_i ?_
      have fq1 := orI n1
      have fq2 : ((16 : Int32)).toInt = 16 := rfl
      have fq3 := hn
      have fq4 := orI q1
      have fq5 := hq
      have fq6 : ((0 : Int32)).toInt = 0 := rfl
      have fq7 := oltI c52
      omega
    have n54 : ¬ n1 < (0 : Int32) := by
      refine onltI_i ?_
      have fq1 := orI n1
      have fq2 : ((0 : Int32)).toInt = 0 := rfl
      have fq3 := hn
      have fq4 := orI q1
      have fq5 := hq
      have fq6 := oltI c52
      have fq7 : ((16 : Int32)).toInt = 16 := rfl
      have fq8 := oneI n53
      omega
    have u55 : (vs).length = 16 := by first | exact hvs | simp [hvs]
    have u56 : (n1).toNatClampNeg < (vs).length := by
      rw [u55]
      refine oNatLt ?_ (by decide)
      have fq1 := orI n1
      have fq2 := hn
      have fq3 := orI q1
      have fq4 := hq
      have fq5 : ((0 : Int32)).toInt = 0 := rfl
      have fq6 := oltI c52
      have fq7 : ((16 : Int32)).toInt = 16 := rfl
      have fq8 := oneI n53
      have fq9 := onltI n54
      omega
    refine W_virtual B (y := (⟨"com/example/tanglemark/tanglemark/datalog/Ints", "add", "(I)V"⟩ : MethodName)) (z := (⟨"com/example/tanglemark/tanglemark/datalog/Ints", "add", "(I)V"⟩ : MethodName)) hown (ow hw (i := 61) rfl) (ow hw (i := 62) rfl) (oNotFace B (ow hw (i := 64) rfl) rfl) (ow hw (i := 64) rfl) (ow hw (i := 63) rfl) (ow hw (i := 21) rfl) (ow hw (i := 65) rfl) (by decide) (a := c0) (rm_ia0 l Z a0 hw h0 c0 d0 s1 w0 n1 vs (d6, oA .int [(.int t0), o0, o0, o0, o0, o0, o0, o0, o0, o0, o0, o0, o0, o0, o0, o0]) (c6, oO cn0 [(fk0, (.ref s1)), (fk1, (.int (2147483639 : Int32))), (fk2, (.ref d6)), (fk3, (.int (1 : Int32)))]) (d5, oA .int [(.int r0), o0, o0, o0, o0, o0, o0, o0, o0, o0, o0, o0, o0, o0, o0, o0]) (c5, oO cn0 [(fk0, (.ref s1)), (fk1, (.int (2147483639 : Int32))), (fk2, (.ref d5)), (fk3, (.int (1 : Int32)))]) (d4, oA .int [(.int p0), o0, o0, o0, o0, o0, o0, o0, o0, o0, o0, o0, o0, o0, o0, o0]) (c4, oO cn0 [(fk0, (.ref s1)), (fk1, (.int (2147483639 : Int32))), (fk2, (.ref d4)), (fk3, (.int (1 : Int32)))]) (d3, oA .int [(.int z0), o0, o0, o0, o0, o0, o0, o0, o0, o0, o0, o0, o0, o0, o0, o0]) (c3, oO cn0 [(fk0, (.ref s1)), (fk1, (.int (2147483639 : Int32))), (fk2, (.ref d3)), (fk3, (.int (1 : Int32)))]) (d2, oA .int [(.int b0), o0, o0, o0, o0, o0, o0, o0, o0, o0, o0, o0, o0, o0, o0, o0]) (c2, oO cn0 [(fk0, (.ref s1)), (fk1, (.int (2147483639 : Int32))), (fk2, (.ref d2)), (fk3, (.int (1 : Int32)))]) (d1, oA .int [(.int f0), o0, o0, o0, o0, o0, o0, o0, o0, o0, o0, o0, o0, o0, o0, o0]) (c1, oO cn0 [(fk0, (.ref s1)), (fk1, (.int (2147483639 : Int32))), (fk2, (.ref d1)), (fk3, (.int (1 : Int32)))]) ((a1, oO cn1 [(fk4, (.ref c0)), (fk5, (.ref c1)), (fk6, (.ref c2)), (fk7, (.ref c3)), (fk8, (.ref c4)), (fk9, (.ref c5)), (fk10, (.ref c6))]) :: g0 :: (o1, oA .int [(.int w0), (.int w1), (.int w2)]) :: g2 :: ds) u55 n53 n54 u56) (lenOf pd_3 rfl) (hb hby d6_93) (pc' := 96) rfl (argsL := [(.int w0)]) (rest := []) rfl (by rw [hml]; rfl) (W := 0) (oLe rfl) (j := 13) rfl (by decide) (cells' := 0) rfl (slots' := 0) rfl ?_
    intro T v_ d_ q_ B
    obtain ⟨rfl, rfl⟩ := q_
    show oWin p e below Z h0 _ _ (T.setTop (mkF m 96 #[.val (.ref a1), .val (.int (0 : Int32)), .val (.ref o1), .val (.int q1), .val (.int n1), .val (.int (1 : Int32)), .val (.int (0 : Int32)), .unset] []))
    refine W_iinc B (hb hby d6_96) (pc' := 99) rfl rfl (z := (1 : Int32)) (by decide) (ls' := #[.val (.ref a1), .val (.int (0 : Int32)), .val (.ref o1), .val (.int q1), .val (.int n1), .val (.int (1 : Int32)), .val (.int (1 : Int32)), .unset]) rfl ?_
    refine W_goto B (hb hby d6_99) (by decide) (pc' := 79) (by decide) ?_
    refine W_iload B (hb hby d6_79) (pc' := 81) rfl rfl ?_
    refine W_iloadN B (hb hby d6_81) (pc' := 82) rfl rfl ?_
    refine W_icmp_ge B (hb hby d6_82) (by decide) (pt := 102) (by decide) (pc' := 85) rfl (fun (c57 : ¬ (1 : Int32) < q1) => ?_) (fun (c57 : (1 : Int32) < q1) => ?_)
    · refine kJ ((vs.set (n1).toNatClampNeg (.int w0)), (n1 + (1 : Int32)), (1 : Int32)) _ ⟨?_, ?_⟩ B
      · first | exact hvs | simp [hvs]
      · show ((n1 + (1 : Int32))).toInt = n1.toInt + q1.toInt
        have fq1 := orI n1
        have fq2 : ((1 : Int32)).toInt = 1 := rfl
        have fq3 := oiadd n1 (1 : Int32)
        have fq4 := orI q1
        have fq5 := hn
        have fq6 := hq
        have fq7 : ((0 : Int32)).toInt = 0 := rfl
        have fq8 := oltI c52
        have fq9 : ((16 : Int32)).toInt = 16 := rfl
        have fq10 := oneI n53
        have fq11 := onltI n54
        have fq12 := onltI c57
        omega
    refine W_aloadN B (hb hby d6_85) (pc' := 86) rfl rfl rfl ?_
    refine W_getfield B hown (host := "") (Or.inl (ow hw (i := 40) rfl)) Via.refl (hb hby d6_86) (pc' := 89) rfl (j := 14) rfl (q := 0) rfl ?_
    intro T B
    refine W_aloadN B (hb hby d6_89) (pc' := 90) rfl rfl rfl ?_
    refine W_iload B (hb hby d6_90) (pc' := 92) rfl rfl ?_
    refine W_iaload B (hb hby d6_92) (pc' := 93) rfl (i := 16) rfl (by decide) (v := (.int w1)) rfl ?_
    have n58 : ¬ (n1 + (1 : Int32)) = (16 : Int32) := by
      refine oneI_i ?_
      have fq1 := orI n1
      have fq2 : ((1 : Int32)).toInt = 1 := rfl
      have fq3 := oiadd n1 (1 : Int32)
      have fq4 : ((16 : Int32)).toInt = 16 := rfl
      have fq5 := hn
      have fq6 := orI q1
      have fq7 := hq
      have fq8 : ((0 : Int32)).toInt = 0 := rfl
      have fq9 := oltI c52
      have fq10 := oneI n53
      have fq11 := onltI n54
      have fq12 := oltI c57
      omega
    have n59 : ¬ (n1 + (1 : Int32)) < (0 : Int32) := by
      refine onltI_i ?_
      have fq1 := orI n1
      have fq2 : ((1 : Int32)).toInt = 1 := rfl
      have fq3 := oiadd n1 (1 : Int32)
      have fq4 : ((0 : Int32)).toInt = 0 := rfl
      have fq5 := hn
      have fq6 := orI q1
      have fq7 := hq
      have fq8 := oltI c52
      have fq9 : ((16 : Int32)).toInt = 16 := rfl
      have fq10 := oneI n53
      have fq11 := onltI n54
      have fq12 := oltI c57
      have fq13 := oneI n58
      omega
    have u60 : ((vs.set (n1).toNatClampNeg (.int w0))).length = 16 := by first | exact hvs | simp [hvs]
    have u61 : ((n1 + (1 : Int32))).toNatClampNeg < ((vs.set (n1).toNatClampNeg (.int w0))).length := by
      rw [u60]
      refine oNatLt ?_ (by decide)
      have fq1 := orI n1
      have fq2 : ((1 : Int32)).toInt = 1 := rfl
      have fq3 := oiadd n1 (1 : Int32)
      have fq4 := hn
      have fq5 := orI q1
      have fq6 := hq
      have fq7 : ((0 : Int32)).toInt = 0 := rfl
      have fq8 := oltI c52
      have fq9 : ((16 : Int32)).toInt = 16 := rfl
      have fq10 := oneI n53
      have fq11 := onltI n54
      have fq12 := oltI c57
      have fq13 := oneI n58
      have fq14 := onltI n59
      omega
    refine W_virtual B (y := (⟨"com/example/tanglemark/tanglemark/datalog/Ints", "add", "(I)V"⟩ : MethodName)) (z := (⟨"com/example/tanglemark/tanglemark/datalog/Ints", "add", "(I)V"⟩ : MethodName)) hown (ow hw (i := 61) rfl) (ow hw (i := 62) rfl) (oNotFace B (ow hw (i := 64) rfl) rfl) (ow hw (i := 64) rfl) (ow hw (i := 63) rfl) (ow hw (i := 21) rfl) (ow hw (i := 65) rfl) (by decide) (a := c0) (rm_ia0 l Z a0 hw h0 c0 d0 s1 w1 (n1 + (1 : Int32)) (vs.set (n1).toNatClampNeg (.int w0)) (d6, oA .int [(.int t0), o0, o0, o0, o0, o0, o0, o0, o0, o0, o0, o0, o0, o0, o0, o0]) (c6, oO cn0 [(fk0, (.ref s1)), (fk1, (.int (2147483639 : Int32))), (fk2, (.ref d6)), (fk3, (.int (1 : Int32)))]) (d5, oA .int [(.int r0), o0, o0, o0, o0, o0, o0, o0, o0, o0, o0, o0, o0, o0, o0, o0]) (c5, oO cn0 [(fk0, (.ref s1)), (fk1, (.int (2147483639 : Int32))), (fk2, (.ref d5)), (fk3, (.int (1 : Int32)))]) (d4, oA .int [(.int p0), o0, o0, o0, o0, o0, o0, o0, o0, o0, o0, o0, o0, o0, o0, o0]) (c4, oO cn0 [(fk0, (.ref s1)), (fk1, (.int (2147483639 : Int32))), (fk2, (.ref d4)), (fk3, (.int (1 : Int32)))]) (d3, oA .int [(.int z0), o0, o0, o0, o0, o0, o0, o0, o0, o0, o0, o0, o0, o0, o0, o0]) (c3, oO cn0 [(fk0, (.ref s1)), (fk1, (.int (2147483639 : Int32))), (fk2, (.ref d3)), (fk3, (.int (1 : Int32)))]) (d2, oA .int [(.int b0), o0, o0, o0, o0, o0, o0, o0, o0, o0, o0, o0, o0, o0, o0, o0]) (c2, oO cn0 [(fk0, (.ref s1)), (fk1, (.int (2147483639 : Int32))), (fk2, (.ref d2)), (fk3, (.int (1 : Int32)))]) (d1, oA .int [(.int f0), o0, o0, o0, o0, o0, o0, o0, o0, o0, o0, o0, o0, o0, o0, o0]) (c1, oO cn0 [(fk0, (.ref s1)), (fk1, (.int (2147483639 : Int32))), (fk2, (.ref d1)), (fk3, (.int (1 : Int32)))]) ((a1, oO cn1 [(fk4, (.ref c0)), (fk5, (.ref c1)), (fk6, (.ref c2)), (fk7, (.ref c3)), (fk8, (.ref c4)), (fk9, (.ref c5)), (fk10, (.ref c6))]) :: g0 :: (o1, oA .int [(.int w0), (.int w1), (.int w2)]) :: g2 :: ds) u60 n58 n59 u61) (lenOf pd_3 rfl) (hb hby d6_93) (pc' := 96) rfl (argsL := [(.int w1)]) (rest := []) rfl (by rw [hml]; rfl) (W := 0) (oLe rfl) (j := 13) rfl (by decide) (cells' := 0) rfl (slots' := 0) rfl ?_
    intro T v_ d_ q_ B
    obtain ⟨rfl, rfl⟩ := q_
    show oWin p e below Z h0 _ _ (T.setTop (mkF m 96 #[.val (.ref a1), .val (.int (0 : Int32)), .val (.ref o1), .val (.int q1), .val (.int n1), .val (.int (1 : Int32)), .val (.int (1 : Int32)), .unset] []))
    refine W_iinc B (hb hby d6_96) (pc' := 99) rfl rfl (z := (2 : Int32)) (by decide) (ls' := #[.val (.ref a1), .val (.int (0 : Int32)), .val (.ref o1), .val (.int q1), .val (.int n1), .val (.int (1 : Int32)), .val (.int (2 : Int32)), .unset]) rfl ?_
    refine W_goto B (hb hby d6_99) (by decide) (pc' := 79) (by decide) ?_
    refine W_iload B (hb hby d6_79) (pc' := 81) rfl rfl ?_
    refine W_iloadN B (hb hby d6_81) (pc' := 82) rfl rfl ?_
    refine W_icmp_ge B (hb hby d6_82) (by decide) (pt := 102) (by decide) (pc' := 85) rfl (fun (c62 : ¬ (2 : Int32) < q1) => ?_) (fun (c62 : (2 : Int32) < q1) => ?_)
    · refine kJ (((vs.set (n1).toNatClampNeg (.int w0)).set ((n1 + (1 : Int32))).toNatClampNeg (.int w1)), ((n1 + (1 : Int32)) + (1 : Int32)), (2 : Int32)) _ ⟨?_, ?_⟩ B
      · first | exact hvs | simp [hvs]
      · show (((n1 + (1 : Int32)) + (1 : Int32))).toInt = n1.toInt + q1.toInt
        have fq1 := orI n1
        have fq2 : ((1 : Int32)).toInt = 1 := rfl
        have fq3 := oiadd n1 (1 : Int32)
        have fq4 := oiadd (n1 + (1 : Int32)) (1 : Int32)
        have fq5 := orI q1
        have fq6 := hn
        have fq7 := hq
        have fq8 : ((0 : Int32)).toInt = 0 := rfl
        have fq9 := oltI c52
        have fq10 : ((16 : Int32)).toInt = 16 := rfl
        have fq11 := oneI n53
        have fq12 := onltI n54
        have fq13 := oltI c57
        have fq14 := oneI n58
        have fq15 := onltI n59
        have fq16 : ((2 : Int32)).toInt = 2 := rfl
        have fq17 := onltI c62
        omega
    refine W_aloadN B (hb hby d6_85) (pc' := 86) rfl rfl rfl ?_
    refine W_getfield B hown (host := "") (Or.inl (ow hw (i := 40) rfl)) Via.refl (hb hby d6_86) (pc' := 89) rfl (j := 14) rfl (q := 0) rfl ?_
    intro T B
    refine W_aloadN B (hb hby d6_89) (pc' := 90) rfl rfl rfl ?_
    refine W_iload B (hb hby d6_90) (pc' := 92) rfl rfl ?_
    refine W_iaload B (hb hby d6_92) (pc' := 93) rfl (i := 16) rfl (by decide) (v := (.int w2)) rfl ?_
    have n63 : ¬ ((n1 + (1 : Int32)) + (1 : Int32)) = (16 : Int32) := by
      refine oneI_i ?_
      have fq1 := orI n1
      have fq2 : ((1 : Int32)).toInt = 1 := rfl
      have fq3 := oiadd n1 (1 : Int32)
      have fq4 := oiadd (n1 + (1 : Int32)) (1 : Int32)
      have fq5 : ((16 : Int32)).toInt = 16 := rfl
      have fq6 := hn
      have fq7 := orI q1
      have fq8 := hq
      have fq9 : ((0 : Int32)).toInt = 0 := rfl
      have fq10 := oltI c52
      have fq11 := oneI n53
      have fq12 := onltI n54
      have fq13 := oltI c57
      have fq14 := oneI n58
      have fq15 := onltI n59
      have fq16 : ((2 : Int32)).toInt = 2 := rfl
      have fq17 := oltI c62
      omega
    have n64 : ¬ ((n1 + (1 : Int32)) + (1 : Int32)) < (0 : Int32) := by
      refine onltI_i ?_
      have fq1 := orI n1
      have fq2 : ((1 : Int32)).toInt = 1 := rfl
      have fq3 := oiadd n1 (1 : Int32)
      have fq4 := oiadd (n1 + (1 : Int32)) (1 : Int32)
      have fq5 : ((0 : Int32)).toInt = 0 := rfl
      have fq6 := hn
      have fq7 := orI q1
      have fq8 := hq
      have fq9 := oltI c52
      have fq10 : ((16 : Int32)).toInt = 16 := rfl
      have fq11 := oneI n53
      have fq12 := onltI n54
      have fq13 := oltI c57
      have fq14 := oneI n58
      have fq15 := onltI n59
      have fq16 : ((2 : Int32)).toInt = 2 := rfl
      have fq17 := oltI c62
      have fq18 := oneI n63
      omega
    have u65 : (((vs.set (n1).toNatClampNeg (.int w0)).set ((n1 + (1 : Int32))).toNatClampNeg (.int w1))).length = 16 := by first | exact hvs | simp [hvs]
    have u66 : (((n1 + (1 : Int32)) + (1 : Int32))).toNatClampNeg < (((vs.set (n1).toNatClampNeg (.int w0)).set ((n1 + (1 : Int32))).toNatClampNeg (.int w1))).length := by
      rw [u65]
      refine oNatLt ?_ (by decide)
      have fq1 := orI n1
      have fq2 : ((1 : Int32)).toInt = 1 := rfl
      have fq3 := oiadd n1 (1 : Int32)
      have fq4 := oiadd (n1 + (1 : Int32)) (1 : Int32)
      have fq5 := hn
      have fq6 := orI q1
      have fq7 := hq
      have fq8 : ((0 : Int32)).toInt = 0 := rfl
      have fq9 := oltI c52
      have fq10 : ((16 : Int32)).toInt = 16 := rfl
      have fq11 := oneI n53
      have fq12 := onltI n54
      have fq13 := oltI c57
      have fq14 := oneI n58
      have fq15 := onltI n59
      have fq16 : ((2 : Int32)).toInt = 2 := rfl
      have fq17 := oltI c62
      have fq18 := oneI n63
      have fq19 := onltI n64
      omega
    refine W_virtual B (y := (⟨"com/example/tanglemark/tanglemark/datalog/Ints", "add", "(I)V"⟩ : MethodName)) (z := (⟨"com/example/tanglemark/tanglemark/datalog/Ints", "add", "(I)V"⟩ : MethodName)) hown (ow hw (i := 61) rfl) (ow hw (i := 62) rfl) (oNotFace B (ow hw (i := 64) rfl) rfl) (ow hw (i := 64) rfl) (ow hw (i := 63) rfl) (ow hw (i := 21) rfl) (ow hw (i := 65) rfl) (by decide) (a := c0) (rm_ia0 l Z a0 hw h0 c0 d0 s1 w2 ((n1 + (1 : Int32)) + (1 : Int32)) ((vs.set (n1).toNatClampNeg (.int w0)).set ((n1 + (1 : Int32))).toNatClampNeg (.int w1)) (d6, oA .int [(.int t0), o0, o0, o0, o0, o0, o0, o0, o0, o0, o0, o0, o0, o0, o0, o0]) (c6, oO cn0 [(fk0, (.ref s1)), (fk1, (.int (2147483639 : Int32))), (fk2, (.ref d6)), (fk3, (.int (1 : Int32)))]) (d5, oA .int [(.int r0), o0, o0, o0, o0, o0, o0, o0, o0, o0, o0, o0, o0, o0, o0, o0]) (c5, oO cn0 [(fk0, (.ref s1)), (fk1, (.int (2147483639 : Int32))), (fk2, (.ref d5)), (fk3, (.int (1 : Int32)))]) (d4, oA .int [(.int p0), o0, o0, o0, o0, o0, o0, o0, o0, o0, o0, o0, o0, o0, o0, o0]) (c4, oO cn0 [(fk0, (.ref s1)), (fk1, (.int (2147483639 : Int32))), (fk2, (.ref d4)), (fk3, (.int (1 : Int32)))]) (d3, oA .int [(.int z0), o0, o0, o0, o0, o0, o0, o0, o0, o0, o0, o0, o0, o0, o0, o0]) (c3, oO cn0 [(fk0, (.ref s1)), (fk1, (.int (2147483639 : Int32))), (fk2, (.ref d3)), (fk3, (.int (1 : Int32)))]) (d2, oA .int [(.int b0), o0, o0, o0, o0, o0, o0, o0, o0, o0, o0, o0, o0, o0, o0, o0]) (c2, oO cn0 [(fk0, (.ref s1)), (fk1, (.int (2147483639 : Int32))), (fk2, (.ref d2)), (fk3, (.int (1 : Int32)))]) (d1, oA .int [(.int f0), o0, o0, o0, o0, o0, o0, o0, o0, o0, o0, o0, o0, o0, o0, o0]) (c1, oO cn0 [(fk0, (.ref s1)), (fk1, (.int (2147483639 : Int32))), (fk2, (.ref d1)), (fk3, (.int (1 : Int32)))]) ((a1, oO cn1 [(fk4, (.ref c0)), (fk5, (.ref c1)), (fk6, (.ref c2)), (fk7, (.ref c3)), (fk8, (.ref c4)), (fk9, (.ref c5)), (fk10, (.ref c6))]) :: g0 :: (o1, oA .int [(.int w0), (.int w1), (.int w2)]) :: g2 :: ds) u65 n63 n64 u66) (lenOf pd_3 rfl) (hb hby d6_93) (pc' := 96) rfl (argsL := [(.int w2)]) (rest := []) rfl (by rw [hml]; rfl) (W := 0) (oLe rfl) (j := 13) rfl (by decide) (cells' := 0) rfl (slots' := 0) rfl ?_
    intro T v_ d_ q_ B
    obtain ⟨rfl, rfl⟩ := q_
    show oWin p e below Z h0 _ _ (T.setTop (mkF m 96 #[.val (.ref a1), .val (.int (0 : Int32)), .val (.ref o1), .val (.int q1), .val (.int n1), .val (.int (1 : Int32)), .val (.int (2 : Int32)), .unset] []))
    refine W_iinc B (hb hby d6_96) (pc' := 99) rfl rfl (z := (3 : Int32)) (by decide) (ls' := #[.val (.ref a1), .val (.int (0 : Int32)), .val (.ref o1), .val (.int q1), .val (.int n1), .val (.int (1 : Int32)), .val (.int (3 : Int32)), .unset]) rfl ?_
    refine W_goto B (hb hby d6_99) (by decide) (pc' := 79) (by decide) ?_
    have n67 : ¬ (3 : Int32) < q1 := by
      refine onltI_i ?_
      have fq1 : ((3 : Int32)).toInt = 3 := rfl
      have fq2 := orI q1
      have fq3 := orI n1
      have fq4 := hn
      have fq5 := hq
      have fq6 : ((0 : Int32)).toInt = 0 := rfl
      have fq7 := oltI c52
      have fq8 : ((16 : Int32)).toInt = 16 := rfl
      have fq9 := oneI n53
      have fq10 := onltI n54
      have fq11 : ((1 : Int32)).toInt = 1 := rfl
      have fq12 := oltI c57
      have fq13 := oiadd n1 (1 : Int32)
      have fq14 := oneI n58
      have fq15 := onltI n59
      have fq16 : ((2 : Int32)).toInt = 2 := rfl
      have fq17 := oltI c62
      have fq18 := oiadd (n1 + (1 : Int32)) (1 : Int32)
      have fq19 := oneI n63
      have fq20 := onltI n64
      omega
    refine W_iload B (hb hby d6_79) (pc' := 81) rfl rfl ?_
    refine W_iloadN B (hb hby d6_81) (pc' := 82) rfl rfl ?_
    refine W_icmpY B (hb hby d6_82) (by decide) (pc' := 102) (by decide) (flt n67).2.1 ?_
    refine kJ ((((vs.set (n1).toNatClampNeg (.int w0)).set ((n1 + (1 : Int32))).toNatClampNeg (.int w1)).set (((n1 + (1 : Int32)) + (1 : Int32))).toNatClampNeg (.int w2)), (((n1 + (1 : Int32)) + (1 : Int32)) + (1 : Int32)), (3 : Int32)) _ ⟨?_, ?_⟩ B
    · first | exact hvs | simp [hvs]
    · show ((((n1 + (1 : Int32)) + (1 : Int32)) + (1 : Int32))).toInt = n1.toInt + q1.toInt
      have fq1 := orI n1
      have fq2 : ((1 : Int32)).toInt = 1 := rfl
      have fq3 := oiadd n1 (1 : Int32)
      have fq4 := oiadd (n1 + (1 : Int32)) (1 : Int32)
      have fq5 := oiadd ((n1 + (1 : Int32)) + (1 : Int32)) (1 : Int32)
      have fq6 := orI q1
      have fq7 := hn
      have fq8 := hq
      have fq9 : ((0 : Int32)).toInt = 0 := rfl
      have fq10 := oltI c52
      have fq11 : ((16 : Int32)).toInt = 16 := rfl
      have fq12 := oneI n53
      have fq13 := onltI n54
      have fq14 := oltI c57
      have fq15 := oneI n58
      have fq16 := onltI n59
      have fq17 : ((2 : Int32)).toInt = 2 := rfl
      have fq18 := oltI c62
      have fq19 := oneI n63
      have fq20 := onltI n64
      have fq21 : ((3 : Int32)).toInt = 3 := rfl
      have fq22 := onltI n67
      omega
  intro z_ T hz B
  obtain ⟨us, n2, i2⟩ := z_
  obtain ⟨hus, hj⟩ := hz
  dsimp only at hus hj B
  show oWin p e below Z h0 _ _ (T.setTop (mkF m 102 #[.val (.ref a1), .val (.int (0 : Int32)), .val (.ref o1), .val (.int q1), .val (.int n1), .val (.int (1 : Int32)), .val (.int i2), .unset] []))
  refine W_iload B (hb hby d6_102) (pc' := 104) rfl rfl ?_
  refine W_ifN B (hb hby d6_104) (pc' := 107) rfl (by decide) ?_
  refine W_aloadN B (hb hby d6_107) (pc' := 108) rfl rfl rfl ?_
  refine W_iloadN B (hb hby d6_108) (pc' := 109) rfl rfl ?_
  refine W_virtual B (y := (⟨"com/example/tanglemark/tanglemark/datalog/SharedSets", "size", "(I)I"⟩ : MethodName)) (z := (⟨"com/example/tanglemark/tanglemark/datalog/SharedSets", "size", "(I)I"⟩ : MethodName)) hown (ow hw (i := 68) rfl) (ow hw (i := 69) rfl) (oNotFace B (ow hw (i := 71) rfl) rfl) (ow hw (i := 71) rfl) (ow hw (i := 70) rfl) (ow hw (i := 4) rfl) (ow hw (i := 72) rfl) (by decide) (a := a1) (rm_size l Z a0 hw h0 a1 (0 : Int32) c0 c1 c2 c3 c4 c5 c6 d3 s1 (1 : Int32) [(.int z0), o0, o0, o0, o0, o0, o0, o0, o0, o0, o0, o0, o0, o0, o0, o0] z0 (d6, oA .int [(.int t0), o0, o0, o0, o0, o0, o0, o0, o0, o0, o0, o0, o0, o0, o0, o0]) (c6, oO cn0 [(fk0, (.ref s1)), (fk1, (.int (2147483639 : Int32))), (fk2, (.ref d6)), (fk3, (.int (1 : Int32)))]) (d5, oA .int [(.int r0), o0, o0, o0, o0, o0, o0, o0, o0, o0, o0, o0, o0, o0, o0, o0]) (c5, oO cn0 [(fk0, (.ref s1)), (fk1, (.int (2147483639 : Int32))), (fk2, (.ref d5)), (fk3, (.int (1 : Int32)))]) (d4, oA .int [(.int p0), o0, o0, o0, o0, o0, o0, o0, o0, o0, o0, o0, o0, o0, o0, o0]) (c4, oO cn0 [(fk0, (.ref s1)), (fk1, (.int (2147483639 : Int32))), (fk2, (.ref d4)), (fk3, (.int (1 : Int32)))]) (d2, oA .int [(.int b0), o0, o0, o0, o0, o0, o0, o0, o0, o0, o0, o0, o0, o0, o0, o0]) (c2, oO cn0 [(fk0, (.ref s1)), (fk1, (.int (2147483639 : Int32))), (fk2, (.ref d2)), (fk3, (.int (1 : Int32)))]) (d1, oA .int [(.int f0), o0, o0, o0, o0, o0, o0, o0, o0, o0, o0, o0, o0, o0, o0, o0]) (c1, oO cn0 [(fk0, (.ref s1)), (fk1, (.int (2147483639 : Int32))), (fk2, (.ref d1)), (fk3, (.int (1 : Int32)))]) (d0, oA .int us) (c0, oO cn0 [(fk0, (.ref s1)), (fk1, (.int (2147483639 : Int32))), (fk2, (.ref d0)), (fk3, (.int n2))]) (g0 :: (o1, oA .int [(.int w0), (.int w1), (.int w2)]) :: g2 :: ds) (by decide) rfl) (lenOf pd_4 rfl) (hb hby d6_109) (pc' := 112) rfl (argsL := [(.int (0 : Int32))]) (rest := []) rfl (by rw [hml]; rfl) (W := 0) (oLe rfl) (j := 14) rfl (by decide) (cells' := 0) rfl (slots' := 0) rfl ?_
  intro T v_ d_ q_ B
  obtain ⟨rfl, rfl⟩ := q_
  show oWin p e below Z h0 _ _ (T.setTop (mkF m 112 #[.val (.ref a1), .val (.int (0 : Int32)), .val (.ref o1), .val (.int q1), .val (.int n1), .val (.int (1 : Int32)), .val (.int i2), .unset] [(.int z0)]))
  refine W_goto B (hb hby d6_112) (by decide) (pc' := 116) (by decide) ?_
  refine W_istore B (hb hby d6_116) (pc' := 118) rfl (v := z0) rfl (ls' := #[.val (.ref a1), .val (.int (0 : Int32)), .val (.ref o1), .val (.int q1), .val (.int n1), .val (.int (1 : Int32)), .val (.int z0), .unset]) rfl ?_
  refine W_aloadN B (hb hby d6_118) (pc' := 119) rfl rfl rfl ?_
  refine W_getfield B hown (host := "") (Or.inl (ow hw (i := 46) rfl)) Via.refl (hb hby d6_119) (pc' := 122) rfl (j := 14) rfl (q := 3) rfl ?_
  intro T B
  refine W_getfield B hown (host := "") (Or.inl (ow hw (i := 59) rfl)) Via.refl (hb hby d6_122) (pc' := 125) rfl (j := 7) rfl (q := 3) rfl ?_
  intro T B
  refine W_istore B (hb hby d6_125) (pc' := 127) rfl (v := (1 : Int32)) rfl (ls' := #[.val (.ref a1), .val (.int (0 : Int32)), .val (.ref o1), .val (.int q1), .val (.int n1), .val (.int (1 : Int32)), .val (.int z0), .val (.int (1 : Int32))]) rfl ?_
  refine W_aloadN B (hb hby d6_127) (pc' := 128) rfl rfl rfl ?_
  refine W_getfield B hown (host := "") (Or.inl (ow hw (i := 50) rfl)) Via.refl (hb hby d6_128) (pc' := 131) rfl (j := 14) rfl (q := 5) rfl ?_
  intro T B
  refine W_iload B (hb hby d6_131) (pc' := 133) rfl rfl ?_
  refine W_ifN B (hb hby d6_133) (pc' := 136) rfl (by decide) ?_
  refine W_aloadN B (hb hby d6_136) (pc' := 137) rfl rfl rfl ?_
  refine W_getfield B hown (host := "") (Or.inl (ow hw (i := 50) rfl)) Via.refl (hb hby d6_137) (pc' := 140) rfl (j := 14) rfl (q := 5) rfl ?_
  intro T B
  refine W_getfield B hown (host := "") (Or.inl (ow hw (i := 67) rfl)) Via.refl (hb hby d6_140) (pc' := 143) rfl (j := 3) rfl (q := 2) rfl ?_
  intro T B
  refine W_iloadN B (hb hby d6_143) (pc' := 144) rfl rfl ?_
  refine W_iaload B (hb hby d6_144) (pc' := 145) rfl (i := 2) rfl (by decide) (v := (.int r0)) rfl ?_
  refine W_goto B (hb hby d6_145) (by decide) (pc' := 150) (by decide) ?_
  refine W_virtual B (y := (⟨"com/example/tanglemark/tanglemark/datalog/Ints", "add", "(I)V"⟩ : MethodName)) (z := (⟨"com/example/tanglemark/tanglemark/datalog/Ints", "add", "(I)V"⟩ : MethodName)) hown (ow hw (i := 61) rfl) (ow hw (i := 62) rfl) (oNotFace B (ow hw (i := 64) rfl) rfl) (ow hw (i := 64) rfl) (ow hw (i := 63) rfl) (ow hw (i := 21) rfl) (ow hw (i := 65) rfl) (by decide) (a := c5) (rm_ia5 l Z a0 hw h0 c5 d5 s1 r0 (1 : Int32) [(.int r0), o0, o0, o0, o0, o0, o0, o0, o0, o0, o0, o0, o0, o0, o0, o0] (d6, oA .int [(.int t0), o0, o0, o0, o0, o0, o0, o0, o0, o0, o0, o0, o0, o0, o0, o0]) (c6, oO cn0 [(fk0, (.ref s1)), (fk1, (.int (2147483639 : Int32))), (fk2, (.ref d6)), (fk3, (.int (1 : Int32)))]) ((d4, oA .int [(.int p0), o0, o0, o0, o0, o0, o0, o0, o0, o0, o0, o0, o0, o0, o0, o0]) :: (c4, oO cn0 [(fk0, (.ref s1)), (fk1, (.int (2147483639 : Int32))), (fk2, (.ref d4)), (fk3, (.int (1 : Int32)))]) :: (d3, oA .int [(.int z0), o0, o0, o0, o0, o0, o0, o0, o0, o0, o0, o0, o0, o0, o0, o0]) :: (c3, oO cn0 [(fk0, (.ref s1)), (fk1, (.int (2147483639 : Int32))), (fk2, (.ref d3)), (fk3, (.int (1 : Int32)))]) :: (d2, oA .int [(.int b0), o0, o0, o0, o0, o0, o0, o0, o0, o0, o0, o0, o0, o0, o0, o0]) :: (c2, oO cn0 [(fk0, (.ref s1)), (fk1, (.int (2147483639 : Int32))), (fk2, (.ref d2)), (fk3, (.int (1 : Int32)))]) :: (d1, oA .int [(.int f0), o0, o0, o0, o0, o0, o0, o0, o0, o0, o0, o0, o0, o0, o0, o0]) :: (c1, oO cn0 [(fk0, (.ref s1)), (fk1, (.int (2147483639 : Int32))), (fk2, (.ref d1)), (fk3, (.int (1 : Int32)))]) :: (d0, oA .int us) :: (c0, oO cn0 [(fk0, (.ref s1)), (fk1, (.int (2147483639 : Int32))), (fk2, (.ref d0)), (fk3, (.int n2))]) :: (a1, oO cn1 [(fk4, (.ref c0)), (fk5, (.ref c1)), (fk6, (.ref c2)), (fk7, (.ref c3)), (fk8, (.ref c4)), (fk9, (.ref c5)), (fk10, (.ref c6))]) :: g0 :: (o1, oA .int [(.int w0), (.int w1), (.int w2)]) :: g2 :: ds) rfl (by decide) (by decide) (oLt rfl)) (lenOf pd_3 rfl) (hb hby d6_150) (pc' := 153) rfl (argsL := [(.int r0)]) (rest := []) rfl (by rw [hml]; rfl) (W := 0) (oLe rfl) (j := 3) rfl (by decide) (cells' := 0) rfl (slots' := 0) rfl ?_
  intro T v_ d_ q_ B
  obtain ⟨rfl, rfl⟩ := q_
  show oWin p e below Z h0 _ _ (T.setTop (mkF m 153 #[.val (.ref a1), .val (.int (0 : Int32)), .val (.ref o1), .val (.int q1), .val (.int n1), .val (.int (1 : Int32)), .val (.int z0), .val (.int (1 : Int32))] []))
  refine W_aloadN B (hb hby d6_153) (pc' := 154) rfl rfl rfl ?_
  refine W_getfield B hown (host := "") (Or.inl (ow hw (i := 42) rfl)) Via.refl (hb hby d6_154) (pc' := 157) rfl (j := 14) rfl (q := 1) rfl ?_
  intro T B
  refine W_iload B (hb hby d6_157) (pc' := 159) rfl rfl ?_
  refine W_virtual B (y := (⟨"com/example/tanglemark/tanglemark/datalog/Ints", "add", "(I)V"⟩ : MethodName)) (z := (⟨"com/example/tanglemark/tanglemark/datalog/Ints", "add", "(I)V"⟩ : MethodName)) hown (ow hw (i := 61) rfl) (ow hw (i := 62) rfl) (oNotFace B (ow hw (i := 64) rfl) rfl) (ow hw (i := 64) rfl) (ow hw (i := 63) rfl) (ow hw (i := 21) rfl) (ow hw (i := 65) rfl) (by decide) (a := c1) (rm_ia1 l Z a0 hw h0 c1 d1 s1 n1 (1 : Int32) [(.int f0), o0, o0, o0, o0, o0, o0, o0, o0, o0, o0, o0, o0, o0, o0, o0] (d6, oA .int [(.int t0), o0, o0, o0, o0, o0, o0, o0, o0, o0, o0, o0, o0, o0, o0, o0]) (c6, oO cn0 [(fk0, (.ref s1)), (fk1, (.int (2147483639 : Int32))), (fk2, (.ref d6)), (fk3, (.int (1 : Int32)))]) (d5, oA .int [(.int r0), (.int r0), o0, o0, o0, o0, o0, o0, o0, o0, o0, o0, o0, o0, o0, o0]) (c5, oO cn0 [(fk0, (.ref s1)), (fk1, (.int (2147483639 : Int32))), (fk2, (.ref d5)), (fk3, (.int (2 : Int32)))]) (d4, oA .int [(.int p0), o0, o0, o0, o0, o0, o0, o0, o0, o0, o0, o0, o0, o0, o0, o0]) (c4, oO cn0 [(fk0, (.ref s1)), (fk1, (.int (2147483639 : Int32))), (fk2, (.ref d4)), (fk3, (.int (1 : Int32)))]) (d3, oA .int [(.int z0), o0, o0, o0, o0, o0, o0, o0, o0, o0, o0, o0, o0, o0, o0, o0]) (c3, oO cn0 [(fk0, (.ref s1)), (fk1, (.int (2147483639 : Int32))), (fk2, (.ref d3)), (fk3, (.int (1 : Int32)))]) (d2, oA .int [(.int b0), o0, o0, o0, o0, o0, o0, o0, o0, o0, o0, o0, o0, o0, o0, o0]) (c2, oO cn0 [(fk0, (.ref s1)), (fk1, (.int (2147483639 : Int32))), (fk2, (.ref d2)), (fk3, (.int (1 : Int32)))]) ((d0, oA .int us) :: (c0, oO cn0 [(fk0, (.ref s1)), (fk1, (.int (2147483639 : Int32))), (fk2, (.ref d0)), (fk3, (.int n2))]) :: (a1, oO cn1 [(fk4, (.ref c0)), (fk5, (.ref c1)), (fk6, (.ref c2)), (fk7, (.ref c3)), (fk8, (.ref c4)), (fk9, (.ref c5)), (fk10, (.ref c6))]) :: g0 :: (o1, oA .int [(.int w0), (.int w1), (.int w2)]) :: g2 :: ds) rfl (by decide) (by decide) (oLt rfl)) (lenOf pd_3 rfl) (hb hby d6_159) (pc' := 162) rfl (argsL := [(.int n1)]) (rest := []) rfl (by rw [hml]; rfl) (W := 0) (oLe rfl) (j := 11) rfl (by decide) (cells' := 0) rfl (slots' := 0) rfl ?_
  intro T v_ d_ q_ B
  obtain ⟨rfl, rfl⟩ := q_
  show oWin p e below Z h0 _ _ (T.setTop (mkF m 162 #[.val (.ref a1), .val (.int (0 : Int32)), .val (.ref o1), .val (.int q1), .val (.int n1), .val (.int (1 : Int32)), .val (.int z0), .val (.int (1 : Int32))] []))
  refine W_aloadN B (hb hby d6_162) (pc' := 163) rfl rfl rfl ?_
  refine W_getfield B hown (host := "") (Or.inl (ow hw (i := 44) rfl)) Via.refl (hb hby d6_163) (pc' := 166) rfl (j := 14) rfl (q := 2) rfl ?_
  intro T B
  refine W_iload B (hb hby d6_166) (pc' := 168) rfl rfl ?_
  refine W_virtual B (y := (⟨"com/example/tanglemark/tanglemark/datalog/Ints", "add", "(I)V"⟩ : MethodName)) (z := (⟨"com/example/tanglemark/tanglemark/datalog/Ints", "add", "(I)V"⟩ : MethodName)) hown (ow hw (i := 61) rfl) (ow hw (i := 62) rfl) (oNotFace B (ow hw (i := 64) rfl) rfl) (ow hw (i := 64) rfl) (ow hw (i := 63) rfl) (ow hw (i := 21) rfl) (ow hw (i := 65) rfl) (by decide) (a := c2) (rm_ia2 l Z a0 hw h0 c2 d2 s1 z0 (1 : Int32) [(.int b0), o0, o0, o0, o0, o0, o0, o0, o0, o0, o0, o0, o0, o0, o0, o0] (d6, oA .int [(.int t0), o0, o0, o0, o0, o0, o0, o0, o0, o0, o0, o0, o0, o0, o0, o0]) (c6, oO cn0 [(fk0, (.ref s1)), (fk1, (.int (2147483639 : Int32))), (fk2, (.ref d6)), (fk3, (.int (1 : Int32)))]) (d5, oA .int [(.int r0), (.int r0), o0, o0, o0, o0, o0, o0, o0, o0, o0, o0, o0, o0, o0, o0]) (c5, oO cn0 [(fk0, (.ref s1)), (fk1, (.int (2147483639 : Int32))), (fk2, (.ref d5)), (fk3, (.int (2 : Int32)))]) (d4, oA .int [(.int p0), o0, o0, o0, o0, o0, o0, o0, o0, o0, o0, o0, o0, o0, o0, o0]) (c4, oO cn0 [(fk0, (.ref s1)), (fk1, (.int (2147483639 : Int32))), (fk2, (.ref d4)), (fk3, (.int (1 : Int32)))]) (d3, oA .int [(.int z0), o0, o0, o0, o0, o0, o0, o0, o0, o0, o0, o0, o0, o0, o0, o0]) (c3, oO cn0 [(fk0, (.ref s1)), (fk1, (.int (2147483639 : Int32))), (fk2, (.ref d3)), (fk3, (.int (1 : Int32)))]) ((d1, oA .int [(.int f0), (.int n1), o0, o0, o0, o0, o0, o0, o0, o0, o0, o0, o0, o0, o0, o0]) :: (c1, oO cn0 [(fk0, (.ref s1)), (fk1, (.int (2147483639 : Int32))), (fk2, (.ref d1)), (fk3, (.int (2 : Int32)))]) :: (d0, oA .int us) :: (c0, oO cn0 [(fk0, (.ref s1)), (fk1, (.int (2147483639 : Int32))), (fk2, (.ref d0)), (fk3, (.int n2))]) :: (a1, oO cn1 [(fk4, (.ref c0)), (fk5, (.ref c1)), (fk6, (.ref c2)), (fk7, (.ref c3)), (fk8, (.ref c4)), (fk9, (.ref c5)), (fk10, (.ref c6))]) :: g0 :: (o1, oA .int [(.int w0), (.int w1), (.int w2)]) :: g2 :: ds) rfl (by decide) (by decide) (oLt rfl)) (lenOf pd_3 rfl) (hb hby d6_168) (pc' := 171) rfl (argsL := [(.int z0)]) (rest := []) rfl (by rw [hml]; rfl) (W := 0) (oLe rfl) (j := 9) rfl (by decide) (cells' := 0) rfl (slots' := 0) rfl ?_
  intro T v_ d_ q_ B
  obtain ⟨rfl, rfl⟩ := q_
  show oWin p e below Z h0 _ _ (T.setTop (mkF m 171 #[.val (.ref a1), .val (.int (0 : Int32)), .val (.ref o1), .val (.int q1), .val (.int n1), .val (.int (1 : Int32)), .val (.int z0), .val (.int (1 : Int32))] []))
  refine W_aloadN B (hb hby d6_171) (pc' := 172) rfl rfl rfl ?_
  refine W_getfield B hown (host := "") (Or.inl (ow hw (i := 46) rfl)) Via.refl (hb hby d6_172) (pc' := 175) rfl (j := 14) rfl (q := 3) rfl ?_
  intro T B
  refine W_iload B (hb hby d6_175) (pc' := 177) rfl rfl ?_
  refine W_aloadN B (hb hby d6_177) (pc' := 178) rfl rfl rfl ?_
  refine W_getfield B hown (host := "") (Or.inl (ow hw (i := 40) rfl)) Via.refl (hb hby d6_178) (pc' := 181) rfl (j := 14) rfl (q := 0) rfl ?_
  intro T B
  refine W_getfield B hown (host := "") (Or.inl (ow hw (i := 59) rfl)) Via.refl (hb hby d6_181) (pc' := 184) rfl (j := 13) rfl (q := 3) rfl ?_
  intro T B
  refine W_iadd B (hb hby d6_184) (pc' := 185) rfl (z := (z0 + n2)) rfl ?_
  refine W_iload B (hb hby d6_185) (pc' := 187) rfl rfl ?_
  refine W_isub B (hb hby d6_187) (pc' := 188) rfl (z := ((z0 + n2) - n1)) rfl ?_
  refine W_virtual B (y := (⟨"com/example/tanglemark/tanglemark/datalog/Ints", "add", "(I)V"⟩ : MethodName)) (z := (⟨"com/example/tanglemark/tanglemark/datalog/Ints", "add", "(I)V"⟩ : MethodName)) hown (ow hw (i := 61) rfl) (ow hw (i := 62) rfl) (oNotFace B (ow hw (i := 64) rfl) rfl) (ow hw (i := 64) rfl) (ow hw (i := 63) rfl) (ow hw (i := 21) rfl) (ow hw (i := 65) rfl) (by decide) (a := c3) (rm_ia3 l Z a0 hw h0 c3 d3 s1 ((z0 + n2) - n1) (1 : Int32) [(.int z0), o0, o0, o0, o0, o0, o0, o0, o0, o0, o0, o0, o0, o0, o0, o0] (d6, oA .int [(.int t0), o0, o0, o0, o0, o0, o0, o0, o0, o0, o0, o0, o0, o0, o0, o0]) (c6, oO cn0 [(fk0, (.ref s1)), (fk1, (.int (2147483639 : Int32))), (fk2, (.ref d6)), (fk3, (.int (1 : Int32)))]) (d5, oA .int [(.int r0), (.int r0), o0, o0, o0, o0, o0, o0, o0, o0, o0, o0, o0, o0, o0, o0]) (c5, oO cn0 [(fk0, (.ref s1)), (fk1, (.int (2147483639 : Int32))), (fk2, (.ref d5)), (fk3, (.int (2 : Int32)))]) (d4, oA .int [(.int p0), o0, o0, o0, o0, o0, o0, o0, o0, o0, o0, o0, o0, o0, o0, o0]) (c4, oO cn0 [(fk0, (.ref s1)), (fk1, (.int (2147483639 : Int32))), (fk2, (.ref d4)), (fk3, (.int (1 : Int32)))]) ((d2, oA .int [(.int b0), (.int z0), o0, o0, o0, o0, o0, o0, o0, o0, o0, o0, o0, o0, o0, o0]) :: (c2, oO cn0 [(fk0, (.ref s1)), (fk1, (.int (2147483639 : Int32))), (fk2, (.ref d2)), (fk3, (.int (2 : Int32)))]) :: (d1, oA .int [(.int f0), (.int n1), o0, o0, o0, o0, o0, o0, o0, o0, o0, o0, o0, o0, o0, o0]) :: (c1, oO cn0 [(fk0, (.ref s1)), (fk1, (.int (2147483639 : Int32))), (fk2, (.ref d1)), (fk3, (.int (2 : Int32)))]) :: (d0, oA .int us) :: (c0, oO cn0 [(fk0, (.ref s1)), (fk1, (.int (2147483639 : Int32))), (fk2, (.ref d0)), (fk3, (.int n2))]) :: (a1, oO cn1 [(fk4, (.ref c0)), (fk5, (.ref c1)), (fk6, (.ref c2)), (fk7, (.ref c3)), (fk8, (.ref c4)), (fk9, (.ref c5)), (fk10, (.ref c6))]) :: g0 :: (o1, oA .int [(.int w0), (.int w1), (.int w2)]) :: g2 :: ds) rfl (by decide) (by decide) (oLt rfl)) (lenOf pd_3 rfl) (hb hby d6_188) (pc' := 191) rfl (argsL := [(.int ((z0 + n2) - n1))]) (rest := []) rfl (by rw [hml]; rfl) (W := 0) (oLe rfl) (j := 7) rfl (by decide) (cells' := 0) rfl (slots' := 0) rfl ?_
  intro T v_ d_ q_ B
  obtain ⟨rfl, rfl⟩ := q_
  show oWin p e below Z h0 _ _ (T.setTop (mkF m 191 #[.val (.ref a1), .val (.int (0 : Int32)), .val (.ref o1), .val (.int q1), .val (.int n1), .val (.int (1 : Int32)), .val (.int z0), .val (.int (1 : Int32))] []))
  refine W_aloadN B (hb hby d6_191) (pc' := 192) rfl rfl rfl ?_
  refine W_getfield B hown (host := "") (Or.inl (ow hw (i := 48) rfl)) Via.refl (hb hby d6_192) (pc' := 195) rfl (j := 14) rfl (q := 4) rfl ?_
  intro T B
  refine W_iload B (hb hby d6_195) (pc' := 197) rfl rfl ?_
  refine W_ifN B (hb hby d6_197) (pc' := 200) rfl (by decide) ?_
  refine W_iloadN B (hb hby d6_200) (pc' := 201) rfl rfl ?_
  refine W_goto B (hb hby d6_201) (by decide) (pc' := 205) (by decide) ?_
  refine W_virtual B (y := (⟨"com/example/tanglemark/tanglemark/datalog/Ints", "add", "(I)V"⟩ : MethodName)) (z := (⟨"com/example/tanglemark/tanglemark/datalog/Ints", "add", "(I)V"⟩ : MethodName)) hown (ow hw (i := 61) rfl) (ow hw (i := 62) rfl) (oNotFace B (ow hw (i := 64) rfl) rfl) (ow hw (i := 64) rfl) (ow hw (i := 63) rfl) (ow hw (i := 21) rfl) (ow hw (i := 65) rfl) (by decide) (a := c4) (rm_ia4 l Z a0 hw h0 c4 d4 s1 (0 : Int32) (1 : Int32) [(.int p0), o0, o0, o0, o0, o0, o0, o0, o0, o0, o0, o0, o0, o0, o0, o0] (d6, oA .int [(.int t0), o0, o0, o0, o0, o0, o0, o0, o0, o0, o0, o0, o0, o0, o0, o0]) (c6, oO cn0 [(fk0, (.ref s1)), (fk1, (.int (2147483639 : Int32))), (fk2, (.ref d6)), (fk3, (.int (1 : Int32)))]) (d5, oA .int [(.int r0), (.int r0), o0, o0, o0, o0, o0, o0, o0, o0, o0, o0, o0, o0, o0, o0]) (c5, oO cn0 [(fk0, (.ref s1)), (fk1, (.int (2147483639 : Int32))), (fk2, (.ref d5)), (fk3, (.int (2 : Int32)))]) ((d3, oA .int [(.int z0), (.int ((z0 + n2) - n1)), o0, o0, o0, o0, o0, o0, o0, o0, o0, o0, o0, o0, o0, o0]) :: (c3, oO cn0 [(fk0, (.ref s1)), (fk1, (.int (2147483639 : Int32))), (fk2, (.ref d3)), (fk3, (.int (2 : Int32)))]) :: (d2, oA .int [(.int b0), (.int z0), o0, o0, o0, o0, o0, o0, o0, o0, o0, o0, o0, o0, o0, o0]) :: (c2, oO cn0 [(fk0, (.ref s1)), (fk1, (.int (2147483639 : Int32))), (fk2, (.ref d2)), (fk3, (.int (2 : Int32)))]) :: (d1, oA .int [(.int f0), (.int n1), o0, o0, o0, o0, o0, o0, o0, o0, o0, o0, o0, o0, o0, o0]) :: (c1, oO cn0 [(fk0, (.ref s1)), (fk1, (.int (2147483639 : Int32))), (fk2, (.ref d1)), (fk3, (.int (2 : Int32)))]) :: (d0, oA .int us) :: (c0, oO cn0 [(fk0, (.ref s1)), (fk1, (.int (2147483639 : Int32))), (fk2, (.ref d0)), (fk3, (.int n2))]) :: (a1, oO cn1 [(fk4, (.ref c0)), (fk5, (.ref c1)), (fk6, (.ref c2)), (fk7, (.ref c3)), (fk8, (.ref c4)), (fk9, (.ref c5)), (fk10, (.ref c6))]) :: g0 :: (o1, oA .int [(.int w0), (.int w1), (.int w2)]) :: g2 :: ds) rfl (by decide) (by decide) (oLt rfl)) (lenOf pd_3 rfl) (hb hby d6_205) (pc' := 208) rfl (argsL := [(.int (0 : Int32))]) (rest := []) rfl (by rw [hml]; rfl) (W := 0) (oLe rfl) (j := 5) rfl (by decide) (cells' := 0) rfl (slots' := 0) rfl ?_
  intro T v_ d_ q_ B
  obtain ⟨rfl, rfl⟩ := q_
  show oWin p e below Z h0 _ _ (T.setTop (mkF m 208 #[.val (.ref a1), .val (.int (0 : Int32)), .val (.ref o1), .val (.int q1), .val (.int n1), .val (.int (1 : Int32)), .val (.int z0), .val (.int (1 : Int32))] []))
  refine W_aloadN B (hb hby d6_208) (pc' := 209) rfl rfl rfl ?_
  refine W_getfield B hown (host := "") (Or.inl (ow hw (i := 52) rfl)) Via.refl (hb hby d6_209) (pc' := 212) rfl (j := 14) rfl (q := 6) rfl ?_
  intro T B
  refine W_iload B (hb hby d6_212) (pc' := 214) rfl rfl ?_
  refine W_ifN B (hb hby d6_214) (pc' := 217) rfl (by decide) ?_
  refine W_aloadN B (hb hby d6_217) (pc' := 218) rfl rfl rfl ?_
  refine W_getfield B hown (host := "") (Or.inl (ow hw (i := 52) rfl)) Via.refl (hb hby d6_218) (pc' := 221) rfl (j := 14) rfl (q := 6) rfl ?_
  intro T B
  refine W_getfield B hown (host := "") (Or.inl (ow hw (i := 67) rfl)) Via.refl (hb hby d6_221) (pc' := 224) rfl (j := 1) rfl (q := 2) rfl ?_
  intro T B
  refine W_iloadN B (hb hby d6_224) (pc' := 225) rfl rfl ?_
  refine W_iaload B (hb hby d6_225) (pc' := 226) rfl (i := 0) rfl (by decide) (v := (.int t0)) rfl ?_
  refine W_iconst B (hb hby d6_226) (pc' := 227) rfl (z := (1 : Int32)) (by decide) ?_
  refine W_iadd B (hb hby d6_227) (pc' := 228) rfl (z := (t0 + (1 : Int32))) rfl ?_
  refine W_goto B (hb hby d6_228) (by decide) (pc' := 232) (by decide) ?_
  refine W_virtual B (y := (⟨"com/example/tanglemark/tanglemark/datalog/Ints", "add", "(I)V"⟩ : MethodName)) (z := (⟨"com/example/tanglemark/tanglemark/datalog/Ints", "add", "(I)V"⟩ : MethodName)) hown (ow hw (i := 61) rfl) (ow hw (i := 62) rfl) (oNotFace B (ow hw (i := 64) rfl) rfl) (ow hw (i := 64) rfl) (ow hw (i := 63) rfl) (ow hw (i := 21) rfl) (ow hw (i := 65) rfl) (by decide) (a := c6) (rm_ia6 l Z a0 hw h0 c6 d6 s1 (t0 + (1 : Int32)) (1 : Int32) [(.int t0), o0, o0, o0, o0, o0, o0, o0, o0, o0, o0, o0, o0, o0, o0, o0]  ((d5, oA .int [(.int r0), (.int r0), o0, o0, o0, o0, o0, o0, o0, o0, o0, o0, o0, o0, o0, o0]) :: (c5, oO cn0 [(fk0, (.ref s1)), (fk1, (.int (2147483639 : Int32))), (fk2, (.ref d5)), (fk3, (.int (2 : Int32)))]) :: (d4, oA .int [(.int p0), o0, o0, o0, o0, o0, o0, o0, o0, o0, o0, o0, o0, o0, o0, o0]) :: (c4, oO cn0 [(fk0, (.ref s1)), (fk1, (.int (2147483639 : Int32))), (fk2, (.ref d4)), (fk3, (.int (2 : Int32)))]) :: (d3, oA .int [(.int z0), (.int ((z0 + n2) - n1)), o0, o0, o0, o0, o0, o0, o0, o0, o0, o0, o0, o0, o0, o0]) :: (c3, oO cn0 [(fk0, (.ref s1)), (fk1, (.int (2147483639 : Int32))), (fk2, (.ref d3)), (fk3, (.int (2 : Int32)))]) :: (d2, oA .int [(.int b0), (.int z0), o0, o0, o0, o0, o0, o0, o0, o0, o0, o0, o0, o0, o0, o0]) :: (c2, oO cn0 [(fk0, (.ref s1)), (fk1, (.int (2147483639 : Int32))), (fk2, (.ref d2)), (fk3, (.int (2 : Int32)))]) :: (d1, oA .int [(.int f0), (.int n1), o0, o0, o0, o0, o0, o0, o0, o0, o0, o0, o0, o0, o0, o0]) :: (c1, oO cn0 [(fk0, (.ref s1)), (fk1, (.int (2147483639 : Int32))), (fk2, (.ref d1)), (fk3, (.int (2 : Int32)))]) :: (d0, oA .int us) :: (c0, oO cn0 [(fk0, (.ref s1)), (fk1, (.int (2147483639 : Int32))), (fk2, (.ref d0)), (fk3, (.int n2))]) :: (a1, oO cn1 [(fk4, (.ref c0)), (fk5, (.ref c1)), (fk6, (.ref c2)), (fk7, (.ref c3)), (fk8, (.ref c4)), (fk9, (.ref c5)), (fk10, (.ref c6))]) :: g0 :: (o1, oA .int [(.int w0), (.int w1), (.int w2)]) :: g2 :: ds) rfl (by decide) (by decide) (oLt rfl)) (lenOf pd_3 rfl) (hb hby d6_232) (pc' := 235) rfl (argsL := [(.int (t0 + (1 : Int32)))]) (rest := []) rfl (by rw [hml]; rfl) (W := 0) (oLe rfl) (j := 1) rfl (by decide) (cells' := 0) rfl (slots' := 0) rfl ?_
  intro T v_ d_ q_ B
  obtain ⟨rfl, rfl⟩ := q_
  show oWin p e below Z h0 _ _ (T.setTop (mkF m 235 #[.val (.ref a1), .val (.int (0 : Int32)), .val (.ref o1), .val (.int q1), .val (.int n1), .val (.int (1 : Int32)), .val (.int z0), .val (.int (1 : Int32))] []))
  refine W_iload B (hb hby d6_235) (pc' := 237) rfl rfl ?_
  refine W_retI B hret (hb hby d6_237) (by decide) ?_
  exact ⟨_, _, hus, hj, rfl, rfl⟩
theorem ef_rm_add20 (m : MethodId) (x0 : Addr) (x2 : Addr) (x3 : Int32) : entryFrame m #[(.ref x0), (.int (0 : Int32)), (.ref x2), (.int x3)] 8 = mkF m 0 #[.val (.ref x0), .val (.int (0 : Int32)), .val (.ref x2), .val (.int x3), .unset, .unset, .unset, .unset] [] := by first | (simp [entryFrame, mkF, argsToLocals, Value.category]; done) | rfl
set_option maxRecDepth 65536 in
set_option maxHeartbeats 40000000 in
theorem rm_add20 (l : Launch) (Z : State) (a0 : Array Value) (hw : ∀ d ∈ tables_1, d.before a0 Z = true) (h0 : Heap) {lo : Nat} (a1 : Addr) (o1 : Addr) (s1 : Addr) (c0 : Addr) (d0 : Addr) (c1 : Addr) (d1 : Addr) (c2 : Addr) (d2 : Addr) (c3 : Addr) (d3 : Addr) (c4 : Addr) (d4 : Addr) (c5 : Addr) (d5 : Addr) (c6 : Addr) (d6 : Addr) (q1 : Int32) (n1 : Int32) (vs : List Value) (f0 : Int32) (f1 : Int32) (b0 : Int32) (b1 : Int32) (z0 : Int32) (z1 : Int32) (p0 : Int32) (p1 : Int32) (r0 : Int32) (r1 : Int32) (t0 : Int32) (t1 : Int32) (w0 : Int32) (w1 : Int32) (w2 : Int32) (g1 : Addr × oD) (g2 : Addr × oD) (ds : oDs) (hvs : vs.length = 16) (hn : 0 ≤ n1.toInt ∧ n1.toInt ≤ 6) (hq : 0 ≤ q1.toInt ∧ q1.toInt ≤ 3) (ht : t0 < (16 : Int32)) :
    oMet l Z h0 lo (⟨"com/example/tanglemark/tanglemark/datalog/SharedSets", "add", "(I[II)I"⟩ : MethodName) prog_51_method_2_code 8 (some .int) [] ({ frames := 1, cells := 0, slots := 0, locals := 13 } : Room) #[(.ref a1), (.int (0 : Int32)), (.ref o1), (.int q1)] ((d6, oA .int [(.int t0), (.int t1), o0, o0, o0, o0, o0, o0, o0, o0, o0, o0, o0, o0, o0, o0]) :: (c6, oO cn0 [(fk0, (.ref s1)), (fk1, (.int (2147483639 : Int32))), (fk2, (.ref d6)), (fk3, (.int (2 : Int32)))]) :: (d5, oA .int [(.int r0), (.int r1), o0, o0, o0, o0, o0, o0, o0, o0, o0, o0, o0, o0, o0, o0]) :: (c5, oO cn0 [(fk0, (.ref s1)), (fk1, (.int (2147483639 : Int32))), (fk2, (.ref d5)), (fk3, (.int (2 : Int32)))]) :: (d4, oA .int [(.int p0), (.int p1), o0, o0, o0, o0, o0, o0, o0, o0, o0, o0, o0, o0, o0, o0]) :: (c4, oO cn0 [(fk0, (.ref s1)), (fk1, (.int (2147483639 : Int32))), (fk2, (.ref d4)), (fk3, (.int (2 : Int32)))]) :: (d3, oA .int [(.int z0), (.int z1), o0, o0, o0, o0, o0, o0, o0, o0, o0, o0, o0, o0, o0, o0]) :: (c3, oO cn0 [(fk0, (.ref s1)), (fk1, (.int (2147483639 : Int32))), (fk2, (.ref d3)), (fk3, (.int (2 : Int32)))]) :: (d2, oA .int [(.int b0), (.int b1), o0, o0, o0, o0, o0, o0, o0, o0, o0, o0, o0, o0, o0, o0]) :: (c2, oO cn0 [(fk0, (.ref s1)), (fk1, (.int (2147483639 : Int32))), (fk2, (.ref d2)), (fk3, (.int (2 : Int32)))]) :: (d1, oA .int [(.int f0), (.int f1), o0, o0, o0, o0, o0, o0, o0, o0, o0, o0, o0, o0, o0, o0]) :: (c1, oO cn0 [(fk0, (.ref s1)), (fk1, (.int (2147483639 : Int32))), (fk2, (.ref d1)), (fk3, (.int (2 : Int32)))]) :: (d0, oA .int vs) :: (c0, oO cn0 [(fk0, (.ref s1)), (fk1, (.int (2147483639 : Int32))), (fk2, (.ref d0)), (fk3, (.int n1))]) :: (a1, oO cn1 [(fk4, (.ref c0)), (fk5, (.ref c1)), (fk6, (.ref c2)), (fk7, (.ref c3)), (fk8, (.ref c4)), (fk9, (.ref c5)), (fk10, (.ref c6))]) :: (o1, oA .int [(.int w0), (.int w1), (.int w2)]) :: g1 :: g2 :: ds) (fun (v : Option Value) (d : oDs) => (∃ (us : List Value) (n2 : Int32), (us.length = 16) ∧ (n2.toInt = n1.toInt + q1.toInt) ∧ v = some (.int (2 : Int32)) ∧ ((d6, oA .int [(.int t0), (.int t1), (.int (t0 + (1 : Int32))), o0, o0, o0, o0, o0, o0, o0, o0, o0, o0, o0, o0, o0]) :: (c6, oO cn0 [(fk0, (.ref s1)), (fk1, (.int (2147483639 : Int32))), (fk2, (.ref d6)), (fk3, (.int (3 : Int32)))]) :: (d5, oA .int [(.int r0), (.int r1), (.int r0), o0, o0, o0, o0, o0, o0, o0, o0, o0, o0, o0, o0, o0]) :: (c5, oO cn0 [(fk0, (.ref s1)), (fk1, (.int (2147483639 : Int32))), (fk2, (.ref d5)), (fk3, (.int (3 : Int32)))]) :: (d4, oA .int [(.int p0), (.int p1), o0, o0, o0, o0, o0, o0, o0, o0, o0, o0, o0, o0, o0, o0]) :: (c4, oO cn0 [(fk0, (.ref s1)), (fk1, (.int (2147483639 : Int32))), (fk2, (.ref d4)), (fk3, (.int (3 : Int32)))]) :: (d3, oA .int [(.int z0), (.int z1), (.int ((z0 + n2) - n1)), o0, o0, o0, o0, o0, o0, o0, o0, o0, o0, o0, o0, o0]) :: (c3, oO cn0 [(fk0, (.ref s1)), (fk1, (.int (2147483639 : Int32))), (fk2, (.ref d3)), (fk3, (.int (3 : Int32)))]) :: (d2, oA .int [(.int b0), (.int b1), (.int z0), o0, o0, o0, o0, o0, o0, o0, o0, o0, o0, o0, o0, o0]) :: (c2, oO cn0 [(fk0, (.ref s1)), (fk1, (.int (2147483639 : Int32))), (fk2, (.ref d2)), (fk3, (.int (3 : Int32)))]) :: (d1, oA .int [(.int f0), (.int f1), (.int n1), o0, o0, o0, o0, o0, o0, o0, o0, o0, o0, o0, o0, o0]) :: (c1, oO cn0 [(fk0, (.ref s1)), (fk1, (.int (2147483639 : Int32))), (fk2, (.ref d1)), (fk3, (.int (3 : Int32)))]) :: (d0, oA .int us) :: (c0, oO cn0 [(fk0, (.ref s1)), (fk1, (.int (2147483639 : Int32))), (fk2, (.ref d0)), (fk3, (.int n2))]) :: (a1, oO cn1 [(fk4, (.ref c0)), (fk5, (.ref c1)), (fk6, (.ref c2)), (fk7, (.ref c3)), (fk8, (.ref c4)), (fk9, (.ref c5)), (fk10, (.ref c6))]) :: (o1, oA .int [(.int w0), (.int w1), (.int w2)]) :: g1 :: g2 :: ds) = d)) := by
  refine oMet.of_body (plainFor_of_name pn_1) ?_
  intro p e s m below meth c T B hby hml hown hnm hret
  refine W_entry (ef_rm_add20 m a1 o1 q1) ?_
  refine W_aloadN B (hb hby d6_0) (pc' := 1) rfl rfl rfl ?_
  refine W_getfield B hown (host := "") (Or.inl (ow hw (i := 40) rfl)) Via.refl (hb hby d6_1) (pc' := 4) rfl (j := 14) rfl (q := 0) rfl ?_
  intro T B
  refine W_getfield B hown (host := "") (Or.inl (ow hw (i := 59) rfl)) Via.refl (hb hby d6_4) (pc' := 7) rfl (j := 13) rfl (q := 3) rfl ?_
  intro T B
  refine W_istore B (hb hby d6_7) (pc' := 9) rfl (v := n1) rfl (ls' := #[.val (.ref a1), .val (.int (0 : Int32)), .val (.ref o1), .val (.int q1), .val (.int n1), .unset, .unset, .unset]) rfl ?_
  refine W_iloadN B (hb hby d6_9) (pc' := 10) rfl rfl ?_
  refine W_ifN B (hb hby d6_10) (pc' := 13) rfl (by decide) ?_
  refine W_aloadN B (hb hby d6_13) (pc' := 14) rfl rfl rfl ?_
  refine W_getfield B hown (host := "") (Or.inl (ow hw (i := 52) rfl)) Via.refl (hb hby d6_14) (pc' := 17) rfl (j := 14) rfl (q := 6) rfl ?_
  intro T B
  refine W_getfield B hown (host := "") (Or.inl (ow hw (i := 67) rfl)) Via.refl (hb hby d6_17) (pc' := 20) rfl (j := 1) rfl (q := 2) rfl ?_
  intro T B
  refine W_iloadN B (hb hby d6_20) (pc' := 21) rfl rfl ?_
  refine W_iaload B (hb hby d6_21) (pc' := 22) rfl (i := 0) rfl (by decide) (v := (.int t0)) rfl ?_
  refine W_bipush B (hb hby d6_22) (pc' := 24) rfl (z := (16 : Int32)) (by decide) ?_
  refine W_icmpN B (hb hby d6_24) (pc' := 27) rfl (tlt ht).2.1 ?_
  refine W_iconst B (hb hby d6_27) (pc' := 28) rfl (z := (1 : Int32)) (by decide) ?_
  refine W_goto B (hb hby d6_28) (by decide) (pc' := 32) (by decide) ?_
  refine W_istore B (hb hby d6_32) (pc' := 34) rfl (v := (1 : Int32)) rfl (ls' := #[.val (.ref a1), .val (.int (0 : Int32)), .val (.ref o1), .val (.int q1), .val (.int n1), .val (.int (1 : Int32)), .unset, .unset]) rfl ?_
  refine W_iloadN B (hb hby d6_34) (pc' := 35) rfl rfl ?_
  refine W_ifN B (hb hby d6_35) (pc' := 38) rfl (by decide) ?_
  refine W_iload B (hb hby d6_38) (pc' := 40) rfl rfl ?_
  refine W_ifY B (hb hby d6_40) (by decide) (pc' := 76) (by decide) (by decide) ?_
  refine oJoinD B 0 0 (fun z : List Value × Int32 × Int32 => z.1.length = 16 ∧ z.2.1.toInt = n1.toInt + q1.toInt) (fun z => (mkF m 102 #[.val (.ref a1), .val (.int (0 : Int32)), .val (.ref o1), .val (.int q1), .val (.int n1), .val (.int (1 : Int32)), .val (.int z.2.2), .unset] [])) (fun z => ((d6, oA .int [(.int t0), (.int t1), o0, o0, o0, o0, o0, o0, o0, o0, o0, o0, o0, o0, o0, o0]) :: (c6, oO cn0 [(fk0, (.ref s1)), (fk1, (.int (2147483639 : Int32))), (fk2, (.ref d6)), (fk3, (.int (2 : Int32)))]) :: (d5, oA .int [(.int r0), (.int r1), o0, o0, o0, o0, o0, o0, o0, o0, o0, o0, o0, o0, o0, o0]) :: (c5, oO cn0 [(fk0, (.ref s1)), (fk1, (.int (2147483639 : Int32))), (fk2, (.ref d5)), (fk3, (.int (2 : Int32)))]) :: (d4, oA .int [(.int p0), (.int p1), o0, o0, o0, o0, o0, o0, o0, o0, o0, o0, o0, o0, o0, o0]) :: (c4, oO cn0 [(fk0, (.ref s1)), (fk1, (.int (2147483639 : Int32))), (fk2, (.ref d4)), (fk3, (.int (2 : Int32)))]) :: (d3, oA .int [(.int z0), (.int z1), o0, o0, o0, o0, o0, o0, o0, o0, o0, o0, o0, o0, o0, o0]) :: (c3, oO cn0 [(fk0, (.ref s1)), (fk1, (.int (2147483639 : Int32))), (fk2, (.ref d3)), (fk3, (.int (2 : Int32)))]) :: (d2, oA .int [(.int b0), (.int b1), o0, o0, o0, o0, o0, o0, o0, o0, o0, o0, o0, o0, o0, o0]) :: (c2, oO cn0 [(fk0, (.ref s1)), (fk1, (.int (2147483639 : Int32))), (fk2, (.ref d2)), (fk3, (.int (2 : Int32)))]) :: (d1, oA .int [(.int f0), (.int f1), o0, o0, o0, o0, o0, o0, o0, o0, o0, o0, o0, o0, o0, o0]) :: (c1, oO cn0 [(fk0, (.ref s1)), (fk1, (.int (2147483639 : Int32))), (fk2, (.ref d1)), (fk3, (.int (2 : Int32)))]) :: (d0, oA .int z.1) :: (c0, oO cn0 [(fk0, (.ref s1)), (fk1, (.int (2147483639 : Int32))), (fk2, (.ref d0)), (fk3, (.int z.2.1))]) :: (a1, oO cn1 [(fk4, (.ref c0)), (fk5, (.ref c1)), (fk6, (.ref c2)), (fk7, (.ref c3)), (fk8, (.ref c4)), (fk9, (.ref c5)), (fk10, (.ref c6))]) :: (o1, oA .int [(.int w0), (.int w1), (.int w2)]) :: g1 :: g2 :: ds)) ?_ ?_
  · intro kJ
    refine W_iconst B (hb hby d6_76) (pc' := 77) rfl (z := (0 : Int32)) (by decide) ?_
    refine W_istore B (hb hby d6_77) (pc' := 79) rfl (v := (0 : Int32)) rfl (ls' := #[.val (.ref a1), .val (.int (0 : Int32)), .val (.ref o1), .val (.int q1), .val (.int n1), .val (.int (1 : Int32)), .val (.int (0 : Int32)), .unset]) rfl ?_
    refine W_iload B (hb hby d6_79) (pc' := 81) rfl rfl ?_
    refine W_iloadN B (hb hby d6_81) (pc' := 82) rfl rfl ?_
    refine W_icmp_ge B (hb hby d6_82) (by decide) (pt := 102) (by decide) (pc' := 85) rfl (fun (c69 : ¬ (0 : Int32) < q1) => ?_) (fun (c69 : (0 : Int32) < q1) => ?_)
    · refine kJ (vs, n1, (0 : Int32)) _ ⟨?_, ?_⟩ B
      · first | exact hvs | simp [hvs]
      · show (n1).toInt = n1.toInt + q1.toInt
        have fq1 := orI n1
        have fq2 := orI q1
        have fq3 := hn
        have fq4 := hq
        have fq5 : ((0 : Int32)).toInt = 0 := rfl
        have fq6 := onltI c69
        omega
    refine W_aloadN B (hb hby d6_85) (pc' := 86) rfl rfl rfl ?_
    refine W_getfield B hown (host := "") (Or.inl (ow hw (i := 40) rfl)) Via.refl (hb hby d6_86) (pc' := 89) rfl (j := 14) rfl (q := 0) rfl ?_
    intro T B
    refine W_aloadN B (hb hby d6_89) (pc' := 90) rfl rfl rfl ?_
    refine W_iload B (hb hby d6_90) (pc' := 92) rfl rfl ?_
    refine W_iaload B (hb hby d6_92) (pc' := 93) rfl (i := 15) rfl (by decide) (v := (.int w0)) rfl ?_
    have n70 : ¬ n1 = (16 : Int32) := by
      refine oneI_i ?_
      have fq1 := orI n1
      have fq2 : ((16 : Int32)).toInt = 16 := rfl
      have fq3 := hn
      have fq4 := orI q1
      have fq5 := hq
      have fq6 : ((0 : Int32)).toInt = 0 := rfl
      have fq7 := oltI c69
      omega
    have n71 : ¬ n1 < (0 : Int32) := by
      refine onltI_i ?_
      have fq1 := orI n1
      have fq2 : ((0 : Int32)).toInt = 0 := rfl
      have fq3 := hn
      have fq4 := orI q1
      have fq5 := hq
      have fq6 := oltI c69
      have fq7 : ((16 : Int32)).toInt = 16 := rfl
      have fq8 := oneI n70
      omega
    have u72 : (vs).length = 16 := by first | exact hvs | simp [hvs]
    have u73 : (n1).toNatClampNeg < (vs).length := by
      rw [u72]
      refine oNatLt ?_ (by decide)
      have fq1 := orI n1
      have fq2 := hn
      have fq3 := orI q1
      have fq4 := hq
      have fq5 : ((0 : Int32)).toInt = 0 := rfl
      have fq6 := oltI c69
      have fq7 : ((16 : Int32)).toInt = 16 := rfl
      have fq8 := oneI n70
      have fq9 := onltI n71
      omega
    refine W_virtual B (y := (⟨"com/example/tanglemark/tanglemark/datalog/Ints", "add", "(I)V"⟩ : MethodName)) (z := (⟨"com/example/tanglemark/tanglemark/datalog/Ints", "add", "(I)V"⟩ : MethodName)) hown (ow hw (i := 61) rfl) (ow hw (i := 62) rfl) (oNotFace B (ow hw (i := 64) rfl) rfl) (ow hw (i := 64) rfl) (ow hw (i := 63) rfl) (ow hw (i := 21) rfl) (ow hw (i := 65) rfl) (by decide) (a := c0) (rm_ia0 l Z a0 hw h0 c0 d0 s1 w0 n1 vs (d6, oA .int [(.int t0), (.int t1), o0, o0, o0, o0, o0, o0, o0, o0, o0, o0, o0, o0, o0, o0]) (c6, oO cn0 [(fk0, (.ref s1)), (fk1, (.int (2147483639 : Int32))), (fk2, (.ref d6)), (fk3, (.int (2 : Int32)))]) (d5, oA .int [(.int r0), (.int r1), o0, o0, o0, o0, o0, o0, o0, o0, o0, o0, o0, o0, o0, o0]) (c5, oO cn0 [(fk0, (.ref s1)), (fk1, (.int (2147483639 : Int32))), (fk2, (.ref d5)), (fk3, (.int (2 : Int32)))]) (d4, oA .int [(.int p0), (.int p1), o0, o0, o0, o0, o0, o0, o0, o0, o0, o0, o0, o0, o0, o0]) (c4, oO cn0 [(fk0, (.ref s1)), (fk1, (.int (2147483639 : Int32))), (fk2, (.ref d4)), (fk3, (.int (2 : Int32)))]) (d3, oA .int [(.int z0), (.int z1), o0, o0, o0, o0, o0, o0, o0, o0, o0, o0, o0, o0, o0, o0]) (c3, oO cn0 [(fk0, (.ref s1)), (fk1, (.int (2147483639 : Int32))), (fk2, (.ref d3)), (fk3, (.int (2 : Int32)))]) (d2, oA .int [(.int b0), (.int b1), o0, o0, o0, o0, o0, o0, o0, o0, o0, o0, o0, o0, o0, o0]) (c2, oO cn0 [(fk0, (.ref s1)), (fk1, (.int (2147483639 : Int32))), (fk2, (.ref d2)), (fk3, (.int (2 : Int32)))]) (d1, oA .int [(.int f0), (.int f1), o0, o0, o0, o0, o0, o0, o0, o0, o0, o0, o0, o0, o0, o0]) (c1, oO cn0 [(fk0, (.ref s1)), (fk1, (.int (2147483639 : Int32))), (fk2, (.ref d1)), (fk3, (.int (2 : Int32)))]) ((a1, oO cn1 [(fk4, (.ref c0)), (fk5, (.ref c1)), (fk6, (.ref c2)), (fk7, (.ref c3)), (fk8, (.ref c4)), (fk9, (.ref c5)), (fk10, (.ref c6))]) :: (o1, oA .int [(.int w0), (.int w1), (.int w2)]) :: g1 :: g2 :: ds) u72 n70 n71 u73) (lenOf pd_3 rfl) (hb hby d6_93) (pc' := 96) rfl (argsL := [(.int w0)]) (rest := []) rfl (by rw [hml]; rfl) (W := 0) (oLe rfl) (j := 13) rfl (by decide) (cells' := 0) rfl (slots' := 0) rfl ?_
    intro T v_ d_ q_ B
    obtain ⟨rfl, rfl⟩ := q_
    show oWin p e below Z h0 _ _ (T.setTop (mkF m 96 #[.val (.ref a1), .val (.int (0 : Int32)), .val (.ref o1), .val (.int q1), .val (.int n1), .val (.int (1 : Int32)), .val (.int (0 : Int32)), .unset] []))
    refine W_iinc B (hb hby d6_96) (pc' := 99) rfl rfl (z := (1 : Int32)) (by decide) (ls' := #[.val (.ref a1), .val (.int (0 : Int32)), .val (.ref o1), .val (.int q1), .val (.int n1), .val (.int (1 : Int32)), .val (.int (1 : Int32)), .unset]) rfl ?_
    refine W_goto B (hb hby d6_99) (by decide) (pc' := 79) (by decide) ?_
    refine W_iload B (hb hby d6_79) (pc' := 81) rfl rfl ?_
    refine W_iloadN B (hb hby d6_81) (pc' := 82) rfl rfl ?_
    refine W_icmp_ge B (hb hby d6_82) (by decide) (pt := 102) (by decide) (pc' := 85) rfl (fun (c74 : ¬ (1 : Int32) < q1) => ?_) (fun (c74 : (1 : Int32) < q1) => ?_)
    · refine kJ ((vs.set (n1).toNatClampNeg (.int w0)), (n1 + (1 : Int32)), (1 : Int32)) _ ⟨?_, ?_⟩ B
      · first | exact hvs | simp [hvs]
      · show ((n1 + (1 : Int32))).toInt = n1.toInt + q1.toInt
        have fq1 := orI n1
        have fq2 : ((1 : Int32)).toInt = 1 := rfl
        have fq3 := oiadd n1 (1 : Int32)
        have fq4 := orI q1
        have fq5 := hn
        have fq6 := hq
        have fq7 : ((0 : Int32)).toInt = 0 := rfl
        have fq8 := oltI c69
        have fq9 : ((16 : Int32)).toInt = 16 := rfl
        have fq10 := oneI n70
        have fq11 := onltI n71
        have fq12 := onltI c74
        omega
    refine W_aloadN B (hb hby d6_85) (pc' := 86) rfl rfl rfl ?_
    refine W_getfield B hown (host := "") (Or.inl (ow hw (i := 40) rfl)) Via.refl (hb hby d6_86) (pc' := 89) rfl (j := 14) rfl (q := 0) rfl ?_
    intro T B
    refine W_aloadN B (hb hby d6_89) (pc' := 90) rfl rfl rfl ?_
    refine W_iload B (hb hby d6_90) (pc' := 92) rfl rfl ?_
    refine W_iaload B (hb hby d6_92) (pc' := 93) rfl (i := 15) rfl (by decide) (v := (.int w1)) rfl ?_
    have n75 : ¬ (n1 + (1 : Int32)) = (16 : Int32) := by
      refine oneI_i ?_
      have fq1 := orI n1
      have fq2 : ((1 : Int32)).toInt = 1 := rfl
      have fq3 := oiadd n1 (1 : Int32)
      have fq4 : ((16 : Int32)).toInt = 16 := rfl
      have fq5 := hn
      have fq6 := orI q1
      have fq7 := hq
      have fq8 : ((0 : Int32)).toInt = 0 := rfl
      have fq9 := oltI c69
      have fq10 := oneI n70
      have fq11 := onltI n71
      have fq12 := oltI c74
      omega
    have n76 : ¬ (n1 + (1 : Int32)) < (0 : Int32) := by
      refine onltI_i ?_
      have fq1 := orI n1
      have fq2 : ((1 : Int32)).toInt = 1 := rfl
      have fq3 := oiadd n1 (1 : Int32)
      have fq4 : ((0 : Int32)).toInt = 0 := rfl
      have fq5 := hn
      have fq6 := orI q1
      have fq7 := hq
      have fq8 := oltI c69
      have fq9 : ((16 : Int32)).toInt = 16 := rfl
      have fq10 := oneI n70
      have fq11 := onltI n71
      have fq12 := oltI c74
      have fq13 := oneI n75
      omega
    have u77 : ((vs.set (n1).toNatClampNeg (.int w0))).length = 16 := by first | exact hvs | simp [hvs]
    have u78 : ((n1 + (1 : Int32))).toNatClampNeg < ((vs.set (n1).toNatClampNeg (.int w0))).length := by
      rw [u77]
      refine oNatLt ?_ (by decide)
      have fq1 := orI n1
      have fq2 : ((1 : Int32)).toInt = 1 := rfl
      have fq3 := oiadd n1 (1 : Int32)
      have fq4 := hn
      have fq5 := orI q1
      have fq6 := hq
      have fq7 : ((0 : Int32)).toInt = 0 := rfl
      have fq8 := oltI c69
      have fq9 : ((16 : Int32)).toInt = 16 := rfl
      have fq10 := oneI n70
      have fq11 := onltI n71
      have fq12 := oltI c74
      have fq13 := oneI n75
      have fq14 := onltI n76
      omega
    refine W_virtual B (y := (⟨"com/example/tanglemark/tanglemark/datalog/Ints", "add", "(I)V"⟩ : MethodName)) (z := (⟨"com/example/tanglemark/tanglemark/datalog/Ints", "add", "(I)V"⟩ : MethodName)) hown (ow hw (i := 61) rfl) (ow hw (i := 62) rfl) (oNotFace B (ow hw (i := 64) rfl) rfl) (ow hw (i := 64) rfl) (ow hw (i := 63) rfl) (ow hw (i := 21) rfl) (ow hw (i := 65) rfl) (by decide) (a := c0) (rm_ia0 l Z a0 hw h0 c0 d0 s1 w1 (n1 + (1 : Int32)) (vs.set (n1).toNatClampNeg (.int w0)) (d6, oA .int [(.int t0), (.int t1), o0, o0, o0, o0, o0, o0, o0, o0, o0, o0, o0, o0, o0, o0]) (c6, oO cn0 [(fk0, (.ref s1)), (fk1, (.int (2147483639 : Int32))), (fk2, (.ref d6)), (fk3, (.int (2 : Int32)))]) (d5, oA .int [(.int r0), (.int r1), o0, o0, o0, o0, o0, o0, o0, o0, o0, o0, o0, o0, o0, o0]) (c5, oO cn0 [(fk0, (.ref s1)), (fk1, (.int (2147483639 : Int32))), (fk2, (.ref d5)), (fk3, (.int (2 : Int32)))]) (d4, oA .int [(.int p0), (.int p1), o0, o0, o0, o0, o0, o0, o0, o0, o0, o0, o0, o0, o0, o0]) (c4, oO cn0 [(fk0, (.ref s1)), (fk1, (.int (2147483639 : Int32))), (fk2, (.ref d4)), (fk3, (.int (2 : Int32)))]) (d3, oA .int [(.int z0), (.int z1), o0, o0, o0, o0, o0, o0, o0, o0, o0, o0, o0, o0, o0, o0]) (c3, oO cn0 [(fk0, (.ref s1)), (fk1, (.int (2147483639 : Int32))), (fk2, (.ref d3)), (fk3, (.int (2 : Int32)))]) (d2, oA .int [(.int b0), (.int b1), o0, o0, o0, o0, o0, o0, o0, o0, o0, o0, o0, o0, o0, o0]) (c2, oO cn0 [(fk0, (.ref s1)), (fk1, (.int (2147483639 : Int32))), (fk2, (.ref d2)), (fk3, (.int (2 : Int32)))]) (d1, oA .int [(.int f0), (.int f1), o0, o0, o0, o0, o0, o0, o0, o0, o0, o0, o0, o0, o0, o0]) (c1, oO cn0 [(fk0, (.ref s1)), (fk1, (.int (2147483639 : Int32))), (fk2, (.ref d1)), (fk3, (.int (2 : Int32)))]) ((a1, oO cn1 [(fk4, (.ref c0)), (fk5, (.ref c1)), (fk6, (.ref c2)), (fk7, (.ref c3)), (fk8, (.ref c4)), (fk9, (.ref c5)), (fk10, (.ref c6))]) :: (o1, oA .int [(.int w0), (.int w1), (.int w2)]) :: g1 :: g2 :: ds) u77 n75 n76 u78) (lenOf pd_3 rfl) (hb hby d6_93) (pc' := 96) rfl (argsL := [(.int w1)]) (rest := []) rfl (by rw [hml]; rfl) (W := 0) (oLe rfl) (j := 13) rfl (by decide) (cells' := 0) rfl (slots' := 0) rfl ?_
    intro T v_ d_ q_ B
    obtain ⟨rfl, rfl⟩ := q_
    show oWin p e below Z h0 _ _ (T.setTop (mkF m 96 #[.val (.ref a1), .val (.int (0 : Int32)), .val (.ref o1), .val (.int q1), .val (.int n1), .val (.int (1 : Int32)), .val (.int (1 : Int32)), .unset] []))
    refine W_iinc B (hb hby d6_96) (pc' := 99) rfl rfl (z := (2 : Int32)) (by decide) (ls' := #[.val (.ref a1), .val (.int (0 : Int32)), .val (.ref o1), .val (.int q1), .val (.int n1), .val (.int (1 : Int32)), .val (.int (2 : Int32)), .unset]) rfl ?_
    refine W_goto B (hb hby d6_99) (by decide) (pc' := 79) (by decide) ?_
    refine W_iload B (hb hby d6_79) (pc' := 81) rfl rfl ?_
    refine W_iloadN B (hb hby d6_81) (pc' := 82) rfl rfl ?_
    refine W_icmp_ge B (hb hby d6_82) (by decide) (pt := 102) (by decide) (pc' := 85) rfl (fun (c79 : ¬ (2 : Int32) < q1) => ?_) (fun (c79 : (2 : Int32) < q1) => ?_)
    · refine kJ (((vs.set (n1).toNatClampNeg (.int w0)).set ((n1 + (1 : Int32))).toNatClampNeg (.int w1)), ((n1 + (1 : Int32)) + (1 : Int32)), (2 : Int32)) _ ⟨?_, ?_⟩ B
      · first | exact hvs | simp [hvs]
      · show (((n1 + (1 : Int32)) + (1 : Int32))).toInt = n1.toInt + q1.toInt
        have fq1 := orI n1
        have fq2 : ((1 : Int32)).toInt = 1 := rfl
        have fq3 := oiadd n1 (1 : Int32)
        have fq4 := oiadd (n1 + (1 : Int32)) (1 : Int32)
        have fq5 := orI q1
        have fq6 := hn
        have fq7 := hq
        have fq8 : ((0 : Int32)).toInt = 0 := rfl
        have fq9 := oltI c69
        have fq10 : ((16 : Int32)).toInt = 16 := rfl
        have fq11 := oneI n70
        have fq12 := onltI n71
        have fq13 := oltI c74
        have fq14 := oneI n75
        have fq15 := onltI n76
        have fq16 : ((2 : Int32)).toInt = 2 := rfl
        have fq17 := onltI c79
        omega
    refine W_aloadN B (hb hby d6_85) (pc' := 86) rfl rfl rfl ?_
    refine W_getfield B hown (host := "") (Or.inl (ow hw (i := 40) rfl)) Via.refl (hb hby d6_86) (pc' := 89) rfl (j := 14) rfl (q := 0) rfl ?_
    intro T B
    refine W_aloadN B (hb hby d6_89) (pc' := 90) rfl rfl rfl ?_
    refine W_iload B (hb hby d6_90) (pc' := 92) rfl rfl ?_
    refine W_iaload B (hb hby d6_92) (pc' := 93) rfl (i := 15) rfl (by decide) (v := (.int w2)) rfl ?_
    have n80 : ¬ ((n1 + (1 : Int32)) + (1 : Int32)) = (16 : Int32) := by
      refine oneI_i ?_
      have fq1 := orI n1
      have fq2 : ((1 : Int32)).toInt = 1 := rfl
      have fq3 := oiadd n1 (1 : Int32)
      have fq4 := oiadd (n1 + (1 : Int32)) (1 : Int32)
      have fq5 : ((16 : Int32)).toInt = 16 := rfl
      have fq6 := hn
      have fq7 := orI q1
      have fq8 := hq
      have fq9 : ((0 : Int32)).toInt = 0 := rfl
      have fq10 := oltI c69
      have fq11 := oneI n70
      have fq12 := onltI n71
      have fq13 := oltI c74
      have fq14 := oneI n75
      have fq15 := onltI n76
      have fq16 : ((2 : Int32)).toInt = 2 := rfl
      have fq17 := oltI c79
      omega
    have n81 : ¬ ((n1 + (1 : Int32)) + (1 : Int32)) < (0 : Int32) := by
      refine onltI_i ?_
      have fq1 := orI n1
      have fq2 : ((1 : Int32)).toInt = 1 := rfl
      have fq3 := oiadd n1 (1 : Int32)
      have fq4 := oiadd (n1 + (1 : Int32)) (1 : Int32)
      have fq5 : ((0 : Int32)).toInt = 0 := rfl
      have fq6 := hn
      have fq7 := orI q1
      have fq8 := hq
      have fq9 := oltI c69
      have fq10 : ((16 : Int32)).toInt = 16 := rfl
      have fq11 := oneI n70
      have fq12 := onltI n71
      have fq13 := oltI c74
      have fq14 := oneI n75
      have fq15 := onltI n76
      have fq16 : ((2 : Int32)).toInt = 2 := rfl
      have fq17 := oltI c79
      have fq18 := oneI n80
      omega
    have u82 : (((vs.set (n1).toNatClampNeg (.int w0)).set ((n1 + (1 : Int32))).toNatClampNeg (.int w1))).length = 16 := by first | exact hvs | simp [hvs]
    have u83 : (((n1 + (1 : Int32)) + (1 : Int32))).toNatClampNeg < (((vs.set (n1).toNatClampNeg (.int w0)).set ((n1 + (1 : Int32))).toNatClampNeg (.int w1))).length := by
      rw [u82]
      refine oNatLt ?_ (by decide)
      have fq1 := orI n1
      have fq2 : ((1 : Int32)).toInt = 1 := rfl
      have fq3 := oiadd n1 (1 : Int32)
      have fq4 := oiadd (n1 + (1 : Int32)) (1 : Int32)
      have fq5 := hn
      have fq6 := orI q1
      have fq7 := hq
      have fq8 : ((0 : Int32)).toInt = 0 := rfl
      have fq9 := oltI c69
      have fq10 : ((16 : Int32)).toInt = 16 := rfl
      have fq11 := oneI n70
      have fq12 := onltI n71
      have fq13 := oltI c74
      have fq14 := oneI n75
      have fq15 := onltI n76
      have fq16 : ((2 : Int32)).toInt = 2 := rfl
      have fq17 := oltI c79
      have fq18 := oneI n80
      have fq19 := onltI n81
      omega
    refine W_virtual B (y := (⟨"com/example/tanglemark/tanglemark/datalog/Ints", "add", "(I)V"⟩ : MethodName)) (z := (⟨"com/example/tanglemark/tanglemark/datalog/Ints", "add", "(I)V"⟩ : MethodName)) hown (ow hw (i := 61) rfl) (ow hw (i := 62) rfl) (oNotFace B (ow hw (i := 64) rfl) rfl) (ow hw (i := 64) rfl) (ow hw (i := 63) rfl) (ow hw (i := 21) rfl) (ow hw (i := 65) rfl) (by decide) (a := c0) (rm_ia0 l Z a0 hw h0 c0 d0 s1 w2 ((n1 + (1 : Int32)) + (1 : Int32)) ((vs.set (n1).toNatClampNeg (.int w0)).set ((n1 + (1 : Int32))).toNatClampNeg (.int w1)) (d6, oA .int [(.int t0), (.int t1), o0, o0, o0, o0, o0, o0, o0, o0, o0, o0, o0, o0, o0, o0]) (c6, oO cn0 [(fk0, (.ref s1)), (fk1, (.int (2147483639 : Int32))), (fk2, (.ref d6)), (fk3, (.int (2 : Int32)))]) (d5, oA .int [(.int r0), (.int r1), o0, o0, o0, o0, o0, o0, o0, o0, o0, o0, o0, o0, o0, o0]) (c5, oO cn0 [(fk0, (.ref s1)), (fk1, (.int (2147483639 : Int32))), (fk2, (.ref d5)), (fk3, (.int (2 : Int32)))]) (d4, oA .int [(.int p0), (.int p1), o0, o0, o0, o0, o0, o0, o0, o0, o0, o0, o0, o0, o0, o0]) (c4, oO cn0 [(fk0, (.ref s1)), (fk1, (.int (2147483639 : Int32))), (fk2, (.ref d4)), (fk3, (.int (2 : Int32)))]) (d3, oA .int [(.int z0), (.int z1), o0, o0, o0, o0, o0, o0, o0, o0, o0, o0, o0, o0, o0, o0]) (c3, oO cn0 [(fk0, (.ref s1)), (fk1, (.int (2147483639 : Int32))), (fk2, (.ref d3)), (fk3, (.int (2 : Int32)))]) (d2, oA .int [(.int b0), (.int b1), o0, o0, o0, o0, o0, o0, o0, o0, o0, o0, o0, o0, o0, o0]) (c2, oO cn0 [(fk0, (.ref s1)), (fk1, (.int (2147483639 : Int32))), (fk2, (.ref d2)), (fk3, (.int (2 : Int32)))]) (d1, oA .int [(.int f0), (.int f1), o0, o0, o0, o0, o0, o0, o0, o0, o0, o0, o0, o0, o0, o0]) (c1, oO cn0 [(fk0, (.ref s1)), (fk1, (.int (2147483639 : Int32))), (fk2, (.ref d1)), (fk3, (.int (2 : Int32)))]) ((a1, oO cn1 [(fk4, (.ref c0)), (fk5, (.ref c1)), (fk6, (.ref c2)), (fk7, (.ref c3)), (fk8, (.ref c4)), (fk9, (.ref c5)), (fk10, (.ref c6))]) :: (o1, oA .int [(.int w0), (.int w1), (.int w2)]) :: g1 :: g2 :: ds) u82 n80 n81 u83) (lenOf pd_3 rfl) (hb hby d6_93) (pc' := 96) rfl (argsL := [(.int w2)]) (rest := []) rfl (by rw [hml]; rfl) (W := 0) (oLe rfl) (j := 13) rfl (by decide) (cells' := 0) rfl (slots' := 0) rfl ?_
    intro T v_ d_ q_ B
    obtain ⟨rfl, rfl⟩ := q_
    show oWin p e below Z h0 _ _ (T.setTop (mkF m 96 #[.val (.ref a1), .val (.int (0 : Int32)), .val (.ref o1), .val (.int q1), .val (.int n1), .val (.int (1 : Int32)), .val (.int (2 : Int32)), .unset] []))
    refine W_iinc B (hb hby d6_96) (pc' := 99) rfl rfl (z := (3 : Int32)) (by decide) (ls' := #[.val (.ref a1), .val (.int (0 : Int32)), .val (.ref o1), .val (.int q1), .val (.int n1), .val (.int (1 : Int32)), .val (.int (3 : Int32)), .unset]) rfl ?_
    refine W_goto B (hb hby d6_99) (by decide) (pc' := 79) (by decide) ?_
    have n84 : ¬ (3 : Int32) < q1 := by
      refine onltI_i ?_
      have fq1 : ((3 : Int32)).toInt = 3 := rfl
      have fq2 := orI q1
      have fq3 := orI n1
      have fq4 := hn
      have fq5 := hq
      have fq6 : ((0 : Int32)).toInt = 0 := rfl
      have fq7 := oltI c69
      have fq8 : ((16 : Int32)).toInt = 16 := rfl
      have fq9 := oneI n70
      have fq10 := onltI n71
      have fq11 : ((1 : Int32)).toInt = 1 := rfl
      have fq12 := oltI c74
      have fq13 := oiadd n1 (1 : Int32)
      have fq14 := oneI n75
      have fq15 := onltI n76
      have fq16 : ((2 : Int32)).toInt = 2 := rfl
      have fq17 := oltI c79
      have fq18 := oiadd (n1 + (1 : Int32)) (1 : Int32)
      have fq19 := oneI n80
      have fq20 := onltI n81
      omega
    refine W_iload B (hb hby d6_79) (pc' := 81) rfl rfl ?_
    refine W_iloadN B (hb hby d6_81) (pc' := 82) rfl rfl ?_
    refine W_icmpY B (hb hby d6_82) (by decide) (pc' := 102) (by decide) (flt n84).2.1 ?_
    refine kJ ((((vs.set (n1).toNatClampNeg (.int w0)).set ((n1 + (1 : Int32))).toNatClampNeg (.int w1)).set (((n1 + (1 : Int32)) + (1 : Int32))).toNatClampNeg (.int w2)), (((n1 + (1 : Int32)) + (1 : Int32)) + (1 : Int32)), (3 : Int32)) _ ⟨?_, ?_⟩ B
    · first | exact hvs | simp [hvs]
    · show ((((n1 + (1 : Int32)) + (1 : Int32)) + (1 : Int32))).toInt = n1.toInt + q1.toInt
      have fq1 := orI n1
      have fq2 : ((1 : Int32)).toInt = 1 := rfl
      have fq3 := oiadd n1 (1 : Int32)
      have fq4 := oiadd (n1 + (1 : Int32)) (1 : Int32)
      have fq5 := oiadd ((n1 + (1 : Int32)) + (1 : Int32)) (1 : Int32)
      have fq6 := orI q1
      have fq7 := hn
      have fq8 := hq
      have fq9 : ((0 : Int32)).toInt = 0 := rfl
      have fq10 := oltI c69
      have fq11 : ((16 : Int32)).toInt = 16 := rfl
      have fq12 := oneI n70
      have fq13 := onltI n71
      have fq14 := oltI c74
      have fq15 := oneI n75
      have fq16 := onltI n76
      have fq17 : ((2 : Int32)).toInt = 2 := rfl
      have fq18 := oltI c79
      have fq19 := oneI n80
      have fq20 := onltI n81
      have fq21 : ((3 : Int32)).toInt = 3 := rfl
      have fq22 := onltI n84
      omega
  intro z_ T hz B
  obtain ⟨us, n2, i2⟩ := z_
  obtain ⟨hus, hj⟩ := hz
  dsimp only at hus hj B
  show oWin p e below Z h0 _ _ (T.setTop (mkF m 102 #[.val (.ref a1), .val (.int (0 : Int32)), .val (.ref o1), .val (.int q1), .val (.int n1), .val (.int (1 : Int32)), .val (.int i2), .unset] []))
  refine W_iload B (hb hby d6_102) (pc' := 104) rfl rfl ?_
  refine W_ifN B (hb hby d6_104) (pc' := 107) rfl (by decide) ?_
  refine W_aloadN B (hb hby d6_107) (pc' := 108) rfl rfl rfl ?_
  refine W_iloadN B (hb hby d6_108) (pc' := 109) rfl rfl ?_
  refine W_virtual B (y := (⟨"com/example/tanglemark/tanglemark/datalog/SharedSets", "size", "(I)I"⟩ : MethodName)) (z := (⟨"com/example/tanglemark/tanglemark/datalog/SharedSets", "size", "(I)I"⟩ : MethodName)) hown (ow hw (i := 68) rfl) (ow hw (i := 69) rfl) (oNotFace B (ow hw (i := 71) rfl) rfl) (ow hw (i := 71) rfl) (ow hw (i := 70) rfl) (ow hw (i := 4) rfl) (ow hw (i := 72) rfl) (by decide) (a := a1) (rm_size l Z a0 hw h0 a1 (0 : Int32) c0 c1 c2 c3 c4 c5 c6 d3 s1 (2 : Int32) [(.int z0), (.int z1), o0, o0, o0, o0, o0, o0, o0, o0, o0, o0, o0, o0, o0, o0] z0 (d6, oA .int [(.int t0), (.int t1), o0, o0, o0, o0, o0, o0, o0, o0, o0, o0, o0, o0, o0, o0]) (c6, oO cn0 [(fk0, (.ref s1)), (fk1, (.int (2147483639 : Int32))), (fk2, (.ref d6)), (fk3, (.int (2 : Int32)))]) (d5, oA .int [(.int r0), (.int r1), o0, o0, o0, o0, o0, o0, o0, o0, o0, o0, o0, o0, o0, o0]) (c5, oO cn0 [(fk0, (.ref s1)), (fk1, (.int (2147483639 : Int32))), (fk2, (.ref d5)), (fk3, (.int (2 : Int32)))]) (d4, oA .int [(.int p0), (.int p1), o0, o0, o0, o0, o0, o0, o0, o0, o0, o0, o0, o0, o0, o0]) (c4, oO cn0 [(fk0, (.ref s1)), (fk1, (.int (2147483639 : Int32))), (fk2, (.ref d4)), (fk3, (.int (2 : Int32)))]) (d2, oA .int [(.int b0), (.int b1), o0, o0, o0, o0, o0, o0, o0, o0, o0, o0, o0, o0, o0, o0]) (c2, oO cn0 [(fk0, (.ref s1)), (fk1, (.int (2147483639 : Int32))), (fk2, (.ref d2)), (fk3, (.int (2 : Int32)))]) (d1, oA .int [(.int f0), (.int f1), o0, o0, o0, o0, o0, o0, o0, o0, o0, o0, o0, o0, o0, o0]) (c1, oO cn0 [(fk0, (.ref s1)), (fk1, (.int (2147483639 : Int32))), (fk2, (.ref d1)), (fk3, (.int (2 : Int32)))]) (d0, oA .int us) (c0, oO cn0 [(fk0, (.ref s1)), (fk1, (.int (2147483639 : Int32))), (fk2, (.ref d0)), (fk3, (.int n2))]) ((o1, oA .int [(.int w0), (.int w1), (.int w2)]) :: g1 :: g2 :: ds) (by decide) rfl) (lenOf pd_4 rfl) (hb hby d6_109) (pc' := 112) rfl (argsL := [(.int (0 : Int32))]) (rest := []) rfl (by rw [hml]; rfl) (W := 0) (oLe rfl) (j := 14) rfl (by decide) (cells' := 0) rfl (slots' := 0) rfl ?_
  intro T v_ d_ q_ B
  obtain ⟨rfl, rfl⟩ := q_
  show oWin p e below Z h0 _ _ (T.setTop (mkF m 112 #[.val (.ref a1), .val (.int (0 : Int32)), .val (.ref o1), .val (.int q1), .val (.int n1), .val (.int (1 : Int32)), .val (.int i2), .unset] [(.int z0)]))
  refine W_goto B (hb hby d6_112) (by decide) (pc' := 116) (by decide) ?_
  refine W_istore B (hb hby d6_116) (pc' := 118) rfl (v := z0) rfl (ls' := #[.val (.ref a1), .val (.int (0 : Int32)), .val (.ref o1), .val (.int q1), .val (.int n1), .val (.int (1 : Int32)), .val (.int z0), .unset]) rfl ?_
  refine W_aloadN B (hb hby d6_118) (pc' := 119) rfl rfl rfl ?_
  refine W_getfield B hown (host := "") (Or.inl (ow hw (i := 46) rfl)) Via.refl (hb hby d6_119) (pc' := 122) rfl (j := 14) rfl (q := 3) rfl ?_
  intro T B
  refine W_getfield B hown (host := "") (Or.inl (ow hw (i := 59) rfl)) Via.refl (hb hby d6_122) (pc' := 125) rfl (j := 7) rfl (q := 3) rfl ?_
  intro T B
  refine W_istore B (hb hby d6_125) (pc' := 127) rfl (v := (2 : Int32)) rfl (ls' := #[.val (.ref a1), .val (.int (0 : Int32)), .val (.ref o1), .val (.int q1), .val (.int n1), .val (.int (1 : Int32)), .val (.int z0), .val (.int (2 : Int32))]) rfl ?_
  refine W_aloadN B (hb hby d6_127) (pc' := 128) rfl rfl rfl ?_
  refine W_getfield B hown (host := "") (Or.inl (ow hw (i := 50) rfl)) Via.refl (hb hby d6_128) (pc' := 131) rfl (j := 14) rfl (q := 5) rfl ?_
  intro T B
  refine W_iload B (hb hby d6_131) (pc' := 133) rfl rfl ?_
  refine W_ifN B (hb hby d6_133) (pc' := 136) rfl (by decide) ?_
  refine W_aloadN B (hb hby d6_136) (pc' := 137) rfl rfl rfl ?_
  refine W_getfield B hown (host := "") (Or.inl (ow hw (i := 50) rfl)) Via.refl (hb hby d6_137) (pc' := 140) rfl (j := 14) rfl (q := 5) rfl ?_
  intro T B
  refine W_getfield B hown (host := "") (Or.inl (ow hw (i := 67) rfl)) Via.refl (hb hby d6_140) (pc' := 143) rfl (j := 3) rfl (q := 2) rfl ?_
  intro T B
  refine W_iloadN B (hb hby d6_143) (pc' := 144) rfl rfl ?_
  refine W_iaload B (hb hby d6_144) (pc' := 145) rfl (i := 2) rfl (by decide) (v := (.int r0)) rfl ?_
  refine W_goto B (hb hby d6_145) (by decide) (pc' := 150) (by decide) ?_
  refine W_virtual B (y := (⟨"com/example/tanglemark/tanglemark/datalog/Ints", "add", "(I)V"⟩ : MethodName)) (z := (⟨"com/example/tanglemark/tanglemark/datalog/Ints", "add", "(I)V"⟩ : MethodName)) hown (ow hw (i := 61) rfl) (ow hw (i := 62) rfl) (oNotFace B (ow hw (i := 64) rfl) rfl) (ow hw (i := 64) rfl) (ow hw (i := 63) rfl) (ow hw (i := 21) rfl) (ow hw (i := 65) rfl) (by decide) (a := c5) (rm_ia5 l Z a0 hw h0 c5 d5 s1 r0 (2 : Int32) [(.int r0), (.int r1), o0, o0, o0, o0, o0, o0, o0, o0, o0, o0, o0, o0, o0, o0] (d6, oA .int [(.int t0), (.int t1), o0, o0, o0, o0, o0, o0, o0, o0, o0, o0, o0, o0, o0, o0]) (c6, oO cn0 [(fk0, (.ref s1)), (fk1, (.int (2147483639 : Int32))), (fk2, (.ref d6)), (fk3, (.int (2 : Int32)))]) ((d4, oA .int [(.int p0), (.int p1), o0, o0, o0, o0, o0, o0, o0, o0, o0, o0, o0, o0, o0, o0]) :: (c4, oO cn0 [(fk0, (.ref s1)), (fk1, (.int (2147483639 : Int32))), (fk2, (.ref d4)), (fk3, (.int (2 : Int32)))]) :: (d3, oA .int [(.int z0), (.int z1), o0, o0, o0, o0, o0, o0, o0, o0, o0, o0, o0, o0, o0, o0]) :: (c3, oO cn0 [(fk0, (.ref s1)), (fk1, (.int (2147483639 : Int32))), (fk2, (.ref d3)), (fk3, (.int (2 : Int32)))]) :: (d2, oA .int [(.int b0), (.int b1), o0, o0, o0, o0, o0, o0, o0, o0, o0, o0, o0, o0, o0, o0]) :: (c2, oO cn0 [(fk0, (.ref s1)), (fk1, (.int (2147483639 : Int32))), (fk2, (.ref d2)), (fk3, (.int (2 : Int32)))]) :: (d1, oA .int [(.int f0), (.int f1), o0, o0, o0, o0, o0, o0, o0, o0, o0, o0, o0, o0, o0, o0]) :: (c1, oO cn0 [(fk0, (.ref s1)), (fk1, (.int (2147483639 : Int32))), (fk2, (.ref d1)), (fk3, (.int (2 : Int32)))]) :: (d0, oA .int us) :: (c0, oO cn0 [(fk0, (.ref s1)), (fk1, (.int (2147483639 : Int32))), (fk2, (.ref d0)), (fk3, (.int n2))]) :: (a1, oO cn1 [(fk4, (.ref c0)), (fk5, (.ref c1)), (fk6, (.ref c2)), (fk7, (.ref c3)), (fk8, (.ref c4)), (fk9, (.ref c5)), (fk10, (.ref c6))]) :: (o1, oA .int [(.int w0), (.int w1), (.int w2)]) :: g1 :: g2 :: ds) rfl (by decide) (by decide) (oLt rfl)) (lenOf pd_3 rfl) (hb hby d6_150) (pc' := 153) rfl (argsL := [(.int r0)]) (rest := []) rfl (by rw [hml]; rfl) (W := 0) (oLe rfl) (j := 3) rfl (by decide) (cells' := 0) rfl (slots' := 0) rfl ?_
  intro T v_ d_ q_ B
  obtain ⟨rfl, rfl⟩ := q_
  show oWin p e below Z h0 _ _ (T.setTop (mkF m 153 #[.val (.ref a1), .val (.int (0 : Int32)), .val (.ref o1), .val (.int q1), .val (.int n1), .val (.int (1 : Int32)), .val (.int z0), .val (.int (2 : Int32))] []))
  refine W_aloadN B (hb hby d6_153) (pc' := 154) rfl rfl rfl ?_
  refine W_getfield B hown (host := "") (Or.inl (ow hw (i := 42) rfl)) Via.refl (hb hby d6_154) (pc' := 157) rfl (j := 14) rfl (q := 1) rfl ?_
  intro T B
  refine W_iload B (hb hby d6_157) (pc' := 159) rfl rfl ?_
  refine W_virtual B (y := (⟨"com/example/tanglemark/tanglemark/datalog/Ints", "add", "(I)V"⟩ : MethodName)) (z := (⟨"com/example/tanglemark/tanglemark/datalog/Ints", "add", "(I)V"⟩ : MethodName)) hown (ow hw (i := 61) rfl) (ow hw (i := 62) rfl) (oNotFace B (ow hw (i := 64) rfl) rfl) (ow hw (i := 64) rfl) (ow hw (i := 63) rfl) (ow hw (i := 21) rfl) (ow hw (i := 65) rfl) (by decide) (a := c1) (rm_ia1 l Z a0 hw h0 c1 d1 s1 n1 (2 : Int32) [(.int f0), (.int f1), o0, o0, o0, o0, o0, o0, o0, o0, o0, o0, o0, o0, o0, o0] (d6, oA .int [(.int t0), (.int t1), o0, o0, o0, o0, o0, o0, o0, o0, o0, o0, o0, o0, o0, o0]) (c6, oO cn0 [(fk0, (.ref s1)), (fk1, (.int (2147483639 : Int32))), (fk2, (.ref d6)), (fk3, (.int (2 : Int32)))]) (d5, oA .int [(.int r0), (.int r1), (.int r0), o0, o0, o0, o0, o0, o0, o0, o0, o0, o0, o0, o0, o0]) (c5, oO cn0 [(fk0, (.ref s1)), (fk1, (.int (2147483639 : Int32))), (fk2, (.ref d5)), (fk3, (.int (3 : Int32)))]) (d4, oA .int [(.int p0), (.int p1), o0, o0, o0, o0, o0, o0, o0, o0, o0, o0, o0, o0, o0, o0]) (c4, oO cn0 [(fk0, (.ref s1)), (fk1, (.int (2147483639 : Int32))), (fk2, (.ref d4)), (fk3, (.int (2 : Int32)))]) (d3, oA .int [(.int z0), (.int z1), o0, o0, o0, o0, o0, o0, o0, o0, o0, o0, o0, o0, o0, o0]) (c3, oO cn0 [(fk0, (.ref s1)), (fk1, (.int (2147483639 : Int32))), (fk2, (.ref d3)), (fk3, (.int (2 : Int32)))]) (d2, oA .int [(.int b0), (.int b1), o0, o0, o0, o0, o0, o0, o0, o0, o0, o0, o0, o0, o0, o0]) (c2, oO cn0 [(fk0, (.ref s1)), (fk1, (.int (2147483639 : Int32))), (fk2, (.ref d2)), (fk3, (.int (2 : Int32)))]) ((d0, oA .int us) :: (c0, oO cn0 [(fk0, (.ref s1)), (fk1, (.int (2147483639 : Int32))), (fk2, (.ref d0)), (fk3, (.int n2))]) :: (a1, oO cn1 [(fk4, (.ref c0)), (fk5, (.ref c1)), (fk6, (.ref c2)), (fk7, (.ref c3)), (fk8, (.ref c4)), (fk9, (.ref c5)), (fk10, (.ref c6))]) :: (o1, oA .int [(.int w0), (.int w1), (.int w2)]) :: g1 :: g2 :: ds) rfl (by decide) (by decide) (oLt rfl)) (lenOf pd_3 rfl) (hb hby d6_159) (pc' := 162) rfl (argsL := [(.int n1)]) (rest := []) rfl (by rw [hml]; rfl) (W := 0) (oLe rfl) (j := 11) rfl (by decide) (cells' := 0) rfl (slots' := 0) rfl ?_
  intro T v_ d_ q_ B
  obtain ⟨rfl, rfl⟩ := q_
  show oWin p e below Z h0 _ _ (T.setTop (mkF m 162 #[.val (.ref a1), .val (.int (0 : Int32)), .val (.ref o1), .val (.int q1), .val (.int n1), .val (.int (1 : Int32)), .val (.int z0), .val (.int (2 : Int32))] []))
  refine W_aloadN B (hb hby d6_162) (pc' := 163) rfl rfl rfl ?_
  refine W_getfield B hown (host := "") (Or.inl (ow hw (i := 44) rfl)) Via.refl (hb hby d6_163) (pc' := 166) rfl (j := 14) rfl (q := 2) rfl ?_
  intro T B
  refine W_iload B (hb hby d6_166) (pc' := 168) rfl rfl ?_
  refine W_virtual B (y := (⟨"com/example/tanglemark/tanglemark/datalog/Ints", "add", "(I)V"⟩ : MethodName)) (z := (⟨"com/example/tanglemark/tanglemark/datalog/Ints", "add", "(I)V"⟩ : MethodName)) hown (ow hw (i := 61) rfl) (ow hw (i := 62) rfl) (oNotFace B (ow hw (i := 64) rfl) rfl) (ow hw (i := 64) rfl) (ow hw (i := 63) rfl) (ow hw (i := 21) rfl) (ow hw (i := 65) rfl) (by decide) (a := c2) (rm_ia2 l Z a0 hw h0 c2 d2 s1 z0 (2 : Int32) [(.int b0), (.int b1), o0, o0, o0, o0, o0, o0, o0, o0, o0, o0, o0, o0, o0, o0] (d6, oA .int [(.int t0), (.int t1), o0, o0, o0, o0, o0, o0, o0, o0, o0, o0, o0, o0, o0, o0]) (c6, oO cn0 [(fk0, (.ref s1)), (fk1, (.int (2147483639 : Int32))), (fk2, (.ref d6)), (fk3, (.int (2 : Int32)))]) (d5, oA .int [(.int r0), (.int r1), (.int r0), o0, o0, o0, o0, o0, o0, o0, o0, o0, o0, o0, o0, o0]) (c5, oO cn0 [(fk0, (.ref s1)), (fk1, (.int (2147483639 : Int32))), (fk2, (.ref d5)), (fk3, (.int (3 : Int32)))]) (d4, oA .int [(.int p0), (.int p1), o0, o0, o0, o0, o0, o0, o0, o0, o0, o0, o0, o0, o0, o0]) (c4, oO cn0 [(fk0, (.ref s1)), (fk1, (.int (2147483639 : Int32))), (fk2, (.ref d4)), (fk3, (.int (2 : Int32)))]) (d3, oA .int [(.int z0), (.int z1), o0, o0, o0, o0, o0, o0, o0, o0, o0, o0, o0, o0, o0, o0]) (c3, oO cn0 [(fk0, (.ref s1)), (fk1, (.int (2147483639 : Int32))), (fk2, (.ref d3)), (fk3, (.int (2 : Int32)))]) ((d1, oA .int [(.int f0), (.int f1), (.int n1), o0, o0, o0, o0, o0, o0, o0, o0, o0, o0, o0, o0, o0]) :: (c1, oO cn0 [(fk0, (.ref s1)), (fk1, (.int (2147483639 : Int32))), (fk2, (.ref d1)), (fk3, (.int (3 : Int32)))]) :: (d0, oA .int us) :: (c0, oO cn0 [(fk0, (.ref s1)), (fk1, (.int (2147483639 : Int32))), (fk2, (.ref d0)), (fk3, (.int n2))]) :: (a1, oO cn1 [(fk4, (.ref c0)), (fk5, (.ref c1)), (fk6, (.ref c2)), (fk7, (.ref c3)), (fk8, (.ref c4)), (fk9, (.ref c5)), (fk10, (.ref c6))]) :: (o1, oA .int [(.int w0), (.int w1), (.int w2)]) :: g1 :: g2 :: ds) rfl (by decide) (by decide) (oLt rfl)) (lenOf pd_3 rfl) (hb hby d6_168) (pc' := 171) rfl (argsL := [(.int z0)]) (rest := []) rfl (by rw [hml]; rfl) (W := 0) (oLe rfl) (j := 9) rfl (by decide) (cells' := 0) rfl (slots' := 0) rfl ?_
  intro T v_ d_ q_ B
  obtain ⟨rfl, rfl⟩ := q_
  show oWin p e below Z h0 _ _ (T.setTop (mkF m 171 #[.val (.ref a1), .val (.int (0 : Int32)), .val (.ref o1), .val (.int q1), .val (.int n1), .val (.int (1 : Int32)), .val (.int z0), .val (.int (2 : Int32))] []))
  refine W_aloadN B (hb hby d6_171) (pc' := 172) rfl rfl rfl ?_
  refine W_getfield B hown (host := "") (Or.inl (ow hw (i := 46) rfl)) Via.refl (hb hby d6_172) (pc' := 175) rfl (j := 14) rfl (q := 3) rfl ?_
  intro T B
  refine W_iload B (hb hby d6_175) (pc' := 177) rfl rfl ?_
  refine W_aloadN B (hb hby d6_177) (pc' := 178) rfl rfl rfl ?_
  refine W_getfield B hown (host := "") (Or.inl (ow hw (i := 40) rfl)) Via.refl (hb hby d6_178) (pc' := 181) rfl (j := 14) rfl (q := 0) rfl ?_
  intro T B
  refine W_getfield B hown (host := "") (Or.inl (ow hw (i := 59) rfl)) Via.refl (hb hby d6_181) (pc' := 184) rfl (j := 13) rfl (q := 3) rfl ?_
  intro T B
  refine W_iadd B (hb hby d6_184) (pc' := 185) rfl (z := (z0 + n2)) rfl ?_
  refine W_iload B (hb hby d6_185) (pc' := 187) rfl rfl ?_
  refine W_isub B (hb hby d6_187) (pc' := 188) rfl (z := ((z0 + n2) - n1)) rfl ?_
  refine W_virtual B (y := (⟨"com/example/tanglemark/tanglemark/datalog/Ints", "add", "(I)V"⟩ : MethodName)) (z := (⟨"com/example/tanglemark/tanglemark/datalog/Ints", "add", "(I)V"⟩ : MethodName)) hown (ow hw (i := 61) rfl) (ow hw (i := 62) rfl) (oNotFace B (ow hw (i := 64) rfl) rfl) (ow hw (i := 64) rfl) (ow hw (i := 63) rfl) (ow hw (i := 21) rfl) (ow hw (i := 65) rfl) (by decide) (a := c3) (rm_ia3 l Z a0 hw h0 c3 d3 s1 ((z0 + n2) - n1) (2 : Int32) [(.int z0), (.int z1), o0, o0, o0, o0, o0, o0, o0, o0, o0, o0, o0, o0, o0, o0] (d6, oA .int [(.int t0), (.int t1), o0, o0, o0, o0, o0, o0, o0, o0, o0, o0, o0, o0, o0, o0]) (c6, oO cn0 [(fk0, (.ref s1)), (fk1, (.int (2147483639 : Int32))), (fk2, (.ref d6)), (fk3, (.int (2 : Int32)))]) (d5, oA .int [(.int r0), (.int r1), (.int r0), o0, o0, o0, o0, o0, o0, o0, o0, o0, o0, o0, o0, o0]) (c5, oO cn0 [(fk0, (.ref s1)), (fk1, (.int (2147483639 : Int32))), (fk2, (.ref d5)), (fk3, (.int (3 : Int32)))]) (d4, oA .int [(.int p0), (.int p1), o0, o0, o0, o0, o0, o0, o0, o0, o0, o0, o0, o0, o0, o0]) (c4, oO cn0 [(fk0, (.ref s1)), (fk1, (.int (2147483639 : Int32))), (fk2, (.ref d4)), (fk3, (.int (2 : Int32)))]) ((d2, oA .int [(.int b0), (.int b1), (.int z0), o0, o0, o0, o0, o0, o0, o0, o0, o0, o0, o0, o0, o0]) :: (c2, oO cn0 [(fk0, (.ref s1)), (fk1, (.int (2147483639 : Int32))), (fk2, (.ref d2)), (fk3, (.int (3 : Int32)))]) :: (d1, oA .int [(.int f0), (.int f1), (.int n1), o0, o0, o0, o0, o0, o0, o0, o0, o0, o0, o0, o0, o0]) :: (c1, oO cn0 [(fk0, (.ref s1)), (fk1, (.int (2147483639 : Int32))), (fk2, (.ref d1)), (fk3, (.int (3 : Int32)))]) :: (d0, oA .int us) :: (c0, oO cn0 [(fk0, (.ref s1)), (fk1, (.int (2147483639 : Int32))), (fk2, (.ref d0)), (fk3, (.int n2))]) :: (a1, oO cn1 [(fk4, (.ref c0)), (fk5, (.ref c1)), (fk6, (.ref c2)), (fk7, (.ref c3)), (fk8, (.ref c4)), (fk9, (.ref c5)), (fk10, (.ref c6))]) :: (o1, oA .int [(.int w0), (.int w1), (.int w2)]) :: g1 :: g2 :: ds) rfl (by decide) (by decide) (oLt rfl)) (lenOf pd_3 rfl) (hb hby d6_188) (pc' := 191) rfl (argsL := [(.int ((z0 + n2) - n1))]) (rest := []) rfl (by rw [hml]; rfl) (W := 0) (oLe rfl) (j := 7) rfl (by decide) (cells' := 0) rfl (slots' := 0) rfl ?_
  intro T v_ d_ q_ B
  obtain ⟨rfl, rfl⟩ := q_
  show oWin p e below Z h0 _ _ (T.setTop (mkF m 191 #[.val (.ref a1), .val (.int (0 : Int32)), .val (.ref o1), .val (.int q1), .val (.int n1), .val (.int (1 : Int32)), .val (.int z0), .val (.int (2 : Int32))] []))
  refine W_aloadN B (hb hby d6_191) (pc' := 192) rfl rfl rfl ?_
  refine W_getfield B hown (host := "") (Or.inl (ow hw (i := 48) rfl)) Via.refl (hb hby d6_192) (pc' := 195) rfl (j := 14) rfl (q := 4) rfl ?_
  intro T B
  refine W_iload B (hb hby d6_195) (pc' := 197) rfl rfl ?_
  refine W_ifN B (hb hby d6_197) (pc' := 200) rfl (by decide) ?_
  refine W_iloadN B (hb hby d6_200) (pc' := 201) rfl rfl ?_
  refine W_goto B (hb hby d6_201) (by decide) (pc' := 205) (by decide) ?_
  refine W_virtual B (y := (⟨"com/example/tanglemark/tanglemark/datalog/Ints", "add", "(I)V"⟩ : MethodName)) (z := (⟨"com/example/tanglemark/tanglemark/datalog/Ints", "add", "(I)V"⟩ : MethodName)) hown (ow hw (i := 61) rfl) (ow hw (i := 62) rfl) (oNotFace B (ow hw (i := 64) rfl) rfl) (ow hw (i := 64) rfl) (ow hw (i := 63) rfl) (ow hw (i := 21) rfl) (ow hw (i := 65) rfl) (by decide) (a := c4) (rm_ia4 l Z a0 hw h0 c4 d4 s1 (0 : Int32) (2 : Int32) [(.int p0), (.int p1), o0, o0, o0, o0, o0, o0, o0, o0, o0, o0, o0, o0, o0, o0] (d6, oA .int [(.int t0), (.int t1), o0, o0, o0, o0, o0, o0, o0, o0, o0, o0, o0, o0, o0, o0]) (c6, oO cn0 [(fk0, (.ref s1)), (fk1, (.int (2147483639 : Int32))), (fk2, (.ref d6)), (fk3, (.int (2 : Int32)))]) (d5, oA .int [(.int r0), (.int r1), (.int r0), o0, o0, o0, o0, o0, o0, o0, o0, o0, o0, o0, o0, o0]) (c5, oO cn0 [(fk0, (.ref s1)), (fk1, (.int (2147483639 : Int32))), (fk2, (.ref d5)), (fk3, (.int (3 : Int32)))]) ((d3, oA .int [(.int z0), (.int z1), (.int ((z0 + n2) - n1)), o0, o0, o0, o0, o0, o0, o0, o0, o0, o0, o0, o0, o0]) :: (c3, oO cn0 [(fk0, (.ref s1)), (fk1, (.int (2147483639 : Int32))), (fk2, (.ref d3)), (fk3, (.int (3 : Int32)))]) :: (d2, oA .int [(.int b0), (.int b1), (.int z0), o0, o0, o0, o0, o0, o0, o0, o0, o0, o0, o0, o0, o0]) :: (c2, oO cn0 [(fk0, (.ref s1)), (fk1, (.int (2147483639 : Int32))), (fk2, (.ref d2)), (fk3, (.int (3 : Int32)))]) :: (d1, oA .int [(.int f0), (.int f1), (.int n1), o0, o0, o0, o0, o0, o0, o0, o0, o0, o0, o0, o0, o0]) :: (c1, oO cn0 [(fk0, (.ref s1)), (fk1, (.int (2147483639 : Int32))), (fk2, (.ref d1)), (fk3, (.int (3 : Int32)))]) :: (d0, oA .int us) :: (c0, oO cn0 [(fk0, (.ref s1)), (fk1, (.int (2147483639 : Int32))), (fk2, (.ref d0)), (fk3, (.int n2))]) :: (a1, oO cn1 [(fk4, (.ref c0)), (fk5, (.ref c1)), (fk6, (.ref c2)), (fk7, (.ref c3)), (fk8, (.ref c4)), (fk9, (.ref c5)), (fk10, (.ref c6))]) :: (o1, oA .int [(.int w0), (.int w1), (.int w2)]) :: g1 :: g2 :: ds) rfl (by decide) (by decide) (oLt rfl)) (lenOf pd_3 rfl) (hb hby d6_205) (pc' := 208) rfl (argsL := [(.int (0 : Int32))]) (rest := []) rfl (by rw [hml]; rfl) (W := 0) (oLe rfl) (j := 5) rfl (by decide) (cells' := 0) rfl (slots' := 0) rfl ?_
  intro T v_ d_ q_ B
  obtain ⟨rfl, rfl⟩ := q_
  show oWin p e below Z h0 _ _ (T.setTop (mkF m 208 #[.val (.ref a1), .val (.int (0 : Int32)), .val (.ref o1), .val (.int q1), .val (.int n1), .val (.int (1 : Int32)), .val (.int z0), .val (.int (2 : Int32))] []))
  refine W_aloadN B (hb hby d6_208) (pc' := 209) rfl rfl rfl ?_
  refine W_getfield B hown (host := "") (Or.inl (ow hw (i := 52) rfl)) Via.refl (hb hby d6_209) (pc' := 212) rfl (j := 14) rfl (q := 6) rfl ?_
  intro T B
  refine W_iload B (hb hby d6_212) (pc' := 214) rfl rfl ?_
  refine W_ifN B (hb hby d6_214) (pc' := 217) rfl (by decide) ?_
  refine W_aloadN B (hb hby d6_217) (pc' := 218) rfl rfl rfl ?_
  refine W_getfield B hown (host := "") (Or.inl (ow hw (i := 52) rfl)) Via.refl (hb hby d6_218) (pc' := 221) rfl (j := 14) rfl (q := 6) rfl ?_
  intro T B
  refine W_getfield B hown (host := "") (Or.inl (ow hw (i := 67) rfl)) Via.refl (hb hby d6_221) (pc' := 224) rfl (j := 1) rfl (q := 2) rfl ?_
  intro T B
  refine W_iloadN B (hb hby d6_224) (pc' := 225) rfl rfl ?_
  refine W_iaload B (hb hby d6_225) (pc' := 226) rfl (i := 0) rfl (by decide) (v := (.int t0)) rfl ?_
  refine W_iconst B (hb hby d6_226) (pc' := 227) rfl (z := (1 : Int32)) (by decide) ?_
  refine W_iadd B (hb hby d6_227) (pc' := 228) rfl (z := (t0 + (1 : Int32))) rfl ?_
  refine W_goto B (hb hby d6_228) (by decide) (pc' := 232) (by decide) ?_
  refine W_virtual B (y := (⟨"com/example/tanglemark/tanglemark/datalog/Ints", "add", "(I)V"⟩ : MethodName)) (z := (⟨"com/example/tanglemark/tanglemark/datalog/Ints", "add", "(I)V"⟩ : MethodName)) hown (ow hw (i := 61) rfl) (ow hw (i := 62) rfl) (oNotFace B (ow hw (i := 64) rfl) rfl) (ow hw (i := 64) rfl) (ow hw (i := 63) rfl) (ow hw (i := 21) rfl) (ow hw (i := 65) rfl) (by decide) (a := c6) (rm_ia6 l Z a0 hw h0 c6 d6 s1 (t0 + (1 : Int32)) (2 : Int32) [(.int t0), (.int t1), o0, o0, o0, o0, o0, o0, o0, o0, o0, o0, o0, o0, o0, o0]  ((d5, oA .int [(.int r0), (.int r1), (.int r0), o0, o0, o0, o0, o0, o0, o0, o0, o0, o0, o0, o0, o0]) :: (c5, oO cn0 [(fk0, (.ref s1)), (fk1, (.int (2147483639 : Int32))), (fk2, (.ref d5)), (fk3, (.int (3 : Int32)))]) :: (d4, oA .int [(.int p0), (.int p1), o0, o0, o0, o0, o0, o0, o0, o0, o0, o0, o0, o0, o0, o0]) :: (c4, oO cn0 [(fk0, (.ref s1)), (fk1, (.int (2147483639 : Int32))), (fk2, (.ref d4)), (fk3, (.int (3 : Int32)))]) :: (d3, oA .int [(.int z0), (.int z1), (.int ((z0 + n2) - n1)), o0, o0, o0, o0, o0, o0, o0, o0, o0, o0, o0, o0, o0]) :: (c3, oO cn0 [(fk0, (.ref s1)), (fk1, (.int (2147483639 : Int32))), (fk2, (.ref d3)), (fk3, (.int (3 : Int32)))]) :: (d2, oA .int [(.int b0), (.int b1), (.int z0), o0, o0, o0, o0, o0, o0, o0, o0, o0, o0, o0, o0, o0]) :: (c2, oO cn0 [(fk0, (.ref s1)), (fk1, (.int (2147483639 : Int32))), (fk2, (.ref d2)), (fk3, (.int (3 : Int32)))]) :: (d1, oA .int [(.int f0), (.int f1), (.int n1), o0, o0, o0, o0, o0, o0, o0, o0, o0, o0, o0, o0, o0]) :: (c1, oO cn0 [(fk0, (.ref s1)), (fk1, (.int (2147483639 : Int32))), (fk2, (.ref d1)), (fk3, (.int (3 : Int32)))]) :: (d0, oA .int us) :: (c0, oO cn0 [(fk0, (.ref s1)), (fk1, (.int (2147483639 : Int32))), (fk2, (.ref d0)), (fk3, (.int n2))]) :: (a1, oO cn1 [(fk4, (.ref c0)), (fk5, (.ref c1)), (fk6, (.ref c2)), (fk7, (.ref c3)), (fk8, (.ref c4)), (fk9, (.ref c5)), (fk10, (.ref c6))]) :: (o1, oA .int [(.int w0), (.int w1), (.int w2)]) :: g1 :: g2 :: ds) rfl (by decide) (by decide) (oLt rfl)) (lenOf pd_3 rfl) (hb hby d6_232) (pc' := 235) rfl (argsL := [(.int (t0 + (1 : Int32)))]) (rest := []) rfl (by rw [hml]; rfl) (W := 0) (oLe rfl) (j := 1) rfl (by decide) (cells' := 0) rfl (slots' := 0) rfl ?_
  intro T v_ d_ q_ B
  obtain ⟨rfl, rfl⟩ := q_
  show oWin p e below Z h0 _ _ (T.setTop (mkF m 235 #[.val (.ref a1), .val (.int (0 : Int32)), .val (.ref o1), .val (.int q1), .val (.int n1), .val (.int (1 : Int32)), .val (.int z0), .val (.int (2 : Int32))] []))
  refine W_iload B (hb hby d6_235) (pc' := 237) rfl rfl ?_
  refine W_retI B hret (hb hby d6_237) (by decide) ?_
  exact ⟨_, _, hus, hj, rfl, rfl⟩
theorem ef_rm_add21 (m : MethodId) (x0 : Addr) (x2 : Addr) (x3 : Int32) : entryFrame m #[(.ref x0), (.int (1 : Int32)), (.ref x2), (.int x3)] 8 = mkF m 0 #[.val (.ref x0), .val (.int (1 : Int32)), .val (.ref x2), .val (.int x3), .unset, .unset, .unset, .unset] [] := by first | (simp [entryFrame, mkF, argsToLocals, Value.category]; done) | rfl
set_option maxRecDepth 65536 in
set_option maxHeartbeats 40000000 in
theorem rm_add21 (l : Launch) (Z : State) (a0 : Array Value) (hw : ∀ d ∈ tables_1, d.before a0 Z = true) (h0 : Heap) {lo : Nat} (a1 : Addr) (o1 : Addr) (s1 : Addr) (c0 : Addr) (d0 : Addr) (c1 : Addr) (d1 : Addr) (c2 : Addr) (d2 : Addr) (c3 : Addr) (d3 : Addr) (c4 : Addr) (d4 : Addr) (c5 : Addr) (d5 : Addr) (c6 : Addr) (d6 : Addr) (q1 : Int32) (n1 : Int32) (vs : List Value) (f0 : Int32) (f1 : Int32) (b0 : Int32) (b1 : Int32) (z0 : Int32) (z1 : Int32) (p0 : Int32) (p1 : Int32) (r0 : Int32) (r1 : Int32) (t0 : Int32) (t1 : Int32) (w0 : Int32) (w1 : Int32) (w2 : Int32) (g1 : Addr × oD) (g2 : Addr × oD) (ds : oDs) (hvs : vs.length = 16) (hn : 0 ≤ n1.toInt ∧ n1.toInt ≤ 6) (hq : 0 ≤ q1.toInt ∧ q1.toInt ≤ 3) (ht : t1 < (16 : Int32)) :
    oMet l Z h0 lo (⟨"com/example/tanglemark/tanglemark/datalog/SharedSets", "add", "(I[II)I"⟩ : MethodName) prog_51_method_2_code 8 (some .int) [] ({ frames := 1, cells := 0, slots := 0, locals := 13 } : Room) #[(.ref a1), (.int (1 : Int32)), (.ref o1), (.int q1)] ((d6, oA .int [(.int t0), (.int t1), o0, o0, o0, o0, o0, o0, o0, o0, o0, o0, o0, o0, o0, o0]) :: (c6, oO cn0 [(fk0, (.ref s1)), (fk1, (.int (2147483639 : Int32))), (fk2, (.ref d6)), (fk3, (.int (2 : Int32)))]) :: (d5, oA .int [(.int r0), (.int r1), o0, o0, o0, o0, o0, o0, o0, o0, o0, o0, o0, o0, o0, o0]) :: (c5, oO cn0 [(fk0, (.ref s1)), (fk1, (.int (2147483639 : Int32))), (fk2, (.ref d5)), (fk3, (.int (2 : Int32)))]) :: (d4, oA .int [(.int p0), (.int p1), o0, o0, o0, o0, o0, o0, o0, o0, o0, o0, o0, o0, o0, o0]) :: (c4, oO cn0 [(fk0, (.ref s1)), (fk1, (.int (2147483639 : Int32))), (fk2, (.ref d4)), (fk3, (.int (2 : Int32)))]) :: (d3, oA .int [(.int z0), (.int z1), o0, o0, o0, o0, o0, o0, o0, o0, o0, o0, o0, o0, o0, o0]) :: (c3, oO cn0 [(fk0, (.ref s1)), (fk1, (.int (2147483639 : Int32))), (fk2, (.ref d3)), (fk3, (.int (2 : Int32)))]) :: (d2, oA .int [(.int b0), (.int b1), o0, o0, o0, o0, o0, o0, o0, o0, o0, o0, o0, o0, o0, o0]) :: (c2, oO cn0 [(fk0, (.ref s1)), (fk1, (.int (2147483639 : Int32))), (fk2, (.ref d2)), (fk3, (.int (2 : Int32)))]) :: (d1, oA .int [(.int f0), (.int f1), o0, o0, o0, o0, o0, o0, o0, o0, o0, o0, o0, o0, o0, o0]) :: (c1, oO cn0 [(fk0, (.ref s1)), (fk1, (.int (2147483639 : Int32))), (fk2, (.ref d1)), (fk3, (.int (2 : Int32)))]) :: (d0, oA .int vs) :: (c0, oO cn0 [(fk0, (.ref s1)), (fk1, (.int (2147483639 : Int32))), (fk2, (.ref d0)), (fk3, (.int n1))]) :: (a1, oO cn1 [(fk4, (.ref c0)), (fk5, (.ref c1)), (fk6, (.ref c2)), (fk7, (.ref c3)), (fk8, (.ref c4)), (fk9, (.ref c5)), (fk10, (.ref c6))]) :: (o1, oA .int [(.int w0), (.int w1), (.int w2)]) :: g1 :: g2 :: ds) (fun (v : Option Value) (d : oDs) => (∃ (us : List Value) (n2 : Int32), (us.length = 16) ∧ (n2.toInt = n1.toInt + q1.toInt) ∧ v = some (.int (2 : Int32)) ∧ ((d6, oA .int [(.int t0), (.int t1), (.int (t1 + (1 : Int32))), o0, o0, o0, o0, o0, o0, o0, o0, o0, o0, o0, o0, o0]) :: (c6, oO cn0 [(fk0, (.ref s1)), (fk1, (.int (2147483639 : Int32))), (fk2, (.ref d6)), (fk3, (.int (3 : Int32)))]) :: (d5, oA .int [(.int r0), (.int r1), (.int r1), o0, o0, o0, o0, o0, o0, o0, o0, o0, o0, o0, o0, o0]) :: (c5, oO cn0 [(fk0, (.ref s1)), (fk1, (.int (2147483639 : Int32))), (fk2, (.ref d5)), (fk3, (.int (3 : Int32)))]) :: (d4, oA .int [(.int p0), (.int p1), (.int (1 : Int32)), o0, o0, o0, o0, o0, o0, o0, o0, o0, o0, o0, o0, o0]) :: (c4, oO cn0 [(fk0, (.ref s1)), (fk1, (.int (2147483639 : Int32))), (fk2, (.ref d4)), (fk3, (.int (3 : Int32)))]) :: (d3, oA .int [(.int z0), (.int z1), (.int ((z1 + n2) - n1)), o0, o0, o0, o0, o0, o0, o0, o0, o0, o0, o0, o0, o0]) :: (c3, oO cn0 [(fk0, (.ref s1)), (fk1, (.int (2147483639 : Int32))), (fk2, (.ref d3)), (fk3, (.int (3 : Int32)))]) :: (d2, oA .int [(.int b0), (.int b1), (.int z1), o0, o0, o0, o0, o0, o0, o0, o0, o0, o0, o0, o0, o0]) :: (c2, oO cn0 [(fk0, (.ref s1)), (fk1, (.int (2147483639 : Int32))), (fk2, (.ref d2)), (fk3, (.int (3 : Int32)))]) :: (d1, oA .int [(.int f0), (.int f1), (.int n1), o0, o0, o0, o0, o0, o0, o0, o0, o0, o0, o0, o0, o0]) :: (c1, oO cn0 [(fk0, (.ref s1)), (fk1, (.int (2147483639 : Int32))), (fk2, (.ref d1)), (fk3, (.int (3 : Int32)))]) :: (d0, oA .int us) :: (c0, oO cn0 [(fk0, (.ref s1)), (fk1, (.int (2147483639 : Int32))), (fk2, (.ref d0)), (fk3, (.int n2))]) :: (a1, oO cn1 [(fk4, (.ref c0)), (fk5, (.ref c1)), (fk6, (.ref c2)), (fk7, (.ref c3)), (fk8, (.ref c4)), (fk9, (.ref c5)), (fk10, (.ref c6))]) :: (o1, oA .int [(.int w0), (.int w1), (.int w2)]) :: g1 :: g2 :: ds) = d)) := by
  refine oMet.of_body (plainFor_of_name pn_1) ?_
  intro p e s m below meth c T B hby hml hown hnm hret
  refine W_entry (ef_rm_add21 m a1 o1 q1) ?_
  refine W_aloadN B (hb hby d6_0) (pc' := 1) rfl rfl rfl ?_
  refine W_getfield B hown (host := "") (Or.inl (ow hw (i := 40) rfl)) Via.refl (hb hby d6_1) (pc' := 4) rfl (j := 14) rfl (q := 0) rfl ?_
  intro T B
  refine W_getfield B hown (host := "") (Or.inl (ow hw (i := 59) rfl)) Via.refl (hb hby d6_4) (pc' := 7) rfl (j := 13) rfl (q := 3) rfl ?_
  intro T B
  refine W_istore B (hb hby d6_7) (pc' := 9) rfl (v := n1) rfl (ls' := #[.val (.ref a1), .val (.int (1 : Int32)), .val (.ref o1), .val (.int q1), .val (.int n1), .unset, .unset, .unset]) rfl ?_
  refine W_iloadN B (hb hby d6_9) (pc' := 10) rfl rfl ?_
  refine W_ifN B (hb hby d6_10) (pc' := 13) rfl (by decide) ?_
  refine W_aloadN B (hb hby d6_13) (pc' := 14) rfl rfl rfl ?_
  refine W_getfield B hown (host := "") (Or.inl (ow hw (i := 52) rfl)) Via.refl (hb hby d6_14) (pc' := 17) rfl (j := 14) rfl (q := 6) rfl ?_
  intro T B
  refine W_getfield B hown (host := "") (Or.inl (ow hw (i := 67) rfl)) Via.refl (hb hby d6_17) (pc' := 20) rfl (j := 1) rfl (q := 2) rfl ?_
  intro T B
  refine W_iloadN B (hb hby d6_20) (pc' := 21) rfl rfl ?_
  refine W_iaload B (hb hby d6_21) (pc' := 22) rfl (i := 0) rfl (by decide) (v := (.int t1)) rfl ?_
  refine W_bipush B (hb hby d6_22) (pc' := 24) rfl (z := (16 : Int32)) (by decide) ?_
  refine W_icmpN B (hb hby d6_24) (pc' := 27) rfl (tlt ht).2.1 ?_
  refine W_iconst B (hb hby d6_27) (pc' := 28) rfl (z := (1 : Int32)) (by decide) ?_
  refine W_goto B (hb hby d6_28) (by decide) (pc' := 32) (by decide) ?_
  refine W_istore B (hb hby d6_32) (pc' := 34) rfl (v := (1 : Int32)) rfl (ls' := #[.val (.ref a1), .val (.int (1 : Int32)), .val (.ref o1), .val (.int q1), .val (.int n1), .val (.int (1 : Int32)), .unset, .unset]) rfl ?_
  refine W_iloadN B (hb hby d6_34) (pc' := 35) rfl rfl ?_
  refine W_ifN B (hb hby d6_35) (pc' := 38) rfl (by decide) ?_
  refine W_iload B (hb hby d6_38) (pc' := 40) rfl rfl ?_
  refine W_ifY B (hb hby d6_40) (by decide) (pc' := 76) (by decide) (by decide) ?_
  refine oJoinD B 0 0 (fun z : List Value × Int32 × Int32 => z.1.length = 16 ∧ z.2.1.toInt = n1.toInt + q1.toInt) (fun z => (mkF m 102 #[.val (.ref a1), .val (.int (1 : Int32)), .val (.ref o1), .val (.int q1), .val (.int n1), .val (.int (1 : Int32)), .val (.int z.2.2), .unset] [])) (fun z => ((d6, oA .int [(.int t0), (.int t1), o0, o0, o0, o0, o0, o0, o0, o0, o0, o0, o0, o0, o0, o0]) :: (c6, oO cn0 [(fk0, (.ref s1)), (fk1, (.int (2147483639 : Int32))), (fk2, (.ref d6)), (fk3, (.int (2 : Int32)))]) :: (d5, oA .int [(.int r0), (.int r1), o0, o0, o0, o0, o0, o0, o0, o0, o0, o0, o0, o0, o0, o0]) :: (c5, oO cn0 [(fk0, (.ref s1)), (fk1, (.int (2147483639 : Int32))), (fk2, (.ref d5)), (fk3, (.int (2 : Int32)))]) :: (d4, oA .int [(.int p0), (.int p1), o0, o0, o0, o0, o0, o0, o0, o0, o0, o0, o0, o0, o0, o0]) :: (c4, oO cn0 [(fk0, (.ref s1)), (fk1, (.int (2147483639 : Int32))), (fk2, (.ref d4)), (fk3, (.int (2 : Int32)))]) :: (d3, oA .int [(.int z0), (.int z1), o0, o0, o0, o0, o0, o0, o0, o0, o0, o0, o0, o0, o0, o0]) :: (c3, oO cn0 [(fk0, (.ref s1)), (fk1, (.int (2147483639 : Int32))), (fk2, (.ref d3)), (fk3, (.int (2 : Int32)))]) :: (d2, oA .int [(.int b0), (.int b1), o0, o0, o0, o0, o0, o0, o0, o0, o0, o0, o0, o0, o0, o0]) :: (c2, oO cn0 [(fk0, (.ref s1)), (fk1, (.int (2147483639 : Int32))), (fk2, (.ref d2)), (fk3, (.int (2 : Int32)))]) :: (d1, oA .int [(.int f0), (.int f1), o0, o0, o0, o0, o0, o0, o0, o0, o0, o0, o0, o0, o0, o0]) :: (c1, oO cn0 [(fk0, (.ref s1)), (fk1, (.int (2147483639 : Int32))), (fk2, (.ref d1)), (fk3, (.int (2 : Int32)))]) :: (d0, oA .int z.1) :: (c0, oO cn0 [(fk0, (.ref s1)), (fk1, (.int (2147483639 : Int32))), (fk2, (.ref d0)), (fk3, (.int z.2.1))]) :: (a1, oO cn1 [(fk4, (.ref c0)), (fk5, (.ref c1)), (fk6, (.ref c2)), (fk7, (.ref c3)), (fk8, (.ref c4)), (fk9, (.ref c5)), (fk10, (.ref c6))]) :: (o1, oA .int [(.int w0), (.int w1), (.int w2)]) :: g1 :: g2 :: ds)) ?_ ?_
  · intro kJ
    refine W_iconst B (hb hby d6_76) (pc' := 77) rfl (z := (0 : Int32)) (by decide) ?_
    refine W_istore B (hb hby d6_77) (pc' := 79) rfl (v := (0 : Int32)) rfl (ls' := #[.val (.ref a1), .val (.int (1 : Int32)), .val (.ref o1), .val (.int q1), .val (.int n1), .val (.int (1 : Int32)), .val (.int (0 : Int32)), .unset]) rfl ?_
    refine W_iload B (hb hby d6_79) (pc' := 81) rfl rfl ?_
    refine W_iloadN B (hb hby d6_81) (pc' := 82) rfl rfl ?_
    refine W_icmp_ge B (hb hby d6_82) (by decide) (pt := 102) (by decide) (pc' := 85) rfl (fun (c86 : ¬ (0 : Int32) < q1) => ?_) (fun (c86 : (0 : Int32) < q1) => ?_)
    · refine kJ (vs, n1, (0 : Int32)) _ ⟨?_, ?_⟩ B
      · first | exact hvs | simp [hvs]
      · show (n1).toInt = n1.toInt + q1.toInt
        have fq1 := orI n1
        have fq2 := orI q1
        have fq3 := hn
        have fq4 := hq
        have fq5 : ((0 : Int32)).toInt = 0 := rfl
        have fq6 := onltI c86
        omega
    refine W_aloadN B (hb hby d6_85) (pc' := 86) rfl rfl rfl ?_
    refine W_getfield B hown (host := "") (Or.inl (ow hw (i := 40) rfl)) Via.refl (hb hby d6_86) (pc' := 89) rfl (j := 14) rfl (q := 0) rfl ?_
    intro T B
    refine W_aloadN B (hb hby d6_89) (pc' := 90) rfl rfl rfl ?_
    refine W_iload B (hb hby d6_90) (pc' := 92) rfl rfl ?_
    refine W_iaload B (hb hby d6_92) (pc' := 93) rfl (i := 15) rfl (by decide) (v := (.int w0)) rfl ?_
    have n87 : ¬ n1 = (16 : Int32) := by
      refine oneI_i ?_
      have fq1 := orI n1
      have fq2 : ((16 : Int32)).toInt = 16 := rfl
      have fq3 := hn
      have fq4 := orI q1
      have fq5 := hq
      have fq6 : ((0 : Int32)).toInt = 0 := rfl
      have fq7 := oltI c86
      omega
    have n88 : ¬ n1 < (0 : Int32) := by
      refine onltI_i ?_
      have fq1 := orI n1
      have fq2 : ((0 : Int32)).toInt = 0 := rfl
      have fq3 := hn
      have fq4 := orI q1
      have fq5 := hq
      have fq6 := oltI c86
      have fq7 : ((16 : Int32)).toInt = 16 := rfl
      have fq8 := oneI n87
      omega
    have u89 : (vs).length = 16 := by first | exact hvs | simp [hvs]
    have u90 : (n1).toNatClampNeg < (vs).length := by
      rw [u89]
      refine oNatLt ?_ (by decide)
      have fq1 := orI n1
      have fq2 := hn
      have fq3 := orI q1
      have fq4 := hq
      have fq5 : ((0 : Int32)).toInt = 0 := rfl
      have fq6 := oltI c86
      have fq7 : ((16 : Int32)).toInt = 16 := rfl
      have fq8 := oneI n87
      have fq9 := onltI n88
      omega
    refine W_virtual B (y := (⟨"com/example/tanglemark/tanglemark/datalog/Ints", "add", "(I)V"⟩ : MethodName)) (z := (⟨"com/example/tanglemark/tanglemark/datalog/Ints", "add", "(I)V"⟩ : MethodName)) hown (ow hw (i := 61) rfl) (ow hw (i := 62) rfl) (oNotFace B (ow hw (i := 64) rfl) rfl) (ow hw (i := 64) rfl) (ow hw (i := 63) rfl) (ow hw (i := 21) rfl) (ow hw (i := 65) rfl) (by decide) (a := c0) (rm_ia0 l Z a0 hw h0 c0 d0 s1 w0 n1 vs (d6, oA .int [(.int t0), (.int t1), o0, o0, o0, o0, o0, o0, o0, o0, o0, o0, o0, o0, o0, o0]) (c6, oO cn0 [(fk0, (.ref s1)), (fk1, (.int (2147483639 : Int32))), (fk2, (.ref d6)), (fk3, (.int (2 : Int32)))]) (d5, oA .int [(.int r0), (.int r1), o0, o0, o0, o0, o0, o0, o0, o0, o0, o0, o0, o0, o0, o0]) (c5, oO cn0 [(fk0, (.ref s1)), (fk1, (.int (2147483639 : Int32))), (fk2, (.ref d5)), (fk3, (.int (2 : Int32)))]) (d4, oA .int [(.int p0), (.int p1), o0, o0, o0, o0, o0, o0, o0, o0, o0, o0, o0, o0, o0, o0]) (c4, oO cn0 [(fk0, (.ref s1)), (fk1, (.int (2147483639 : Int32))), (fk2, (.ref d4)), (fk3, (.int (2 : Int32)))]) (d3, oA .int [(.int z0), (.int z1), o0, o0, o0, o0, o0, o0, o0, o0, o0, o0, o0, o0, o0, o0]) (c3, oO cn0 [(fk0, (.ref s1)), (fk1, (.int (2147483639 : Int32))), (fk2, (.ref d3)), (fk3, (.int (2 : Int32)))]) (d2, oA .int [(.int b0), (.int b1), o0, o0, o0, o0, o0, o0, o0, o0, o0, o0, o0, o0, o0, o0]) (c2, oO cn0 [(fk0, (.ref s1)), (fk1, (.int (2147483639 : Int32))), (fk2, (.ref d2)), (fk3, (.int (2 : Int32)))]) (d1, oA .int [(.int f0), (.int f1), o0, o0, o0, o0, o0, o0, o0, o0, o0, o0, o0, o0, o0, o0]) (c1, oO cn0 [(fk0, (.ref s1)), (fk1, (.int (2147483639 : Int32))), (fk2, (.ref d1)), (fk3, (.int (2 : Int32)))]) ((a1, oO cn1 [(fk4, (.ref c0)), (fk5, (.ref c1)), (fk6, (.ref c2)), (fk7, (.ref c3)), (fk8, (.ref c4)), (fk9, (.ref c5)), (fk10, (.ref c6))]) :: (o1, oA .int [(.int w0), (.int w1), (.int w2)]) :: g1 :: g2 :: ds) u89 n87 n88 u90) (lenOf pd_3 rfl) (hb hby d6_93) (pc' := 96) rfl (argsL := [(.int w0)]) (rest := []) rfl (by rw [hml]; rfl) (W := 0) (oLe rfl) (j := 13) rfl (by decide) (cells' := 0) rfl (slots' := 0) rfl ?_
    intro T v_ d_ q_ B
    obtain ⟨rfl, rfl⟩ := q_
    show oWin p e below Z h0 _ _ (T.setTop (mkF m 96 #[.val (.ref a1), .val (.int (1 : Int32)), .val (.ref o1), .val (.int q1), .val (.int n1), .val (.int (1 : Int32)), .val (.int (0 : Int32)), .unset] []))
    refine W_iinc B (hb hby d6_96) (pc' := 99) rfl rfl (z := (1 : Int32)) (by decide) (ls' := #[.val (.ref a1), .val (.int (1 : Int32)), .val (.ref o1), .val (.int q1), .val (.int n1), .val (.int (1 : Int32)), .val (.int (1 : Int32)), .unset]) rfl ?_
    refine W_goto B (hb hby d6_99) (by decide) (pc' := 79) (by decide) ?_
    refine W_iload B (hb hby d6_79) (pc' := 81) rfl rfl ?_
    refine W_iloadN B (hb hby d6_81) (pc' := 82) rfl rfl ?_
    refine W_icmp_ge B (hb hby d6_82) (by decide) (pt := 102) (by decide) (pc' := 85) rfl (fun (c91 : ¬ (1 : Int32) < q1) => ?_) (fun (c91 : (1 : Int32) < q1) => ?_)
    · refine kJ ((vs.set (n1).toNatClampNeg (.int w0)), (n1 + (1 : Int32)), (1 : Int32)) _ ⟨?_, ?_⟩ B
      · first | exact hvs | simp [hvs]
      · show ((n1 + (1 : Int32))).toInt = n1.toInt + q1.toInt
        have fq1 := orI n1
        have fq2 : ((1 : Int32)).toInt = 1 := rfl
        have fq3 := oiadd n1 (1 : Int32)
        have fq4 := orI q1
        have fq5 := hn
        have fq6 := hq
        have fq7 : ((0 : Int32)).toInt = 0 := rfl
        have fq8 := oltI c86
        have fq9 : ((16 : Int32)).toInt = 16 := rfl
        have fq10 := oneI n87
        have fq11 := onltI n88
        have fq12 := onltI c91
        omega
    refine W_aloadN B (hb hby d6_85) (pc' := 86) rfl rfl rfl ?_
    refine W_getfield B hown (host := "") (Or.inl (ow hw (i := 40) rfl)) Via.refl (hb hby d6_86) (pc' := 89) rfl (j := 14) rfl (q := 0) rfl ?_
    intro T B
    refine W_aloadN B (hb hby d6_89) (pc' := 90) rfl rfl rfl ?_
    refine W_iload B (hb hby d6_90) (pc' := 92) rfl rfl ?_
    refine W_iaload B (hb hby d6_92) (pc' := 93) rfl (i := 15) rfl (by decide) (v := (.int w1)) rfl ?_
    have n92 : ¬ (n1 + (1 : Int32)) = (16 : Int32) := by
      refine oneI_i ?_
      have fq1 := orI n1
      have fq2 : ((1 : Int32)).toInt = 1 := rfl
      have fq3 := oiadd n1 (1 : Int32)
      have fq4 : ((16 : Int32)).toInt = 16 := rfl
      have fq5 := hn
      have fq6 := orI q1
      have fq7 := hq
      have fq8 : ((0 : Int32)).toInt = 0 := rfl
      have fq9 := oltI c86
      have fq10 := oneI n87
      have fq11 := onltI n88
      have fq12 := oltI c91
      omega
    have n93 : ¬ (n1 + (1 : Int32)) < (0 : Int32) := by
      refine onltI_i ?_
      have fq1 := orI n1
      have fq2 : ((1 : Int32)).toInt = 1 := rfl
      have fq3 := oiadd n1 (1 : Int32)
      have fq4 : ((0 : Int32)).toInt = 0 := rfl
      have fq5 := hn
      have fq6 := orI q1
      have fq7 := hq
      have fq8 := oltI c86
      have fq9 : ((16 : Int32)).toInt = 16 := rfl
      have fq10 := oneI n87
      have fq11 := onltI n88
      have fq12 := oltI c91
      have fq13 := oneI n92
      omega
    have u94 : ((vs.set (n1).toNatClampNeg (.int w0))).length = 16 := by first | exact hvs | simp [hvs]
    have u95 : ((n1 + (1 : Int32))).toNatClampNeg < ((vs.set (n1).toNatClampNeg (.int w0))).length := by
      rw [u94]
      refine oNatLt ?_ (by decide)
      have fq1 := orI n1
      have fq2 : ((1 : Int32)).toInt = 1 := rfl
      have fq3 := oiadd n1 (1 : Int32)
      have fq4 := hn
      have fq5 := orI q1
      have fq6 := hq
      have fq7 : ((0 : Int32)).toInt = 0 := rfl
      have fq8 := oltI c86
      have fq9 : ((16 : Int32)).toInt = 16 := rfl
      have fq10 := oneI n87
      have fq11 := onltI n88
      have fq12 := oltI c91
      have fq13 := oneI n92
      have fq14 := onltI n93
      omega
    refine W_virtual B (y := (⟨"com/example/tanglemark/tanglemark/datalog/Ints", "add", "(I)V"⟩ : MethodName)) (z := (⟨"com/example/tanglemark/tanglemark/datalog/Ints", "add", "(I)V"⟩ : MethodName)) hown (ow hw (i := 61) rfl) (ow hw (i := 62) rfl) (oNotFace B (ow hw (i := 64) rfl) rfl) (ow hw (i := 64) rfl) (ow hw (i := 63) rfl) (ow hw (i := 21) rfl) (ow hw (i := 65) rfl) (by decide) (a := c0) (rm_ia0 l Z a0 hw h0 c0 d0 s1 w1 (n1 + (1 : Int32)) (vs.set (n1).toNatClampNeg (.int w0)) (d6, oA .int [(.int t0), (.int t1), o0, o0, o0, o0, o0, o0, o0, o0, o0, o0, o0, o0, o0, o0]) (c6, oO cn0 [(fk0, (.ref s1)), (fk1, (.int (2147483639 : Int32))), (fk2, (.ref d6)), (fk3, (.int (2 : Int32)))]) (d5, oA .int [(.int r0), (.int r1), o0, o0, o0, o0, o0, o0, o0, o0, o0, o0, o0, o0, o0, o0]) (c5, oO cn0 [(fk0, (.ref s1)), (fk1, (.int (2147483639 : Int32))), (fk2, (.ref d5)), (fk3, (.int (2 : Int32)))]) (d4, oA .int [(.int p0), (.int p1), o0, o0, o0, o0, o0, o0, o0, o0, o0, o0, o0, o0, o0, o0]) (c4, oO cn0 [(fk0, (.ref s1)), (fk1, (.int (2147483639 : Int32))), (fk2, (.ref d4)), (fk3, (.int (2 : Int32)))]) (d3, oA .int [(.int z0), (.int z1), o0, o0, o0, o0, o0, o0, o0, o0, o0, o0, o0, o0, o0, o0]) (c3, oO cn0 [(fk0, (.ref s1)), (fk1, (.int (2147483639 : Int32))), (fk2, (.ref d3)), (fk3, (.int (2 : Int32)))]) (d2, oA .int [(.int b0), (.int b1), o0, o0, o0, o0, o0, o0, o0, o0, o0, o0, o0, o0, o0, o0]) (c2, oO cn0 [(fk0, (.ref s1)), (fk1, (.int (2147483639 : Int32))), (fk2, (.ref d2)), (fk3, (.int (2 : Int32)))]) (d1, oA .int [(.int f0), (.int f1), o0, o0, o0, o0, o0, o0, o0, o0, o0, o0, o0, o0, o0, o0]) (c1, oO cn0 [(fk0, (.ref s1)), (fk1, (.int (2147483639 : Int32))), (fk2, (.ref d1)), (fk3, (.int (2 : Int32)))]) ((a1, oO cn1 [(fk4, (.ref c0)), (fk5, (.ref c1)), (fk6, (.ref c2)), (fk7, (.ref c3)), (fk8, (.ref c4)), (fk9, (.ref c5)), (fk10, (.ref c6))]) :: (o1, oA .int [(.int w0), (.int w1), (.int w2)]) :: g1 :: g2 :: ds) u94 n92 n93 u95) (lenOf pd_3 rfl) (hb hby d6_93) (pc' := 96) rfl (argsL := [(.int w1)]) (rest := []) rfl (by rw [hml]; rfl) (W := 0) (oLe rfl) (j := 13) rfl (by decide) (cells' := 0) rfl (slots' := 0) rfl ?_
    intro T v_ d_ q_ B
    obtain ⟨rfl, rfl⟩ := q_
    show oWin p e below Z h0 _ _ (T.setTop (mkF m 96 #[.val (.ref a1), .val (.int (1 : Int32)), .val (.ref o1), .val (.int q1), .val (.int n1), .val (.int (1 : Int32)), .val (.int (1 : Int32)), .unset] []))
    refine W_iinc B (hb hby d6_96) (pc' := 99) rfl rfl (z := (2 : Int32)) (by decide) (ls' := #[.val (.ref a1), .val (.int (1 : Int32)), .val (.ref o1), .val (.int q1), .val (.int n1), .val (.int (1 : Int32)), .val (.int (2 : Int32)), .unset]) rfl ?_
    refine W_goto B (hb hby d6_99) (by decide) (pc' := 79) (by decide) ?_
    refine W_iload B (hb hby d6_79) (pc' := 81) rfl rfl ?_
    refine W_iloadN B (hb hby d6_81) (pc' := 82) rfl rfl ?_
    refine W_icmp_ge B (hb hby d6_82) (by decide) (pt := 102) (by decide) (pc' := 85) rfl (fun (c96 : ¬ (2 : Int32) < q1) => ?_) (fun (c96 : (2 : Int32) < q1) => ?_)
    · refine kJ (((vs.set (n1).toNatClampNeg (.int w0)).set ((n1 + (1 : Int32))).toNatClampNeg (.int w1)), ((n1 + (1 : Int32)) + (1 : Int32)), (2 : Int32)) _ ⟨?_, ?_⟩ B
      · first | exact hvs | simp [hvs]
      · show (((n1 + (1 : Int32)) + (1 : Int32))).toInt = n1.toInt + q1.toInt
        have fq1 := orI n1
        have fq2 : ((1 : Int32)).toInt = 1 := rfl
        have fq3 := oiadd n1 (1 : Int32)
        have fq4 := oiadd (n1 + (1 : Int32)) (1 : Int32)
        have fq5 := orI q1
        have fq6 := hn
        have fq7 := hq
        have fq8 : ((0 : Int32)).toInt = 0 := rfl
        have fq9 := oltI c86
        have fq10 : ((16 : Int32)).toInt = 16 := rfl
        have fq11 := oneI n87
        have fq12 := onltI n88
        have fq13 := oltI c91
        have fq14 := oneI n92
        have fq15 := onltI n93
        have fq16 : ((2 : Int32)).toInt = 2 := rfl
        have fq17 := onltI c96
        omega
    refine W_aloadN B (hb hby d6_85) (pc' := 86) rfl rfl rfl ?_
    refine W_getfield B hown (host := "") (Or.inl (ow hw (i := 40) rfl)) Via.refl (hb hby d6_86) (pc' := 89) rfl (j := 14) rfl (q := 0) rfl ?_
    intro T B
    refine W_aloadN B (hb hby d6_89) (pc' := 90) rfl rfl rfl ?_
    refine W_iload B (hb hby d6_90) (pc' := 92) rfl rfl ?_
    refine W_iaload B (hb hby d6_92) (pc' := 93) rfl (i := 15) rfl (by decide) (v := (.int w2)) rfl ?_
    have n97 : ¬ ((n1 + (1 : Int32)) + (1 : Int32)) = (16 : Int32) := by
      refine oneI_i ?_
      have fq1 := orI n1
      have fq2 : ((1 : Int32)).toInt = 1 := rfl
      have fq3 := oiadd n1 (1 : Int32)
      have fq4 := oiadd (n1 + (1 : Int32)) (1 : Int32)
      have fq5 : ((16 : Int32)).toInt = 16 := rfl
      have fq6 := hn
      have fq7 := orI q1
      have fq8 := hq
      have fq9 : ((0 : Int32)).toInt = 0 := rfl
      have fq10 := oltI c86
      have fq11 := oneI n87
      have fq12 := onltI n88
      have fq13 := oltI c91
      have fq14 := oneI n92
      have fq15 := onltI n93
      have fq16 : ((2 : Int32)).toInt = 2 := rfl
      have fq17 := oltI c96
      omega
    have n98 : ¬ ((n1 + (1 : Int32)) + (1 : Int32)) < (0 : Int32) := by
      refine onltI_i ?_
      have fq1 := orI n1
      have fq2 : ((1 : Int32)).toInt = 1 := rfl
      have fq3 := oiadd n1 (1 : Int32)
      have fq4 := oiadd (n1 + (1 : Int32)) (1 : Int32)
      have fq5 : ((0 : Int32)).toInt = 0 := rfl
      have fq6 := hn
      have fq7 := orI q1
      have fq8 := hq
      have fq9 := oltI c86
      have fq10 : ((16 : Int32)).toInt = 16 := rfl
      have fq11 := oneI n87
      have fq12 := onltI n88
      have fq13 := oltI c91
      have fq14 := oneI n92
      have fq15 := onltI n93
      have fq16 : ((2 : Int32)).toInt = 2 := rfl
      have fq17 := oltI c96
      have fq18 := oneI n97
      omega
    have u99 : (((vs.set (n1).toNatClampNeg (.int w0)).set ((n1 + (1 : Int32))).toNatClampNeg (.int w1))).length = 16 := by first | exact hvs | simp [hvs]
    have u100 : (((n1 + (1 : Int32)) + (1 : Int32))).toNatClampNeg < (((vs.set (n1).toNatClampNeg (.int w0)).set ((n1 + (1 : Int32))).toNatClampNeg (.int w1))).length := by
      rw [u99]
      refine oNatLt ?_ (by decide)
      have fq1 := orI n1
      have fq2 : ((1 : Int32)).toInt = 1 := rfl
      have fq3 := oiadd n1 (1 : Int32)
      have fq4 := oiadd (n1 + (1 : Int32)) (1 : Int32)
      have fq5 := hn
      have fq6 := orI q1
      have fq7 := hq
      have fq8 : ((0 : Int32)).toInt = 0 := rfl
      have fq9 := oltI c86
      have fq10 : ((16 : Int32)).toInt = 16 := rfl
      have fq11 := oneI n87
      have fq12 := onltI n88
      have fq13 := oltI c91
      have fq14 := oneI n92
      have fq15 := onltI n93
      have fq16 : ((2 : Int32)).toInt = 2 := rfl
      have fq17 := oltI c96
      have fq18 := oneI n97
      have fq19 := onltI n98
      omega
    refine W_virtual B (y := (⟨"com/example/tanglemark/tanglemark/datalog/Ints", "add", "(I)V"⟩ : MethodName)) (z := (⟨"com/example/tanglemark/tanglemark/datalog/Ints", "add", "(I)V"⟩ : MethodName)) hown (ow hw (i := 61) rfl) (ow hw (i := 62) rfl) (oNotFace B (ow hw (i := 64) rfl) rfl) (ow hw (i := 64) rfl) (ow hw (i := 63) rfl) (ow hw (i := 21) rfl) (ow hw (i := 65) rfl) (by decide) (a := c0) (rm_ia0 l Z a0 hw h0 c0 d0 s1 w2 ((n1 + (1 : Int32)) + (1 : Int32)) ((vs.set (n1).toNatClampNeg (.int w0)).set ((n1 + (1 : Int32))).toNatClampNeg (.int w1)) (d6, oA .int [(.int t0), (.int t1), o0, o0, o0, o0, o0, o0, o0, o0, o0, o0, o0, o0, o0, o0]) (c6, oO cn0 [(fk0, (.ref s1)), (fk1, (.int (2147483639 : Int32))), (fk2, (.ref d6)), (fk3, (.int (2 : Int32)))]) (d5, oA .int [(.int r0), (.int r1), o0, o0, o0, o0, o0, o0, o0, o0, o0, o0, o0, o0, o0, o0]) (c5, oO cn0 [(fk0, (.ref s1)), (fk1, (.int (2147483639 : Int32))), (fk2, (.ref d5)), (fk3, (.int (2 : Int32)))]) (d4, oA .int [(.int p0), (.int p1), o0, o0, o0, o0, o0, o0, o0, o0, o0, o0, o0, o0, o0, o0]) (c4, oO cn0 [(fk0, (.ref s1)), (fk1, (.int (2147483639 : Int32))), (fk2, (.ref d4)), (fk3, (.int (2 : Int32)))]) (d3, oA .int [(.int z0), (.int z1), o0, o0, o0, o0, o0, o0, o0, o0, o0, o0, o0, o0, o0, o0]) (c3, oO cn0 [(fk0, (.ref s1)), (fk1, (.int (2147483639 : Int32))), (fk2, (.ref d3)), (fk3, (.int (2 : Int32)))]) (d2, oA .int [(.int b0), (.int b1), o0, o0, o0, o0, o0, o0, o0, o0, o0, o0, o0, o0, o0, o0]) (c2, oO cn0 [(fk0, (.ref s1)), (fk1, (.int (2147483639 : Int32))), (fk2, (.ref d2)), (fk3, (.int (2 : Int32)))]) (d1, oA .int [(.int f0), (.int f1), o0, o0, o0, o0, o0, o0, o0, o0, o0, o0, o0, o0, o0, o0]) (c1, oO cn0 [(fk0, (.ref s1)), (fk1, (.int (2147483639 : Int32))), (fk2, (.ref d1)), (fk3, (.int (2 : Int32)))]) ((a1, oO cn1 [(fk4, (.ref c0)), (fk5, (.ref c1)), (fk6, (.ref c2)), (fk7, (.ref c3)), (fk8, (.ref c4)), (fk9, (.ref c5)), (fk10, (.ref c6))]) :: (o1, oA .int [(.int w0), (.int w1), (.int w2)]) :: g1 :: g2 :: ds) u99 n97 n98 u100) (lenOf pd_3 rfl) (hb hby d6_93) (pc' := 96) rfl (argsL := [(.int w2)]) (rest := []) rfl (by rw [hml]; rfl) (W := 0) (oLe rfl) (j := 13) rfl (by decide) (cells' := 0) rfl (slots' := 0) rfl ?_
    intro T v_ d_ q_ B
    obtain ⟨rfl, rfl⟩ := q_
    show oWin p e below Z h0 _ _ (T.setTop (mkF m 96 #[.val (.ref a1), .val (.int (1 : Int32)), .val (.ref o1), .val (.int q1), .val (.int n1), .val (.int (1 : Int32)), .val (.int (2 : Int32)), .unset] []))
    refine W_iinc B (hb hby d6_96) (pc' := 99) rfl rfl (z := (3 : Int32)) (by decide) (ls' := #[.val (.ref a1), .val (.int (1 : Int32)), .val (.ref o1), .val (.int q1), .val (.int n1), .val (.int (1 : Int32)), .val (.int (3 : Int32)), .unset]) rfl ?_
    refine W_goto B (hb hby d6_99) (by decide) (pc' := 79) (by decide) ?_
    have n101 : ¬ (3 : Int32) < q1 := by
      refine onltI_i ?_
      have fq1 : ((3 : Int32)).toInt = 3 := rfl
      have fq2 := orI q1
      have fq3 := orI n1
      have fq4 := hn
      have fq5 := hq
      have fq6 : ((0 : Int32)).toInt = 0 := rfl
      have fq7 := oltI c86
      have fq8 : ((16 : Int32)).toInt = 16 := rfl
      have fq9 := oneI n87
      have fq10 := onltI n88
      have fq11 : ((1 : Int32)).toInt = 1 := rfl
      have fq12 := oltI c91
      have fq13 := oiadd n1 (1 : Int32)
      have fq14 := oneI n92
      have fq15 := onltI n93
      have fq16 : ((2 : Int32)).toInt = 2 := rfl
      have fq17 := oltI c96
      have fq18 := oiadd (n1 + (1 : Int32)) (1 : Int32)
      have fq19 := oneI n97
      have fq20 := onltI n98
      omega
    refine W_iload B (hb hby d6_79) (pc' := 81) rfl rfl ?_
    refine W_iloadN B (hb hby d6_81) (pc' := 82) rfl rfl ?_
    refine W_icmpY B (hb hby d6_82) (by decide) (pc' := 102) (by decide) (flt n101).2.1 ?_
    refine kJ ((((vs.set (n1).toNatClampNeg (.int w0)).set ((n1 + (1 : Int32))).toNatClampNeg (.int w1)).set (((n1 + (1 : Int32)) + (1 : Int32))).toNatClampNeg (.int w2)), (((n1 + (1 : Int32)) + (1 : Int32)) + (1 : Int32)), (3 : Int32)) _ ⟨?_, ?_⟩ B
    · first | exact hvs | simp [hvs]
    · show ((((n1 + (1 : Int32)) + (1 : Int32)) + (1 : Int32))).toInt = n1.toInt + q1.toInt
      have fq1 := orI n1
      have fq2 : ((1 : Int32)).toInt = 1 := rfl
      have fq3 := oiadd n1 (1 : Int32)
      have fq4 := oiadd (n1 + (1 : Int32)) (1 : Int32)
      have fq5 := oiadd ((n1 + (1 : Int32)) + (1 : Int32)) (1 : Int32)
      have fq6 := orI q1
      have fq7 := hn
      have fq8 := hq
      have fq9 : ((0 : Int32)).toInt = 0 := rfl
      have fq10 := oltI c86
      have fq11 : ((16 : Int32)).toInt = 16 := rfl
      have fq12 := oneI n87
      have fq13 := onltI n88
      have fq14 := oltI c91
      have fq15 := oneI n92
      have fq16 := onltI n93
      have fq17 : ((2 : Int32)).toInt = 2 := rfl
      have fq18 := oltI c96
      have fq19 := oneI n97
      have fq20 := onltI n98
      have fq21 : ((3 : Int32)).toInt = 3 := rfl
      have fq22 := onltI n101
      omega
  intro z_ T hz B
  obtain ⟨us, n2, i2⟩ := z_
  obtain ⟨hus, hj⟩ := hz
  dsimp only at hus hj B
  show oWin p e below Z h0 _ _ (T.setTop (mkF m 102 #[.val (.ref a1), .val (.int (1 : Int32)), .val (.ref o1), .val (.int q1), .val (.int n1), .val (.int (1 : Int32)), .val (.int i2), .unset] []))
  refine W_iload B (hb hby d6_102) (pc' := 104) rfl rfl ?_
  refine W_ifN B (hb hby d6_104) (pc' := 107) rfl (by decide) ?_
  refine W_aloadN B (hb hby d6_107) (pc' := 108) rfl rfl rfl ?_
  refine W_iloadN B (hb hby d6_108) (pc' := 109) rfl rfl ?_
  refine W_virtual B (y := (⟨"com/example/tanglemark/tanglemark/datalog/SharedSets", "size", "(I)I"⟩ : MethodName)) (z := (⟨"com/example/tanglemark/tanglemark/datalog/SharedSets", "size", "(I)I"⟩ : MethodName)) hown (ow hw (i := 68) rfl) (ow hw (i := 69) rfl) (oNotFace B (ow hw (i := 71) rfl) rfl) (ow hw (i := 71) rfl) (ow hw (i := 70) rfl) (ow hw (i := 4) rfl) (ow hw (i := 72) rfl) (by decide) (a := a1) (rm_size l Z a0 hw h0 a1 (1 : Int32) c0 c1 c2 c3 c4 c5 c6 d3 s1 (2 : Int32) [(.int z0), (.int z1), o0, o0, o0, o0, o0, o0, o0, o0, o0, o0, o0, o0, o0, o0] z1 (d6, oA .int [(.int t0), (.int t1), o0, o0, o0, o0, o0, o0, o0, o0, o0, o0, o0, o0, o0, o0]) (c6, oO cn0 [(fk0, (.ref s1)), (fk1, (.int (2147483639 : Int32))), (fk2, (.ref d6)), (fk3, (.int (2 : Int32)))]) (d5, oA .int [(.int r0), (.int r1), o0, o0, o0, o0, o0, o0, o0, o0, o0, o0, o0, o0, o0, o0]) (c5, oO cn0 [(fk0, (.ref s1)), (fk1, (.int (2147483639 : Int32))), (fk2, (.ref d5)), (fk3, (.int (2 : Int32)))]) (d4, oA .int [(.int p0), (.int p1), o0, o0, o0, o0, o0, o0, o0, o0, o0, o0, o0, o0, o0, o0]) (c4, oO cn0 [(fk0, (.ref s1)), (fk1, (.int (2147483639 : Int32))), (fk2, (.ref d4)), (fk3, (.int (2 : Int32)))]) (d2, oA .int [(.int b0), (.int b1), o0, o0, o0, o0, o0, o0, o0, o0, o0, o0, o0, o0, o0, o0]) (c2, oO cn0 [(fk0, (.ref s1)), (fk1, (.int (2147483639 : Int32))), (fk2, (.ref d2)), (fk3, (.int (2 : Int32)))]) (d1, oA .int [(.int f0), (.int f1), o0, o0, o0, o0, o0, o0, o0, o0, o0, o0, o0, o0, o0, o0]) (c1, oO cn0 [(fk0, (.ref s1)), (fk1, (.int (2147483639 : Int32))), (fk2, (.ref d1)), (fk3, (.int (2 : Int32)))]) (d0, oA .int us) (c0, oO cn0 [(fk0, (.ref s1)), (fk1, (.int (2147483639 : Int32))), (fk2, (.ref d0)), (fk3, (.int n2))]) ((o1, oA .int [(.int w0), (.int w1), (.int w2)]) :: g1 :: g2 :: ds) (by decide) rfl) (lenOf pd_4 rfl) (hb hby d6_109) (pc' := 112) rfl (argsL := [(.int (1 : Int32))]) (rest := []) rfl (by rw [hml]; rfl) (W := 0) (oLe rfl) (j := 14) rfl (by decide) (cells' := 0) rfl (slots' := 0) rfl ?_
  intro T v_ d_ q_ B
  obtain ⟨rfl, rfl⟩ := q_
  show oWin p e below Z h0 _ _ (T.setTop (mkF m 112 #[.val (.ref a1), .val (.int (1 : Int32)), .val (.ref o1), .val (.int q1), .val (.int n1), .val (.int (1 : Int32)), .val (.int i2), .unset] [(.int z1)]))
  refine W_goto B (hb hby d6_112) (by decide) (pc' := 116) (by decide) ?_
  refine W_istore B (hb hby d6_116) (pc' := 118) rfl (v := z1) rfl (ls' := #[.val (.ref a1), .val (.int (1 : Int32)), .val (.ref o1), .val (.int q1), .val (.int n1), .val (.int (1 : Int32)), .val (.int z1), .unset]) rfl ?_
  refine W_aloadN B (hb hby d6_118) (pc' := 119) rfl rfl rfl ?_
  refine W_getfield B hown (host := "") (Or.inl (ow hw (i := 46) rfl)) Via.refl (hb hby d6_119) (pc' := 122) rfl (j := 14) rfl (q := 3) rfl ?_
  intro T B
  refine W_getfield B hown (host := "") (Or.inl (ow hw (i := 59) rfl)) Via.refl (hb hby d6_122) (pc' := 125) rfl (j := 7) rfl (q := 3) rfl ?_
  intro T B
  refine W_istore B (hb hby d6_125) (pc' := 127) rfl (v := (2 : Int32)) rfl (ls' := #[.val (.ref a1), .val (.int (1 : Int32)), .val (.ref o1), .val (.int q1), .val (.int n1), .val (.int (1 : Int32)), .val (.int z1), .val (.int (2 : Int32))]) rfl ?_
  refine W_aloadN B (hb hby d6_127) (pc' := 128) rfl rfl rfl ?_
  refine W_getfield B hown (host := "") (Or.inl (ow hw (i := 50) rfl)) Via.refl (hb hby d6_128) (pc' := 131) rfl (j := 14) rfl (q := 5) rfl ?_
  intro T B
  refine W_iload B (hb hby d6_131) (pc' := 133) rfl rfl ?_
  refine W_ifN B (hb hby d6_133) (pc' := 136) rfl (by decide) ?_
  refine W_aloadN B (hb hby d6_136) (pc' := 137) rfl rfl rfl ?_
  refine W_getfield B hown (host := "") (Or.inl (ow hw (i := 50) rfl)) Via.refl (hb hby d6_137) (pc' := 140) rfl (j := 14) rfl (q := 5) rfl ?_
  intro T B
  refine W_getfield B hown (host := "") (Or.inl (ow hw (i := 67) rfl)) Via.refl (hb hby d6_140) (pc' := 143) rfl (j := 3) rfl (q := 2) rfl ?_
  intro T B
  refine W_iloadN B (hb hby d6_143) (pc' := 144) rfl rfl ?_
  refine W_iaload B (hb hby d6_144) (pc' := 145) rfl (i := 2) rfl (by decide) (v := (.int r1)) rfl ?_
  refine W_goto B (hb hby d6_145) (by decide) (pc' := 150) (by decide) ?_
  refine W_virtual B (y := (⟨"com/example/tanglemark/tanglemark/datalog/Ints", "add", "(I)V"⟩ : MethodName)) (z := (⟨"com/example/tanglemark/tanglemark/datalog/Ints", "add", "(I)V"⟩ : MethodName)) hown (ow hw (i := 61) rfl) (ow hw (i := 62) rfl) (oNotFace B (ow hw (i := 64) rfl) rfl) (ow hw (i := 64) rfl) (ow hw (i := 63) rfl) (ow hw (i := 21) rfl) (ow hw (i := 65) rfl) (by decide) (a := c5) (rm_ia5 l Z a0 hw h0 c5 d5 s1 r1 (2 : Int32) [(.int r0), (.int r1), o0, o0, o0, o0, o0, o0, o0, o0, o0, o0, o0, o0, o0, o0] (d6, oA .int [(.int t0), (.int t1), o0, o0, o0, o0, o0, o0, o0, o0, o0, o0, o0, o0, o0, o0]) (c6, oO cn0 [(fk0, (.ref s1)), (fk1, (.int (2147483639 : Int32))), (fk2, (.ref d6)), (fk3, (.int (2 : Int32)))]) ((d4, oA .int [(.int p0), (.int p1), o0, o0, o0, o0, o0, o0, o0, o0, o0, o0, o0, o0, o0, o0]) :: (c4, oO cn0 [(fk0, (.ref s1)), (fk1, (.int (2147483639 : Int32))), (fk2, (.ref d4)), (fk3, (.int (2 : Int32)))]) :: (d3, oA .int [(.int z0), (.int z1), o0, o0, o0, o0, o0, o0, o0, o0, o0, o0, o0, o0, o0, o0]) :: (c3, oO cn0 [(fk0, (.ref s1)), (fk1, (.int (2147483639 : Int32))), (fk2, (.ref d3)), (fk3, (.int (2 : Int32)))]) :: (d2, oA .int [(.int b0), (.int b1), o0, o0, o0, o0, o0, o0, o0, o0, o0, o0, o0, o0, o0, o0]) :: (c2, oO cn0 [(fk0, (.ref s1)), (fk1, (.int (2147483639 : Int32))), (fk2, (.ref d2)), (fk3, (.int (2 : Int32)))]) :: (d1, oA .int [(.int f0), (.int f1), o0, o0, o0, o0, o0, o0, o0, o0, o0, o0, o0, o0, o0, o0]) :: (c1, oO cn0 [(fk0, (.ref s1)), (fk1, (.int (2147483639 : Int32))), (fk2, (.ref d1)), (fk3, (.int (2 : Int32)))]) :: (d0, oA .int us) :: (c0, oO cn0 [(fk0, (.ref s1)), (fk1, (.int (2147483639 : Int32))), (fk2, (.ref d0)), (fk3, (.int n2))]) :: (a1, oO cn1 [(fk4, (.ref c0)), (fk5, (.ref c1)), (fk6, (.ref c2)), (fk7, (.ref c3)), (fk8, (.ref c4)), (fk9, (.ref c5)), (fk10, (.ref c6))]) :: (o1, oA .int [(.int w0), (.int w1), (.int w2)]) :: g1 :: g2 :: ds) rfl (by decide) (by decide) (oLt rfl)) (lenOf pd_3 rfl) (hb hby d6_150) (pc' := 153) rfl (argsL := [(.int r1)]) (rest := []) rfl (by rw [hml]; rfl) (W := 0) (oLe rfl) (j := 3) rfl (by decide) (cells' := 0) rfl (slots' := 0) rfl ?_
  intro T v_ d_ q_ B
  obtain ⟨rfl, rfl⟩ := q_
  show oWin p e below Z h0 _ _ (T.setTop (mkF m 153 #[.val (.ref a1), .val (.int (1 : Int32)), .val (.ref o1), .val (.int q1), .val (.int n1), .val (.int (1 : Int32)), .val (.int z1), .val (.int (2 : Int32))] []))
  refine W_aloadN B (hb hby d6_153) (pc' := 154) rfl rfl rfl ?_
  refine W_getfield B hown (host := "") (Or.inl (ow hw (i := 42) rfl)) Via.refl (hb hby d6_154) (pc' := 157) rfl (j := 14) rfl (q := 1) rfl ?_
  intro T B
  refine W_iload B (hb hby d6_157) (pc' := 159) rfl rfl ?_
  refine W_virtual B (y := (⟨"com/example/tanglemark/tanglemark/datalog/Ints", "add", "(I)V"⟩ : MethodName)) (z := (⟨"com/example/tanglemark/tanglemark/datalog/Ints", "add", "(I)V"⟩ : MethodName)) hown (ow hw (i := 61) rfl) (ow hw (i := 62) rfl) (oNotFace B (ow hw (i := 64) rfl) rfl) (ow hw (i := 64) rfl) (ow hw (i := 63) rfl) (ow hw (i := 21) rfl) (ow hw (i := 65) rfl) (by decide) (a := c1) (rm_ia1 l Z a0 hw h0 c1 d1 s1 n1 (2 : Int32) [(.int f0), (.int f1), o0, o0, o0, o0, o0, o0, o0, o0, o0, o0, o0, o0, o0, o0] (d6, oA .int [(.int t0), (.int t1), o0, o0, o0, o0, o0, o0, o0, o0, o0, o0, o0, o0, o0, o0]) (c6, oO cn0 [(fk0, (.ref s1)), (fk1, (.int (2147483639 : Int32))), (fk2, (.ref d6)), (fk3, (.int (2 : Int32)))]) (d5, oA .int [(.int r0), (.int r1), (.int r1), o0, o0, o0, o0, o0, o0, o0, o0, o0, o0, o0, o0, o0]) (c5, oO cn0 [(fk0, (.ref s1)), (fk1, (.int (2147483639 : Int32))), (fk2, (.ref d5)), (fk3, (.int (3 : Int32)))]) (d4, oA .int [(.int p0), (.int p1), o0, o0, o0, o0, o0, o0, o0, o0, o0, o0, o0, o0, o0, o0]) (c4, oO cn0 [(fk0, (.ref s1)), (fk1, (.int (2147483639 : Int32))), (fk2, (.ref d4)), (fk3, (.int (2 : Int32)))]) (d3, oA .int [(.int z0), (.int z1), o0, o0, o0, o0, o0, o0, o0, o0, o0, o0, o0, o0, o0, o0]) (c3, oO cn0 [(fk0, (.ref s1)), (fk1, (.int (2147483639 : Int32))), (fk2, (.ref d3)), (fk3, (.int (2 : Int32)))]) (d2, oA .int [(.int b0), (.int b1), o0, o0, o0, o0, o0, o0, o0, o0, o0, o0, o0, o0, o0, o0]) (c2, oO cn0 [(fk0, (.ref s1)), (fk1, (.int (2147483639 : Int32))), (fk2, (.ref d2)), (fk3, (.int (2 : Int32)))]) ((d0, oA .int us) :: (c0, oO cn0 [(fk0, (.ref s1)), (fk1, (.int (2147483639 : Int32))), (fk2, (.ref d0)), (fk3, (.int n2))]) :: (a1, oO cn1 [(fk4, (.ref c0)), (fk5, (.ref c1)), (fk6, (.ref c2)), (fk7, (.ref c3)), (fk8, (.ref c4)), (fk9, (.ref c5)), (fk10, (.ref c6))]) :: (o1, oA .int [(.int w0), (.int w1), (.int w2)]) :: g1 :: g2 :: ds) rfl (by decide) (by decide) (oLt rfl)) (lenOf pd_3 rfl) (hb hby d6_159) (pc' := 162) rfl (argsL := [(.int n1)]) (rest := []) rfl (by rw [hml]; rfl) (W := 0) (oLe rfl) (j := 11) rfl (by decide) (cells' := 0) rfl (slots' := 0) rfl ?_
  intro T v_ d_ q_ B
  obtain ⟨rfl, rfl⟩ := q_
  show oWin p e below Z h0 _ _ (T.setTop (mkF m 162 #[.val (.ref a1), .val (.int (1 : Int32)), .val (.ref o1), .val (.int q1), .val (.int n1), .val (.int (1 : Int32)), .val (.int z1), .val (.int (2 : Int32))] []))
  refine W_aloadN B (hb hby d6_162) (pc' := 163) rfl rfl rfl ?_
  refine W_getfield B hown (host := "") (Or.inl (ow hw (i := 44) rfl)) Via.refl (hb hby d6_163) (pc' := 166) rfl (j := 14) rfl (q := 2) rfl ?_
  intro T B
  refine W_iload B (hb hby d6_166) (pc' := 168) rfl rfl ?_
  refine W_virtual B (y := (⟨"com/example/tanglemark/tanglemark/datalog/Ints", "add", "(I)V"⟩ : MethodName)) (z := (⟨"com/example/tanglemark/tanglemark/datalog/Ints", "add", "(I)V"⟩ : MethodName)) hown (ow hw (i := 61) rfl) (ow hw (i := 62) rfl) (oNotFace B (ow hw (i := 64) rfl) rfl) (ow hw (i := 64) rfl) (ow hw (i := 63) rfl) (ow hw (i := 21) rfl) (ow hw (i := 65) rfl) (by decide) (a := c2) (rm_ia2 l Z a0 hw h0 c2 d2 s1 z1 (2 : Int32) [(.int b0), (.int b1), o0, o0, o0, o0, o0, o0, o0, o0, o0, o0, o0, o0, o0, o0] (d6, oA .int [(.int t0), (.int t1), o0, o0, o0, o0, o0, o0, o0, o0, o0, o0, o0, o0, o0, o0]) (c6, oO cn0 [(fk0, (.ref s1)), (fk1, (.int (2147483639 : Int32))), (fk2, (.ref d6)), (fk3, (.int (2 : Int32)))]) (d5, oA .int [(.int r0), (.int r1), (.int r1), o0, o0, o0, o0, o0, o0, o0, o0, o0, o0, o0, o0, o0]) (c5, oO cn0 [(fk0, (.ref s1)), (fk1, (.int (2147483639 : Int32))), (fk2, (.ref d5)), (fk3, (.int (3 : Int32)))]) (d4, oA .int [(.int p0), (.int p1), o0, o0, o0, o0, o0, o0, o0, o0, o0, o0, o0, o0, o0, o0]) (c4, oO cn0 [(fk0, (.ref s1)), (fk1, (.int (2147483639 : Int32))), (fk2, (.ref d4)), (fk3, (.int (2 : Int32)))]) (d3, oA .int [(.int z0), (.int z1), o0, o0, o0, o0, o0, o0, o0, o0, o0, o0, o0, o0, o0, o0]) (c3, oO cn0 [(fk0, (.ref s1)), (fk1, (.int (2147483639 : Int32))), (fk2, (.ref d3)), (fk3, (.int (2 : Int32)))]) ((d1, oA .int [(.int f0), (.int f1), (.int n1), o0, o0, o0, o0, o0, o0, o0, o0, o0, o0, o0, o0, o0]) :: (c1, oO cn0 [(fk0, (.ref s1)), (fk1, (.int (2147483639 : Int32))), (fk2, (.ref d1)), (fk3, (.int (3 : Int32)))]) :: (d0, oA .int us) :: (c0, oO cn0 [(fk0, (.ref s1)), (fk1, (.int (2147483639 : Int32))), (fk2, (.ref d0)), (fk3, (.int n2))]) :: (a1, oO cn1 [(fk4, (.ref c0)), (fk5, (.ref c1)), (fk6, (.ref c2)), (fk7, (.ref c3)), (fk8, (.ref c4)), (fk9, (.ref c5)), (fk10, (.ref c6))]) :: (o1, oA .int [(.int w0), (.int w1), (.int w2)]) :: g1 :: g2 :: ds) rfl (by decide) (by decide) (oLt rfl)) (lenOf pd_3 rfl) (hb hby d6_168) (pc' := 171) rfl (argsL := [(.int z1)]) (rest := []) rfl (by rw [hml]; rfl) (W := 0) (oLe rfl) (j := 9) rfl (by decide) (cells' := 0) rfl (slots' := 0) rfl ?_
  intro T v_ d_ q_ B
  obtain ⟨rfl, rfl⟩ := q_
  show oWin p e below Z h0 _ _ (T.setTop (mkF m 171 #[.val (.ref a1), .val (.int (1 : Int32)), .val (.ref o1), .val (.int q1), .val (.int n1), .val (.int (1 : Int32)), .val (.int z1), .val (.int (2 : Int32))] []))
  refine W_aloadN B (hb hby d6_171) (pc' := 172) rfl rfl rfl ?_
  refine W_getfield B hown (host := "") (Or.inl (ow hw (i := 46) rfl)) Via.refl (hb hby d6_172) (pc' := 175) rfl (j := 14) rfl (q := 3) rfl ?_
  intro T B
  refine W_iload B (hb hby d6_175) (pc' := 177) rfl rfl ?_
  refine W_aloadN B (hb hby d6_177) (pc' := 178) rfl rfl rfl ?_
  refine W_getfield B hown (host := "") (Or.inl (ow hw (i := 40) rfl)) Via.refl (hb hby d6_178) (pc' := 181) rfl (j := 14) rfl (q := 0) rfl ?_
  intro T B
  refine W_getfield B hown (host := "") (Or.inl (ow hw (i := 59) rfl)) Via.refl (hb hby d6_181) (pc' := 184) rfl (j := 13) rfl (q := 3) rfl ?_
  intro T B
  refine W_iadd B (hb hby d6_184) (pc' := 185) rfl (z := (z1 + n2)) rfl ?_
  refine W_iload B (hb hby d6_185) (pc' := 187) rfl rfl ?_
  refine W_isub B (hb hby d6_187) (pc' := 188) rfl (z := ((z1 + n2) - n1)) rfl ?_
  refine W_virtual B (y := (⟨"com/example/tanglemark/tanglemark/datalog/Ints", "add", "(I)V"⟩ : MethodName)) (z := (⟨"com/example/tanglemark/tanglemark/datalog/Ints", "add", "(I)V"⟩ : MethodName)) hown (ow hw (i := 61) rfl) (ow hw (i := 62) rfl) (oNotFace B (ow hw (i := 64) rfl) rfl) (ow hw (i := 64) rfl) (ow hw (i := 63) rfl) (ow hw (i := 21) rfl) (ow hw (i := 65) rfl) (by decide) (a := c3) (rm_ia3 l Z a0 hw h0 c3 d3 s1 ((z1 + n2) - n1) (2 : Int32) [(.int z0), (.int z1), o0, o0, o0, o0, o0, o0, o0, o0, o0, o0, o0, o0, o0, o0] (d6, oA .int [(.int t0), (.int t1), o0, o0, o0, o0, o0, o0, o0, o0, o0, o0, o0, o0, o0, o0]) (c6, oO cn0 [(fk0, (.ref s1)), (fk1, (.int (2147483639 : Int32))), (fk2, (.ref d6)), (fk3, (.int (2 : Int32)))]) (d5, oA .int [(.int r0), (.int r1), (.int r1), o0, o0, o0, o0, o0, o0, o0, o0, o0, o0, o0, o0, o0]) (c5, oO cn0 [(fk0, (.ref s1)), (fk1, (.int (2147483639 : Int32))), (fk2, (.ref d5)), (fk3, (.int (3 : Int32)))]) (d4, oA .int [(.int p0), (.int p1), o0, o0, o0, o0, o0, o0, o0, o0, o0, o0, o0, o0, o0, o0]) (c4, oO cn0 [(fk0, (.ref s1)), (fk1, (.int (2147483639 : Int32))), (fk2, (.ref d4)), (fk3, (.int (2 : Int32)))]) ((d2, oA .int [(.int b0), (.int b1), (.int z1), o0, o0, o0, o0, o0, o0, o0, o0, o0, o0, o0, o0, o0]) :: (c2, oO cn0 [(fk0, (.ref s1)), (fk1, (.int (2147483639 : Int32))), (fk2, (.ref d2)), (fk3, (.int (3 : Int32)))]) :: (d1, oA .int [(.int f0), (.int f1), (.int n1), o0, o0, o0, o0, o0, o0, o0, o0, o0, o0, o0, o0, o0]) :: (c1, oO cn0 [(fk0, (.ref s1)), (fk1, (.int (2147483639 : Int32))), (fk2, (.ref d1)), (fk3, (.int (3 : Int32)))]) :: (d0, oA .int us) :: (c0, oO cn0 [(fk0, (.ref s1)), (fk1, (.int (2147483639 : Int32))), (fk2, (.ref d0)), (fk3, (.int n2))]) :: (a1, oO cn1 [(fk4, (.ref c0)), (fk5, (.ref c1)), (fk6, (.ref c2)), (fk7, (.ref c3)), (fk8, (.ref c4)), (fk9, (.ref c5)), (fk10, (.ref c6))]) :: (o1, oA .int [(.int w0), (.int w1), (.int w2)]) :: g1 :: g2 :: ds) rfl (by decide) (by decide) (oLt rfl)) (lenOf pd_3 rfl) (hb hby d6_188) (pc' := 191) rfl (argsL := [(.int ((z1 + n2) - n1))]) (rest := []) rfl (by rw [hml]; rfl) (W := 0) (oLe rfl) (j := 7) rfl (by decide) (cells' := 0) rfl (slots' := 0) rfl ?_
  intro T v_ d_ q_ B
  obtain ⟨rfl, rfl⟩ := q_
  show oWin p e below Z h0 _ _ (T.setTop (mkF m 191 #[.val (.ref a1), .val (.int (1 : Int32)), .val (.ref o1), .val (.int q1), .val (.int n1), .val (.int (1 : Int32)), .val (.int z1), .val (.int (2 : Int32))] []))
  refine W_aloadN B (hb hby d6_191) (pc' := 192) rfl rfl rfl ?_
  refine W_getfield B hown (host := "") (Or.inl (ow hw (i := 48) rfl)) Via.refl (hb hby d6_192) (pc' := 195) rfl (j := 14) rfl (q := 4) rfl ?_
  intro T B
  refine W_iload B (hb hby d6_195) (pc' := 197) rfl rfl ?_
  refine W_ifN B (hb hby d6_197) (pc' := 200) rfl (by decide) ?_
  refine W_iloadN B (hb hby d6_200) (pc' := 201) rfl rfl ?_
  refine W_goto B (hb hby d6_201) (by decide) (pc' := 205) (by decide) ?_
  refine W_virtual B (y := (⟨"com/example/tanglemark/tanglemark/datalog/Ints", "add", "(I)V"⟩ : MethodName)) (z := (⟨"com/example/tanglemark/tanglemark/datalog/Ints", "add", "(I)V"⟩ : MethodName)) hown (ow hw (i := 61) rfl) (ow hw (i := 62) rfl) (oNotFace B (ow hw (i := 64) rfl) rfl) (ow hw (i := 64) rfl) (ow hw (i := 63) rfl) (ow hw (i := 21) rfl) (ow hw (i := 65) rfl) (by decide) (a := c4) (rm_ia4 l Z a0 hw h0 c4 d4 s1 (1 : Int32) (2 : Int32) [(.int p0), (.int p1), o0, o0, o0, o0, o0, o0, o0, o0, o0, o0, o0, o0, o0, o0] (d6, oA .int [(.int t0), (.int t1), o0, o0, o0, o0, o0, o0, o0, o0, o0, o0, o0, o0, o0, o0]) (c6, oO cn0 [(fk0, (.ref s1)), (fk1, (.int (2147483639 : Int32))), (fk2, (.ref d6)), (fk3, (.int (2 : Int32)))]) (d5, oA .int [(.int r0), (.int r1), (.int r1), o0, o0, o0, o0, o0, o0, o0, o0, o0, o0, o0, o0, o0]) (c5, oO cn0 [(fk0, (.ref s1)), (fk1, (.int (2147483639 : Int32))), (fk2, (.ref d5)), (fk3, (.int (3 : Int32)))]) ((d3, oA .int [(.int z0), (.int z1), (.int ((z1 + n2) - n1)), o0, o0, o0, o0, o0, o0, o0, o0, o0, o0, o0, o0, o0]) :: (c3, oO cn0 [(fk0, (.ref s1)), (fk1, (.int (2147483639 : Int32))), (fk2, (.ref d3)), (fk3, (.int (3 : Int32)))]) :: (d2, oA .int [(.int b0), (.int b1), (.int z1), o0, o0, o0, o0, o0, o0, o0, o0, o0, o0, o0, o0, o0]) :: (c2, oO cn0 [(fk0, (.ref s1)), (fk1, (.int (2147483639 : Int32))), (fk2, (.ref d2)), (fk3, (.int (3 : Int32)))]) :: (d1, oA .int [(.int f0), (.int f1), (.int n1), o0, o0, o0, o0, o0, o0, o0, o0, o0, o0, o0, o0, o0]) :: (c1, oO cn0 [(fk0, (.ref s1)), (fk1, (.int (2147483639 : Int32))), (fk2, (.ref d1)), (fk3, (.int (3 : Int32)))]) :: (d0, oA .int us) :: (c0, oO cn0 [(fk0, (.ref s1)), (fk1, (.int (2147483639 : Int32))), (fk2, (.ref d0)), (fk3, (.int n2))]) :: (a1, oO cn1 [(fk4, (.ref c0)), (fk5, (.ref c1)), (fk6, (.ref c2)), (fk7, (.ref c3)), (fk8, (.ref c4)), (fk9, (.ref c5)), (fk10, (.ref c6))]) :: (o1, oA .int [(.int w0), (.int w1), (.int w2)]) :: g1 :: g2 :: ds) rfl (by decide) (by decide) (oLt rfl)) (lenOf pd_3 rfl) (hb hby d6_205) (pc' := 208) rfl (argsL := [(.int (1 : Int32))]) (rest := []) rfl (by rw [hml]; rfl) (W := 0) (oLe rfl) (j := 5) rfl (by decide) (cells' := 0) rfl (slots' := 0) rfl ?_
  intro T v_ d_ q_ B
  obtain ⟨rfl, rfl⟩ := q_
  show oWin p e below Z h0 _ _ (T.setTop (mkF m 208 #[.val (.ref a1), .val (.int (1 : Int32)), .val (.ref o1), .val (.int q1), .val (.int n1), .val (.int (1 : Int32)), .val (.int z1), .val (.int (2 : Int32))] []))
  refine W_aloadN B (hb hby d6_208) (pc' := 209) rfl rfl rfl ?_
  refine W_getfield B hown (host := "") (Or.inl (ow hw (i := 52) rfl)) Via.refl (hb hby d6_209) (pc' := 212) rfl (j := 14) rfl (q := 6) rfl ?_
  intro T B
  refine W_iload B (hb hby d6_212) (pc' := 214) rfl rfl ?_
  refine W_ifN B (hb hby d6_214) (pc' := 217) rfl (by decide) ?_
  refine W_aloadN B (hb hby d6_217) (pc' := 218) rfl rfl rfl ?_
  refine W_getfield B hown (host := "") (Or.inl (ow hw (i := 52) rfl)) Via.refl (hb hby d6_218) (pc' := 221) rfl (j := 14) rfl (q := 6) rfl ?_
  intro T B
  refine W_getfield B hown (host := "") (Or.inl (ow hw (i := 67) rfl)) Via.refl (hb hby d6_221) (pc' := 224) rfl (j := 1) rfl (q := 2) rfl ?_
  intro T B
  refine W_iloadN B (hb hby d6_224) (pc' := 225) rfl rfl ?_
  refine W_iaload B (hb hby d6_225) (pc' := 226) rfl (i := 0) rfl (by decide) (v := (.int t1)) rfl ?_
  refine W_iconst B (hb hby d6_226) (pc' := 227) rfl (z := (1 : Int32)) (by decide) ?_
  refine W_iadd B (hb hby d6_227) (pc' := 228) rfl (z := (t1 + (1 : Int32))) rfl ?_
  refine W_goto B (hb hby d6_228) (by decide) (pc' := 232) (by decide) ?_
  refine W_virtual B (y := (⟨"com/example/tanglemark/tanglemark/datalog/Ints", "add", "(I)V"⟩ : MethodName)) (z := (⟨"com/example/tanglemark/tanglemark/datalog/Ints", "add", "(I)V"⟩ : MethodName)) hown (ow hw (i := 61) rfl) (ow hw (i := 62) rfl) (oNotFace B (ow hw (i := 64) rfl) rfl) (ow hw (i := 64) rfl) (ow hw (i := 63) rfl) (ow hw (i := 21) rfl) (ow hw (i := 65) rfl) (by decide) (a := c6) (rm_ia6 l Z a0 hw h0 c6 d6 s1 (t1 + (1 : Int32)) (2 : Int32) [(.int t0), (.int t1), o0, o0, o0, o0, o0, o0, o0, o0, o0, o0, o0, o0, o0, o0]  ((d5, oA .int [(.int r0), (.int r1), (.int r1), o0, o0, o0, o0, o0, o0, o0, o0, o0, o0, o0, o0, o0]) :: (c5, oO cn0 [(fk0, (.ref s1)), (fk1, (.int (2147483639 : Int32))), (fk2, (.ref d5)), (fk3, (.int (3 : Int32)))]) :: (d4, oA .int [(.int p0), (.int p1), (.int (1 : Int32)), o0, o0, o0, o0, o0, o0, o0, o0, o0, o0, o0, o0, o0]) :: (c4, oO cn0 [(fk0, (.ref s1)), (fk1, (.int (2147483639 : Int32))), (fk2, (.ref d4)), (fk3, (.int (3 : Int32)))]) :: (d3, oA .int [(.int z0), (.int z1), (.int ((z1 + n2) - n1)), o0, o0, o0, o0, o0, o0, o0, o0, o0, o0, o0, o0, o0]) :: (c3, oO cn0 [(fk0, (.ref s1)), (fk1, (.int (2147483639 : Int32))), (fk2, (.ref d3)), (fk3, (.int (3 : Int32)))]) :: (d2, oA .int [(.int b0), (.int b1), (.int z1), o0, o0, o0, o0, o0, o0, o0, o0, o0, o0, o0, o0, o0]) :: (c2, oO cn0 [(fk0, (.ref s1)), (fk1, (.int (2147483639 : Int32))), (fk2, (.ref d2)), (fk3, (.int (3 : Int32)))]) :: (d1, oA .int [(.int f0), (.int f1), (.int n1), o0, o0, o0, o0, o0, o0, o0, o0, o0, o0, o0, o0, o0]) :: (c1, oO cn0 [(fk0, (.ref s1)), (fk1, (.int (2147483639 : Int32))), (fk2, (.ref d1)), (fk3, (.int (3 : Int32)))]) :: (d0, oA .int us) :: (c0, oO cn0 [(fk0, (.ref s1)), (fk1, (.int (2147483639 : Int32))), (fk2, (.ref d0)), (fk3, (.int n2))]) :: (a1, oO cn1 [(fk4, (.ref c0)), (fk5, (.ref c1)), (fk6, (.ref c2)), (fk7, (.ref c3)), (fk8, (.ref c4)), (fk9, (.ref c5)), (fk10, (.ref c6))]) :: (o1, oA .int [(.int w0), (.int w1), (.int w2)]) :: g1 :: g2 :: ds) rfl (by decide) (by decide) (oLt rfl)) (lenOf pd_3 rfl) (hb hby d6_232) (pc' := 235) rfl (argsL := [(.int (t1 + (1 : Int32)))]) (rest := []) rfl (by rw [hml]; rfl) (W := 0) (oLe rfl) (j := 1) rfl (by decide) (cells' := 0) rfl (slots' := 0) rfl ?_
  intro T v_ d_ q_ B
  obtain ⟨rfl, rfl⟩ := q_
  show oWin p e below Z h0 _ _ (T.setTop (mkF m 235 #[.val (.ref a1), .val (.int (1 : Int32)), .val (.ref o1), .val (.int q1), .val (.int n1), .val (.int (1 : Int32)), .val (.int z1), .val (.int (2 : Int32))] []))
  refine W_iload B (hb hby d6_235) (pc' := 237) rfl rfl ?_
  refine W_retI B hret (hb hby d6_237) (by decide) ?_
  exact ⟨_, _, hus, hj, rfl, rfl⟩
theorem d9_0 : decode prog_51_method_5_code 0 = .ok (.aload_n 0, 1) := by decide +kernel
theorem d9_1 : decode prog_51_method_5_code 1 = .ok (.getfield 30, 3) := by decide +kernel
theorem d9_4 : decode prog_51_method_5_code 4 = .ok (.getfield 39, 3) := by decide +kernel
theorem d9_7 : decode prog_51_method_5_code 7 = .ok (.iload_n 1, 1) := by decide +kernel
theorem d9_8 : decode prog_51_method_5_code 8 = .ok (.iaload, 1) := by decide +kernel
theorem d9_9 : decode prog_51_method_5_code 9 = .ok (.istore_n 3, 1) := by decide +kernel
theorem d9_10 : decode prog_51_method_5_code 10 = .ok (.iload_n 2, 1) := by decide +kernel
theorem d9_11 : decode prog_51_method_5_code 11 = .ok (.aload_n 0, 1) := by decide +kernel
theorem d9_12 : decode prog_51_method_5_code 12 = .ok (.getfield 24, 3) := by decide +kernel
theorem d9_15 : decode prog_51_method_5_code 15 = .ok (.getfield 39, 3) := by decide +kernel
theorem d9_18 : decode prog_51_method_5_code 18 = .ok (.iload_n 3, 1) := by decide +kernel
theorem d9_19 : decode prog_51_method_5_code 19 = .ok (.iaload, 1) := by decide +kernel
theorem d9_20 : decode prog_51_method_5_code 20 = .ok (.if_icmp .lt 31, 3) := by decide +kernel
theorem d9_51 : decode prog_51_method_5_code 51 = .ok (.iload_n 3, 1) := by decide +kernel
theorem d9_52 : decode prog_51_method_5_code 52 = .ok (.ireturn, 1) := by decide +kernel
theorem d9_23 : decode prog_51_method_5_code 23 = .ok (.iload_n 1, 1) := by decide +kernel
theorem d9_24 : decode prog_51_method_5_code 24 = .ok (.istore_n 3, 1) := by decide +kernel
theorem d9_25 : decode prog_51_method_5_code 25 = .ok (.iload_n 2, 1) := by decide +kernel
theorem d9_26 : decode prog_51_method_5_code 26 = .ok (.aload_n 0, 1) := by decide +kernel
theorem d9_27 : decode prog_51_method_5_code 27 = .ok (.getfield 21, 3) := by decide +kernel
theorem d9_30 : decode prog_51_method_5_code 30 = .ok (.getfield 39, 3) := by decide +kernel
theorem d9_33 : decode prog_51_method_5_code 33 = .ok (.iload_n 3, 1) := by decide +kernel
theorem d9_34 : decode prog_51_method_5_code 34 = .ok (.iaload, 1) := by decide +kernel
theorem d9_35 : decode prog_51_method_5_code 35 = .ok (.if_icmp .ge 16, 3) := by decide +kernel
theorem ef_rm_ho000 (m : MethodId) (x0 : Addr) (x2 : Int32) : entryFrame m #[(.ref x0), (.int (0 : Int32)), (.int x2)] 4 = mkF m 0 #[.val (.ref x0), .val (.int (0 : Int32)), .val (.int x2), .unset] [] := by first | (simp [entryFrame, mkF, argsToLocals, Value.category]; done) | rfl
set_option maxRecDepth 65536 in
set_option maxHeartbeats 40000000 in
theorem rm_ho000 (l : Launch) (Z : State) (a0 : Array Value) (hw : ∀ d ∈ tables_1, d.before a0 Z = true) (h0 : Heap) {lo : Nat} (a1 : Addr) (s1 : Addr) (c0 : Addr) (d0 : Addr) (c1 : Addr) (d1 : Addr) (c2 : Addr) (d2 : Addr) (c3 : Addr) (d3 : Addr) (c4 : Addr) (d4 : Addr) (c5 : Addr) (d5 : Addr) (c6 : Addr) (d6 : Addr) (p1 : Int32) (n1 : Int32) (vs : List Value) (f0 : Int32) (f1 : Int32) (f2 : Int32) (y2 : Int32) (z0 : Int32) (z1 : Int32) (z2 : Int32) (t0 : Int32) (t1 : Int32) (t2 : Int32) (ds : oDs) (hp : ¬ p1 < (0 : Int32)) :
    oMet l Z h0 lo (⟨"com/example/tanglemark/tanglemark/datalog/SharedSets", "holder", "(II)I"⟩ : MethodName) prog_51_method_5_code 4 (some .int) [] ({ frames := 0, cells := 0, slots := 0, locals := 0 } : Room) #[(.ref a1), (.int (0 : Int32)), (.int p1)] ((d6, oA .int [(.int t0), (.int t1), (.int t2), o0, o0, o0, o0, o0, o0, o0, o0, o0, o0, o0, o0, o0]) :: (c6, oO cn0 [(fk0, (.ref s1)), (fk1, (.int (2147483639 : Int32))), (fk2, (.ref d6)), (fk3, (.int (3 : Int32)))]) :: (d5, oA .int [o0, (.int (1 : Int32)), o0, o0, o0, o0, o0, o0, o0, o0, o0, o0, o0, o0, o0, o0]) :: (c5, oO cn0 [(fk0, (.ref s1)), (fk1, (.int (2147483639 : Int32))), (fk2, (.ref d5)), (fk3, (.int (3 : Int32)))]) :: (d4, oA .int [(.int (-1 : Int32)), (.int (-1 : Int32)), o0, o0, o0, o0, o0, o0, o0, o0, o0, o0, o0, o0, o0, o0]) :: (c4, oO cn0 [(fk0, (.ref s1)), (fk1, (.int (2147483639 : Int32))), (fk2, (.ref d4)), (fk3, (.int (3 : Int32)))]) :: (d3, oA .int [(.int z0), (.int z1), (.int z2), o0, o0, o0, o0, o0, o0, o0, o0, o0, o0, o0, o0, o0]) :: (c3, oO cn0 [(fk0, (.ref s1)), (fk1, (.int (2147483639 : Int32))), (fk2, (.ref d3)), (fk3, (.int (3 : Int32)))]) :: (d2, oA .int [o0, o0, (.int y2), o0, o0, o0, o0, o0, o0, o0, o0, o0, o0, o0, o0, o0]) :: (c2, oO cn0 [(fk0, (.ref s1)), (fk1, (.int (2147483639 : Int32))), (fk2, (.ref d2)), (fk3, (.int (3 : Int32)))]) :: (d1, oA .int [(.int f0), (.int f1), (.int f2), o0, o0, o0, o0, o0, o0, o0, o0, o0, o0, o0, o0, o0]) :: (c1, oO cn0 [(fk0, (.ref s1)), (fk1, (.int (2147483639 : Int32))), (fk2, (.ref d1)), (fk3, (.int (3 : Int32)))]) :: (d0, oA .int vs) :: (c0, oO cn0 [(fk0, (.ref s1)), (fk1, (.int (2147483639 : Int32))), (fk2, (.ref d0)), (fk3, (.int n1))]) :: (a1, oO cn1 [(fk4, (.ref c0)), (fk5, (.ref c1)), (fk6, (.ref c2)), (fk7, (.ref c3)), (fk8, (.ref c4)), (fk9, (.ref c5)), (fk10, (.ref c6))]) :: ds) (fun (v : Option Value) (d : oDs) => ((p1 < z0) ∧ v = some (.int (0 : Int32)) ∧ ((d6, oA .int [(.int t0), (.int t1), (.int t2), o0, o0, o0, o0, o0, o0, o0, o0, o0, o0, o0, o0, o0]) :: (c6, oO cn0 [(fk0, (.ref s1)), (fk1, (.int (2147483639 : Int32))), (fk2, (.ref d6)), (fk3, (.int (3 : Int32)))]) :: (d5, oA .int [o0, (.int (1 : Int32)), o0, o0, o0, o0, o0, o0, o0, o0, o0, o0, o0, o0, o0, o0]) :: (c5, oO cn0 [(fk0, (.ref s1)), (fk1, (.int (2147483639 : Int32))), (fk2, (.ref d5)), (fk3, (.int (3 : Int32)))]) :: (d4, oA .int [(.int (-1 : Int32)), (.int (-1 : Int32)), o0, o0, o0, o0, o0, o0, o0, o0, o0, o0, o0, o0, o0, o0]) :: (c4, oO cn0 [(fk0, (.ref s1)), (fk1, (.int (2147483639 : Int32))), (fk2, (.ref d4)), (fk3, (.int (3 : Int32)))]) :: (d3, oA .int [(.int z0), (.int z1), (.int z2), o0, o0, o0, o0, o0, o0, o0, o0, o0, o0, o0, o0, o0]) :: (c3, oO cn0 [(fk0, (.ref s1)), (fk1, (.int (2147483639 : Int32))), (fk2, (.ref d3)), (fk3, (.int (3 : Int32)))]) :: (d2, oA .int [o0, o0, (.int y2), o0, o0, o0, o0, o0, o0, o0, o0, o0, o0, o0, o0, o0]) :: (c2, oO cn0 [(fk0, (.ref s1)), (fk1, (.int (2147483639 : Int32))), (fk2, (.ref d2)), (fk3, (.int (3 : Int32)))]) :: (d1, oA .int [(.int f0), (.int f1), (.int f2), o0, o0, o0, o0, o0, o0, o0, o0, o0, o0, o0, o0, o0]) :: (c1, oO cn0 [(fk0, (.ref s1)), (fk1, (.int (2147483639 : Int32))), (fk2, (.ref d1)), (fk3, (.int (3 : Int32)))]) :: (d0, oA .int vs) :: (c0, oO cn0 [(fk0, (.ref s1)), (fk1, (.int (2147483639 : Int32))), (fk2, (.ref d0)), (fk3, (.int n1))]) :: (a1, oO cn1 [(fk4, (.ref c0)), (fk5, (.ref c1)), (fk6, (.ref c2)), (fk7, (.ref c3)), (fk8, (.ref c4)), (fk9, (.ref c5)), (fk10, (.ref c6))]) :: ds) = d) ∨ ((¬ p1 < z0) ∧ v = some (.int (0 : Int32)) ∧ ((d6, oA .int [(.int t0), (.int t1), (.int t2), o0, o0, o0, o0, o0, o0, o0, o0, o0, o0, o0, o0, o0]) :: (c6, oO cn0 [(fk0, (.ref s1)), (fk1, (.int (2147483639 : Int32))), (fk2, (.ref d6)), (fk3, (.int (3 : Int32)))]) :: (d5, oA .int [o0, (.int (1 : Int32)), o0, o0, o0, o0, o0, o0, o0, o0, o0, o0, o0, o0, o0, o0]) :: (c5, oO cn0 [(fk0, (.ref s1)), (fk1, (.int (2147483639 : Int32))), (fk2, (.ref d5)), (fk3, (.int (3 : Int32)))]) :: (d4, oA .int [(.int (-1 : Int32)), (.int (-1 : Int32)), o0, o0, o0, o0, o0, o0, o0, o0, o0, o0, o0, o0, o0, o0]) :: (c4, oO cn0 [(fk0, (.ref s1)), (fk1, (.int (2147483639 : Int32))), (fk2, (.ref d4)), (fk3, (.int (3 : Int32)))]) :: (d3, oA .int [(.int z0), (.int z1), (.int z2), o0, o0, o0, o0, o0, o0, o0, o0, o0, o0, o0, o0, o0]) :: (c3, oO cn0 [(fk0, (.ref s1)), (fk1, (.int (2147483639 : Int32))), (fk2, (.ref d3)), (fk3, (.int (3 : Int32)))]) :: (d2, oA .int [o0, o0, (.int y2), o0, o0, o0, o0, o0, o0, o0, o0, o0, o0, o0, o0, o0]) :: (c2, oO cn0 [(fk0, (.ref s1)), (fk1, (.int (2147483639 : Int32))), (fk2, (.ref d2)), (fk3, (.int (3 : Int32)))]) :: (d1, oA .int [(.int f0), (.int f1), (.int f2), o0, o0, o0, o0, o0, o0, o0, o0, o0, o0, o0, o0, o0]) :: (c1, oO cn0 [(fk0, (.ref s1)), (fk1, (.int (2147483639 : Int32))), (fk2, (.ref d1)), (fk3, (.int (3 : Int32)))]) :: (d0, oA .int vs) :: (c0, oO cn0 [(fk0, (.ref s1)), (fk1, (.int (2147483639 : Int32))), (fk2, (.ref d0)), (fk3, (.int n1))]) :: (a1, oO cn1 [(fk4, (.ref c0)), (fk5, (.ref c1)), (fk6, (.ref c2)), (fk7, (.ref c3)), (fk8, (.ref c4)), (fk9, (.ref c5)), (fk10, (.ref c6))]) :: ds) = d)) := by
  refine oMet.of_body (plainFor_of_name pn_1) ?_
  intro p e s m below meth c T B hby hml hown hnm hret
  refine W_entry (ef_rm_ho000 m a1 p1) ?_
  refine W_aloadN B (hb hby d9_0) (pc' := 1) rfl rfl rfl ?_
  refine W_getfield B hown (host := "") (Or.inl (ow hw (i := 50) rfl)) Via.refl (hb hby d9_1) (pc' := 4) rfl (j := 14) rfl (q := 5) rfl ?_
  intro T B
  refine W_getfield B hown (host := "") (Or.inl (ow hw (i := 67) rfl)) Via.refl (hb hby d9_4) (pc' := 7) rfl (j := 3) rfl (q := 2) rfl ?_
  intro T B
  refine W_iloadN B (hb hby d9_7) (pc' := 8) rfl rfl ?_
  refine W_iaload B (hb hby d9_8) (pc' := 9) rfl (i := 2) rfl (by decide) (v := (.int (0 : Int32))) rfl ?_
  refine W_istoreN B (hb hby d9_9) (pc' := 10) rfl (v := (0 : Int32)) rfl (ls' := #[.val (.ref a1), .val (.int (0 : Int32)), .val (.int p1), .val (.int (0 : Int32))]) rfl ?_
  refine W_iloadN B (hb hby d9_10) (pc' := 11) rfl rfl ?_
  refine W_aloadN B (hb hby d9_11) (pc' := 12) rfl rfl rfl ?_
  refine W_getfield B hown (host := "") (Or.inl (ow hw (i := 46) rfl)) Via.refl (hb hby d9_12) (pc' := 15) rfl (j := 14) rfl (q := 3) rfl ?_
  intro T B
  refine W_getfield B hown (host := "") (Or.inl (ow hw (i := 67) rfl)) Via.refl (hb hby d9_15) (pc' := 18) rfl (j := 7) rfl (q := 2) rfl ?_
  intro T B
  refine W_iloadN B (hb hby d9_18) (pc' := 19) rfl rfl ?_
  refine W_iaload B (hb hby d9_19) (pc' := 20) rfl (i := 6) rfl (by decide) (v := (.int z0)) rfl ?_
  refine W_icmp_lt B (hb hby d9_20) (by decide) (pt := 51) (by decide) (pc' := 23) rfl (fun (c102 : p1 < z0) => ?_) (fun (c102 : ¬ p1 < z0) => ?_)
  · refine W_iloadN B (hb hby d9_51) (pc' := 52) rfl rfl ?_
    refine W_retI B hret (hb hby d9_52) (by decide) ?_
    exact Or.inl ⟨c102, rfl, rfl⟩
  refine W_iloadN B (hb hby d9_23) (pc' := 24) rfl rfl ?_
  refine W_istoreN B (hb hby d9_24) (pc' := 25) rfl (v := (0 : Int32)) rfl (ls' := #[.val (.ref a1), .val (.int (0 : Int32)), .val (.int p1), .val (.int (0 : Int32))]) rfl ?_
  refine W_iloadN B (hb hby d9_25) (pc' := 26) rfl rfl ?_
  refine W_aloadN B (hb hby d9_26) (pc' := 27) rfl rfl rfl ?_
  refine W_getfield B hown (host := "") (Or.inl (ow hw (i := 44) rfl)) Via.refl (hb hby d9_27) (pc' := 30) rfl (j := 14) rfl (q := 2) rfl ?_
  intro T B
  refine W_getfield B hown (host := "") (Or.inl (ow hw (i := 67) rfl)) Via.refl (hb hby d9_30) (pc' := 33) rfl (j := 9) rfl (q := 2) rfl ?_
  intro T B
  refine W_iloadN B (hb hby d9_33) (pc' := 34) rfl rfl ?_
  refine W_iaload B (hb hby d9_34) (pc' := 35) rfl (i := 8) rfl (by decide) (v := (.int (0 : Int32))) rfl ?_
  refine W_icmpY B (hb hby d9_35) (by decide) (pc' := 51) (by decide) (flt hp).2.1 ?_
  refine W_iloadN B (hb hby d9_51) (pc' := 52) rfl rfl ?_
  refine W_retI B hret (hb hby d9_52) (by decide) ?_
  exact Or.inr (⟨c102, rfl, rfl⟩)
theorem ef_rm_ho001 (m : MethodId) (x0 : Addr) (x2 : Int32) : entryFrame m #[(.ref x0), (.int (1 : Int32)), (.int x2)] 4 = mkF m 0 #[.val (.ref x0), .val (.int (1 : Int32)), .val (.int x2), .unset] [] := by first | (simp [entryFrame, mkF, argsToLocals, Value.category]; done) | rfl
set_option maxRecDepth 65536 in
set_option maxHeartbeats 40000000 in
theorem rm_ho001 (l : Launch) (Z : State) (a0 : Array Value) (hw : ∀ d ∈ tables_1, d.before a0 Z = true) (h0 : Heap) {lo : Nat} (a1 : Addr) (s1 : Addr) (c0 : Addr) (d0 : Addr) (c1 : Addr) (d1 : Addr) (c2 : Addr) (d2 : Addr) (c3 : Addr) (d3 : Addr) (c4 : Addr) (d4 : Addr) (c5 : Addr) (d5 : Addr) (c6 : Addr) (d6 : Addr) (p1 : Int32) (n1 : Int32) (vs : List Value) (f0 : Int32) (f1 : Int32) (f2 : Int32) (y2 : Int32) (z0 : Int32) (z1 : Int32) (z2 : Int32) (t0 : Int32) (t1 : Int32) (t2 : Int32) (ds : oDs) (hp : ¬ p1 < (0 : Int32)) :
    oMet l Z h0 lo (⟨"com/example/tanglemark/tanglemark/datalog/SharedSets", "holder", "(II)I"⟩ : MethodName) prog_51_method_5_code 4 (some .int) [] ({ frames := 0, cells := 0, slots := 0, locals := 0 } : Room) #[(.ref a1), (.int (1 : Int32)), (.int p1)] ((d6, oA .int [(.int t0), (.int t1), (.int t2), o0, o0, o0, o0, o0, o0, o0, o0, o0, o0, o0, o0, o0]) :: (c6, oO cn0 [(fk0, (.ref s1)), (fk1, (.int (2147483639 : Int32))), (fk2, (.ref d6)), (fk3, (.int (3 : Int32)))]) :: (d5, oA .int [o0, (.int (1 : Int32)), o0, o0, o0, o0, o0, o0, o0, o0, o0, o0, o0, o0, o0, o0]) :: (c5, oO cn0 [(fk0, (.ref s1)), (fk1, (.int (2147483639 : Int32))), (fk2, (.ref d5)), (fk3, (.int (3 : Int32)))]) :: (d4, oA .int [(.int (-1 : Int32)), (.int (-1 : Int32)), o0, o0, o0, o0, o0, o0, o0, o0, o0, o0, o0, o0, o0, o0]) :: (c4, oO cn0 [(fk0, (.ref s1)), (fk1, (.int (2147483639 : Int32))), (fk2, (.ref d4)), (fk3, (.int (3 : Int32)))]) :: (d3, oA .int [(.int z0), (.int z1), (.int z2), o0, o0, o0, o0, o0, o0, o0, o0, o0, o0, o0, o0, o0]) :: (c3, oO cn0 [(fk0, (.ref s1)), (fk1, (.int (2147483639 : Int32))), (fk2, (.ref d3)), (fk3, (.int (3 : Int32)))]) :: (d2, oA .int [o0, o0, (.int y2), o0, o0, o0, o0, o0, o0, o0, o0, o0, o0, o0, o0, o0]) :: (c2, oO cn0 [(fk0, (.ref s1)), (fk1, (.int (2147483639 : Int32))), (fk2, (.ref d2)), (fk3, (.int (3 : Int32)))]) :: (d1, oA .int [(.int f0), (.int f1), (.int f2), o0, o0, o0, o0, o0, o0, o0, o0, o0, o0, o0, o0, o0]) :: (c1, oO cn0 [(fk0, (.ref s1)), (fk1, (.int (2147483639 : Int32))), (fk2, (.ref d1)), (fk3, (.int (3 : Int32)))]) :: (d0, oA .int vs) :: (c0, oO cn0 [(fk0, (.ref s1)), (fk1, (.int (2147483639 : Int32))), (fk2, (.ref d0)), (fk3, (.int n1))]) :: (a1, oO cn1 [(fk4, (.ref c0)), (fk5, (.ref c1)), (fk6, (.ref c2)), (fk7, (.ref c3)), (fk8, (.ref c4)), (fk9, (.ref c5)), (fk10, (.ref c6))]) :: ds) (fun (v : Option Value) (d : oDs) => ((p1 < z1) ∧ v = some (.int (1 : Int32)) ∧ ((d6, oA .int [(.int t0), (.int t1), (.int t2), o0, o0, o0, o0, o0, o0, o0, o0, o0, o0, o0, o0, o0]) :: (c6, oO cn0 [(fk0, (.ref s1)), (fk1, (.int (2147483639 : Int32))), (fk2, (.ref d6)), (fk3, (.int (3 : Int32)))]) :: (d5, oA .int [o0, (.int (1 : Int32)), o0, o0, o0, o0, o0, o0, o0, o0, o0, o0, o0, o0, o0, o0]) :: (c5, oO cn0 [(fk0, (.ref s1)), (fk1, (.int (2147483639 : Int32))), (fk2, (.ref d5)), (fk3, (.int (3 : Int32)))]) :: (d4, oA .int [(.int (-1 : Int32)), (.int (-1 : Int32)), o0, o0, o0, o0, o0, o0, o0, o0, o0, o0, o0, o0, o0, o0]) :: (c4, oO cn0 [(fk0, (.ref s1)), (fk1, (.int (2147483639 : Int32))), (fk2, (.ref d4)), (fk3, (.int (3 : Int32)))]) :: (d3, oA .int [(.int z0), (.int z1), (.int z2), o0, o0, o0, o0, o0, o0, o0, o0, o0, o0, o0, o0, o0]) :: (c3, oO cn0 [(fk0, (.ref s1)), (fk1, (.int (2147483639 : Int32))), (fk2, (.ref d3)), (fk3, (.int (3 : Int32)))]) :: (d2, oA .int [o0, o0, (.int y2), o0, o0, o0, o0, o0, o0, o0, o0, o0, o0, o0, o0, o0]) :: (c2, oO cn0 [(fk0, (.ref s1)), (fk1, (.int (2147483639 : Int32))), (fk2, (.ref d2)), (fk3, (.int (3 : Int32)))]) :: (d1, oA .int [(.int f0), (.int f1), (.int f2), o0, o0, o0, o0, o0, o0, o0, o0, o0, o0, o0, o0, o0]) :: (c1, oO cn0 [(fk0, (.ref s1)), (fk1, (.int (2147483639 : Int32))), (fk2, (.ref d1)), (fk3, (.int (3 : Int32)))]) :: (d0, oA .int vs) :: (c0, oO cn0 [(fk0, (.ref s1)), (fk1, (.int (2147483639 : Int32))), (fk2, (.ref d0)), (fk3, (.int n1))]) :: (a1, oO cn1 [(fk4, (.ref c0)), (fk5, (.ref c1)), (fk6, (.ref c2)), (fk7, (.ref c3)), (fk8, (.ref c4)), (fk9, (.ref c5)), (fk10, (.ref c6))]) :: ds) = d) ∨ ((¬ p1 < z1) ∧ v = some (.int (1 : Int32)) ∧ ((d6, oA .int [(.int t0), (.int t1), (.int t2), o0, o0, o0, o0, o0, o0, o0, o0, o0, o0, o0, o0, o0]) :: (c6, oO cn0 [(fk0, (.ref s1)), (fk1, (.int (2147483639 : Int32))), (fk2, (.ref d6)), (fk3, (.int (3 : Int32)))]) :: (d5, oA .int [o0, (.int (1 : Int32)), o0, o0, o0, o0, o0, o0, o0, o0, o0, o0, o0, o0, o0, o0]) :: (c5, oO cn0 [(fk0, (.ref s1)), (fk1, (.int (2147483639 : Int32))), (fk2, (.ref d5)), (fk3, (.int (3 : Int32)))]) :: (d4, oA .int [(.int (-1 : Int32)), (.int (-1 : Int32)), o0, o0, o0, o0, o0, o0, o0, o0, o0, o0, o0, o0, o0, o0]) :: (c4, oO cn0 [(fk0, (.ref s1)), (fk1, (.int (2147483639 : Int32))), (fk2, (.ref d4)), (fk3, (.int (3 : Int32)))]) :: (d3, oA .int [(.int z0), (.int z1), (.int z2), o0, o0, o0, o0, o0, o0, o0, o0, o0, o0, o0, o0, o0]) :: (c3, oO cn0 [(fk0, (.ref s1)), (fk1, (.int (2147483639 : Int32))), (fk2, (.ref d3)), (fk3, (.int (3 : Int32)))]) :: (d2, oA .int [o0, o0, (.int y2), o0, o0, o0, o0, o0, o0, o0, o0, o0, o0, o0, o0, o0]) :: (c2, oO cn0 [(fk0, (.ref s1)), (fk1, (.int (2147483639 : Int32))), (fk2, (.ref d2)), (fk3, (.int (3 : Int32)))]) :: (d1, oA .int [(.int f0), (.int f1), (.int f2), o0, o0, o0, o0, o0, o0, o0, o0, o0, o0, o0, o0, o0]) :: (c1, oO cn0 [(fk0, (.ref s1)), (fk1, (.int (2147483639 : Int32))), (fk2, (.ref d1)), (fk3, (.int (3 : Int32)))]) :: (d0, oA .int vs) :: (c0, oO cn0 [(fk0, (.ref s1)), (fk1, (.int (2147483639 : Int32))), (fk2, (.ref d0)), (fk3, (.int n1))]) :: (a1, oO cn1 [(fk4, (.ref c0)), (fk5, (.ref c1)), (fk6, (.ref c2)), (fk7, (.ref c3)), (fk8, (.ref c4)), (fk9, (.ref c5)), (fk10, (.ref c6))]) :: ds) = d)) := by
  refine oMet.of_body (plainFor_of_name pn_1) ?_
  intro p e s m below meth c T B hby hml hown hnm hret
  refine W_entry (ef_rm_ho001 m a1 p1) ?_
  refine W_aloadN B (hb hby d9_0) (pc' := 1) rfl rfl rfl ?_
  refine W_getfield B hown (host := "") (Or.inl (ow hw (i := 50) rfl)) Via.refl (hb hby d9_1) (pc' := 4) rfl (j := 14) rfl (q := 5) rfl ?_
  intro T B
  refine W_getfield B hown (host := "") (Or.inl (ow hw (i := 67) rfl)) Via.refl (hb hby d9_4) (pc' := 7) rfl (j := 3) rfl (q := 2) rfl ?_
  intro T B
  refine W_iloadN B (hb hby d9_7) (pc' := 8) rfl rfl ?_
  refine W_iaload B (hb hby d9_8) (pc' := 9) rfl (i := 2) rfl (by decide) (v := (.int (1 : Int32))) rfl ?_
  refine W_istoreN B (hb hby d9_9) (pc' := 10) rfl (v := (1 : Int32)) rfl (ls' := #[.val (.ref a1), .val (.int (1 : Int32)), .val (.int p1), .val (.int (1 : Int32))]) rfl ?_
  refine W_iloadN B (hb hby d9_10) (pc' := 11) rfl rfl ?_
  refine W_aloadN B (hb hby d9_11) (pc' := 12) rfl rfl rfl ?_
  refine W_getfield B hown (host := "") (Or.inl (ow hw (i := 46) rfl)) Via.refl (hb hby d9_12) (pc' := 15) rfl (j := 14) rfl (q := 3) rfl ?_
  intro T B
  refine W_getfield B hown (host := "") (Or.inl (ow hw (i := 67) rfl)) Via.refl (hb hby d9_15) (pc' := 18) rfl (j := 7) rfl (q := 2) rfl ?_
  intro T B
  refine W_iloadN B (hb hby d9_18) (pc' := 19) rfl rfl ?_
  refine W_iaload B (hb hby d9_19) (pc' := 20) rfl (i := 6) rfl (by decide) (v := (.int z1)) rfl ?_
  refine W_icmp_lt B (hb hby d9_20) (by decide) (pt := 51) (by decide) (pc' := 23) rfl (fun (c103 : p1 < z1) => ?_) (fun (c103 : ¬ p1 < z1) => ?_)
  · refine W_iloadN B (hb hby d9_51) (pc' := 52) rfl rfl ?_
    refine W_retI B hret (hb hby d9_52) (by decide) ?_
    exact Or.inl ⟨c103, rfl, rfl⟩
  refine W_iloadN B (hb hby d9_23) (pc' := 24) rfl rfl ?_
  refine W_istoreN B (hb hby d9_24) (pc' := 25) rfl (v := (1 : Int32)) rfl (ls' := #[.val (.ref a1), .val (.int (1 : Int32)), .val (.int p1), .val (.int (1 : Int32))]) rfl ?_
  refine W_iloadN B (hb hby d9_25) (pc' := 26) rfl rfl ?_
  refine W_aloadN B (hb hby d9_26) (pc' := 27) rfl rfl rfl ?_
  refine W_getfield B hown (host := "") (Or.inl (ow hw (i := 44) rfl)) Via.refl (hb hby d9_27) (pc' := 30) rfl (j := 14) rfl (q := 2) rfl ?_
  intro T B
  refine W_getfield B hown (host := "") (Or.inl (ow hw (i := 67) rfl)) Via.refl (hb hby d9_30) (pc' := 33) rfl (j := 9) rfl (q := 2) rfl ?_
  intro T B
  refine W_iloadN B (hb hby d9_33) (pc' := 34) rfl rfl ?_
  refine W_iaload B (hb hby d9_34) (pc' := 35) rfl (i := 8) rfl (by decide) (v := (.int (0 : Int32))) rfl ?_
  refine W_icmpY B (hb hby d9_35) (by decide) (pc' := 51) (by decide) (flt hp).2.1 ?_
  refine W_iloadN B (hb hby d9_51) (pc' := 52) rfl rfl ?_
  refine W_retI B hret (hb hby d9_52) (by decide) ?_
  exact Or.inr (⟨c103, rfl, rfl⟩)
theorem d9_38 : decode prog_51_method_5_code 38 = .ok (.aload_n 0, 1) := by decide +kernel
theorem d9_39 : decode prog_51_method_5_code 39 = .ok (.getfield 27, 3) := by decide +kernel
theorem d9_42 : decode prog_51_method_5_code 42 = .ok (.getfield 39, 3) := by decide +kernel
theorem d9_45 : decode prog_51_method_5_code 45 = .ok (.iload_n 3, 1) := by decide +kernel
theorem d9_46 : decode prog_51_method_5_code 46 = .ok (.iaload, 1) := by decide +kernel
theorem d9_47 : decode prog_51_method_5_code 47 = .ok (.istore_n 3, 1) := by decide +kernel
theorem d9_48 : decode prog_51_method_5_code 48 = .ok (.goto (-23), 3) := by decide +kernel
theorem ef_rm_ho002 (m : MethodId) (x0 : Addr) (x2 : Int32) : entryFrame m #[(.ref x0), (.int (2 : Int32)), (.int x2)] 4 = mkF m 0 #[.val (.ref x0), .val (.int (2 : Int32)), .val (.int x2), .unset] [] := by first | (simp [entryFrame, mkF, argsToLocals, Value.category]; done) | rfl
set_option maxRecDepth 65536 in
set_option maxHeartbeats 40000000 in
theorem rm_ho002 (l : Launch) (Z : State) (a0 : Array Value) (hw : ∀ d ∈ tables_1, d.before a0 Z = true) (h0 : Heap) {lo : Nat} (a1 : Addr) (s1 : Addr) (c0 : Addr) (d0 : Addr) (c1 : Addr) (d1 : Addr) (c2 : Addr) (d2 : Addr) (c3 : Addr) (d3 : Addr) (c4 : Addr) (d4 : Addr) (c5 : Addr) (d5 : Addr) (c6 : Addr) (d6 : Addr) (p1 : Int32) (n1 : Int32) (vs : List Value) (f0 : Int32) (f1 : Int32) (f2 : Int32) (y2 : Int32) (z0 : Int32) (z1 : Int32) (z2 : Int32) (t0 : Int32) (t1 : Int32) (t2 : Int32) (ds : oDs) (hp : ¬ p1 < (0 : Int32)) :
    oMet l Z h0 lo (⟨"com/example/tanglemark/tanglemark/datalog/SharedSets", "holder", "(II)I"⟩ : MethodName) prog_51_method_5_code 4 (some .int) [] ({ frames := 0, cells := 0, slots := 0, locals := 0 } : Room) #[(.ref a1), (.int (2 : Int32)), (.int p1)] ((d6, oA .int [(.int t0), (.int t1), (.int t2), o0, o0, o0, o0, o0, o0, o0, o0, o0, o0, o0, o0, o0]) :: (c6, oO cn0 [(fk0, (.ref s1)), (fk1, (.int (2147483639 : Int32))), (fk2, (.ref d6)), (fk3, (.int (3 : Int32)))]) :: (d5, oA .int [o0, (.int (1 : Int32)), o0, o0, o0, o0, o0, o0, o0, o0, o0, o0, o0, o0, o0, o0]) :: (c5, oO cn0 [(fk0, (.ref s1)), (fk1, (.int (2147483639 : Int32))), (fk2, (.ref d5)), (fk3, (.int (3 : Int32)))]) :: (d4, oA .int [(.int (-1 : Int32)), (.int (-1 : Int32)), o0, o0, o0, o0, o0, o0, o0, o0, o0, o0, o0, o0, o0, o0]) :: (c4, oO cn0 [(fk0, (.ref s1)), (fk1, (.int (2147483639 : Int32))), (fk2, (.ref d4)), (fk3, (.int (3 : Int32)))]) :: (d3, oA .int [(.int z0), (.int z1), (.int z2), o0, o0, o0, o0, o0, o0, o0, o0, o0, o0, o0, o0, o0]) :: (c3, oO cn0 [(fk0, (.ref s1)), (fk1, (.int (2147483639 : Int32))), (fk2, (.ref d3)), (fk3, (.int (3 : Int32)))]) :: (d2, oA .int [o0, o0, (.int y2), o0, o0, o0, o0, o0, o0, o0, o0, o0, o0, o0, o0, o0]) :: (c2, oO cn0 [(fk0, (.ref s1)), (fk1, (.int (2147483639 : Int32))), (fk2, (.ref d2)), (fk3, (.int (3 : Int32)))]) :: (d1, oA .int [(.int f0), (.int f1), (.int f2), o0, o0, o0, o0, o0, o0, o0, o0, o0, o0, o0, o0, o0]) :: (c1, oO cn0 [(fk0, (.ref s1)), (fk1, (.int (2147483639 : Int32))), (fk2, (.ref d1)), (fk3, (.int (3 : Int32)))]) :: (d0, oA .int vs) :: (c0, oO cn0 [(fk0, (.ref s1)), (fk1, (.int (2147483639 : Int32))), (fk2, (.ref d0)), (fk3, (.int n1))]) :: (a1, oO cn1 [(fk4, (.ref c0)), (fk5, (.ref c1)), (fk6, (.ref c2)), (fk7, (.ref c3)), (fk8, (.ref c4)), (fk9, (.ref c5)), (fk10, (.ref c6))]) :: ds) (fun (v : Option Value) (d : oDs) => ((p1 < z0) ∧ v = some (.int (0 : Int32)) ∧ ((d6, oA .int [(.int t0), (.int t1), (.int t2), o0, o0, o0, o0, o0, o0, o0, o0, o0, o0, o0, o0, o0]) :: (c6, oO cn0 [(fk0, (.ref s1)), (fk1, (.int (2147483639 : Int32))), (fk2, (.ref d6)), (fk3, (.int (3 : Int32)))]) :: (d5, oA .int [o0, (.int (1 : Int32)), o0, o0, o0, o0, o0, o0, o0, o0, o0, o0, o0, o0, o0, o0]) :: (c5, oO cn0 [(fk0, (.ref s1)), (fk1, (.int (2147483639 : Int32))), (fk2, (.ref d5)), (fk3, (.int (3 : Int32)))]) :: (d4, oA .int [(.int (-1 : Int32)), (.int (-1 : Int32)), o0, o0, o0, o0, o0, o0, o0, o0, o0, o0, o0, o0, o0, o0]) :: (c4, oO cn0 [(fk0, (.ref s1)), (fk1, (.int (2147483639 : Int32))), (fk2, (.ref d4)), (fk3, (.int (3 : Int32)))]) :: (d3, oA .int [(.int z0), (.int z1), (.int z2), o0, o0, o0, o0, o0, o0, o0, o0, o0, o0, o0, o0, o0]) :: (c3, oO cn0 [(fk0, (.ref s1)), (fk1, (.int (2147483639 : Int32))), (fk2, (.ref d3)), (fk3, (.int (3 : Int32)))]) :: (d2, oA .int [o0, o0, (.int y2), o0, o0, o0, o0, o0, o0, o0, o0, o0, o0, o0, o0, o0]) :: (c2, oO cn0 [(fk0, (.ref s1)), (fk1, (.int (2147483639 : Int32))), (fk2, (.ref d2)), (fk3, (.int (3 : Int32)))]) :: (d1, oA .int [(.int f0), (.int f1), (.int f2), o0, o0, o0, o0, o0, o0, o0, o0, o0, o0, o0, o0, o0]) :: (c1, oO cn0 [(fk0, (.ref s1)), (fk1, (.int (2147483639 : Int32))), (fk2, (.ref d1)), (fk3, (.int (3 : Int32)))]) :: (d0, oA .int vs) :: (c0, oO cn0 [(fk0, (.ref s1)), (fk1, (.int (2147483639 : Int32))), (fk2, (.ref d0)), (fk3, (.int n1))]) :: (a1, oO cn1 [(fk4, (.ref c0)), (fk5, (.ref c1)), (fk6, (.ref c2)), (fk7, (.ref c3)), (fk8, (.ref c4)), (fk9, (.ref c5)), (fk10, (.ref c6))]) :: ds) = d) ∨ ((¬ p1 < z0) ∧ (¬ p1 < y2) ∧ v = some (.int (2 : Int32)) ∧ ((d6, oA .int [(.int t0), (.int t1), (.int t2), o0, o0, o0, o0, o0, o0, o0, o0, o0, o0, o0, o0, o0]) :: (c6, oO cn0 [(fk0, (.ref s1)), (fk1, (.int (2147483639 : Int32))), (fk2, (.ref d6)), (fk3, (.int (3 : Int32)))]) :: (d5, oA .int [o0, (.int (1 : Int32)), o0, o0, o0, o0, o0, o0, o0, o0, o0, o0, o0, o0, o0, o0]) :: (c5, oO cn0 [(fk0, (.ref s1)), (fk1, (.int (2147483639 : Int32))), (fk2, (.ref d5)), (fk3, (.int (3 : Int32)))]) :: (d4, oA .int [(.int (-1 : Int32)), (.int (-1 : Int32)), o0, o0, o0, o0, o0, o0, o0, o0, o0, o0, o0, o0, o0, o0]) :: (c4, oO cn0 [(fk0, (.ref s1)), (fk1, (.int (2147483639 : Int32))), (fk2, (.ref d4)), (fk3, (.int (3 : Int32)))]) :: (d3, oA .int [(.int z0), (.int z1), (.int z2), o0, o0, o0, o0, o0, o0, o0, o0, o0, o0, o0, o0, o0]) :: (c3, oO cn0 [(fk0, (.ref s1)), (fk1, (.int (2147483639 : Int32))), (fk2, (.ref d3)), (fk3, (.int (3 : Int32)))]) :: (d2, oA .int [o0, o0, (.int y2), o0, o0, o0, o0, o0, o0, o0, o0, o0, o0, o0, o0, o0]) :: (c2, oO cn0 [(fk0, (.ref s1)), (fk1, (.int (2147483639 : Int32))), (fk2, (.ref d2)), (fk3, (.int (3 : Int32)))]) :: (d1, oA .int [(.int f0), (.int f1), (.int f2), o0, o0, o0, o0, o0, o0, o0, o0, o0, o0, o0, o0, o0]) :: (c1, oO cn0 [(fk0, (.ref s1)), (fk1, (.int (2147483639 : Int32))), (fk2, (.ref d1)), (fk3, (.int (3 : Int32)))]) :: (d0, oA .int vs) :: (c0, oO cn0 [(fk0, (.ref s1)), (fk1, (.int (2147483639 : Int32))), (fk2, (.ref d0)), (fk3, (.int n1))]) :: (a1, oO cn1 [(fk4, (.ref c0)), (fk5, (.ref c1)), (fk6, (.ref c2)), (fk7, (.ref c3)), (fk8, (.ref c4)), (fk9, (.ref c5)), (fk10, (.ref c6))]) :: ds) = d) ∨ ((¬ p1 < z0) ∧ (p1 < y2) ∧ v = some (.int (0 : Int32)) ∧ ((d6, oA .int [(.int t0), (.int t1), (.int t2), o0, o0, o0, o0, o0, o0, o0, o0, o0, o0, o0, o0, o0]) :: (c6, oO cn0 [(fk0, (.ref s1)), (fk1, (.int (2147483639 : Int32))), (fk2, (.ref d6)), (fk3, (.int (3 : Int32)))]) :: (d5, oA .int [o0, (.int (1 : Int32)), o0, o0, o0, o0, o0, o0, o0, o0, o0, o0, o0, o0, o0, o0]) :: (c5, oO cn0 [(fk0, (.ref s1)), (fk1, (.int (2147483639 : Int32))), (fk2, (.ref d5)), (fk3, (.int (3 : Int32)))]) :: (d4, oA .int [(.int (-1 : Int32)), (.int (-1 : Int32)), o0, o0, o0, o0, o0, o0, o0, o0, o0, o0, o0, o0, o0, o0]) :: (c4, oO cn0 [(fk0, (.ref s1)), (fk1, (.int (2147483639 : Int32))), (fk2, (.ref d4)), (fk3, (.int (3 : Int32)))]) :: (d3, oA .int [(.int z0), (.int z1), (.int z2), o0, o0, o0, o0, o0, o0, o0, o0, o0, o0, o0, o0, o0]) :: (c3, oO cn0 [(fk0, (.ref s1)), (fk1, (.int (2147483639 : Int32))), (fk2, (.ref d3)), (fk3, (.int (3 : Int32)))]) :: (d2, oA .int [o0, o0, (.int y2), o0, o0, o0, o0, o0, o0, o0, o0, o0, o0, o0, o0, o0]) :: (c2, oO cn0 [(fk0, (.ref s1)), (fk1, (.int (2147483639 : Int32))), (fk2, (.ref d2)), (fk3, (.int (3 : Int32)))]) :: (d1, oA .int [(.int f0), (.int f1), (.int f2), o0, o0, o0, o0, o0, o0, o0, o0, o0, o0, o0, o0, o0]) :: (c1, oO cn0 [(fk0, (.ref s1)), (fk1, (.int (2147483639 : Int32))), (fk2, (.ref d1)), (fk3, (.int (3 : Int32)))]) :: (d0, oA .int vs) :: (c0, oO cn0 [(fk0, (.ref s1)), (fk1, (.int (2147483639 : Int32))), (fk2, (.ref d0)), (fk3, (.int n1))]) :: (a1, oO cn1 [(fk4, (.ref c0)), (fk5, (.ref c1)), (fk6, (.ref c2)), (fk7, (.ref c3)), (fk8, (.ref c4)), (fk9, (.ref c5)), (fk10, (.ref c6))]) :: ds) = d)) := by
  refine oMet.of_body (plainFor_of_name pn_1) ?_
  intro p e s m below meth c T B hby hml hown hnm hret
  refine W_entry (ef_rm_ho002 m a1 p1) ?_
  refine W_aloadN B (hb hby d9_0) (pc' := 1) rfl rfl rfl ?_
  refine W_getfield B hown (host := "") (Or.inl (ow hw (i := 50) rfl)) Via.refl (hb hby d9_1) (pc' := 4) rfl (j := 14) rfl (q := 5) rfl ?_
  intro T B
  refine W_getfield B hown (host := "") (Or.inl (ow hw (i := 67) rfl)) Via.refl (hb hby d9_4) (pc' := 7) rfl (j := 3) rfl (q := 2) rfl ?_
  intro T B
  refine W_iloadN B (hb hby d9_7) (pc' := 8) rfl rfl ?_
  refine W_iaload B (hb hby d9_8) (pc' := 9) rfl (i := 2) rfl (by decide) (v := (.int (0 : Int32))) rfl ?_
  refine W_istoreN B (hb hby d9_9) (pc' := 10) rfl (v := (0 : Int32)) rfl (ls' := #[.val (.ref a1), .val (.int (2 : Int32)), .val (.int p1), .val (.int (0 : Int32))]) rfl ?_
  refine W_iloadN B (hb hby d9_10) (pc' := 11) rfl rfl ?_
  refine W_aloadN B (hb hby d9_11) (pc' := 12) rfl rfl rfl ?_
  refine W_getfield B hown (host := "") (Or.inl (ow hw (i := 46) rfl)) Via.refl (hb hby d9_12) (pc' := 15) rfl (j := 14) rfl (q := 3) rfl ?_
  intro T B
  refine W_getfield B hown (host := "") (Or.inl (ow hw (i := 67) rfl)) Via.refl (hb hby d9_15) (pc' := 18) rfl (j := 7) rfl (q := 2) rfl ?_
  intro T B
  refine W_iloadN B (hb hby d9_18) (pc' := 19) rfl rfl ?_
  refine W_iaload B (hb hby d9_19) (pc' := 20) rfl (i := 6) rfl (by decide) (v := (.int z0)) rfl ?_
  refine W_icmp_lt B (hb hby d9_20) (by decide) (pt := 51) (by decide) (pc' := 23) rfl (fun (c104 : p1 < z0) => ?_) (fun (c104 : ¬ p1 < z0) => ?_)
  · refine W_iloadN B (hb hby d9_51) (pc' := 52) rfl rfl ?_
    refine W_retI B hret (hb hby d9_52) (by decide) ?_
    exact Or.inl ⟨c104, rfl, rfl⟩
  refine W_iloadN B (hb hby d9_23) (pc' := 24) rfl rfl ?_
  refine W_istoreN B (hb hby d9_24) (pc' := 25) rfl (v := (2 : Int32)) rfl (ls' := #[.val (.ref a1), .val (.int (2 : Int32)), .val (.int p1), .val (.int (2 : Int32))]) rfl ?_
  refine W_iloadN B (hb hby d9_25) (pc' := 26) rfl rfl ?_
  refine W_aloadN B (hb hby d9_26) (pc' := 27) rfl rfl rfl ?_
  refine W_getfield B hown (host := "") (Or.inl (ow hw (i := 44) rfl)) Via.refl (hb hby d9_27) (pc' := 30) rfl (j := 14) rfl (q := 2) rfl ?_
  intro T B
  refine W_getfield B hown (host := "") (Or.inl (ow hw (i := 67) rfl)) Via.refl (hb hby d9_30) (pc' := 33) rfl (j := 9) rfl (q := 2) rfl ?_
  intro T B
  refine W_iloadN B (hb hby d9_33) (pc' := 34) rfl rfl ?_
  refine W_iaload B (hb hby d9_34) (pc' := 35) rfl (i := 8) rfl (by decide) (v := (.int y2)) rfl ?_
  refine W_icmp_ge B (hb hby d9_35) (by decide) (pt := 51) (by decide) (pc' := 38) rfl (fun (c105 : ¬ p1 < y2) => ?_) (fun (c105 : p1 < y2) => ?_)
  · refine W_iloadN B (hb hby d9_51) (pc' := 52) rfl rfl ?_
    refine W_retI B hret (hb hby d9_52) (by decide) ?_
    exact Or.inr (Or.inl ⟨c104, c105, rfl, rfl⟩)
  refine W_aloadN B (hb hby d9_38) (pc' := 39) rfl rfl rfl ?_
  refine W_getfield B hown (host := "") (Or.inl (ow hw (i := 48) rfl)) Via.refl (hb hby d9_39) (pc' := 42) rfl (j := 14) rfl (q := 4) rfl ?_
  intro T B
  refine W_getfield B hown (host := "") (Or.inl (ow hw (i := 67) rfl)) Via.refl (hb hby d9_42) (pc' := 45) rfl (j := 5) rfl (q := 2) rfl ?_
  intro T B
  refine W_iloadN B (hb hby d9_45) (pc' := 46) rfl rfl ?_
  refine W_iaload B (hb hby d9_46) (pc' := 47) rfl (i := 4) rfl (by decide) (v := (.int (0 : Int32))) rfl ?_
  refine W_istoreN B (hb hby d9_47) (pc' := 48) rfl (v := (0 : Int32)) rfl (ls' := #[.val (.ref a1), .val (.int (2 : Int32)), .val (.int p1), .val (.int (0 : Int32))]) rfl ?_
  refine W_goto B (hb hby d9_48) (by decide) (pc' := 25) (by decide) ?_
  refine W_iloadN B (hb hby d9_25) (pc' := 26) rfl rfl ?_
  refine W_aloadN B (hb hby d9_26) (pc' := 27) rfl rfl rfl ?_
  refine W_getfield B hown (host := "") (Or.inl (ow hw (i := 44) rfl)) Via.refl (hb hby d9_27) (pc' := 30) rfl (j := 14) rfl (q := 2) rfl ?_
  intro T B
  refine W_getfield B hown (host := "") (Or.inl (ow hw (i := 67) rfl)) Via.refl (hb hby d9_30) (pc' := 33) rfl (j := 9) rfl (q := 2) rfl ?_
  intro T B
  refine W_iloadN B (hb hby d9_33) (pc' := 34) rfl rfl ?_
  refine W_iaload B (hb hby d9_34) (pc' := 35) rfl (i := 8) rfl (by decide) (v := (.int (0 : Int32))) rfl ?_
  refine W_icmpY B (hb hby d9_35) (by decide) (pc' := 51) (by decide) (flt hp).2.1 ?_
  refine W_iloadN B (hb hby d9_51) (pc' := 52) rfl rfl ?_
  refine W_retI B hret (hb hby d9_52) (by decide) ?_
  exact Or.inr (Or.inr (⟨c104, c105, rfl, rfl⟩))
theorem ef_rm_ho010 (m : MethodId) (x0 : Addr) (x2 : Int32) : entryFrame m #[(.ref x0), (.int (0 : Int32)), (.int x2)] 4 = mkF m 0 #[.val (.ref x0), .val (.int (0 : Int32)), .val (.int x2), .unset] [] := by first | (simp [entryFrame, mkF, argsToLocals, Value.category]; done) | rfl
set_option maxRecDepth 65536 in
set_option maxHeartbeats 40000000 in
theorem rm_ho010 (l : Launch) (Z : State) (a0 : Array Value) (hw : ∀ d ∈ tables_1, d.before a0 Z = true) (h0 : Heap) {lo : Nat} (a1 : Addr) (s1 : Addr) (c0 : Addr) (d0 : Addr) (c1 : Addr) (d1 : Addr) (c2 : Addr) (d2 : Addr) (c3 : Addr) (d3 : Addr) (c4 : Addr) (d4 : Addr) (c5 : Addr) (d5 : Addr) (c6 : Addr) (d6 : Addr) (p1 : Int32) (n1 : Int32) (vs : List Value) (f0 : Int32) (f1 : Int32) (f2 : Int32) (y2 : Int32) (z0 : Int32) (z1 : Int32) (z2 : Int32) (t0 : Int32) (t1 : Int32) (t2 : Int32) (ds : oDs) (hp : ¬ p1 < (0 : Int32)) :
    oMet l Z h0 lo (⟨"com/example/tanglemark/tanglemark/datalog/SharedSets", "holder", "(II)I"⟩ : MethodName) prog_51_method_5_code 4 (some .int) [] ({ frames := 0, cells := 0, slots := 0, locals := 0 } : Room) #[(.ref a1), (.int (0 : Int32)), (.int p1)] ((d6, oA .int [(.int t0), (.int t1), (.int t2), o0, o0, o0, o0, o0, o0, o0, o0, o0, o0, o0, o0, o0]) :: (c6, oO cn0 [(fk0, (.ref s1)), (fk1, (.int (2147483639 : Int32))), (fk2, (.ref d6)), (fk3, (.int (3 : Int32)))]) :: (d5, oA .int [o0, (.int (1 : Int32)), (.int (1 : Int32)), o0, o0, o0, o0, o0, o0, o0, o0, o0, o0, o0, o0, o0]) :: (c5, oO cn0 [(fk0, (.ref s1)), (fk1, (.int (2147483639 : Int32))), (fk2, (.ref d5)), (fk3, (.int (3 : Int32)))]) :: (d4, oA .int [(.int (-1 : Int32)), (.int (-1 : Int32)), (.int (1 : Int32)), o0, o0, o0, o0, o0, o0, o0, o0, o0, o0, o0, o0, o0]) :: (c4, oO cn0 [(fk0, (.ref s1)), (fk1, (.int (2147483639 : Int32))), (fk2, (.ref d4)), (fk3, (.int (3 : Int32)))]) :: (d3, oA .int [(.int z0), (.int z1), (.int z2), o0, o0, o0, o0, o0, o0, o0, o0, o0, o0, o0, o0, o0]) :: (c3, oO cn0 [(fk0, (.ref s1)), (fk1, (.int (2147483639 : Int32))), (fk2, (.ref d3)), (fk3, (.int (3 : Int32)))]) :: (d2, oA .int [o0, o0, (.int y2), o0, o0, o0, o0, o0, o0, o0, o0, o0, o0, o0, o0, o0]) :: (c2, oO cn0 [(fk0, (.ref s1)), (fk1, (.int (2147483639 : Int32))), (fk2, (.ref d2)), (fk3, (.int (3 : Int32)))]) :: (d1, oA .int [(.int f0), (.int f1), (.int f2), o0, o0, o0, o0, o0, o0, o0, o0, o0, o0, o0, o0, o0]) :: (c1, oO cn0 [(fk0, (.ref s1)), (fk1, (.int (2147483639 : Int32))), (fk2, (.ref d1)), (fk3, (.int (3 : Int32)))]) :: (d0, oA .int vs) :: (c0, oO cn0 [(fk0, (.ref s1)), (fk1, (.int (2147483639 : Int32))), (fk2, (.ref d0)), (fk3, (.int n1))]) :: (a1, oO cn1 [(fk4, (.ref c0)), (fk5, (.ref c1)), (fk6, (.ref c2)), (fk7, (.ref c3)), (fk8, (.ref c4)), (fk9, (.ref c5)), (fk10, (.ref c6))]) :: ds) (fun (v : Option Value) (d : oDs) => ((p1 < z0) ∧ v = some (.int (0 : Int32)) ∧ ((d6, oA .int [(.int t0), (.int t1), (.int t2), o0, o0, o0, o0, o0, o0, o0, o0, o0, o0, o0, o0, o0]) :: (c6, oO cn0 [(fk0, (.ref s1)), (fk1, (.int (2147483639 : Int32))), (fk2, (.ref d6)), (fk3, (.int (3 : Int32)))]) :: (d5, oA .int [o0, (.int (1 : Int32)), (.int (1 : Int32)), o0, o0, o0, o0, o0, o0, o0, o0, o0, o0, o0, o0, o0]) :: (c5, oO cn0 [(fk0, (.ref s1)), (fk1, (.int (2147483639 : Int32))), (fk2, (.ref d5)), (fk3, (.int (3 : Int32)))]) :: (d4, oA .int [(.int (-1 : Int32)), (.int (-1 : Int32)), (.int (1 : Int32)), o0, o0, o0, o0, o0, o0, o0, o0, o0, o0, o0, o0, o0]) :: (c4, oO cn0 [(fk0, (.ref s1)), (fk1, (.int (2147483639 : Int32))), (fk2, (.ref d4)), (fk3, (.int (3 : Int32)))]) :: (d3, oA .int [(.int z0), (.int z1), (.int z2), o0, o0, o0, o0, o0, o0, o0, o0, o0, o0, o0, o0, o0]) :: (c3, oO cn0 [(fk0, (.ref s1)), (fk1, (.int (2147483639 : Int32))), (fk2, (.ref d3)), (fk3, (.int (3 : Int32)))]) :: (d2, oA .int [o0, o0, (.int y2), o0, o0, o0, o0, o0, o0, o0, o0, o0, o0, o0, o0, o0]) :: (c2, oO cn0 [(fk0, (.ref s1)), (fk1, (.int (2147483639 : Int32))), (fk2, (.ref d2)), (fk3, (.int (3 : Int32)))]) :: (d1, oA .int [(.int f0), (.int f1), (.int f2), o0, o0, o0, o0, o0, o0, o0, o0, o0, o0, o0, o0, o0]) :: (c1, oO cn0 [(fk0, (.ref s1)), (fk1, (.int (2147483639 : Int32))), (fk2, (.ref d1)), (fk3, (.int (3 : Int32)))]) :: (d0, oA .int vs) :: (c0, oO cn0 [(fk0, (.ref s1)), (fk1, (.int (2147483639 : Int32))), (fk2, (.ref d0)), (fk3, (.int n1))]) :: (a1, oO cn1 [(fk4, (.ref c0)), (fk5, (.ref c1)), (fk6, (.ref c2)), (fk7, (.ref c3)), (fk8, (.ref c4)), (fk9, (.ref c5)), (fk10, (.ref c6))]) :: ds) = d) ∨ ((¬ p1 < z0) ∧ v = some (.int (0 : Int32)) ∧ ((d6, oA .int [(.int t0), (.int t1), (.int t2), o0, o0, o0, o0, o0, o0, o0, o0, o0, o0, o0, o0, o0]) :: (c6, oO cn0 [(fk0, (.ref s1)), (fk1, (.int (2147483639 : Int32))), (fk2, (.ref d6)), (fk3, (.int (3 : Int32)))]) :: (d5, oA .int [o0, (.int (1 : Int32)), (.int (1 : Int32)), o0, o0, o0, o0, o0, o0, o0, o0, o0, o0, o0, o0, o0]) :: (c5, oO cn0 [(fk0, (.ref s1)), (fk1, (.int (2147483639 : Int32))), (fk2, (.ref d5)), (fk3, (.int (3 : Int32)))]) :: (d4, oA .int [(.int (-1 : Int32)), (.int (-1 : Int32)), (.int (1 : Int32)), o0, o0, o0, o0, o0, o0, o0, o0, o0, o0, o0, o0, o0]) :: (c4, oO cn0 [(fk0, (.ref s1)), (fk1, (.int (2147483639 : Int32))), (fk2, (.ref d4)), (fk3, (.int (3 : Int32)))]) :: (d3, oA .int [(.int z0), (.int z1), (.int z2), o0, o0, o0, o0, o0, o0, o0, o0, o0, o0, o0, o0, o0]) :: (c3, oO cn0 [(fk0, (.ref s1)), (fk1, (.int (2147483639 : Int32))), (fk2, (.ref d3)), (fk3, (.int (3 : Int32)))]) :: (d2, oA .int [o0, o0, (.int y2), o0, o0, o0, o0, o0, o0, o0, o0, o0, o0, o0, o0, o0]) :: (c2, oO cn0 [(fk0, (.ref s1)), (fk1, (.int (2147483639 : Int32))), (fk2, (.ref d2)), (fk3, (.int (3 : Int32)))]) :: (d1, oA .int [(.int f0), (.int f1), (.int f2), o0, o0, o0, o0, o0, o0, o0, o0, o0, o0, o0, o0, o0]) :: (c1, oO cn0 [(fk0, (.ref s1)), (fk1, (.int (2147483639 : Int32))), (fk2, (.ref d1)), (fk3, (.int (3 : Int32)))]) :: (d0, oA .int vs) :: (c0, oO cn0 [(fk0, (.ref s1)), (fk1, (.int (2147483639 : Int32))), (fk2, (.ref d0)), (fk3, (.int n1))]) :: (a1, oO cn1 [(fk4, (.ref c0)), (fk5, (.ref c1)), (fk6, (.ref c2)), (fk7, (.ref c3)), (fk8, (.ref c4)), (fk9, (.ref c5)), (fk10, (.ref c6))]) :: ds) = d)) := by
  refine oMet.of_body (plainFor_of_name pn_1) ?_
  intro p e s m below meth c T B hby hml hown hnm hret
  refine W_entry (ef_rm_ho010 m a1 p1) ?_
  refine W_aloadN B (hb hby d9_0) (pc' := 1) rfl rfl rfl ?_
  refine W_getfield B hown (host := "") (Or.inl (ow hw (i := 50) rfl)) Via.refl (hb hby d9_1) (pc' := 4) rfl (j := 14) rfl (q := 5) rfl ?_
  intro T B
  refine W_getfield B hown (host := "") (Or.inl (ow hw (i := 67) rfl)) Via.refl (hb hby d9_4) (pc' := 7) rfl (j := 3) rfl (q := 2) rfl ?_
  intro T B
  refine W_iloadN B (hb hby d9_7) (pc' := 8) rfl rfl ?_
  refine W_iaload B (hb hby d9_8) (pc' := 9) rfl (i := 2) rfl (by decide) (v := (.int (0 : Int32))) rfl ?_
  refine W_istoreN B (hb hby d9_9) (pc' := 10) rfl (v := (0 : Int32)) rfl (ls' := #[.val (.ref a1), .val (.int (0 : Int32)), .val (.int p1), .val (.int (0 : Int32))]) rfl ?_
  refine W_iloadN B (hb hby d9_10) (pc' := 11) rfl rfl ?_
  refine W_aloadN B (hb hby d9_11) (pc' := 12) rfl rfl rfl ?_
  refine W_getfield B hown (host := "") (Or.inl (ow hw (i := 46) rfl)) Via.refl (hb hby d9_12) (pc' := 15) rfl (j := 14) rfl (q := 3) rfl ?_
  intro T B
  refine W_getfield B hown (host := "") (Or.inl (ow hw (i := 67) rfl)) Via.refl (hb hby d9_15) (pc' := 18) rfl (j := 7) rfl (q := 2) rfl ?_
  intro T B
  refine W_iloadN B (hb hby d9_18) (pc' := 19) rfl rfl ?_
  refine W_iaload B (hb hby d9_19) (pc' := 20) rfl (i := 6) rfl (by decide) (v := (.int z0)) rfl ?_
  refine W_icmp_lt B (hb hby d9_20) (by decide) (pt := 51) (by decide) (pc' := 23) rfl (fun (c106 : p1 < z0) => ?_) (fun (c106 : ¬ p1 < z0) => ?_)
  · refine W_iloadN B (hb hby d9_51) (pc' := 52) rfl rfl ?_
    refine W_retI B hret (hb hby d9_52) (by decide) ?_
    exact Or.inl ⟨c106, rfl, rfl⟩
  refine W_iloadN B (hb hby d9_23) (pc' := 24) rfl rfl ?_
  refine W_istoreN B (hb hby d9_24) (pc' := 25) rfl (v := (0 : Int32)) rfl (ls' := #[.val (.ref a1), .val (.int (0 : Int32)), .val (.int p1), .val (.int (0 : Int32))]) rfl ?_
  refine W_iloadN B (hb hby d9_25) (pc' := 26) rfl rfl ?_
  refine W_aloadN B (hb hby d9_26) (pc' := 27) rfl rfl rfl ?_
  refine W_getfield B hown (host := "") (Or.inl (ow hw (i := 44) rfl)) Via.refl (hb hby d9_27) (pc' := 30) rfl (j := 14) rfl (q := 2) rfl ?_
  intro T B
  refine W_getfield B hown (host := "") (Or.inl (ow hw (i := 67) rfl)) Via.refl (hb hby d9_30) (pc' := 33) rfl (j := 9) rfl (q := 2) rfl ?_
  intro T B
  refine W_iloadN B (hb hby d9_33) (pc' := 34) rfl rfl ?_
  refine W_iaload B (hb hby d9_34) (pc' := 35) rfl (i := 8) rfl (by decide) (v := (.int (0 : Int32))) rfl ?_
  refine W_icmpY B (hb hby d9_35) (by decide) (pc' := 51) (by decide) (flt hp).2.1 ?_
  refine W_iloadN B (hb hby d9_51) (pc' := 52) rfl rfl ?_
  refine W_retI B hret (hb hby d9_52) (by decide) ?_
  exact Or.inr (⟨c106, rfl, rfl⟩)
theorem ef_rm_ho011 (m : MethodId) (x0 : Addr) (x2 : Int32) : entryFrame m #[(.ref x0), (.int (1 : Int32)), (.int x2)] 4 = mkF m 0 #[.val (.ref x0), .val (.int (1 : Int32)), .val (.int x2), .unset] [] := by first | (simp [entryFrame, mkF, argsToLocals, Value.category]; done) | rfl
set_option maxRecDepth 65536 in
set_option maxHeartbeats 40000000 in
theorem rm_ho011 (l : Launch) (Z : State) (a0 : Array Value) (hw : ∀ d ∈ tables_1, d.before a0 Z = true) (h0 : Heap) {lo : Nat} (a1 : Addr) (s1 : Addr) (c0 : Addr) (d0 : Addr) (c1 : Addr) (d1 : Addr) (c2 : Addr) (d2 : Addr) (c3 : Addr) (d3 : Addr) (c4 : Addr) (d4 : Addr) (c5 : Addr) (d5 : Addr) (c6 : Addr) (d6 : Addr) (p1 : Int32) (n1 : Int32) (vs : List Value) (f0 : Int32) (f1 : Int32) (f2 : Int32) (y2 : Int32) (z0 : Int32) (z1 : Int32) (z2 : Int32) (t0 : Int32) (t1 : Int32) (t2 : Int32) (ds : oDs) (hp : ¬ p1 < (0 : Int32)) :
    oMet l Z h0 lo (⟨"com/example/tanglemark/tanglemark/datalog/SharedSets", "holder", "(II)I"⟩ : MethodName) prog_51_method_5_code 4 (some .int) [] ({ frames := 0, cells := 0, slots := 0, locals := 0 } : Room) #[(.ref a1), (.int (1 : Int32)), (.int p1)] ((d6, oA .int [(.int t0), (.int t1), (.int t2), o0, o0, o0, o0, o0, o0, o0, o0, o0, o0, o0, o0, o0]) :: (c6, oO cn0 [(fk0, (.ref s1)), (fk1, (.int (2147483639 : Int32))), (fk2, (.ref d6)), (fk3, (.int (3 : Int32)))]) :: (d5, oA .int [o0, (.int (1 : Int32)), (.int (1 : Int32)), o0, o0, o0, o0, o0, o0, o0, o0, o0, o0, o0, o0, o0]) :: (c5, oO cn0 [(fk0, (.ref s1)), (fk1, (.int (2147483639 : Int32))), (fk2, (.ref d5)), (fk3, (.int (3 : Int32)))]) :: (d4, oA .int [(.int (-1 : Int32)), (.int (-1 : Int32)), (.int (1 : Int32)), o0, o0, o0, o0, o0, o0, o0, o0, o0, o0, o0, o0, o0]) :: (c4, oO cn0 [(fk0, (.ref s1)), (fk1, (.int (2147483639 : Int32))), (fk2, (.ref d4)), (fk3, (.int (3 : Int32)))]) :: (d3, oA .int [(.int z0), (.int z1), (.int z2), o0, o0, o0, o0, o0, o0, o0, o0, o0, o0, o0, o0, o0]) :: (c3, oO cn0 [(fk0, (.ref s1)), (fk1, (.int (2147483639 : Int32))), (fk2, (.ref d3)), (fk3, (.int (3 : Int32)))]) :: (d2, oA .int [o0, o0, (.int y2), o0, o0, o0, o0, o0, o0, o0, o0, o0, o0, o0, o0, o0]) :: (c2, oO cn0 [(fk0, (.ref s1)), (fk1, (.int (2147483639 : Int32))), (fk2, (.ref d2)), (fk3, (.int (3 : Int32)))]) :: (d1, oA .int [(.int f0), (.int f1), (.int f2), o0, o0, o0, o0, o0, o0, o0, o0, o0, o0, o0, o0, o0]) :: (c1, oO cn0 [(fk0, (.ref s1)), (fk1, (.int (2147483639 : Int32))), (fk2, (.ref d1)), (fk3, (.int (3 : Int32)))]) :: (d0, oA .int vs) :: (c0, oO cn0 [(fk0, (.ref s1)), (fk1, (.int (2147483639 : Int32))), (fk2, (.ref d0)), (fk3, (.int n1))]) :: (a1, oO cn1 [(fk4, (.ref c0)), (fk5, (.ref c1)), (fk6, (.ref c2)), (fk7, (.ref c3)), (fk8, (.ref c4)), (fk9, (.ref c5)), (fk10, (.ref c6))]) :: ds) (fun (v : Option Value) (d : oDs) => ((p1 < z1) ∧ v = some (.int (1 : Int32)) ∧ ((d6, oA .int [(.int t0), (.int t1), (.int t2), o0, o0, o0, o0, o0, o0, o0, o0, o0, o0, o0, o0, o0]) :: (c6, oO cn0 [(fk0, (.ref s1)), (fk1, (.int (2147483639 : Int32))), (fk2, (.ref d6)), (fk3, (.int (3 : Int32)))]) :: (d5, oA .int [o0, (.int (1 : Int32)), (.int (1 : Int32)), o0, o0, o0, o0, o0, o0, o0, o0, o0, o0, o0, o0, o0]) :: (c5, oO cn0 [(fk0, (.ref s1)), (fk1, (.int (2147483639 : Int32))), (fk2, (.ref d5)), (fk3, (.int (3 : Int32)))]) :: (d4, oA .int [(.int (-1 : Int32)), (.int (-1 : Int32)), (.int (1 : Int32)), o0, o0, o0, o0, o0, o0, o0, o0, o0, o0, o0, o0, o0]) :: (c4, oO cn0 [(fk0, (.ref s1)), (fk1, (.int (2147483639 : Int32))), (fk2, (.ref d4)), (fk3, (.int (3 : Int32)))]) :: (d3, oA .int [(.int z0), (.int z1), (.int z2), o0, o0, o0, o0, o0, o0, o0, o0, o0, o0, o0, o0, o0]) :: (c3, oO cn0 [(fk0, (.ref s1)), (fk1, (.int (2147483639 : Int32))), (fk2, (.ref d3)), (fk3, (.int (3 : Int32)))]) :: (d2, oA .int [o0, o0, (.int y2), o0, o0, o0, o0, o0, o0, o0, o0, o0, o0, o0, o0, o0]) :: (c2, oO cn0 [(fk0, (.ref s1)), (fk1, (.int (2147483639 : Int32))), (fk2, (.ref d2)), (fk3, (.int (3 : Int32)))]) :: (d1, oA .int [(.int f0), (.int f1), (.int f2), o0, o0, o0, o0, o0, o0, o0, o0, o0, o0, o0, o0, o0]) :: (c1, oO cn0 [(fk0, (.ref s1)), (fk1, (.int (2147483639 : Int32))), (fk2, (.ref d1)), (fk3, (.int (3 : Int32)))]) :: (d0, oA .int vs) :: (c0, oO cn0 [(fk0, (.ref s1)), (fk1, (.int (2147483639 : Int32))), (fk2, (.ref d0)), (fk3, (.int n1))]) :: (a1, oO cn1 [(fk4, (.ref c0)), (fk5, (.ref c1)), (fk6, (.ref c2)), (fk7, (.ref c3)), (fk8, (.ref c4)), (fk9, (.ref c5)), (fk10, (.ref c6))]) :: ds) = d) ∨ ((¬ p1 < z1) ∧ v = some (.int (1 : Int32)) ∧ ((d6, oA .int [(.int t0), (.int t1), (.int t2), o0, o0, o0, o0, o0, o0, o0, o0, o0, o0, o0, o0, o0]) :: (c6, oO cn0 [(fk0, (.ref s1)), (fk1, (.int (2147483639 : Int32))), (fk2, (.ref d6)), (fk3, (.int (3 : Int32)))]) :: (d5, oA .int [o0, (.int (1 : Int32)), (.int (1 : Int32)), o0, o0, o0, o0, o0, o0, o0, o0, o0, o0, o0, o0, o0]) :: (c5, oO cn0 [(fk0, (.ref s1)), (fk1, (.int (2147483639 : Int32))), (fk2, (.ref d5)), (fk3, (.int (3 : Int32)))]) :: (d4, oA .int [(.int (-1 : Int32)), (.int (-1 : Int32)), (.int (1 : Int32)), o0, o0, o0, o0, o0, o0, o0, o0, o0, o0, o0, o0, o0]) :: (c4, oO cn0 [(fk0, (.ref s1)), (fk1, (.int (2147483639 : Int32))), (fk2, (.ref d4)), (fk3, (.int (3 : Int32)))]) :: (d3, oA .int [(.int z0), (.int z1), (.int z2), o0, o0, o0, o0, o0, o0, o0, o0, o0, o0, o0, o0, o0]) :: (c3, oO cn0 [(fk0, (.ref s1)), (fk1, (.int (2147483639 : Int32))), (fk2, (.ref d3)), (fk3, (.int (3 : Int32)))]) :: (d2, oA .int [o0, o0, (.int y2), o0, o0, o0, o0, o0, o0, o0, o0, o0, o0, o0, o0, o0]) :: (c2, oO cn0 [(fk0, (.ref s1)), (fk1, (.int (2147483639 : Int32))), (fk2, (.ref d2)), (fk3, (.int (3 : Int32)))]) :: (d1, oA .int [(.int f0), (.int f1), (.int f2), o0, o0, o0, o0, o0, o0, o0, o0, o0, o0, o0, o0, o0]) :: (c1, oO cn0 [(fk0, (.ref s1)), (fk1, (.int (2147483639 : Int32))), (fk2, (.ref d1)), (fk3, (.int (3 : Int32)))]) :: (d0, oA .int vs) :: (c0, oO cn0 [(fk0, (.ref s1)), (fk1, (.int (2147483639 : Int32))), (fk2, (.ref d0)), (fk3, (.int n1))]) :: (a1, oO cn1 [(fk4, (.ref c0)), (fk5, (.ref c1)), (fk6, (.ref c2)), (fk7, (.ref c3)), (fk8, (.ref c4)), (fk9, (.ref c5)), (fk10, (.ref c6))]) :: ds) = d)) := by
  refine oMet.of_body (plainFor_of_name pn_1) ?_
  intro p e s m below meth c T B hby hml hown hnm hret
  refine W_entry (ef_rm_ho011 m a1 p1) ?_
  refine W_aloadN B (hb hby d9_0) (pc' := 1) rfl rfl rfl ?_
  refine W_getfield B hown (host := "") (Or.inl (ow hw (i := 50) rfl)) Via.refl (hb hby d9_1) (pc' := 4) rfl (j := 14) rfl (q := 5) rfl ?_
  intro T B
  refine W_getfield B hown (host := "") (Or.inl (ow hw (i := 67) rfl)) Via.refl (hb hby d9_4) (pc' := 7) rfl (j := 3) rfl (q := 2) rfl ?_
  intro T B
  refine W_iloadN B (hb hby d9_7) (pc' := 8) rfl rfl ?_
  refine W_iaload B (hb hby d9_8) (pc' := 9) rfl (i := 2) rfl (by decide) (v := (.int (1 : Int32))) rfl ?_
  refine W_istoreN B (hb hby d9_9) (pc' := 10) rfl (v := (1 : Int32)) rfl (ls' := #[.val (.ref a1), .val (.int (1 : Int32)), .val (.int p1), .val (.int (1 : Int32))]) rfl ?_
  refine W_iloadN B (hb hby d9_10) (pc' := 11) rfl rfl ?_
  refine W_aloadN B (hb hby d9_11) (pc' := 12) rfl rfl rfl ?_
  refine W_getfield B hown (host := "") (Or.inl (ow hw (i := 46) rfl)) Via.refl (hb hby d9_12) (pc' := 15) rfl (j := 14) rfl (q := 3) rfl ?_
  intro T B
  refine W_getfield B hown (host := "") (Or.inl (ow hw (i := 67) rfl)) Via.refl (hb hby d9_15) (pc' := 18) rfl (j := 7) rfl (q := 2) rfl ?_
  intro T B
  refine W_iloadN B (hb hby d9_18) (pc' := 19) rfl rfl ?_
  refine W_iaload B (hb hby d9_19) (pc' := 20) rfl (i := 6) rfl (by decide) (v := (.int z1)) rfl ?_
  refine W_icmp_lt B (hb hby d9_20) (by decide) (pt := 51) (by decide) (pc' := 23) rfl (fun (c107 : p1 < z1) => ?_) (fun (c107 : ¬ p1 < z1) => ?_)
  · refine W_iloadN B (hb hby d9_51) (pc' := 52) rfl rfl ?_
    refine W_retI B hret (hb hby d9_52) (by decide) ?_
    exact Or.inl ⟨c107, rfl, rfl⟩
  refine W_iloadN B (hb hby d9_23) (pc' := 24) rfl rfl ?_
  refine W_istoreN B (hb hby d9_24) (pc' := 25) rfl (v := (1 : Int32)) rfl (ls' := #[.val (.ref a1), .val (.int (1 : Int32)), .val (.int p1), .val (.int (1 : Int32))]) rfl ?_
  refine W_iloadN B (hb hby d9_25) (pc' := 26) rfl rfl ?_
  refine W_aloadN B (hb hby d9_26) (pc' := 27) rfl rfl rfl ?_
  refine W_getfield B hown (host := "") (Or.inl (ow hw (i := 44) rfl)) Via.refl (hb hby d9_27) (pc' := 30) rfl (j := 14) rfl (q := 2) rfl ?_
  intro T B
  refine W_getfield B hown (host := "") (Or.inl (ow hw (i := 67) rfl)) Via.refl (hb hby d9_30) (pc' := 33) rfl (j := 9) rfl (q := 2) rfl ?_
  intro T B
  refine W_iloadN B (hb hby d9_33) (pc' := 34) rfl rfl ?_
  refine W_iaload B (hb hby d9_34) (pc' := 35) rfl (i := 8) rfl (by decide) (v := (.int (0 : Int32))) rfl ?_
  refine W_icmpY B (hb hby d9_35) (by decide) (pc' := 51) (by decide) (flt hp).2.1 ?_
  refine W_iloadN B (hb hby d9_51) (pc' := 52) rfl rfl ?_
  refine W_retI B hret (hb hby d9_52) (by decide) ?_
  exact Or.inr (⟨c107, rfl, rfl⟩)
theorem ef_rm_ho012 (m : MethodId) (x0 : Addr) (x2 : Int32) : entryFrame m #[(.ref x0), (.int (2 : Int32)), (.int x2)] 4 = mkF m 0 #[.val (.ref x0), .val (.int (2 : Int32)), .val (.int x2), .unset] [] := by first | (simp [entryFrame, mkF, argsToLocals, Value.category]; done) | rfl
set_option maxRecDepth 65536 in
set_option maxHeartbeats 40000000 in
theorem rm_ho012 (l : Launch) (Z : State) (a0 : Array Value) (hw : ∀ d ∈ tables_1, d.before a0 Z = true) (h0 : Heap) {lo : Nat} (a1 : Addr) (s1 : Addr) (c0 : Addr) (d0 : Addr) (c1 : Addr) (d1 : Addr) (c2 : Addr) (d2 : Addr) (c3 : Addr) (d3 : Addr) (c4 : Addr) (d4 : Addr) (c5 : Addr) (d5 : Addr) (c6 : Addr) (d6 : Addr) (p1 : Int32) (n1 : Int32) (vs : List Value) (f0 : Int32) (f1 : Int32) (f2 : Int32) (y2 : Int32) (z0 : Int32) (z1 : Int32) (z2 : Int32) (t0 : Int32) (t1 : Int32) (t2 : Int32) (ds : oDs) (hp : ¬ p1 < (0 : Int32)) :
    oMet l Z h0 lo (⟨"com/example/tanglemark/tanglemark/datalog/SharedSets", "holder", "(II)I"⟩ : MethodName) prog_51_method_5_code 4 (some .int) [] ({ frames := 0, cells := 0, slots := 0, locals := 0 } : Room) #[(.ref a1), (.int (2 : Int32)), (.int p1)] ((d6, oA .int [(.int t0), (.int t1), (.int t2), o0, o0, o0, o0, o0, o0, o0, o0, o0, o0, o0, o0, o0]) :: (c6, oO cn0 [(fk0, (.ref s1)), (fk1, (.int (2147483639 : Int32))), (fk2, (.ref d6)), (fk3, (.int (3 : Int32)))]) :: (d5, oA .int [o0, (.int (1 : Int32)), (.int (1 : Int32)), o0, o0, o0, o0, o0, o0, o0, o0, o0, o0, o0, o0, o0]) :: (c5, oO cn0 [(fk0, (.ref s1)), (fk1, (.int (2147483639 : Int32))), (fk2, (.ref d5)), (fk3, (.int (3 : Int32)))]) :: (d4, oA .int [(.int (-1 : Int32)), (.int (-1 : Int32)), (.int (1 : Int32)), o0, o0, o0, o0, o0, o0, o0, o0, o0, o0, o0, o0, o0]) :: (c4, oO cn0 [(fk0, (.ref s1)), (fk1, (.int (2147483639 : Int32))), (fk2, (.ref d4)), (fk3, (.int (3 : Int32)))]) :: (d3, oA .int [(.int z0), (.int z1), (.int z2), o0, o0, o0, o0, o0, o0, o0, o0, o0, o0, o0, o0, o0]) :: (c3, oO cn0 [(fk0, (.ref s1)), (fk1, (.int (2147483639 : Int32))), (fk2, (.ref d3)), (fk3, (.int (3 : Int32)))]) :: (d2, oA .int [o0, o0, (.int y2), o0, o0, o0, o0, o0, o0, o0, o0, o0, o0, o0, o0, o0]) :: (c2, oO cn0 [(fk0, (.ref s1)), (fk1, (.int (2147483639 : Int32))), (fk2, (.ref d2)), (fk3, (.int (3 : Int32)))]) :: (d1, oA .int [(.int f0), (.int f1), (.int f2), o0, o0, o0, o0, o0, o0, o0, o0, o0, o0, o0, o0, o0]) :: (c1, oO cn0 [(fk0, (.ref s1)), (fk1, (.int (2147483639 : Int32))), (fk2, (.ref d1)), (fk3, (.int (3 : Int32)))]) :: (d0, oA .int vs) :: (c0, oO cn0 [(fk0, (.ref s1)), (fk1, (.int (2147483639 : Int32))), (fk2, (.ref d0)), (fk3, (.int n1))]) :: (a1, oO cn1 [(fk4, (.ref c0)), (fk5, (.ref c1)), (fk6, (.ref c2)), (fk7, (.ref c3)), (fk8, (.ref c4)), (fk9, (.ref c5)), (fk10, (.ref c6))]) :: ds) (fun (v : Option Value) (d : oDs) => ((p1 < z1) ∧ v = some (.int (1 : Int32)) ∧ ((d6, oA .int [(.int t0), (.int t1), (.int t2), o0, o0, o0, o0, o0, o0, o0, o0, o0, o0, o0, o0, o0]) :: (c6, oO cn0 [(fk0, (.ref s1)), (fk1, (.int (2147483639 : Int32))), (fk2, (.ref d6)), (fk3, (.int (3 : Int32)))]) :: (d5, oA .int [o0, (.int (1 : Int32)), (.int (1 : Int32)), o0, o0, o0, o0, o0, o0, o0, o0, o0, o0, o0, o0, o0]) :: (c5, oO cn0 [(fk0, (.ref s1)), (fk1, (.int (2147483639 : Int32))), (fk2, (.ref d5)), (fk3, (.int (3 : Int32)))]) :: (d4, oA .int [(.int (-1 : Int32)), (.int (-1 : Int32)), (.int (1 : Int32)), o0, o0, o0, o0, o0, o0, o0, o0, o0, o0, o0, o0, o0]) :: (c4, oO cn0 [(fk0, (.ref s1)), (fk1, (.int (2147483639 : Int32))), (fk2, (.ref d4)), (fk3, (.int (3 : Int32)))]) :: (d3, oA .int [(.int z0), (.int z1), (.int z2), o0, o0, o0, o0, o0, o0, o0, o0, o0, o0, o0, o0, o0]) :: (c3, oO cn0 [(fk0, (.ref s1)), (fk1, (.int (2147483639 : Int32))), (fk2, (.ref d3)), (fk3, (.int (3 : Int32)))]) :: (d2, oA .int [o0, o0, (.int y2), o0, o0, o0, o0, o0, o0, o0, o0, o0, o0, o0, o0, o0]) :: (c2, oO cn0 [(fk0, (.ref s1)), (fk1, (.int (2147483639 : Int32))), (fk2, (.ref d2)), (fk3, (.int (3 : Int32)))]) :: (d1, oA .int [(.int f0), (.int f1), (.int f2), o0, o0, o0, o0, o0, o0, o0, o0, o0, o0, o0, o0, o0]) :: (c1, oO cn0 [(fk0, (.ref s1)), (fk1, (.int (2147483639 : Int32))), (fk2, (.ref d1)), (fk3, (.int (3 : Int32)))]) :: (d0, oA .int vs) :: (c0, oO cn0 [(fk0, (.ref s1)), (fk1, (.int (2147483639 : Int32))), (fk2, (.ref d0)), (fk3, (.int n1))]) :: (a1, oO cn1 [(fk4, (.ref c0)), (fk5, (.ref c1)), (fk6, (.ref c2)), (fk7, (.ref c3)), (fk8, (.ref c4)), (fk9, (.ref c5)), (fk10, (.ref c6))]) :: ds) = d) ∨ ((¬ p1 < z1) ∧ (¬ p1 < y2) ∧ v = some (.int (2 : Int32)) ∧ ((d6, oA .int [(.int t0), (.int t1), (.int t2), o0, o0, o0, o0, o0, o0, o0, o0, o0, o0, o0, o0, o0]) :: (c6, oO cn0 [(fk0, (.ref s1)), (fk1, (.int (2147483639 : Int32))), (fk2, (.ref d6)), (fk3, (.int (3 : Int32)))]) :: (d5, oA .int [o0, (.int (1 : Int32)), (.int (1 : Int32)), o0, o0, o0, o0, o0, o0, o0, o0, o0, o0, o0, o0, o0]) :: (c5, oO cn0 [(fk0, (.ref s1)), (fk1, (.int (2147483639 : Int32))), (fk2, (.ref d5)), (fk3, (.int (3 : Int32)))]) :: (d4, oA .int [(.int (-1 : Int32)), (.int (-1 : Int32)), (.int (1 : Int32)), o0, o0, o0, o0, o0, o0, o0, o0, o0, o0, o0, o0, o0]) :: (c4, oO cn0 [(fk0, (.ref s1)), (fk1, (.int (2147483639 : Int32))), (fk2, (.ref d4)), (fk3, (.int (3 : Int32)))]) :: (d3, oA .int [(.int z0), (.int z1), (.int z2), o0, o0, o0, o0, o0, o0, o0, o0, o0, o0, o0, o0, o0]) :: (c3, oO cn0 [(fk0, (.ref s1)), (fk1, (.int (2147483639 : Int32))), (fk2, (.ref d3)), (fk3, (.int (3 : Int32)))]) :: (d2, oA .int [o0, o0, (.int y2), o0, o0, o0, o0, o0, o0, o0, o0, o0, o0, o0, o0, o0]) :: (c2, oO cn0 [(fk0, (.ref s1)), (fk1, (.int (2147483639 : Int32))), (fk2, (.ref d2)), (fk3, (.int (3 : Int32)))]) :: (d1, oA .int [(.int f0), (.int f1), (.int f2), o0, o0, o0, o0, o0, o0, o0, o0, o0, o0, o0, o0, o0]) :: (c1, oO cn0 [(fk0, (.ref s1)), (fk1, (.int (2147483639 : Int32))), (fk2, (.ref d1)), (fk3, (.int (3 : Int32)))]) :: (d0, oA .int vs) :: (c0, oO cn0 [(fk0, (.ref s1)), (fk1, (.int (2147483639 : Int32))), (fk2, (.ref d0)), (fk3, (.int n1))]) :: (a1, oO cn1 [(fk4, (.ref c0)), (fk5, (.ref c1)), (fk6, (.ref c2)), (fk7, (.ref c3)), (fk8, (.ref c4)), (fk9, (.ref c5)), (fk10, (.ref c6))]) :: ds) = d) ∨ ((¬ p1 < z1) ∧ (p1 < y2) ∧ v = some (.int (1 : Int32)) ∧ ((d6, oA .int [(.int t0), (.int t1), (.int t2), o0, o0, o0, o0, o0, o0, o0, o0, o0, o0, o0, o0, o0]) :: (c6, oO cn0 [(fk0, (.ref s1)), (fk1, (.int (2147483639 : Int32))), (fk2, (.ref d6)), (fk3, (.int (3 : Int32)))]) :: (d5, oA .int [o0, (.int (1 : Int32)), (.int (1 : Int32)), o0, o0, o0, o0, o0, o0, o0, o0, o0, o0, o0, o0, o0]) :: (c5, oO cn0 [(fk0, (.ref s1)), (fk1, (.int (2147483639 : Int32))), (fk2, (.ref d5)), (fk3, (.int (3 : Int32)))]) :: (d4, oA .int [(.int (-1 : Int32)), (.int (-1 : Int32)), (.int (1 : Int32)), o0, o0, o0, o0, o0, o0, o0, o0, o0, o0, o0, o0, o0]) :: (c4, oO cn0 [(fk0, (.ref s1)), (fk1, (.int (2147483639 : Int32))), (fk2, (.ref d4)), (fk3, (.int (3 : Int32)))]) :: (d3, oA .int [(.int z0), (.int z1), (.int z2), o0, o0, o0, o0, o0, o0, o0, o0, o0, o0, o0, o0, o0]) :: (c3, oO cn0 [(fk0, (.ref s1)), (fk1, (.int (2147483639 : Int32))), (fk2, (.ref d3)), (fk3, (.int (3 : Int32)))]) :: (d2, oA .int [o0, o0, (.int y2), o0, o0, o0, o0, o0, o0, o0, o0, o0, o0, o0, o0, o0]) :: (c2, oO cn0 [(fk0, (.ref s1)), (fk1, (.int (2147483639 : Int32))), (fk2, (.ref d2)), (fk3, (.int (3 : Int32)))]) :: (d1, oA .int [(.int f0), (.int f1), (.int f2), o0, o0, o0, o0, o0, o0, o0, o0, o0, o0, o0, o0, o0]) :: (c1, oO cn0 [(fk0, (.ref s1)), (fk1, (.int (2147483639 : Int32))), (fk2, (.ref d1)), (fk3, (.int (3 : Int32)))]) :: (d0, oA .int vs) :: (c0, oO cn0 [(fk0, (.ref s1)), (fk1, (.int (2147483639 : Int32))), (fk2, (.ref d0)), (fk3, (.int n1))]) :: (a1, oO cn1 [(fk4, (.ref c0)), (fk5, (.ref c1)), (fk6, (.ref c2)), (fk7, (.ref c3)), (fk8, (.ref c4)), (fk9, (.ref c5)), (fk10, (.ref c6))]) :: ds) = d)) := by
  refine oMet.of_body (plainFor_of_name pn_1) ?_
  intro p e s m below meth c T B hby hml hown hnm hret
  refine W_entry (ef_rm_ho012 m a1 p1) ?_
  refine W_aloadN B (hb hby d9_0) (pc' := 1) rfl rfl rfl ?_
  refine W_getfield B hown (host := "") (Or.inl (ow hw (i := 50) rfl)) Via.refl (hb hby d9_1) (pc' := 4) rfl (j := 14) rfl (q := 5) rfl ?_
  intro T B
  refine W_getfield B hown (host := "") (Or.inl (ow hw (i := 67) rfl)) Via.refl (hb hby d9_4) (pc' := 7) rfl (j := 3) rfl (q := 2) rfl ?_
  intro T B
  refine W_iloadN B (hb hby d9_7) (pc' := 8) rfl rfl ?_
  refine W_iaload B (hb hby d9_8) (pc' := 9) rfl (i := 2) rfl (by decide) (v := (.int (1 : Int32))) rfl ?_
  refine W_istoreN B (hb hby d9_9) (pc' := 10) rfl (v := (1 : Int32)) rfl (ls' := #[.val (.ref a1), .val (.int (2 : Int32)), .val (.int p1), .val (.int (1 : Int32))]) rfl ?_
  refine W_iloadN B (hb hby d9_10) (pc' := 11) rfl rfl ?_
  refine W_aloadN B (hb hby d9_11) (pc' := 12) rfl rfl rfl ?_
  refine W_getfield B hown (host := "") (Or.inl (ow hw (i := 46) rfl)) Via.refl (hb hby d9_12) (pc' := 15) rfl (j := 14) rfl (q := 3) rfl ?_
  intro T B
  refine W_getfield B hown (host := "") (Or.inl (ow hw (i := 67) rfl)) Via.refl (hb hby d9_15) (pc' := 18) rfl (j := 7) rfl (q := 2) rfl ?_
  intro T B
  refine W_iloadN B (hb hby d9_18) (pc' := 19) rfl rfl ?_
  refine W_iaload B (hb hby d9_19) (pc' := 20) rfl (i := 6) rfl (by decide) (v := (.int z1)) rfl ?_
  refine W_icmp_lt B (hb hby d9_20) (by decide) (pt := 51) (by decide) (pc' := 23) rfl (fun (c108 : p1 < z1) => ?_) (fun (c108 : ¬ p1 < z1) => ?_)
  · refine W_iloadN B (hb hby d9_51) (pc' := 52) rfl rfl ?_
    refine W_retI B hret (hb hby d9_52) (by decide) ?_
    exact Or.inl ⟨c108, rfl, rfl⟩
  refine W_iloadN B (hb hby d9_23) (pc' := 24) rfl rfl ?_
  refine W_istoreN B (hb hby d9_24) (pc' := 25) rfl (v := (2 : Int32)) rfl (ls' := #[.val (.ref a1), .val (.int (2 : Int32)), .val (.int p1), .val (.int (2 : Int32))]) rfl ?_
  refine W_iloadN B (hb hby d9_25) (pc' := 26) rfl rfl ?_
  refine W_aloadN B (hb hby d9_26) (pc' := 27) rfl rfl rfl ?_
  refine W_getfield B hown (host := "") (Or.inl (ow hw (i := 44) rfl)) Via.refl (hb hby d9_27) (pc' := 30) rfl (j := 14) rfl (q := 2) rfl ?_
  intro T B
  refine W_getfield B hown (host := "") (Or.inl (ow hw (i := 67) rfl)) Via.refl (hb hby d9_30) (pc' := 33) rfl (j := 9) rfl (q := 2) rfl ?_
  intro T B
  refine W_iloadN B (hb hby d9_33) (pc' := 34) rfl rfl ?_
  refine W_iaload B (hb hby d9_34) (pc' := 35) rfl (i := 8) rfl (by decide) (v := (.int y2)) rfl ?_
  refine W_icmp_ge B (hb hby d9_35) (by decide) (pt := 51) (by decide) (pc' := 38) rfl (fun (c109 : ¬ p1 < y2) => ?_) (fun (c109 : p1 < y2) => ?_)
  · refine W_iloadN B (hb hby d9_51) (pc' := 52) rfl rfl ?_
    refine W_retI B hret (hb hby d9_52) (by decide) ?_
    exact Or.inr (Or.inl ⟨c108, c109, rfl, rfl⟩)
  refine W_aloadN B (hb hby d9_38) (pc' := 39) rfl rfl rfl ?_
  refine W_getfield B hown (host := "") (Or.inl (ow hw (i := 48) rfl)) Via.refl (hb hby d9_39) (pc' := 42) rfl (j := 14) rfl (q := 4) rfl ?_
  intro T B
  refine W_getfield B hown (host := "") (Or.inl (ow hw (i := 67) rfl)) Via.refl (hb hby d9_42) (pc' := 45) rfl (j := 5) rfl (q := 2) rfl ?_
  intro T B
  refine W_iloadN B (hb hby d9_45) (pc' := 46) rfl rfl ?_
  refine W_iaload B (hb hby d9_46) (pc' := 47) rfl (i := 4) rfl (by decide) (v := (.int (1 : Int32))) rfl ?_
  refine W_istoreN B (hb hby d9_47) (pc' := 48) rfl (v := (1 : Int32)) rfl (ls' := #[.val (.ref a1), .val (.int (2 : Int32)), .val (.int p1), .val (.int (1 : Int32))]) rfl ?_
  refine W_goto B (hb hby d9_48) (by decide) (pc' := 25) (by decide) ?_
  refine W_iloadN B (hb hby d9_25) (pc' := 26) rfl rfl ?_
  refine W_aloadN B (hb hby d9_26) (pc' := 27) rfl rfl rfl ?_
  refine W_getfield B hown (host := "") (Or.inl (ow hw (i := 44) rfl)) Via.refl (hb hby d9_27) (pc' := 30) rfl (j := 14) rfl (q := 2) rfl ?_
  intro T B
  refine W_getfield B hown (host := "") (Or.inl (ow hw (i := 67) rfl)) Via.refl (hb hby d9_30) (pc' := 33) rfl (j := 9) rfl (q := 2) rfl ?_
  intro T B
  refine W_iloadN B (hb hby d9_33) (pc' := 34) rfl rfl ?_
  refine W_iaload B (hb hby d9_34) (pc' := 35) rfl (i := 8) rfl (by decide) (v := (.int (0 : Int32))) rfl ?_
  refine W_icmpY B (hb hby d9_35) (by decide) (pc' := 51) (by decide) (flt hp).2.1 ?_
  refine W_iloadN B (hb hby d9_51) (pc' := 52) rfl rfl ?_
  refine W_retI B hret (hb hby d9_52) (by decide) ?_
  exact Or.inr (Or.inr (⟨c108, c109, rfl, rfl⟩))
theorem ef_rm_ho100 (m : MethodId) (x0 : Addr) (x2 : Int32) : entryFrame m #[(.ref x0), (.int (0 : Int32)), (.int x2)] 4 = mkF m 0 #[.val (.ref x0), .val (.int (0 : Int32)), .val (.int x2), .unset] [] := by first | (simp [entryFrame, mkF, argsToLocals, Value.category]; done) | rfl
set_option maxRecDepth 65536 in
set_option maxHeartbeats 40000000 in
theorem rm_ho100 (l : Launch) (Z : State) (a0 : Array Value) (hw : ∀ d ∈ tables_1, d.before a0 Z = true) (h0 : Heap) {lo : Nat} (a1 : Addr) (s1 : Addr) (c0 : Addr) (d0 : Addr) (c1 : Addr) (d1 : Addr) (c2 : Addr) (d2 : Addr) (c3 : Addr) (d3 : Addr) (c4 : Addr) (d4 : Addr) (c5 : Addr) (d5 : Addr) (c6 : Addr) (d6 : Addr) (p1 : Int32) (n1 : Int32) (vs : List Value) (f0 : Int32) (f1 : Int32) (f2 : Int32) (y1 : Int32) (y2 : Int32) (z0 : Int32) (z1 : Int32) (z2 : Int32) (t0 : Int32) (t1 : Int32) (t2 : Int32) (ds : oDs) (hp : ¬ p1 < (0 : Int32)) :
    oMet l Z h0 lo (⟨"com/example/tanglemark/tanglemark/datalog/SharedSets", "holder", "(II)I"⟩ : MethodName) prog_51_method_5_code 4 (some .int) [] ({ frames := 0, cells := 0, slots := 0, locals := 0 } : Room) #[(.ref a1), (.int (0 : Int32)), (.int p1)] ((d6, oA .int [(.int t0), (.int t1), (.int t2), o0, o0, o0, o0, o0, o0, o0, o0, o0, o0, o0, o0, o0]) :: (c6, oO cn0 [(fk0, (.ref s1)), (fk1, (.int (2147483639 : Int32))), (fk2, (.ref d6)), (fk3, (.int (3 : Int32)))]) :: (d5, oA .int [o0, o0, o0, o0, o0, o0, o0, o0, o0, o0, o0, o0, o0, o0, o0, o0]) :: (c5, oO cn0 [(fk0, (.ref s1)), (fk1, (.int (2147483639 : Int32))), (fk2, (.ref d5)), (fk3, (.int (3 : Int32)))]) :: (d4, oA .int [(.int (-1 : Int32)), o0, o0, o0, o0, o0, o0, o0, o0, o0, o0, o0, o0, o0, o0, o0]) :: (c4, oO cn0 [(fk0, (.ref s1)), (fk1, (.int (2147483639 : Int32))), (fk2, (.ref d4)), (fk3, (.int (3 : Int32)))]) :: (d3, oA .int [(.int z0), (.int z1), (.int z2), o0, o0, o0, o0, o0, o0, o0, o0, o0, o0, o0, o0, o0]) :: (c3, oO cn0 [(fk0, (.ref s1)), (fk1, (.int (2147483639 : Int32))), (fk2, (.ref d3)), (fk3, (.int (3 : Int32)))]) :: (d2, oA .int [o0, (.int y1), (.int y2), o0, o0, o0, o0, o0, o0, o0, o0, o0, o0, o0, o0, o0]) :: (c2, oO cn0 [(fk0, (.ref s1)), (fk1, (.int (2147483639 : Int32))), (fk2, (.ref d2)), (fk3, (.int (3 : Int32)))]) :: (d1, oA .int [(.int f0), (.int f1), (.int f2), o0, o0, o0, o0, o0, o0, o0, o0, o0, o0, o0, o0, o0]) :: (c1, oO cn0 [(fk0, (.ref s1)), (fk1, (.int (2147483639 : Int32))), (fk2, (.ref d1)), (fk3, (.int (3 : Int32)))]) :: (d0, oA .int vs) :: (c0, oO cn0 [(fk0, (.ref s1)), (fk1, (.int (2147483639 : Int32))), (fk2, (.ref d0)), (fk3, (.int n1))]) :: (a1, oO cn1 [(fk4, (.ref c0)), (fk5, (.ref c1)), (fk6, (.ref c2)), (fk7, (.ref c3)), (fk8, (.ref c4)), (fk9, (.ref c5)), (fk10, (.ref c6))]) :: ds) (fun (v : Option Value) (d : oDs) => ((p1 < z0) ∧ v = some (.int (0 : Int32)) ∧ ((d6, oA .int [(.int t0), (.int t1), (.int t2), o0, o0, o0, o0, o0, o0, o0, o0, o0, o0, o0, o0, o0]) :: (c6, oO cn0 [(fk0, (.ref s1)), (fk1, (.int (2147483639 : Int32))), (fk2, (.ref d6)), (fk3, (.int (3 : Int32)))]) :: (d5, oA .int [o0, o0, o0, o0, o0, o0, o0, o0, o0, o0, o0, o0, o0, o0, o0, o0]) :: (c5, oO cn0 [(fk0, (.ref s1)), (fk1, (.int (2147483639 : Int32))), (fk2, (.ref d5)), (fk3, (.int (3 : Int32)))]) :: (d4, oA .int [(.int (-1 : Int32)), o0, o0, o0, o0, o0, o0, o0, o0, o0, o0, o0, o0, o0, o0, o0]) :: (c4, oO cn0 [(fk0, (.ref s1)), (fk1, (.int (2147483639 : Int32))), (fk2, (.ref d4)), (fk3, (.int (3 : Int32)))]) :: (d3, oA .int [(.int z0), (.int z1), (.int z2), o0, o0, o0, o0, o0, o0, o0, o0, o0, o0, o0, o0, o0]) :: (c3, oO cn0 [(fk0, (.ref s1)), (fk1, (.int (2147483639 : Int32))), (fk2, (.ref d3)), (fk3, (.int (3 : Int32)))]) :: (d2, oA .int [o0, (.int y1), (.int y2), o0, o0, o0, o0, o0, o0, o0, o0, o0, o0, o0, o0, o0]) :: (c2, oO cn0 [(fk0, (.ref s1)), (fk1, (.int (2147483639 : Int32))), (fk2, (.ref d2)), (fk3, (.int (3 : Int32)))]) :: (d1, oA .int [(.int f0), (.int f1), (.int f2), o0, o0, o0, o0, o0, o0, o0, o0, o0, o0, o0, o0, o0]) :: (c1, oO cn0 [(fk0, (.ref s1)), (fk1, (.int (2147483639 : Int32))), (fk2, (.ref d1)), (fk3, (.int (3 : Int32)))]) :: (d0, oA .int vs) :: (c0, oO cn0 [(fk0, (.ref s1)), (fk1, (.int (2147483639 : Int32))), (fk2, (.ref d0)), (fk3, (.int n1))]) :: (a1, oO cn1 [(fk4, (.ref c0)), (fk5, (.ref c1)), (fk6, (.ref c2)), (fk7, (.ref c3)), (fk8, (.ref c4)), (fk9, (.ref c5)), (fk10, (.ref c6))]) :: ds) = d) ∨ ((¬ p1 < z0) ∧ v = some (.int (0 : Int32)) ∧ ((d6, oA .int [(.int t0), (.int t1), (.int t2), o0, o0, o0, o0, o0, o0, o0, o0, o0, o0, o0, o0, o0]) :: (c6, oO cn0 [(fk0, (.ref s1)), (fk1, (.int (2147483639 : Int32))), (fk2, (.ref d6)), (fk3, (.int (3 : Int32)))]) :: (d5, oA .int [o0, o0, o0, o0, o0, o0, o0, o0, o0, o0, o0, o0, o0, o0, o0, o0]) :: (c5, oO cn0 [(fk0, (.ref s1)), (fk1, (.int (2147483639 : Int32))), (fk2, (.ref d5)), (fk3, (.int (3 : Int32)))]) :: (d4, oA .int [(.int (-1 : Int32)), o0, o0, o0, o0, o0, o0, o0, o0, o0, o0, o0, o0, o0, o0, o0]) :: (c4, oO cn0 [(fk0, (.ref s1)), (fk1, (.int (2147483639 : Int32))), (fk2, (.ref d4)), (fk3, (.int (3 : Int32)))]) :: (d3, oA .int [(.int z0), (.int z1), (.int z2), o0, o0, o0, o0, o0, o0, o0, o0, o0, o0, o0, o0, o0]) :: (c3, oO cn0 [(fk0, (.ref s1)), (fk1, (.int (2147483639 : Int32))), (fk2, (.ref d3)), (fk3, (.int (3 : Int32)))]) :: (d2, oA .int [o0, (.int y1), (.int y2), o0, o0, o0, o0, o0, o0, o0, o0, o0, o0, o0, o0, o0]) :: (c2, oO cn0 [(fk0, (.ref s1)), (fk1, (.int (2147483639 : Int32))), (fk2, (.ref d2)), (fk3, (.int (3 : Int32)))]) :: (d1, oA .int [(.int f0), (.int f1), (.int f2), o0, o0, o0, o0, o0, o0, o0, o0, o0, o0, o0, o0, o0]) :: (c1, oO cn0 [(fk0, (.ref s1)), (fk1, (.int (2147483639 : Int32))), (fk2, (.ref d1)), (fk3, (.int (3 : Int32)))]) :: (d0, oA .int vs) :: (c0, oO cn0 [(fk0, (.ref s1)), (fk1, (.int (2147483639 : Int32))), (fk2, (.ref d0)), (fk3, (.int n1))]) :: (a1, oO cn1 [(fk4, (.ref c0)), (fk5, (.ref c1)), (fk6, (.ref c2)), (fk7, (.ref c3)), (fk8, (.ref c4)), (fk9, (.ref c5)), (fk10, (.ref c6))]) :: ds) = d)) := by
  refine oMet.of_body (plainFor_of_name pn_1) ?_
  intro p e s m below meth c T B hby hml hown hnm hret
  refine W_entry (ef_rm_ho100 m a1 p1) ?_
  refine W_aloadN B (hb hby d9_0) (pc' := 1) rfl rfl rfl ?_
  refine W_getfield B hown (host := "") (Or.inl (ow hw (i := 50) rfl)) Via.refl (hb hby d9_1) (pc' := 4) rfl (j := 14) rfl (q := 5) rfl ?_
  intro T B
  refine W_getfield B hown (host := "") (Or.inl (ow hw (i := 67) rfl)) Via.refl (hb hby d9_4) (pc' := 7) rfl (j := 3) rfl (q := 2) rfl ?_
  intro T B
  refine W_iloadN B (hb hby d9_7) (pc' := 8) rfl rfl ?_
  refine W_iaload B (hb hby d9_8) (pc' := 9) rfl (i := 2) rfl (by decide) (v := (.int (0 : Int32))) rfl ?_
  refine W_istoreN B (hb hby d9_9) (pc' := 10) rfl (v := (0 : Int32)) rfl (ls' := #[.val (.ref a1), .val (.int (0 : Int32)), .val (.int p1), .val (.int (0 : Int32))]) rfl ?_
  refine W_iloadN B (hb hby d9_10) (pc' := 11) rfl rfl ?_
  refine W_aloadN B (hb hby d9_11) (pc' := 12) rfl rfl rfl ?_
  refine W_getfield B hown (host := "") (Or.inl (ow hw (i := 46) rfl)) Via.refl (hb hby d9_12) (pc' := 15) rfl (j := 14) rfl (q := 3) rfl ?_
  intro T B
  refine W_getfield B hown (host := "") (Or.inl (ow hw (i := 67) rfl)) Via.refl (hb hby d9_15) (pc' := 18) rfl (j := 7) rfl (q := 2) rfl ?_
  intro T B
  refine W_iloadN B (hb hby d9_18) (pc' := 19) rfl rfl ?_
  refine W_iaload B (hb hby d9_19) (pc' := 20) rfl (i := 6) rfl (by decide) (v := (.int z0)) rfl ?_
  refine W_icmp_lt B (hb hby d9_20) (by decide) (pt := 51) (by decide) (pc' := 23) rfl (fun (c110 : p1 < z0) => ?_) (fun (c110 : ¬ p1 < z0) => ?_)
  · refine W_iloadN B (hb hby d9_51) (pc' := 52) rfl rfl ?_
    refine W_retI B hret (hb hby d9_52) (by decide) ?_
    exact Or.inl ⟨c110, rfl, rfl⟩
  refine W_iloadN B (hb hby d9_23) (pc' := 24) rfl rfl ?_
  refine W_istoreN B (hb hby d9_24) (pc' := 25) rfl (v := (0 : Int32)) rfl (ls' := #[.val (.ref a1), .val (.int (0 : Int32)), .val (.int p1), .val (.int (0 : Int32))]) rfl ?_
  refine W_iloadN B (hb hby d9_25) (pc' := 26) rfl rfl ?_
  refine W_aloadN B (hb hby d9_26) (pc' := 27) rfl rfl rfl ?_
  refine W_getfield B hown (host := "") (Or.inl (ow hw (i := 44) rfl)) Via.refl (hb hby d9_27) (pc' := 30) rfl (j := 14) rfl (q := 2) rfl ?_
  intro T B
  refine W_getfield B hown (host := "") (Or.inl (ow hw (i := 67) rfl)) Via.refl (hb hby d9_30) (pc' := 33) rfl (j := 9) rfl (q := 2) rfl ?_
  intro T B
  refine W_iloadN B (hb hby d9_33) (pc' := 34) rfl rfl ?_
  refine W_iaload B (hb hby d9_34) (pc' := 35) rfl (i := 8) rfl (by decide) (v := (.int (0 : Int32))) rfl ?_
  refine W_icmpY B (hb hby d9_35) (by decide) (pc' := 51) (by decide) (flt hp).2.1 ?_
  refine W_iloadN B (hb hby d9_51) (pc' := 52) rfl rfl ?_
  refine W_retI B hret (hb hby d9_52) (by decide) ?_
  exact Or.inr (⟨c110, rfl, rfl⟩)
theorem ef_rm_ho101 (m : MethodId) (x0 : Addr) (x2 : Int32) : entryFrame m #[(.ref x0), (.int (1 : Int32)), (.int x2)] 4 = mkF m 0 #[.val (.ref x0), .val (.int (1 : Int32)), .val (.int x2), .unset] [] := by first | (simp [entryFrame, mkF, argsToLocals, Value.category]; done) | rfl
set_option maxRecDepth 65536 in
set_option maxHeartbeats 40000000 in
theorem rm_ho101 (l : Launch) (Z : State) (a0 : Array Value) (hw : ∀ d ∈ tables_1, d.before a0 Z = true) (h0 : Heap) {lo : Nat} (a1 : Addr) (s1 : Addr) (c0 : Addr) (d0 : Addr) (c1 : Addr) (d1 : Addr) (c2 : Addr) (d2 : Addr) (c3 : Addr) (d3 : Addr) (c4 : Addr) (d4 : Addr) (c5 : Addr) (d5 : Addr) (c6 : Addr) (d6 : Addr) (p1 : Int32) (n1 : Int32) (vs : List Value) (f0 : Int32) (f1 : Int32) (f2 : Int32) (y1 : Int32) (y2 : Int32) (z0 : Int32) (z1 : Int32) (z2 : Int32) (t0 : Int32) (t1 : Int32) (t2 : Int32) (ds : oDs) (hp : ¬ p1 < (0 : Int32)) :
    oMet l Z h0 lo (⟨"com/example/tanglemark/tanglemark/datalog/SharedSets", "holder", "(II)I"⟩ : MethodName) prog_51_method_5_code 4 (some .int) [] ({ frames := 0, cells := 0, slots := 0, locals := 0 } : Room) #[(.ref a1), (.int (1 : Int32)), (.int p1)] ((d6, oA .int [(.int t0), (.int t1), (.int t2), o0, o0, o0, o0, o0, o0, o0, o0, o0, o0, o0, o0, o0]) :: (c6, oO cn0 [(fk0, (.ref s1)), (fk1, (.int (2147483639 : Int32))), (fk2, (.ref d6)), (fk3, (.int (3 : Int32)))]) :: (d5, oA .int [o0, o0, o0, o0, o0, o0, o0, o0, o0, o0, o0, o0, o0, o0, o0, o0]) :: (c5, oO cn0 [(fk0, (.ref s1)), (fk1, (.int (2147483639 : Int32))), (fk2, (.ref d5)), (fk3, (.int (3 : Int32)))]) :: (d4, oA .int [(.int (-1 : Int32)), o0, o0, o0, o0, o0, o0, o0, o0, o0, o0, o0, o0, o0, o0, o0]) :: (c4, oO cn0 [(fk0, (.ref s1)), (fk1, (.int (2147483639 : Int32))), (fk2, (.ref d4)), (fk3, (.int (3 : Int32)))]) :: (d3, oA .int [(.int z0), (.int z1), (.int z2), o0, o0, o0, o0, o0, o0, o0, o0, o0, o0, o0, o0, o0]) :: (c3, oO cn0 [(fk0, (.ref s1)), (fk1, (.int (2147483639 : Int32))), (fk2, (.ref d3)), (fk3, (.int (3 : Int32)))]) :: (d2, oA .int [o0, (.int y1), (.int y2), o0, o0, o0, o0, o0, o0, o0, o0, o0, o0, o0, o0, o0]) :: (c2, oO cn0 [(fk0, (.ref s1)), (fk1, (.int (2147483639 : Int32))), (fk2, (.ref d2)), (fk3, (.int (3 : Int32)))]) :: (d1, oA .int [(.int f0), (.int f1), (.int f2), o0, o0, o0, o0, o0, o0, o0, o0, o0, o0, o0, o0, o0]) :: (c1, oO cn0 [(fk0, (.ref s1)), (fk1, (.int (2147483639 : Int32))), (fk2, (.ref d1)), (fk3, (.int (3 : Int32)))]) :: (d0, oA .int vs) :: (c0, oO cn0 [(fk0, (.ref s1)), (fk1, (.int (2147483639 : Int32))), (fk2, (.ref d0)), (fk3, (.int n1))]) :: (a1, oO cn1 [(fk4, (.ref c0)), (fk5, (.ref c1)), (fk6, (.ref c2)), (fk7, (.ref c3)), (fk8, (.ref c4)), (fk9, (.ref c5)), (fk10, (.ref c6))]) :: ds) (fun (v : Option Value) (d : oDs) => ((p1 < z0) ∧ v = some (.int (0 : Int32)) ∧ ((d6, oA .int [(.int t0), (.int t1), (.int t2), o0, o0, o0, o0, o0, o0, o0, o0, o0, o0, o0, o0, o0]) :: (c6, oO cn0 [(fk0, (.ref s1)), (fk1, (.int (2147483639 : Int32))), (fk2, (.ref d6)), (fk3, (.int (3 : Int32)))]) :: (d5, oA .int [o0, o0, o0, o0, o0, o0, o0, o0, o0, o0, o0, o0, o0, o0, o0, o0]) :: (c5, oO cn0 [(fk0, (.ref s1)), (fk1, (.int (2147483639 : Int32))), (fk2, (.ref d5)), (fk3, (.int (3 : Int32)))]) :: (d4, oA .int [(.int (-1 : Int32)), o0, o0, o0, o0, o0, o0, o0, o0, o0, o0, o0, o0, o0, o0, o0]) :: (c4, oO cn0 [(fk0, (.ref s1)), (fk1, (.int (2147483639 : Int32))), (fk2, (.ref d4)), (fk3, (.int (3 : Int32)))]) :: (d3, oA .int [(.int z0), (.int z1), (.int z2), o0, o0, o0, o0, o0, o0, o0, o0, o0, o0, o0, o0, o0]) :: (c3, oO cn0 [(fk0, (.ref s1)), (fk1, (.int (2147483639 : Int32))), (fk2, (.ref d3)), (fk3, (.int (3 : Int32)))]) :: (d2, oA .int [o0, (.int y1), (.int y2), o0, o0, o0, o0, o0, o0, o0, o0, o0, o0, o0, o0, o0]) :: (c2, oO cn0 [(fk0, (.ref s1)), (fk1, (.int (2147483639 : Int32))), (fk2, (.ref d2)), (fk3, (.int (3 : Int32)))]) :: (d1, oA .int [(.int f0), (.int f1), (.int f2), o0, o0, o0, o0, o0, o0, o0, o0, o0, o0, o0, o0, o0]) :: (c1, oO cn0 [(fk0, (.ref s1)), (fk1, (.int (2147483639 : Int32))), (fk2, (.ref d1)), (fk3, (.int (3 : Int32)))]) :: (d0, oA .int vs) :: (c0, oO cn0 [(fk0, (.ref s1)), (fk1, (.int (2147483639 : Int32))), (fk2, (.ref d0)), (fk3, (.int n1))]) :: (a1, oO cn1 [(fk4, (.ref c0)), (fk5, (.ref c1)), (fk6, (.ref c2)), (fk7, (.ref c3)), (fk8, (.ref c4)), (fk9, (.ref c5)), (fk10, (.ref c6))]) :: ds) = d) ∨ ((¬ p1 < z0) ∧ (¬ p1 < y1) ∧ v = some (.int (1 : Int32)) ∧ ((d6, oA .int [(.int t0), (.int t1), (.int t2), o0, o0, o0, o0, o0, o0, o0, o0, o0, o0, o0, o0, o0]) :: (c6, oO cn0 [(fk0, (.ref s1)), (fk1, (.int (2147483639 : Int32))), (fk2, (.ref d6)), (fk3, (.int (3 : Int32)))]) :: (d5, oA .int [o0, o0, o0, o0, o0, o0, o0, o0, o0, o0, o0, o0, o0, o0, o0, o0]) :: (c5, oO cn0 [(fk0, (.ref s1)), (fk1, (.int (2147483639 : Int32))), (fk2, (.ref d5)), (fk3, (.int (3 : Int32)))]) :: (d4, oA .int [(.int (-1 : Int32)), o0, o0, o0, o0, o0, o0, o0, o0, o0, o0, o0, o0, o0, o0, o0]) :: (c4, oO cn0 [(fk0, (.ref s1)), (fk1, (.int (2147483639 : Int32))), (fk2, (.ref d4)), (fk3, (.int (3 : Int32)))]) :: (d3, oA .int [(.int z0), (.int z1), (.int z2), o0, o0, o0, o0, o0, o0, o0, o0, o0, o0, o0, o0, o0]) :: (c3, oO cn0 [(fk0, (.ref s1)), (fk1, (.int (2147483639 : Int32))), (fk2, (.ref d3)), (fk3, (.int (3 : Int32)))]) :: (d2, oA .int [o0, (.int y1), (.int y2), o0, o0, o0, o0, o0, o0, o0, o0, o0, o0, o0, o0, o0]) :: (c2, oO cn0 [(fk0, (.ref s1)), (fk1, (.int (2147483639 : Int32))), (fk2, (.ref d2)), (fk3, (.int (3 : Int32)))]) :: (d1, oA .int [(.int f0), (.int f1), (.int f2), o0, o0, o0, o0, o0, o0, o0, o0, o0, o0, o0, o0, o0]) :: (c1, oO cn0 [(fk0, (.ref s1)), (fk1, (.int (2147483639 : Int32))), (fk2, (.ref d1)), (fk3, (.int (3 : Int32)))]) :: (d0, oA .int vs) :: (c0, oO cn0 [(fk0, (.ref s1)), (fk1, (.int (2147483639 : Int32))), (fk2, (.ref d0)), (fk3, (.int n1))]) :: (a1, oO cn1 [(fk4, (.ref c0)), (fk5, (.ref c1)), (fk6, (.ref c2)), (fk7, (.ref c3)), (fk8, (.ref c4)), (fk9, (.ref c5)), (fk10, (.ref c6))]) :: ds) = d) ∨ ((¬ p1 < z0) ∧ (p1 < y1) ∧ v = some (.int (0 : Int32)) ∧ ((d6, oA .int [(.int t0), (.int t1), (.int t2), o0, o0, o0, o0, o0, o0, o0, o0, o0, o0, o0, o0, o0]) :: (c6, oO cn0 [(fk0, (.ref s1)), (fk1, (.int (2147483639 : Int32))), (fk2, (.ref d6)), (fk3, (.int (3 : Int32)))]) :: (d5, oA .int [o0, o0, o0, o0, o0, o0, o0, o0, o0, o0, o0, o0, o0, o0, o0, o0]) :: (c5, oO cn0 [(fk0, (.ref s1)), (fk1, (.int (2147483639 : Int32))), (fk2, (.ref d5)), (fk3, (.int (3 : Int32)))]) :: (d4, oA .int [(.int (-1 : Int32)), o0, o0, o0, o0, o0, o0, o0, o0, o0, o0, o0, o0, o0, o0, o0]) :: (c4, oO cn0 [(fk0, (.ref s1)), (fk1, (.int (2147483639 : Int32))), (fk2, (.ref d4)), (fk3, (.int (3 : Int32)))]) :: (d3, oA .int [(.int z0), (.int z1), (.int z2), o0, o0, o0, o0, o0, o0, o0, o0, o0, o0, o0, o0, o0]) :: (c3, oO cn0 [(fk0, (.ref s1)), (fk1, (.int (2147483639 : Int32))), (fk2, (.ref d3)), (fk3, (.int (3 : Int32)))]) :: (d2, oA .int [o0, (.int y1), (.int y2), o0, o0, o0, o0, o0, o0, o0, o0, o0, o0, o0, o0, o0]) :: (c2, oO cn0 [(fk0, (.ref s1)), (fk1, (.int (2147483639 : Int32))), (fk2, (.ref d2)), (fk3, (.int (3 : Int32)))]) :: (d1, oA .int [(.int f0), (.int f1), (.int f2), o0, o0, o0, o0, o0, o0, o0, o0, o0, o0, o0, o0, o0]) :: (c1, oO cn0 [(fk0, (.ref s1)), (fk1, (.int (2147483639 : Int32))), (fk2, (.ref d1)), (fk3, (.int (3 : Int32)))]) :: (d0, oA .int vs) :: (c0, oO cn0 [(fk0, (.ref s1)), (fk1, (.int (2147483639 : Int32))), (fk2, (.ref d0)), (fk3, (.int n1))]) :: (a1, oO cn1 [(fk4, (.ref c0)), (fk5, (.ref c1)), (fk6, (.ref c2)), (fk7, (.ref c3)), (fk8, (.ref c4)), (fk9, (.ref c5)), (fk10, (.ref c6))]) :: ds) = d)) := by
  refine oMet.of_body (plainFor_of_name pn_1) ?_
  intro p e s m below meth c T B hby hml hown hnm hret
  refine W_entry (ef_rm_ho101 m a1 p1) ?_
  refine W_aloadN B (hb hby d9_0) (pc' := 1) rfl rfl rfl ?_
  refine W_getfield B hown (host := "") (Or.inl (ow hw (i := 50) rfl)) Via.refl (hb hby d9_1) (pc' := 4) rfl (j := 14) rfl (q := 5) rfl ?_
  intro T B
  refine W_getfield B hown (host := "") (Or.inl (ow hw (i := 67) rfl)) Via.refl (hb hby d9_4) (pc' := 7) rfl (j := 3) rfl (q := 2) rfl ?_
  intro T B
  refine W_iloadN B (hb hby d9_7) (pc' := 8) rfl rfl ?_
  refine W_iaload B (hb hby d9_8) (pc' := 9) rfl (i := 2) rfl (by decide) (v := (.int (0 : Int32))) rfl ?_
  refine W_istoreN B (hb hby d9_9) (pc' := 10) rfl (v := (0 : Int32)) rfl (ls' := #[.val (.ref a1), .val (.int (1 : Int32)), .val (.int p1), .val (.int (0 : Int32))]) rfl ?_
  refine W_iloadN B (hb hby d9_10) (pc' := 11) rfl rfl ?_
  refine W_aloadN B (hb hby d9_11) (pc' := 12) rfl rfl rfl ?_
  refine W_getfield B hown (host := "") (Or.inl (ow hw (i := 46) rfl)) Via.refl (hb hby d9_12) (pc' := 15) rfl (j := 14) rfl (q := 3) rfl ?_
  intro T B
  refine W_getfield B hown (host := "") (Or.inl (ow hw (i := 67) rfl)) Via.refl (hb hby d9_15) (pc' := 18) rfl (j := 7) rfl (q := 2) rfl ?_
  intro T B
  refine W_iloadN B (hb hby d9_18) (pc' := 19) rfl rfl ?_
  refine W_iaload B (hb hby d9_19) (pc' := 20) rfl (i := 6) rfl (by decide) (v := (.int z0)) rfl ?_
  refine W_icmp_lt B (hb hby d9_20) (by decide) (pt := 51) (by decide) (pc' := 23) rfl (fun (c111 : p1 < z0) => ?_) (fun (c111 : ¬ p1 < z0) => ?_)
  · refine W_iloadN B (hb hby d9_51) (pc' := 52) rfl rfl ?_
    refine W_retI B hret (hb hby d9_52) (by decide) ?_
    exact Or.inl ⟨c111, rfl, rfl⟩
  refine W_iloadN B (hb hby d9_23) (pc' := 24) rfl rfl ?_
  refine W_istoreN B (hb hby d9_24) (pc' := 25) rfl (v := (1 : Int32)) rfl (ls' := #[.val (.ref a1), .val (.int (1 : Int32)), .val (.int p1), .val (.int (1 : Int32))]) rfl ?_
  refine W_iloadN B (hb hby d9_25) (pc' := 26) rfl rfl ?_
  refine W_aloadN B (hb hby d9_26) (pc' := 27) rfl rfl rfl ?_
  refine W_getfield B hown (host := "") (Or.inl (ow hw (i := 44) rfl)) Via.refl (hb hby d9_27) (pc' := 30) rfl (j := 14) rfl (q := 2) rfl ?_
  intro T B
  refine W_getfield B hown (host := "") (Or.inl (ow hw (i := 67) rfl)) Via.refl (hb hby d9_30) (pc' := 33) rfl (j := 9) rfl (q := 2) rfl ?_
  intro T B
  refine W_iloadN B (hb hby d9_33) (pc' := 34) rfl rfl ?_
  refine W_iaload B (hb hby d9_34) (pc' := 35) rfl (i := 8) rfl (by decide) (v := (.int y1)) rfl ?_
  refine W_icmp_ge B (hb hby d9_35) (by decide) (pt := 51) (by decide) (pc' := 38) rfl (fun (c112 : ¬ p1 < y1) => ?_) (fun (c112 : p1 < y1) => ?_)
  · refine W_iloadN B (hb hby d9_51) (pc' := 52) rfl rfl ?_
    refine W_retI B hret (hb hby d9_52) (by decide) ?_
    exact Or.inr (Or.inl ⟨c111, c112, rfl, rfl⟩)
  refine W_aloadN B (hb hby d9_38) (pc' := 39) rfl rfl rfl ?_
  refine W_getfield B hown (host := "") (Or.inl (ow hw (i := 48) rfl)) Via.refl (hb hby d9_39) (pc' := 42) rfl (j := 14) rfl (q := 4) rfl ?_
  intro T B
  refine W_getfield B hown (host := "") (Or.inl (ow hw (i := 67) rfl)) Via.refl (hb hby d9_42) (pc' := 45) rfl (j := 5) rfl (q := 2) rfl ?_
  intro T B
  refine W_iloadN B (hb hby d9_45) (pc' := 46) rfl rfl ?_
  refine W_iaload B (hb hby d9_46) (pc' := 47) rfl (i := 4) rfl (by decide) (v := (.int (0 : Int32))) rfl ?_
  refine W_istoreN B (hb hby d9_47) (pc' := 48) rfl (v := (0 : Int32)) rfl (ls' := #[.val (.ref a1), .val (.int (1 : Int32)), .val (.int p1), .val (.int (0 : Int32))]) rfl ?_
  refine W_goto B (hb hby d9_48) (by decide) (pc' := 25) (by decide) ?_
  refine W_iloadN B (hb hby d9_25) (pc' := 26) rfl rfl ?_
  refine W_aloadN B (hb hby d9_26) (pc' := 27) rfl rfl rfl ?_
  refine W_getfield B hown (host := "") (Or.inl (ow hw (i := 44) rfl)) Via.refl (hb hby d9_27) (pc' := 30) rfl (j := 14) rfl (q := 2) rfl ?_
  intro T B
  refine W_getfield B hown (host := "") (Or.inl (ow hw (i := 67) rfl)) Via.refl (hb hby d9_30) (pc' := 33) rfl (j := 9) rfl (q := 2) rfl ?_
  intro T B
  refine W_iloadN B (hb hby d9_33) (pc' := 34) rfl rfl ?_
  refine W_iaload B (hb hby d9_34) (pc' := 35) rfl (i := 8) rfl (by decide) (v := (.int (0 : Int32))) rfl ?_
  refine W_icmpY B (hb hby d9_35) (by decide) (pc' := 51) (by decide) (flt hp).2.1 ?_
  refine W_iloadN B (hb hby d9_51) (pc' := 52) rfl rfl ?_
  refine W_retI B hret (hb hby d9_52) (by decide) ?_
  exact Or.inr (Or.inr (⟨c111, c112, rfl, rfl⟩))
theorem ef_rm_ho102 (m : MethodId) (x0 : Addr) (x2 : Int32) : entryFrame m #[(.ref x0), (.int (2 : Int32)), (.int x2)] 4 = mkF m 0 #[.val (.ref x0), .val (.int (2 : Int32)), .val (.int x2), .unset] [] := by first | (simp [entryFrame, mkF, argsToLocals, Value.category]; done) | rfl
set_option maxRecDepth 65536 in
set_option maxHeartbeats 40000000 in
theorem rm_ho102 (l : Launch) (Z : State) (a0 : Array Value) (hw : ∀ d ∈ tables_1, d.before a0 Z = true) (h0 : Heap) {lo : Nat} (a1 : Addr) (s1 : Addr) (c0 : Addr) (d0 : Addr) (c1 : Addr) (d1 : Addr) (c2 : Addr) (d2 : Addr) (c3 : Addr) (d3 : Addr) (c4 : Addr) (d4 : Addr) (c5 : Addr) (d5 : Addr) (c6 : Addr) (d6 : Addr) (p1 : Int32) (n1 : Int32) (vs : List Value) (f0 : Int32) (f1 : Int32) (f2 : Int32) (y1 : Int32) (y2 : Int32) (z0 : Int32) (z1 : Int32) (z2 : Int32) (t0 : Int32) (t1 : Int32) (t2 : Int32) (ds : oDs) (hp : ¬ p1 < (0 : Int32)) :
    oMet l Z h0 lo (⟨"com/example/tanglemark/tanglemark/datalog/SharedSets", "holder", "(II)I"⟩ : MethodName) prog_51_method_5_code 4 (some .int) [] ({ frames := 0, cells := 0, slots := 0, locals := 0 } : Room) #[(.ref a1), (.int (2 : Int32)), (.int p1)] ((d6, oA .int [(.int t0), (.int t1), (.int t2), o0, o0, o0, o0, o0, o0, o0, o0, o0, o0, o0, o0, o0]) :: (c6, oO cn0 [(fk0, (.ref s1)), (fk1, (.int (2147483639 : Int32))), (fk2, (.ref d6)), (fk3, (.int (3 : Int32)))]) :: (d5, oA .int [o0, o0, o0, o0, o0, o0, o0, o0, o0, o0, o0, o0, o0, o0, o0, o0]) :: (c5, oO cn0 [(fk0, (.ref s1)), (fk1, (.int (2147483639 : Int32))), (fk2, (.ref d5)), (fk3, (.int (3 : Int32)))]) :: (d4, oA .int [(.int (-1 : Int32)), o0, o0, o0, o0, o0, o0, o0, o0, o0, o0, o0, o0, o0, o0, o0]) :: (c4, oO cn0 [(fk0, (.ref s1)), (fk1, (.int (2147483639 : Int32))), (fk2, (.ref d4)), (fk3, (.int (3 : Int32)))]) :: (d3, oA .int [(.int z0), (.int z1), (.int z2), o0, o0, o0, o0, o0, o0, o0, o0, o0, o0, o0, o0, o0]) :: (c3, oO cn0 [(fk0, (.ref s1)), (fk1, (.int (2147483639 : Int32))), (fk2, (.ref d3)), (fk3, (.int (3 : Int32)))]) :: (d2, oA .int [o0, (.int y1), (.int y2), o0, o0, o0, o0, o0, o0, o0, o0, o0, o0, o0, o0, o0]) :: (c2, oO cn0 [(fk0, (.ref s1)), (fk1, (.int (2147483639 : Int32))), (fk2, (.ref d2)), (fk3, (.int (3 : Int32)))]) :: (d1, oA .int [(.int f0), (.int f1), (.int f2), o0, o0, o0, o0, o0, o0, o0, o0, o0, o0, o0, o0, o0]) :: (c1, oO cn0 [(fk0, (.ref s1)), (fk1, (.int (2147483639 : Int32))), (fk2, (.ref d1)), (fk3, (.int (3 : Int32)))]) :: (d0, oA .int vs) :: (c0, oO cn0 [(fk0, (.ref s1)), (fk1, (.int (2147483639 : Int32))), (fk2, (.ref d0)), (fk3, (.int n1))]) :: (a1, oO cn1 [(fk4, (.ref c0)), (fk5, (.ref c1)), (fk6, (.ref c2)), (fk7, (.ref c3)), (fk8, (.ref c4)), (fk9, (.ref c5)), (fk10, (.ref c6))]) :: ds) (fun (v : Option Value) (d : oDs) => ((p1 < z0) ∧ v = some (.int (0 : Int32)) ∧ ((d6, oA .int [(.int t0), (.int t1), (.int t2), o0, o0, o0, o0, o0, o0, o0, o0, o0, o0, o0, o0, o0]) :: (c6, oO cn0 [(fk0, (.ref s1)), (fk1, (.int (2147483639 : Int32))), (fk2, (.ref d6)), (fk3, (.int (3 : Int32)))]) :: (d5, oA .int [o0, o0, o0, o0, o0, o0, o0, o0, o0, o0, o0, o0, o0, o0, o0, o0]) :: (c5, oO cn0 [(fk0, (.ref s1)), (fk1, (.int (2147483639 : Int32))), (fk2, (.ref d5)), (fk3, (.int (3 : Int32)))]) :: (d4, oA .int [(.int (-1 : Int32)), o0, o0, o0, o0, o0, o0, o0, o0, o0, o0, o0, o0, o0, o0, o0]) :: (c4, oO cn0 [(fk0, (.ref s1)), (fk1, (.int (2147483639 : Int32))), (fk2, (.ref d4)), (fk3, (.int (3 : Int32)))]) :: (d3, oA .int [(.int z0), (.int z1), (.int z2), o0, o0, o0, o0, o0, o0, o0, o0, o0, o0, o0, o0, o0]) :: (c3, oO cn0 [(fk0, (.ref s1)), (fk1, (.int (2147483639 : Int32))), (fk2, (.ref d3)), (fk3, (.int (3 : Int32)))]) :: (d2, oA .int [o0, (.int y1), (.int y2), o0, o0, o0, o0, o0, o0, o0, o0, o0, o0, o0, o0, o0]) :: (c2, oO cn0 [(fk0, (.ref s1)), (fk1, (.int (2147483639 : Int32))), (fk2, (.ref d2)), (fk3, (.int (3 : Int32)))]) :: (d1, oA .int [(.int f0), (.int f1), (.int f2), o0, o0, o0, o0, o0, o0, o0, o0, o0, o0, o0, o0, o0]) :: (c1, oO cn0 [(fk0, (.ref s1)), (fk1, (.int (2147483639 : Int32))), (fk2, (.ref d1)), (fk3, (.int (3 : Int32)))]) :: (d0, oA .int vs) :: (c0, oO cn0 [(fk0, (.ref s1)), (fk1, (.int (2147483639 : Int32))), (fk2, (.ref d0)), (fk3, (.int n1))]) :: (a1, oO cn1 [(fk4, (.ref c0)), (fk5, (.ref c1)), (fk6, (.ref c2)), (fk7, (.ref c3)), (fk8, (.ref c4)), (fk9, (.ref c5)), (fk10, (.ref c6))]) :: ds) = d) ∨ ((¬ p1 < z0) ∧ (¬ p1 < y2) ∧ v = some (.int (2 : Int32)) ∧ ((d6, oA .int [(.int t0), (.int t1), (.int t2), o0, o0, o0, o0, o0, o0, o0, o0, o0, o0, o0, o0, o0]) :: (c6, oO cn0 [(fk0, (.ref s1)), (fk1, (.int (2147483639 : Int32))), (fk2, (.ref d6)), (fk3, (.int (3 : Int32)))]) :: (d5, oA .int [o0, o0, o0, o0, o0, o0, o0, o0, o0, o0, o0, o0, o0, o0, o0, o0]) :: (c5, oO cn0 [(fk0, (.ref s1)), (fk1, (.int (2147483639 : Int32))), (fk2, (.ref d5)), (fk3, (.int (3 : Int32)))]) :: (d4, oA .int [(.int (-1 : Int32)), o0, o0, o0, o0, o0, o0, o0, o0, o0, o0, o0, o0, o0, o0, o0]) :: (c4, oO cn0 [(fk0, (.ref s1)), (fk1, (.int (2147483639 : Int32))), (fk2, (.ref d4)), (fk3, (.int (3 : Int32)))]) :: (d3, oA .int [(.int z0), (.int z1), (.int z2), o0, o0, o0, o0, o0, o0, o0, o0, o0, o0, o0, o0, o0]) :: (c3, oO cn0 [(fk0, (.ref s1)), (fk1, (.int (2147483639 : Int32))), (fk2, (.ref d3)), (fk3, (.int (3 : Int32)))]) :: (d2, oA .int [o0, (.int y1), (.int y2), o0, o0, o0, o0, o0, o0, o0, o0, o0, o0, o0, o0, o0]) :: (c2, oO cn0 [(fk0, (.ref s1)), (fk1, (.int (2147483639 : Int32))), (fk2, (.ref d2)), (fk3, (.int (3 : Int32)))]) :: (d1, oA .int [(.int f0), (.int f1), (.int f2), o0, o0, o0, o0, o0, o0, o0, o0, o0, o0, o0, o0, o0]) :: (c1, oO cn0 [(fk0, (.ref s1)), (fk1, (.int (2147483639 : Int32))), (fk2, (.ref d1)), (fk3, (.int (3 : Int32)))]) :: (d0, oA .int vs) :: (c0, oO cn0 [(fk0, (.ref s1)), (fk1, (.int (2147483639 : Int32))), (fk2, (.ref d0)), (fk3, (.int n1))]) :: (a1, oO cn1 [(fk4, (.ref c0)), (fk5, (.ref c1)), (fk6, (.ref c2)), (fk7, (.ref c3)), (fk8, (.ref c4)), (fk9, (.ref c5)), (fk10, (.ref c6))]) :: ds) = d) ∨ ((¬ p1 < z0) ∧ (p1 < y2) ∧ v = some (.int (0 : Int32)) ∧ ((d6, oA .int [(.int t0), (.int t1), (.int t2), o0, o0, o0, o0, o0, o0, o0, o0, o0, o0, o0, o0, o0]) :: (c6, oO cn0 [(fk0, (.ref s1)), (fk1, (.int (2147483639 : Int32))), (fk2, (.ref d6)), (fk3, (.int (3 : Int32)))]) :: (d5, oA .int [o0, o0, o0, o0, o0, o0, o0, o0, o0, o0, o0, o0, o0, o0, o0, o0]) :: (c5, oO cn0 [(fk0, (.ref s1)), (fk1, (.int (2147483639 : Int32))), (fk2, (.ref d5)), (fk3, (.int (3 : Int32)))]) :: (d4, oA .int [(.int (-1 : Int32)), o0, o0, o0, o0, o0, o0, o0, o0, o0, o0, o0, o0, o0, o0, o0]) :: (c4, oO cn0 [(fk0, (.ref s1)), (fk1, (.int (2147483639 : Int32))), (fk2, (.ref d4)), (fk3, (.int (3 : Int32)))]) :: (d3, oA .int [(.int z0), (.int z1), (.int z2), o0, o0, o0, o0, o0, o0, o0, o0, o0, o0, o0, o0, o0]) :: (c3, oO cn0 [(fk0, (.ref s1)), (fk1, (.int (2147483639 : Int32))), (fk2, (.ref d3)), (fk3, (.int (3 : Int32)))]) :: (d2, oA .int [o0, (.int y1), (.int y2), o0, o0, o0, o0, o0, o0, o0, o0, o0, o0, o0, o0, o0]) :: (c2, oO cn0 [(fk0, (.ref s1)), (fk1, (.int (2147483639 : Int32))), (fk2, (.ref d2)), (fk3, (.int (3 : Int32)))]) :: (d1, oA .int [(.int f0), (.int f1), (.int f2), o0, o0, o0, o0, o0, o0, o0, o0, o0, o0, o0, o0, o0]) :: (c1, oO cn0 [(fk0, (.ref s1)), (fk1, (.int (2147483639 : Int32))), (fk2, (.ref d1)), (fk3, (.int (3 : Int32)))]) :: (d0, oA .int vs) :: (c0, oO cn0 [(fk0, (.ref s1)), (fk1, (.int (2147483639 : Int32))), (fk2, (.ref d0)), (fk3, (.int n1))]) :: (a1, oO cn1 [(fk4, (.ref c0)), (fk5, (.ref c1)), (fk6, (.ref c2)), (fk7, (.ref c3)), (fk8, (.ref c4)), (fk9, (.ref c5)), (fk10, (.ref c6))]) :: ds) = d)) := by
  refine oMet.of_body (plainFor_of_name pn_1) ?_
  intro p e s m below meth c T B hby hml hown hnm hret
  refine W_entry (ef_rm_ho102 m a1 p1) ?_
  refine W_aloadN B (hb hby d9_0) (pc' := 1) rfl rfl rfl ?_
  refine W_getfield B hown (host := "") (Or.inl (ow hw (i := 50) rfl)) Via.refl (hb hby d9_1) (pc' := 4) rfl (j := 14) rfl (q := 5) rfl ?_
  intro T B
  refine W_getfield B hown (host := "") (Or.inl (ow hw (i := 67) rfl)) Via.refl (hb hby d9_4) (pc' := 7) rfl (j := 3) rfl (q := 2) rfl ?_
  intro T B
  refine W_iloadN B (hb hby d9_7) (pc' := 8) rfl rfl ?_
  refine W_iaload B (hb hby d9_8) (pc' := 9) rfl (i := 2) rfl (by decide) (v := (.int (0 : Int32))) rfl ?_
  refine W_istoreN B (hb hby d9_9) (pc' := 10) rfl (v := (0 : Int32)) rfl (ls' := #[.val (.ref a1), .val (.int (2 : Int32)), .val (.int p1), .val (.int (0 : Int32))]) rfl ?_
  refine W_iloadN B (hb hby d9_10) (pc' := 11) rfl rfl ?_
  refine W_aloadN B (hb hby d9_11) (pc' := 12) rfl rfl rfl ?_
  refine W_getfield B hown (host := "") (Or.inl (ow hw (i := 46) rfl)) Via.refl (hb hby d9_12) (pc' := 15) rfl (j := 14) rfl (q := 3) rfl ?_
  intro T B
  refine W_getfield B hown (host := "") (Or.inl (ow hw (i := 67) rfl)) Via.refl (hb hby d9_15) (pc' := 18) rfl (j := 7) rfl (q := 2) rfl ?_
  intro T B
  refine W_iloadN B (hb hby d9_18) (pc' := 19) rfl rfl ?_
  refine W_iaload B (hb hby d9_19) (pc' := 20) rfl (i := 6) rfl (by decide) (v := (.int z0)) rfl ?_
  refine W_icmp_lt B (hb hby d9_20) (by decide) (pt := 51) (by decide) (pc' := 23) rfl (fun (c113 : p1 < z0) => ?_) (fun (c113 : ¬ p1 < z0) => ?_)
  · refine W_iloadN B (hb hby d9_51) (pc' := 52) rfl rfl ?_
    refine W_retI B hret (hb hby d9_52) (by decide) ?_
    exact Or.inl ⟨c113, rfl, rfl⟩
  refine W_iloadN B (hb hby d9_23) (pc' := 24) rfl rfl ?_
  refine W_istoreN B (hb hby d9_24) (pc' := 25) rfl (v := (2 : Int32)) rfl (ls' := #[.val (.ref a1), .val (.int (2 : Int32)), .val (.int p1), .val (.int (2 : Int32))]) rfl ?_
  refine W_iloadN B (hb hby d9_25) (pc' := 26) rfl rfl ?_
  refine W_aloadN B (hb hby d9_26) (pc' := 27) rfl rfl rfl ?_
  refine W_getfield B hown (host := "") (Or.inl (ow hw (i := 44) rfl)) Via.refl (hb hby d9_27) (pc' := 30) rfl (j := 14) rfl (q := 2) rfl ?_
  intro T B
  refine W_getfield B hown (host := "") (Or.inl (ow hw (i := 67) rfl)) Via.refl (hb hby d9_30) (pc' := 33) rfl (j := 9) rfl (q := 2) rfl ?_
  intro T B
  refine W_iloadN B (hb hby d9_33) (pc' := 34) rfl rfl ?_
  refine W_iaload B (hb hby d9_34) (pc' := 35) rfl (i := 8) rfl (by decide) (v := (.int y2)) rfl ?_
  refine W_icmp_ge B (hb hby d9_35) (by decide) (pt := 51) (by decide) (pc' := 38) rfl (fun (c114 : ¬ p1 < y2) => ?_) (fun (c114 : p1 < y2) => ?_)
  · refine W_iloadN B (hb hby d9_51) (pc' := 52) rfl rfl ?_
    refine W_retI B hret (hb hby d9_52) (by decide) ?_
    exact Or.inr (Or.inl ⟨c113, c114, rfl, rfl⟩)
  refine W_aloadN B (hb hby d9_38) (pc' := 39) rfl rfl rfl ?_
  refine W_getfield B hown (host := "") (Or.inl (ow hw (i := 48) rfl)) Via.refl (hb hby d9_39) (pc' := 42) rfl (j := 14) rfl (q := 4) rfl ?_
  intro T B
  refine W_getfield B hown (host := "") (Or.inl (ow hw (i := 67) rfl)) Via.refl (hb hby d9_42) (pc' := 45) rfl (j := 5) rfl (q := 2) rfl ?_
  intro T B
  refine W_iloadN B (hb hby d9_45) (pc' := 46) rfl rfl ?_
  refine W_iaload B (hb hby d9_46) (pc' := 47) rfl (i := 4) rfl (by decide) (v := (.int (0 : Int32))) rfl ?_
  refine W_istoreN B (hb hby d9_47) (pc' := 48) rfl (v := (0 : Int32)) rfl (ls' := #[.val (.ref a1), .val (.int (2 : Int32)), .val (.int p1), .val (.int (0 : Int32))]) rfl ?_
  refine W_goto B (hb hby d9_48) (by decide) (pc' := 25) (by decide) ?_
  refine W_iloadN B (hb hby d9_25) (pc' := 26) rfl rfl ?_
  refine W_aloadN B (hb hby d9_26) (pc' := 27) rfl rfl rfl ?_
  refine W_getfield B hown (host := "") (Or.inl (ow hw (i := 44) rfl)) Via.refl (hb hby d9_27) (pc' := 30) rfl (j := 14) rfl (q := 2) rfl ?_
  intro T B
  refine W_getfield B hown (host := "") (Or.inl (ow hw (i := 67) rfl)) Via.refl (hb hby d9_30) (pc' := 33) rfl (j := 9) rfl (q := 2) rfl ?_
  intro T B
  refine W_iloadN B (hb hby d9_33) (pc' := 34) rfl rfl ?_
  refine W_iaload B (hb hby d9_34) (pc' := 35) rfl (i := 8) rfl (by decide) (v := (.int (0 : Int32))) rfl ?_
  refine W_icmpY B (hb hby d9_35) (by decide) (pc' := 51) (by decide) (flt hp).2.1 ?_
  refine W_iloadN B (hb hby d9_51) (pc' := 52) rfl rfl ?_
  refine W_retI B hret (hb hby d9_52) (by decide) ?_
  exact Or.inr (Or.inr (⟨c113, c114, rfl, rfl⟩))
theorem ef_rm_ho110 (m : MethodId) (x0 : Addr) (x2 : Int32) : entryFrame m #[(.ref x0), (.int (0 : Int32)), (.int x2)] 4 = mkF m 0 #[.val (.ref x0), .val (.int (0 : Int32)), .val (.int x2), .unset] [] := by first | (simp [entryFrame, mkF, argsToLocals, Value.category]; done) | rfl
set_option maxRecDepth 65536 in
set_option maxHeartbeats 40000000 in
theorem rm_ho110 (l : Launch) (Z : State) (a0 : Array Value) (hw : ∀ d ∈ tables_1, d.before a0 Z = true) (h0 : Heap) {lo : Nat} (a1 : Addr) (s1 : Addr) (c0 : Addr) (d0 : Addr) (c1 : Addr) (d1 : Addr) (c2 : Addr) (d2 : Addr) (c3 : Addr) (d3 : Addr) (c4 : Addr) (d4 : Addr) (c5 : Addr) (d5 : Addr) (c6 : Addr) (d6 : Addr) (p1 : Int32) (n1 : Int32) (vs : List Value) (f0 : Int32) (f1 : Int32) (f2 : Int32) (y1 : Int32) (y2 : Int32) (z0 : Int32) (z1 : Int32) (z2 : Int32) (t0 : Int32) (t1 : Int32) (t2 : Int32) (ds : oDs) (hp : ¬ p1 < (0 : Int32)) :
    oMet l Z h0 lo (⟨"com/example/tanglemark/tanglemark/datalog/SharedSets", "holder", "(II)I"⟩ : MethodName) prog_51_method_5_code 4 (some .int) [] ({ frames := 0, cells := 0, slots := 0, locals := 0 } : Room) #[(.ref a1), (.int (0 : Int32)), (.int p1)] ((d6, oA .int [(.int t0), (.int t1), (.int t2), o0, o0, o0, o0, o0, o0, o0, o0, o0, o0, o0, o0, o0]) :: (c6, oO cn0 [(fk0, (.ref s1)), (fk1, (.int (2147483639 : Int32))), (fk2, (.ref d6)), (fk3, (.int (3 : Int32)))]) :: (d5, oA .int [o0, o0, o0, o0, o0, o0, o0, o0, o0, o0, o0, o0, o0, o0, o0, o0]) :: (c5, oO cn0 [(fk0, (.ref s1)), (fk1, (.int (2147483639 : Int32))), (fk2, (.ref d5)), (fk3, (.int (3 : Int32)))]) :: (d4, oA .int [(.int (-1 : Int32)), o0, (.int (1 : Int32)), o0, o0, o0, o0, o0, o0, o0, o0, o0, o0, o0, o0, o0]) :: (c4, oO cn0 [(fk0, (.ref s1)), (fk1, (.int (2147483639 : Int32))), (fk2, (.ref d4)), (fk3, (.int (3 : Int32)))]) :: (d3, oA .int [(.int z0), (.int z1), (.int z2), o0, o0, o0, o0, o0, o0, o0, o0, o0, o0, o0, o0, o0]) :: (c3, oO cn0 [(fk0, (.ref s1)), (fk1, (.int (2147483639 : Int32))), (fk2, (.ref d3)), (fk3, (.int (3 : Int32)))]) :: (d2, oA .int [o0, (.int y1), (.int y2), o0, o0, o0, o0, o0, o0, o0, o0, o0, o0, o0, o0, o0]) :: (c2, oO cn0 [(fk0, (.ref s1)), (fk1, (.int (2147483639 : Int32))), (fk2, (.ref d2)), (fk3, (.int (3 : Int32)))]) :: (d1, oA .int [(.int f0), (.int f1), (.int f2), o0, o0, o0, o0, o0, o0, o0, o0, o0, o0, o0, o0, o0]) :: (c1, oO cn0 [(fk0, (.ref s1)), (fk1, (.int (2147483639 : Int32))), (fk2, (.ref d1)), (fk3, (.int (3 : Int32)))]) :: (d0, oA .int vs) :: (c0, oO cn0 [(fk0, (.ref s1)), (fk1, (.int (2147483639 : Int32))), (fk2, (.ref d0)), (fk3, (.int n1))]) :: (a1, oO cn1 [(fk4, (.ref c0)), (fk5, (.ref c1)), (fk6, (.ref c2)), (fk7, (.ref c3)), (fk8, (.ref c4)), (fk9, (.ref c5)), (fk10, (.ref c6))]) :: ds) (fun (v : Option Value) (d : oDs) => ((p1 < z0) ∧ v = some (.int (0 : Int32)) ∧ ((d6, oA .int [(.int t0), (.int t1), (.int t2), o0, o0, o0, o0, o0, o0, o0, o0, o0, o0, o0, o0, o0]) :: (c6, oO cn0 [(fk0, (.ref s1)), (fk1, (.int (2147483639 : Int32))), (fk2, (.ref d6)), (fk3, (.int (3 : Int32)))]) :: (d5, oA .int [o0, o0, o0, o0, o0, o0, o0, o0, o0, o0, o0, o0, o0, o0, o0, o0]) :: (c5, oO cn0 [(fk0, (.ref s1)), (fk1, (.int (2147483639 : Int32))), (fk2, (.ref d5)), (fk3, (.int (3 : Int32)))]) :: (d4, oA .int [(.int (-1 : Int32)), o0, (.int (1 : Int32)), o0, o0, o0, o0, o0, o0, o0, o0, o0, o0, o0, o0, o0]) :: (c4, oO cn0 [(fk0, (.ref s1)), (fk1, (.int (2147483639 : Int32))), (fk2, (.ref d4)), (fk3, (.int (3 : Int32)))]) :: (d3, oA .int [(.int z0), (.int z1), (.int z2), o0, o0, o0, o0, o0, o0, o0, o0, o0, o0, o0, o0, o0]) :: (c3, oO cn0 [(fk0, (.ref s1)), (fk1, (.int (2147483639 : Int32))), (fk2, (.ref d3)), (fk3, (.int (3 : Int32)))]) :: (d2, oA .int [o0, (.int y1), (.int y2), o0, o0, o0, o0, o0, o0, o0, o0, o0, o0, o0, o0, o0]) :: (c2, oO cn0 [(fk0, (.ref s1)), (fk1, (.int (2147483639 : Int32))), (fk2, (.ref d2)), (fk3, (.int (3 : Int32)))]) :: (d1, oA .int [(.int f0), (.int f1), (.int f2), o0, o0, o0, o0, o0, o0, o0, o0, o0, o0, o0, o0, o0]) :: (c1, oO cn0 [(fk0, (.ref s1)), (fk1, (.int (2147483639 : Int32))), (fk2, (.ref d1)), (fk3, (.int (3 : Int32)))]) :: (d0, oA .int vs) :: (c0, oO cn0 [(fk0, (.ref s1)), (fk1, (.int (2147483639 : Int32))), (fk2, (.ref d0)), (fk3, (.int n1))]) :: (a1, oO cn1 [(fk4, (.ref c0)), (fk5, (.ref c1)), (fk6, (.ref c2)), (fk7, (.ref c3)), (fk8, (.ref c4)), (fk9, (.ref c5)), (fk10, (.ref c6))]) :: ds) = d) ∨ ((¬ p1 < z0) ∧ v = some (.int (0 : Int32)) ∧ ((d6, oA .int [(.int t0), (.int t1), (.int t2), o0, o0, o0, o0, o0, o0, o0, o0, o0, o0, o0, o0, o0]) :: (c6, oO cn0 [(fk0, (.ref s1)), (fk1, (.int (2147483639 : Int32))), (fk2, (.ref d6)), (fk3, (.int (3 : Int32)))]) :: (d5, oA .int [o0, o0, o0, o0, o0, o0, o0, o0, o0, o0, o0, o0, o0, o0, o0, o0]) :: (c5, oO cn0 [(fk0, (.ref s1)), (fk1, (.int (2147483639 : Int32))), (fk2, (.ref d5)), (fk3, (.int (3 : Int32)))]) :: (d4, oA .int [(.int (-1 : Int32)), o0, (.int (1 : Int32)), o0, o0, o0, o0, o0, o0, o0, o0, o0, o0, o0, o0, o0]) :: (c4, oO cn0 [(fk0, (.ref s1)), (fk1, (.int (2147483639 : Int32))), (fk2, (.ref d4)), (fk3, (.int (3 : Int32)))]) :: (d3, oA .int [(.int z0), (.int z1), (.int z2), o0, o0, o0, o0, o0, o0, o0, o0, o0, o0, o0, o0, o0]) :: (c3, oO cn0 [(fk0, (.ref s1)), (fk1, (.int (2147483639 : Int32))), (fk2, (.ref d3)), (fk3, (.int (3 : Int32)))]) :: (d2, oA .int [o0, (.int y1), (.int y2), o0, o0, o0, o0, o0, o0, o0, o0, o0, o0, o0, o0, o0]) :: (c2, oO cn0 [(fk0, (.ref s1)), (fk1, (.int (2147483639 : Int32))), (fk2, (.ref d2)), (fk3, (.int (3 : Int32)))]) :: (d1, oA .int [(.int f0), (.int f1), (.int f2), o0, o0, o0, o0, o0, o0, o0, o0, o0, o0, o0, o0, o0]) :: (c1, oO cn0 [(fk0, (.ref s1)), (fk1, (.int (2147483639 : Int32))), (fk2, (.ref d1)), (fk3, (.int (3 : Int32)))]) :: (d0, oA .int vs) :: (c0, oO cn0 [(fk0, (.ref s1)), (fk1, (.int (2147483639 : Int32))), (fk2, (.ref d0)), (fk3, (.int n1))]) :: (a1, oO cn1 [(fk4, (.ref c0)), (fk5, (.ref c1)), (fk6, (.ref c2)), (fk7, (.ref c3)), (fk8, (.ref c4)), (fk9, (.ref c5)), (fk10, (.ref c6))]) :: ds) = d)) := by
  refine oMet.of_body (plainFor_of_name pn_1) ?_
  intro p e s m below meth c T B hby hml hown hnm hret
  refine W_entry (ef_rm_ho110 m a1 p1) ?_
  refine W_aloadN B (hb hby d9_0) (pc' := 1) rfl rfl rfl ?_
  refine W_getfield B hown (host := "") (Or.inl (ow hw (i := 50) rfl)) Via.refl (hb hby d9_1) (pc' := 4) rfl (j := 14) rfl (q := 5) rfl ?_
  intro T B
  refine W_getfield B hown (host := "") (Or.inl (ow hw (i := 67) rfl)) Via.refl (hb hby d9_4) (pc' := 7) rfl (j := 3) rfl (q := 2) rfl ?_
  intro T B
  refine W_iloadN B (hb hby d9_7) (pc' := 8) rfl rfl ?_
  refine W_iaload B (hb hby d9_8) (pc' := 9) rfl (i := 2) rfl (by decide) (v := (.int (0 : Int32))) rfl ?_
  refine W_istoreN B (hb hby d9_9) (pc' := 10) rfl (v := (0 : Int32)) rfl (ls' := #[.val (.ref a1), .val (.int (0 : Int32)), .val (.int p1), .val (.int (0 : Int32))]) rfl ?_
  refine W_iloadN B (hb hby d9_10) (pc' := 11) rfl rfl ?_
  refine W_aloadN B (hb hby d9_11) (pc' := 12) rfl rfl rfl ?_
  refine W_getfield B hown (host := "") (Or.inl (ow hw (i := 46) rfl)) Via.refl (hb hby d9_12) (pc' := 15) rfl (j := 14) rfl (q := 3) rfl ?_
  intro T B
  refine W_getfield B hown (host := "") (Or.inl (ow hw (i := 67) rfl)) Via.refl (hb hby d9_15) (pc' := 18) rfl (j := 7) rfl (q := 2) rfl ?_
  intro T B
  refine W_iloadN B (hb hby d9_18) (pc' := 19) rfl rfl ?_
  refine W_iaload B (hb hby d9_19) (pc' := 20) rfl (i := 6) rfl (by decide) (v := (.int z0)) rfl ?_
  refine W_icmp_lt B (hb hby d9_20) (by decide) (pt := 51) (by decide) (pc' := 23) rfl (fun (c115 : p1 < z0) => ?_) (fun (c115 : ¬ p1 < z0) => ?_)
  · refine W_iloadN B (hb hby d9_51) (pc' := 52) rfl rfl ?_
    refine W_retI B hret (hb hby d9_52) (by decide) ?_
    exact Or.inl ⟨c115, rfl, rfl⟩
  refine W_iloadN B (hb hby d9_23) (pc' := 24) rfl rfl ?_
  refine W_istoreN B (hb hby d9_24) (pc' := 25) rfl (v := (0 : Int32)) rfl (ls' := #[.val (.ref a1), .val (.int (0 : Int32)), .val (.int p1), .val (.int (0 : Int32))]) rfl ?_
  refine W_iloadN B (hb hby d9_25) (pc' := 26) rfl rfl ?_
  refine W_aloadN B (hb hby d9_26) (pc' := 27) rfl rfl rfl ?_
  refine W_getfield B hown (host := "") (Or.inl (ow hw (i := 44) rfl)) Via.refl (hb hby d9_27) (pc' := 30) rfl (j := 14) rfl (q := 2) rfl ?_
  intro T B
  refine W_getfield B hown (host := "") (Or.inl (ow hw (i := 67) rfl)) Via.refl (hb hby d9_30) (pc' := 33) rfl (j := 9) rfl (q := 2) rfl ?_
  intro T B
  refine W_iloadN B (hb hby d9_33) (pc' := 34) rfl rfl ?_
  refine W_iaload B (hb hby d9_34) (pc' := 35) rfl (i := 8) rfl (by decide) (v := (.int (0 : Int32))) rfl ?_
  refine W_icmpY B (hb hby d9_35) (by decide) (pc' := 51) (by decide) (flt hp).2.1 ?_
  refine W_iloadN B (hb hby d9_51) (pc' := 52) rfl rfl ?_
  refine W_retI B hret (hb hby d9_52) (by decide) ?_
  exact Or.inr (⟨c115, rfl, rfl⟩)
theorem ef_rm_ho111 (m : MethodId) (x0 : Addr) (x2 : Int32) : entryFrame m #[(.ref x0), (.int (1 : Int32)), (.int x2)] 4 = mkF m 0 #[.val (.ref x0), .val (.int (1 : Int32)), .val (.int x2), .unset] [] := by first | (simp [entryFrame, mkF, argsToLocals, Value.category]; done) | rfl
set_option maxRecDepth 65536 in
set_option maxHeartbeats 40000000 in
theorem rm_ho111 (l : Launch) (Z : State) (a0 : Array Value) (hw : ∀ d ∈ tables_1, d.before a0 Z = true) (h0 : Heap) {lo : Nat} (a1 : Addr) (s1 : Addr) (c0 : Addr) (d0 : Addr) (c1 : Addr) (d1 : Addr) (c2 : Addr) (d2 : Addr) (c3 : Addr) (d3 : Addr) (c4 : Addr) (d4 : Addr) (c5 : Addr) (d5 : Addr) (c6 : Addr) (d6 : Addr) (p1 : Int32) (n1 : Int32) (vs : List Value) (f0 : Int32) (f1 : Int32) (f2 : Int32) (y1 : Int32) (y2 : Int32) (z0 : Int32) (z1 : Int32) (z2 : Int32) (t0 : Int32) (t1 : Int32) (t2 : Int32) (ds : oDs) (hp : ¬ p1 < (0 : Int32)) :
    oMet l Z h0 lo (⟨"com/example/tanglemark/tanglemark/datalog/SharedSets", "holder", "(II)I"⟩ : MethodName) prog_51_method_5_code 4 (some .int) [] ({ frames := 0, cells := 0, slots := 0, locals := 0 } : Room) #[(.ref a1), (.int (1 : Int32)), (.int p1)] ((d6, oA .int [(.int t0), (.int t1), (.int t2), o0, o0, o0, o0, o0, o0, o0, o0, o0, o0, o0, o0, o0]) :: (c6, oO cn0 [(fk0, (.ref s1)), (fk1, (.int (2147483639 : Int32))), (fk2, (.ref d6)), (fk3, (.int (3 : Int32)))]) :: (d5, oA .int [o0, o0, o0, o0, o0, o0, o0, o0, o0, o0, o0, o0, o0, o0, o0, o0]) :: (c5, oO cn0 [(fk0, (.ref s1)), (fk1, (.int (2147483639 : Int32))), (fk2, (.ref d5)), (fk3, (.int (3 : Int32)))]) :: (d4, oA .int [(.int (-1 : Int32)), o0, (.int (1 : Int32)), o0, o0, o0, o0, o0, o0, o0, o0, o0, o0, o0, o0, o0]) :: (c4, oO cn0 [(fk0, (.ref s1)), (fk1, (.int (2147483639 : Int32))), (fk2, (.ref d4)), (fk3, (.int (3 : Int32)))]) :: (d3, oA .int [(.int z0), (.int z1), (.int z2), o0, o0, o0, o0, o0, o0, o0, o0, o0, o0, o0, o0, o0]) :: (c3, oO cn0 [(fk0, (.ref s1)), (fk1, (.int (2147483639 : Int32))), (fk2, (.ref d3)), (fk3, (.int (3 : Int32)))]) :: (d2, oA .int [o0, (.int y1), (.int y2), o0, o0, o0, o0, o0, o0, o0, o0, o0, o0, o0, o0, o0]) :: (c2, oO cn0 [(fk0, (.ref s1)), (fk1, (.int (2147483639 : Int32))), (fk2, (.ref d2)), (fk3, (.int (3 : Int32)))]) :: (d1, oA .int [(.int f0), (.int f1), (.int f2), o0, o0, o0, o0, o0, o0, o0, o0, o0, o0, o0, o0, o0]) :: (c1, oO cn0 [(fk0, (.ref s1)), (fk1, (.int (2147483639 : Int32))), (fk2, (.ref d1)), (fk3, (.int (3 : Int32)))]) :: (d0, oA .int vs) :: (c0, oO cn0 [(fk0, (.ref s1)), (fk1, (.int (2147483639 : Int32))), (fk2, (.ref d0)), (fk3, (.int n1))]) :: (a1, oO cn1 [(fk4, (.ref c0)), (fk5, (.ref c1)), (fk6, (.ref c2)), (fk7, (.ref c3)), (fk8, (.ref c4)), (fk9, (.ref c5)), (fk10, (.ref c6))]) :: ds) (fun (v : Option Value) (d : oDs) => ((p1 < z0) ∧ v = some (.int (0 : Int32)) ∧ ((d6, oA .int [(.int t0), (.int t1), (.int t2), o0, o0, o0, o0, o0, o0, o0, o0, o0, o0, o0, o0, o0]) :: (c6, oO cn0 [(fk0, (.ref s1)), (fk1, (.int (2147483639 : Int32))), (fk2, (.ref d6)), (fk3, (.int (3 : Int32)))]) :: (d5, oA .int [o0, o0, o0, o0, o0, o0, o0, o0, o0, o0, o0, o0, o0, o0, o0, o0]) :: (c5, oO cn0 [(fk0, (.ref s1)), (fk1, (.int (2147483639 : Int32))), (fk2, (.ref d5)), (fk3, (.int (3 : Int32)))]) :: (d4, oA .int [(.int (-1 : Int32)), o0, (.int (1 : Int32)), o0, o0, o0, o0, o0, o0, o0, o0, o0, o0, o0, o0, o0]) :: (c4, oO cn0 [(fk0, (.ref s1)), (fk1, (.int (2147483639 : Int32))), (fk2, (.ref d4)), (fk3, (.int (3 : Int32)))]) :: (d3, oA .int [(.int z0), (.int z1), (.int z2), o0, o0, o0, o0, o0, o0, o0, o0, o0, o0, o0, o0, o0]) :: (c3, oO cn0 [(fk0, (.ref s1)), (fk1, (.int (2147483639 : Int32))), (fk2, (.ref d3)), (fk3, (.int (3 : Int32)))]) :: (d2, oA .int [o0, (.int y1), (.int y2), o0, o0, o0, o0, o0, o0, o0, o0, o0, o0, o0, o0, o0]) :: (c2, oO cn0 [(fk0, (.ref s1)), (fk1, (.int (2147483639 : Int32))), (fk2, (.ref d2)), (fk3, (.int (3 : Int32)))]) :: (d1, oA .int [(.int f0), (.int f1), (.int f2), o0, o0, o0, o0, o0, o0, o0, o0, o0, o0, o0, o0, o0]) :: (c1, oO cn0 [(fk0, (.ref s1)), (fk1, (.int (2147483639 : Int32))), (fk2, (.ref d1)), (fk3, (.int (3 : Int32)))]) :: (d0, oA .int vs) :: (c0, oO cn0 [(fk0, (.ref s1)), (fk1, (.int (2147483639 : Int32))), (fk2, (.ref d0)), (fk3, (.int n1))]) :: (a1, oO cn1 [(fk4, (.ref c0)), (fk5, (.ref c1)), (fk6, (.ref c2)), (fk7, (.ref c3)), (fk8, (.ref c4)), (fk9, (.ref c5)), (fk10, (.ref c6))]) :: ds) = d) ∨ ((¬ p1 < z0) ∧ (¬ p1 < y1) ∧ v = some (.int (1 : Int32)) ∧ ((d6, oA .int [(.int t0), (.int t1), (.int t2), o0, o0, o0, o0, o0, o0, o0, o0, o0, o0, o0, o0, o0]) :: (c6, oO cn0 [(fk0, (.ref s1)), (fk1, (.int (2147483639 : Int32))), (fk2, (.ref d6)), (fk3, (.int (3 : Int32)))]) :: (d5, oA .int [o0, o0, o0, o0, o0, o0, o0, o0, o0, o0, o0, o0, o0, o0, o0, o0]) :: (c5, oO cn0 [(fk0, (.ref s1)), (fk1, (.int (2147483639 : Int32))), (fk2, (.ref d5)), (fk3, (.int (3 : Int32)))]) :: (d4, oA .int [(.int (-1 : Int32)), o0, (.int (1 : Int32)), o0, o0, o0, o0, o0, o0, o0, o0, o0, o0, o0, o0, o0]) :: (c4, oO cn0 [(fk0, (.ref s1)), (fk1, (.int (2147483639 : Int32))), (fk2, (.ref d4)), (fk3, (.int (3 : Int32)))]) :: (d3, oA .int [(.int z0), (.int z1), (.int z2), o0, o0, o0, o0, o0, o0, o0, o0, o0, o0, o0, o0, o0]) :: (c3, oO cn0 [(fk0, (.ref s1)), (fk1, (.int (2147483639 : Int32))), (fk2, (.ref d3)), (fk3, (.int (3 : Int32)))]) :: (d2, oA .int [o0, (.int y1), (.int y2), o0, o0, o0, o0, o0, o0, o0, o0, o0, o0, o0, o0, o0]) :: (c2, oO cn0 [(fk0, (.ref s1)), (fk1, (.int (2147483639 : Int32))), (fk2, (.ref d2)), (fk3, (.int (3 : Int32)))]) :: (d1, oA .int [(.int f0), (.int f1), (.int f2), o0, o0, o0, o0, o0, o0, o0, o0, o0, o0, o0, o0, o0]) :: (c1, oO cn0 [(fk0, (.ref s1)), (fk1, (.int (2147483639 : Int32))), (fk2, (.ref d1)), (fk3, (.int (3 : Int32)))]) :: (d0, oA .int vs) :: (c0, oO cn0 [(fk0, (.ref s1)), (fk1, (.int (2147483639 : Int32))), (fk2, (.ref d0)), (fk3, (.int n1))]) :: (a1, oO cn1 [(fk4, (.ref c0)), (fk5, (.ref c1)), (fk6, (.ref c2)), (fk7, (.ref c3)), (fk8, (.ref c4)), (fk9, (.ref c5)), (fk10, (.ref c6))]) :: ds) = d) ∨ ((¬ p1 < z0) ∧ (p1 < y1) ∧ v = some (.int (0 : Int32)) ∧ ((d6, oA .int [(.int t0), (.int t1), (.int t2), o0, o0, o0, o0, o0, o0, o0, o0, o0, o0, o0, o0, o0]) :: (c6, oO cn0 [(fk0, (.ref s1)), (fk1, (.int (2147483639 : Int32))), (fk2, (.ref d6)), (fk3, (.int (3 : Int32)))]) :: (d5, oA .int [o0, o0, o0, o0, o0, o0, o0, o0, o0, o0, o0, o0, o0, o0, o0, o0]) :: (c5, oO cn0 [(fk0, (.ref s1)), (fk1, (.int (2147483639 : Int32))), (fk2, (.ref d5)), (fk3, (.int (3 : Int32)))]) :: (d4, oA .int [(.int (-1 : Int32)), o0, (.int (1 : Int32)), o0, o0, o0, o0, o0, o0, o0, o0, o0, o0, o0, o0, o0]) :: (c4, oO cn0 [(fk0, (.ref s1)), (fk1, (.int (2147483639 : Int32))), (fk2, (.ref d4)), (fk3, (.int (3 : Int32)))]) :: (d3, oA .int [(.int z0), (.int z1), (.int z2), o0, o0, o0, o0, o0, o0, o0, o0, o0, o0, o0, o0, o0]) :: (c3, oO cn0 [(fk0, (.ref s1)), (fk1, (.int (2147483639 : Int32))), (fk2, (.ref d3)), (fk3, (.int (3 : Int32)))]) :: (d2, oA .int [o0, (.int y1), (.int y2), o0, o0, o0, o0, o0, o0, o0, o0, o0, o0, o0, o0, o0]) :: (c2, oO cn0 [(fk0, (.ref s1)), (fk1, (.int (2147483639 : Int32))), (fk2, (.ref d2)), (fk3, (.int (3 : Int32)))]) :: (d1, oA .int [(.int f0), (.int f1), (.int f2), o0, o0, o0, o0, o0, o0, o0, o0, o0, o0, o0, o0, o0]) :: (c1, oO cn0 [(fk0, (.ref s1)), (fk1, (.int (2147483639 : Int32))), (fk2, (.ref d1)), (fk3, (.int (3 : Int32)))]) :: (d0, oA .int vs) :: (c0, oO cn0 [(fk0, (.ref s1)), (fk1, (.int (2147483639 : Int32))), (fk2, (.ref d0)), (fk3, (.int n1))]) :: (a1, oO cn1 [(fk4, (.ref c0)), (fk5, (.ref c1)), (fk6, (.ref c2)), (fk7, (.ref c3)), (fk8, (.ref c4)), (fk9, (.ref c5)), (fk10, (.ref c6))]) :: ds) = d)) := by
  refine oMet.of_body (plainFor_of_name pn_1) ?_
  intro p e s m below meth c T B hby hml hown hnm hret
  refine W_entry (ef_rm_ho111 m a1 p1) ?_
  refine W_aloadN B (hb hby d9_0) (pc' := 1) rfl rfl rfl ?_
  refine W_getfield B hown (host := "") (Or.inl (ow hw (i := 50) rfl)) Via.refl (hb hby d9_1) (pc' := 4) rfl (j := 14) rfl (q := 5) rfl ?_
  intro T B
  refine W_getfield B hown (host := "") (Or.inl (ow hw (i := 67) rfl)) Via.refl (hb hby d9_4) (pc' := 7) rfl (j := 3) rfl (q := 2) rfl ?_
  intro T B
  refine W_iloadN B (hb hby d9_7) (pc' := 8) rfl rfl ?_
  refine W_iaload B (hb hby d9_8) (pc' := 9) rfl (i := 2) rfl (by decide) (v := (.int (0 : Int32))) rfl ?_
  refine W_istoreN B (hb hby d9_9) (pc' := 10) rfl (v := (0 : Int32)) rfl (ls' := #[.val (.ref a1), .val (.int (1 : Int32)), .val (.int p1), .val (.int (0 : Int32))]) rfl ?_
  refine W_iloadN B (hb hby d9_10) (pc' := 11) rfl rfl ?_
  refine W_aloadN B (hb hby d9_11) (pc' := 12) rfl rfl rfl ?_
  refine W_getfield B hown (host := "") (Or.inl (ow hw (i := 46) rfl)) Via.refl (hb hby d9_12) (pc' := 15) rfl (j := 14) rfl (q := 3) rfl ?_
  intro T B
  refine W_getfield B hown (host := "") (Or.inl (ow hw (i := 67) rfl)) Via.refl (hb hby d9_15) (pc' := 18) rfl (j := 7) rfl (q := 2) rfl ?_
  intro T B
  refine W_iloadN B (hb hby d9_18) (pc' := 19) rfl rfl ?_
  refine W_iaload B (hb hby d9_19) (pc' := 20) rfl (i := 6) rfl (by decide) (v := (.int z0)) rfl ?_
  refine W_icmp_lt B (hb hby d9_20) (by decide) (pt := 51) (by decide) (pc' := 23) rfl (fun (c116 : p1 < z0) => ?_) (fun (c116 : ¬ p1 < z0) => ?_)
  · refine W_iloadN B (hb hby d9_51) (pc' := 52) rfl rfl ?_
    refine W_retI B hret (hb hby d9_52) (by decide) ?_
    exact Or.inl ⟨c116, rfl, rfl⟩
  refine W_iloadN B (hb hby d9_23) (pc' := 24) rfl rfl ?_
  refine W_istoreN B (hb hby d9_24) (pc' := 25) rfl (v := (1 : Int32)) rfl (ls' := #[.val (.ref a1), .val (.int (1 : Int32)), .val (.int p1), .val (.int (1 : Int32))]) rfl ?_
  refine W_iloadN B (hb hby d9_25) (pc' := 26) rfl rfl ?_
  refine W_aloadN B (hb hby d9_26) (pc' := 27) rfl rfl rfl ?_
  refine W_getfield B hown (host := "") (Or.inl (ow hw (i := 44) rfl)) Via.refl (hb hby d9_27) (pc' := 30) rfl (j := 14) rfl (q := 2) rfl ?_
  intro T B
  refine W_getfield B hown (host := "") (Or.inl (ow hw (i := 67) rfl)) Via.refl (hb hby d9_30) (pc' := 33) rfl (j := 9) rfl (q := 2) rfl ?_
  intro T B
  refine W_iloadN B (hb hby d9_33) (pc' := 34) rfl rfl ?_
  refine W_iaload B (hb hby d9_34) (pc' := 35) rfl (i := 8) rfl (by decide) (v := (.int y1)) rfl ?_
  refine W_icmp_ge B (hb hby d9_35) (by decide) (pt := 51) (by decide) (pc' := 38) rfl (fun (c117 : ¬ p1 < y1) => ?_) (fun (c117 : p1 < y1) => ?_)
  · refine W_iloadN B (hb hby d9_51) (pc' := 52) rfl rfl ?_
    refine W_retI B hret (hb hby d9_52) (by decide) ?_
    exact Or.inr (Or.inl ⟨c116, c117, rfl, rfl⟩)
  refine W_aloadN B (hb hby d9_38) (pc' := 39) rfl rfl rfl ?_
  refine W_getfield B hown (host := "") (Or.inl (ow hw (i := 48) rfl)) Via.refl (hb hby d9_39) (pc' := 42) rfl (j := 14) rfl (q := 4) rfl ?_
  intro T B
  refine W_getfield B hown (host := "") (Or.inl (ow hw (i := 67) rfl)) Via.refl (hb hby d9_42) (pc' := 45) rfl (j := 5) rfl (q := 2) rfl ?_
  intro T B
  refine W_iloadN B (hb hby d9_45) (pc' := 46) rfl rfl ?_
  refine W_iaload B (hb hby d9_46) (pc' := 47) rfl (i := 4) rfl (by decide) (v := (.int (0 : Int32))) rfl ?_
  refine W_istoreN B (hb hby d9_47) (pc' := 48) rfl (v := (0 : Int32)) rfl (ls' := #[.val (.ref a1), .val (.int (1 : Int32)), .val (.int p1), .val (.int (0 : Int32))]) rfl ?_
  refine W_goto B (hb hby d9_48) (by decide) (pc' := 25) (by decide) ?_
  refine W_iloadN B (hb hby d9_25) (pc' := 26) rfl rfl ?_
  refine W_aloadN B (hb hby d9_26) (pc' := 27) rfl rfl rfl ?_
  refine W_getfield B hown (host := "") (Or.inl (ow hw (i := 44) rfl)) Via.refl (hb hby d9_27) (pc' := 30) rfl (j := 14) rfl (q := 2) rfl ?_
  intro T B
  refine W_getfield B hown (host := "") (Or.inl (ow hw (i := 67) rfl)) Via.refl (hb hby d9_30) (pc' := 33) rfl (j := 9) rfl (q := 2) rfl ?_
  intro T B
  refine W_iloadN B (hb hby d9_33) (pc' := 34) rfl rfl ?_
  refine W_iaload B (hb hby d9_34) (pc' := 35) rfl (i := 8) rfl (by decide) (v := (.int (0 : Int32))) rfl ?_
  refine W_icmpY B (hb hby d9_35) (by decide) (pc' := 51) (by decide) (flt hp).2.1 ?_
  refine W_iloadN B (hb hby d9_51) (pc' := 52) rfl rfl ?_
  refine W_retI B hret (hb hby d9_52) (by decide) ?_
  exact Or.inr (Or.inr (⟨c116, c117, rfl, rfl⟩))
theorem ef_rm_ho112 (m : MethodId) (x0 : Addr) (x2 : Int32) : entryFrame m #[(.ref x0), (.int (2 : Int32)), (.int x2)] 4 = mkF m 0 #[.val (.ref x0), .val (.int (2 : Int32)), .val (.int x2), .unset] [] := by first | (simp [entryFrame, mkF, argsToLocals, Value.category]; done) | rfl
set_option maxRecDepth 65536 in
set_option maxHeartbeats 40000000 in
theorem rm_ho112 (l : Launch) (Z : State) (a0 : Array Value) (hw : ∀ d ∈ tables_1, d.before a0 Z = true) (h0 : Heap) {lo : Nat} (a1 : Addr) (s1 : Addr) (c0 : Addr) (d0 : Addr) (c1 : Addr) (d1 : Addr) (c2 : Addr) (d2 : Addr) (c3 : Addr) (d3 : Addr) (c4 : Addr) (d4 : Addr) (c5 : Addr) (d5 : Addr) (c6 : Addr) (d6 : Addr) (p1 : Int32) (n1 : Int32) (vs : List Value) (f0 : Int32) (f1 : Int32) (f2 : Int32) (y1 : Int32) (y2 : Int32) (z0 : Int32) (z1 : Int32) (z2 : Int32) (t0 : Int32) (t1 : Int32) (t2 : Int32) (ds : oDs) (hp : ¬ p1 < (0 : Int32)) :
    oMet l Z h0 lo (⟨"com/example/tanglemark/tanglemark/datalog/SharedSets", "holder", "(II)I"⟩ : MethodName) prog_51_method_5_code 4 (some .int) [] ({ frames := 0, cells := 0, slots := 0, locals := 0 } : Room) #[(.ref a1), (.int (2 : Int32)), (.int p1)] ((d6, oA .int [(.int t0), (.int t1), (.int t2), o0, o0, o0, o0, o0, o0, o0, o0, o0, o0, o0, o0, o0]) :: (c6, oO cn0 [(fk0, (.ref s1)), (fk1, (.int (2147483639 : Int32))), (fk2, (.ref d6)), (fk3, (.int (3 : Int32)))]) :: (d5, oA .int [o0, o0, o0, o0, o0, o0, o0, o0, o0, o0, o0, o0, o0, o0, o0, o0]) :: (c5, oO cn0 [(fk0, (.ref s1)), (fk1, (.int (2147483639 : Int32))), (fk2, (.ref d5)), (fk3, (.int (3 : Int32)))]) :: (d4, oA .int [(.int (-1 : Int32)), o0, (.int (1 : Int32)), o0, o0, o0, o0, o0, o0, o0, o0, o0, o0, o0, o0, o0]) :: (c4, oO cn0 [(fk0, (.ref s1)), (fk1, (.int (2147483639 : Int32))), (fk2, (.ref d4)), (fk3, (.int (3 : Int32)))]) :: (d3, oA .int [(.int z0), (.int z1), (.int z2), o0, o0, o0, o0, o0, o0, o0, o0, o0, o0, o0, o0, o0]) :: (c3, oO cn0 [(fk0, (.ref s1)), (fk1, (.int (2147483639 : Int32))), (fk2, (.ref d3)), (fk3, (.int (3 : Int32)))]) :: (d2, oA .int [o0, (.int y1), (.int y2), o0, o0, o0, o0, o0, o0, o0, o0, o0, o0, o0, o0, o0]) :: (c2, oO cn0 [(fk0, (.ref s1)), (fk1, (.int (2147483639 : Int32))), (fk2, (.ref d2)), (fk3, (.int (3 : Int32)))]) :: (d1, oA .int [(.int f0), (.int f1), (.int f2), o0, o0, o0, o0, o0, o0, o0, o0, o0, o0, o0, o0, o0]) :: (c1, oO cn0 [(fk0, (.ref s1)), (fk1, (.int (2147483639 : Int32))), (fk2, (.ref d1)), (fk3, (.int (3 : Int32)))]) :: (d0, oA .int vs) :: (c0, oO cn0 [(fk0, (.ref s1)), (fk1, (.int (2147483639 : Int32))), (fk2, (.ref d0)), (fk3, (.int n1))]) :: (a1, oO cn1 [(fk4, (.ref c0)), (fk5, (.ref c1)), (fk6, (.ref c2)), (fk7, (.ref c3)), (fk8, (.ref c4)), (fk9, (.ref c5)), (fk10, (.ref c6))]) :: ds) (fun (v : Option Value) (d : oDs) => ((p1 < z0) ∧ v = some (.int (0 : Int32)) ∧ ((d6, oA .int [(.int t0), (.int t1), (.int t2), o0, o0, o0, o0, o0, o0, o0, o0, o0, o0, o0, o0, o0]) :: (c6, oO cn0 [(fk0, (.ref s1)), (fk1, (.int (2147483639 : Int32))), (fk2, (.ref d6)), (fk3, (.int (3 : Int32)))]) :: (d5, oA .int [o0, o0, o0, o0, o0, o0, o0, o0, o0, o0, o0, o0, o0, o0, o0, o0]) :: (c5, oO cn0 [(fk0, (.ref s1)), (fk1, (.int (2147483639 : Int32))), (fk2, (.ref d5)), (fk3, (.int (3 : Int32)))]) :: (d4, oA .int [(.int (-1 : Int32)), o0, (.int (1 : Int32)), o0, o0, o0, o0, o0, o0, o0, o0, o0, o0, o0, o0, o0]) :: (c4, oO cn0 [(fk0, (.ref s1)), (fk1, (.int (2147483639 : Int32))), (fk2, (.ref d4)), (fk3, (.int (3 : Int32)))]) :: (d3, oA .int [(.int z0), (.int z1), (.int z2), o0, o0, o0, o0, o0, o0, o0, o0, o0, o0, o0, o0, o0]) :: (c3, oO cn0 [(fk0, (.ref s1)), (fk1, (.int (2147483639 : Int32))), (fk2, (.ref d3)), (fk3, (.int (3 : Int32)))]) :: (d2, oA .int [o0, (.int y1), (.int y2), o0, o0, o0, o0, o0, o0, o0, o0, o0, o0, o0, o0, o0]) :: (c2, oO cn0 [(fk0, (.ref s1)), (fk1, (.int (2147483639 : Int32))), (fk2, (.ref d2)), (fk3, (.int (3 : Int32)))]) :: (d1, oA .int [(.int f0), (.int f1), (.int f2), o0, o0, o0, o0, o0, o0, o0, o0, o0, o0, o0, o0, o0]) :: (c1, oO cn0 [(fk0, (.ref s1)), (fk1, (.int (2147483639 : Int32))), (fk2, (.ref d1)), (fk3, (.int (3 : Int32)))]) :: (d0, oA .int vs) :: (c0, oO cn0 [(fk0, (.ref s1)), (fk1, (.int (2147483639 : Int32))), (fk2, (.ref d0)), (fk3, (.int n1))]) :: (a1, oO cn1 [(fk4, (.ref c0)), (fk5, (.ref c1)), (fk6, (.ref c2)), (fk7, (.ref c3)), (fk8, (.ref c4)), (fk9, (.ref c5)), (fk10, (.ref c6))]) :: ds) = d) ∨ ((¬ p1 < z0) ∧ (¬ p1 < y2) ∧ v = some (.int (2 : Int32)) ∧ ((d6, oA .int [(.int t0), (.int t1), (.int t2), o0, o0, o0, o0, o0, o0, o0, o0, o0, o0, o0, o0, o0]) :: (c6, oO cn0 [(fk0, (.ref s1)), (fk1, (.int (2147483639 : Int32))), (fk2, (.ref d6)), (fk3, (.int (3 : Int32)))]) :: (d5, oA .int [o0, o0, o0, o0, o0, o0, o0, o0, o0, o0, o0, o0, o0, o0, o0, o0]) :: (c5, oO cn0 [(fk0, (.ref s1)), (fk1, (.int (2147483639 : Int32))), (fk2, (.ref d5)), (fk3, (.int (3 : Int32)))]) :: (d4, oA .int [(.int (-1 : Int32)), o0, (.int (1 : Int32)), o0, o0, o0, o0, o0, o0, o0, o0, o0, o0, o0, o0, o0]) :: (c4, oO cn0 [(fk0, (.ref s1)), (fk1, (.int (2147483639 : Int32))), (fk2, (.ref d4)), (fk3, (.int (3 : Int32)))]) :: (d3, oA .int [(.int z0), (.int z1), (.int z2), o0, o0, o0, o0, o0, o0, o0, o0, o0, o0, o0, o0, o0]) :: (c3, oO cn0 [(fk0, (.ref s1)), (fk1, (.int (2147483639 : Int32))), (fk2, (.ref d3)), (fk3, (.int (3 : Int32)))]) :: (d2, oA .int [o0, (.int y1), (.int y2), o0, o0, o0, o0, o0, o0, o0, o0, o0, o0, o0, o0, o0]) :: (c2, oO cn0 [(fk0, (.ref s1)), (fk1, (.int (2147483639 : Int32))), (fk2, (.ref d2)), (fk3, (.int (3 : Int32)))]) :: (d1, oA .int [(.int f0), (.int f1), (.int f2), o0, o0, o0, o0, o0, o0, o0, o0, o0, o0, o0, o0, o0]) :: (c1, oO cn0 [(fk0, (.ref s1)), (fk1, (.int (2147483639 : Int32))), (fk2, (.ref d1)), (fk3, (.int (3 : Int32)))]) :: (d0, oA .int vs) :: (c0, oO cn0 [(fk0, (.ref s1)), (fk1, (.int (2147483639 : Int32))), (fk2, (.ref d0)), (fk3, (.int n1))]) :: (a1, oO cn1 [(fk4, (.ref c0)), (fk5, (.ref c1)), (fk6, (.ref c2)), (fk7, (.ref c3)), (fk8, (.ref c4)), (fk9, (.ref c5)), (fk10, (.ref c6))]) :: ds) = d) ∨ ((¬ p1 < z0) ∧ (p1 < y2) ∧ (¬ p1 < y1) ∧ v = some (.int (1 : Int32)) ∧ ((d6, oA .int [(.int t0), (.int t1), (.int t2), o0, o0, o0, o0, o0, o0, o0, o0, o0, o0, o0, o0, o0]) :: (c6, oO cn0 [(fk0, (.ref s1)), (fk1, (.int (2147483639 : Int32))), (fk2, (.ref d6)), (fk3, (.int (3 : Int32)))]) :: (d5, oA .int [o0, o0, o0, o0, o0, o0, o0, o0, o0, o0, o0, o0, o0, o0, o0, o0]) :: (c5, oO cn0 [(fk0, (.ref s1)), (fk1, (.int (2147483639 : Int32))), (fk2, (.ref d5)), (fk3, (.int (3 : Int32)))]) :: (d4, oA .int [(.int (-1 : Int32)), o0, (.int (1 : Int32)), o0, o0, o0, o0, o0, o0, o0, o0, o0, o0, o0, o0, o0]) :: (c4, oO cn0 [(fk0, (.ref s1)), (fk1, (.int (2147483639 : Int32))), (fk2, (.ref d4)), (fk3, (.int (3 : Int32)))]) :: (d3, oA .int [(.int z0), (.int z1), (.int z2), o0, o0, o0, o0, o0, o0, o0, o0, o0, o0, o0, o0, o0]) :: (c3, oO cn0 [(fk0, (.ref s1)), (fk1, (.int (2147483639 : Int32))), (fk2, (.ref d3)), (fk3, (.int (3 : Int32)))]) :: (d2, oA .int [o0, (.int y1), (.int y2), o0, o0, o0, o0, o0, o0, o0, o0, o0, o0, o0, o0, o0]) :: (c2, oO cn0 [(fk0, (.ref s1)), (fk1, (.int (2147483639 : Int32))), (fk2, (.ref d2)), (fk3, (.int (3 : Int32)))]) :: (d1, oA .int [(.int f0), (.int f1), (.int f2), o0, o0, o0, o0, o0, o0, o0, o0, o0, o0, o0, o0, o0]) :: (c1, oO cn0 [(fk0, (.ref s1)), (fk1, (.int (2147483639 : Int32))), (fk2, (.ref d1)), (fk3, (.int (3 : Int32)))]) :: (d0, oA .int vs) :: (c0, oO cn0 [(fk0, (.ref s1)), (fk1, (.int (2147483639 : Int32))), (fk2, (.ref d0)), (fk3, (.int n1))]) :: (a1, oO cn1 [(fk4, (.ref c0)), (fk5, (.ref c1)), (fk6, (.ref c2)), (fk7, (.ref c3)), (fk8, (.ref c4)), (fk9, (.ref c5)), (fk10, (.ref c6))]) :: ds) = d) ∨ ((¬ p1 < z0) ∧ (p1 < y2) ∧ (p1 < y1) ∧ v = some (.int (0 : Int32)) ∧ ((d6, oA .int [(.int t0), (.int t1), (.int t2), o0, o0, o0, o0, o0, o0, o0, o0, o0, o0, o0, o0, o0]) :: (c6, oO cn0 [(fk0, (.ref s1)), (fk1, (.int (2147483639 : Int32))), (fk2, (.ref d6)), (fk3, (.int (3 : Int32)))]) :: (d5, oA .int [o0, o0, o0, o0, o0, o0, o0, o0, o0, o0, o0, o0, o0, o0, o0, o0]) :: (c5, oO cn0 [(fk0, (.ref s1)), (fk1, (.int (2147483639 : Int32))), (fk2, (.ref d5)), (fk3, (.int (3 : Int32)))]) :: (d4, oA .int [(.int (-1 : Int32)), o0, (.int (1 : Int32)), o0, o0, o0, o0, o0, o0, o0, o0, o0, o0, o0, o0, o0]) :: (c4, oO cn0 [(fk0, (.ref s1)), (fk1, (.int (2147483639 : Int32))), (fk2, (.ref d4)), (fk3, (.int (3 : Int32)))]) :: (d3, oA .int [(.int z0), (.int z1), (.int z2), o0, o0, o0, o0, o0, o0, o0, o0, o0, o0, o0, o0, o0]) :: (c3, oO cn0 [(fk0, (.ref s1)), (fk1, (.int (2147483639 : Int32))), (fk2, (.ref d3)), (fk3, (.int (3 : Int32)))]) :: (d2, oA .int [o0, (.int y1), (.int y2), o0, o0, o0, o0, o0, o0, o0, o0, o0, o0, o0, o0, o0]) :: (c2, oO cn0 [(fk0, (.ref s1)), (fk1, (.int (2147483639 : Int32))), (fk2, (.ref d2)), (fk3, (.int (3 : Int32)))]) :: (d1, oA .int [(.int f0), (.int f1), (.int f2), o0, o0, o0, o0, o0, o0, o0, o0, o0, o0, o0, o0, o0]) :: (c1, oO cn0 [(fk0, (.ref s1)), (fk1, (.int (2147483639 : Int32))), (fk2, (.ref d1)), (fk3, (.int (3 : Int32)))]) :: (d0, oA .int vs) :: (c0, oO cn0 [(fk0, (.ref s1)), (fk1, (.int (2147483639 : Int32))), (fk2, (.ref d0)), (fk3, (.int n1))]) :: (a1, oO cn1 [(fk4, (.ref c0)), (fk5, (.ref c1)), (fk6, (.ref c2)), (fk7, (.ref c3)), (fk8, (.ref c4)), (fk9, (.ref c5)), (fk10, (.ref c6))]) :: ds) = d)) := by
  refine oMet.of_body (plainFor_of_name pn_1) ?_
  intro p e s m below meth c T B hby hml hown hnm hret
  refine W_entry (ef_rm_ho112 m a1 p1) ?_
  refine W_aloadN B (hb hby d9_0) (pc' := 1) rfl rfl rfl ?_
  refine W_getfield B hown (host := "") (Or.inl (ow hw (i := 50) rfl)) Via.refl (hb hby d9_1) (pc' := 4) rfl (j := 14) rfl (q := 5) rfl ?_
  intro T B
  refine W_getfield B hown (host := "") (Or.inl (ow hw (i := 67) rfl)) Via.refl (hb hby d9_4) (pc' := 7) rfl (j := 3) rfl (q := 2) rfl ?_
  intro T B
  refine W_iloadN B (hb hby d9_7) (pc' := 8) rfl rfl ?_
  refine W_iaload B (hb hby d9_8) (pc' := 9) rfl (i := 2) rfl (by decide) (v := (.int (0 : Int32))) rfl ?_
  refine W_istoreN B (hb hby d9_9) (pc' := 10) rfl (v := (0 : Int32)) rfl (ls' := #[.val (.ref a1), .val (.int (2 : Int32)), .val (.int p1), .val (.int (0 : Int32))]) rfl ?_
  refine W_iloadN B (hb hby d9_10) (pc' := 11) rfl rfl ?_
  refine W_aloadN B (hb hby d9_11) (pc' := 12) rfl rfl rfl ?_
  refine W_getfield B hown (host := "") (Or.inl (ow hw (i := 46) rfl)) Via.refl (hb hby d9_12) (pc' := 15) rfl (j := 14) rfl (q := 3) rfl ?_
  intro T B
  refine W_getfield B hown (host := "") (Or.inl (ow hw (i := 67) rfl)) Via.refl (hb hby d9_15) (pc' := 18) rfl (j := 7) rfl (q := 2) rfl ?_
  intro T B
  refine W_iloadN B (hb hby d9_18) (pc' := 19) rfl rfl ?_
  refine W_iaload B (hb hby d9_19) (pc' := 20) rfl (i := 6) rfl (by decide) (v := (.int z0)) rfl ?_
  refine W_icmp_lt B (hb hby d9_20) (by decide) (pt := 51) (by decide) (pc' := 23) rfl (fun (c118 : p1 < z0) => ?_) (fun (c118 : ¬ p1 < z0) => ?_)
  · refine W_iloadN B (hb hby d9_51) (pc' := 52) rfl rfl ?_
    refine W_retI B hret (hb hby d9_52) (by decide) ?_
    exact Or.inl ⟨c118, rfl, rfl⟩
  refine W_iloadN B (hb hby d9_23) (pc' := 24) rfl rfl ?_
  refine W_istoreN B (hb hby d9_24) (pc' := 25) rfl (v := (2 : Int32)) rfl (ls' := #[.val (.ref a1), .val (.int (2 : Int32)), .val (.int p1), .val (.int (2 : Int32))]) rfl ?_
  refine W_iloadN B (hb hby d9_25) (pc' := 26) rfl rfl ?_
  refine W_aloadN B (hb hby d9_26) (pc' := 27) rfl rfl rfl ?_
  refine W_getfield B hown (host := "") (Or.inl (ow hw (i := 44) rfl)) Via.refl (hb hby d9_27) (pc' := 30) rfl (j := 14) rfl (q := 2) rfl ?_
  intro T B
  refine W_getfield B hown (host := "") (Or.inl (ow hw (i := 67) rfl)) Via.refl (hb hby d9_30) (pc' := 33) rfl (j := 9) rfl (q := 2) rfl ?_
  intro T B
  refine W_iloadN B (hb hby d9_33) (pc' := 34) rfl rfl ?_
  refine W_iaload B (hb hby d9_34) (pc' := 35) rfl (i := 8) rfl (by decide) (v := (.int y2)) rfl ?_
  refine W_icmp_ge B (hb hby d9_35) (by decide) (pt := 51) (by decide) (pc' := 38) rfl (fun (c119 : ¬ p1 < y2) => ?_) (fun (c119 : p1 < y2) => ?_)
  · refine W_iloadN B (hb hby d9_51) (pc' := 52) rfl rfl ?_
    refine W_retI B hret (hb hby d9_52) (by decide) ?_
    exact Or.inr (Or.inl ⟨c118, c119, rfl, rfl⟩)
  refine W_aloadN B (hb hby d9_38) (pc' := 39) rfl rfl rfl ?_
  refine W_getfield B hown (host := "") (Or.inl (ow hw (i := 48) rfl)) Via.refl (hb hby d9_39) (pc' := 42) rfl (j := 14) rfl (q := 4) rfl ?_
  intro T B
  refine W_getfield B hown (host := "") (Or.inl (ow hw (i := 67) rfl)) Via.refl (hb hby d9_42) (pc' := 45) rfl (j := 5) rfl (q := 2) rfl ?_
  intro T B
  refine W_iloadN B (hb hby d9_45) (pc' := 46) rfl rfl ?_
  refine W_iaload B (hb hby d9_46) (pc' := 47) rfl (i := 4) rfl (by decide) (v := (.int (1 : Int32))) rfl ?_
  refine W_istoreN B (hb hby d9_47) (pc' := 48) rfl (v := (1 : Int32)) rfl (ls' := #[.val (.ref a1), .val (.int (2 : Int32)), .val (.int p1), .val (.int (1 : Int32))]) rfl ?_
  refine W_goto B (hb hby d9_48) (by decide) (pc' := 25) (by decide) ?_
  refine W_iloadN B (hb hby d9_25) (pc' := 26) rfl rfl ?_
  refine W_aloadN B (hb hby d9_26) (pc' := 27) rfl rfl rfl ?_
  refine W_getfield B hown (host := "") (Or.inl (ow hw (i := 44) rfl)) Via.refl (hb hby d9_27) (pc' := 30) rfl (j := 14) rfl (q := 2) rfl ?_
  intro T B
  refine W_getfield B hown (host := "") (Or.inl (ow hw (i := 67) rfl)) Via.refl (hb hby d9_30) (pc' := 33) rfl (j := 9) rfl (q := 2) rfl ?_
  intro T B
  refine W_iloadN B (hb hby d9_33) (pc' := 34) rfl rfl ?_
  refine W_iaload B (hb hby d9_34) (pc' := 35) rfl (i := 8) rfl (by decide) (v := (.int y1)) rfl ?_
  refine W_icmp_ge B (hb hby d9_35) (by decide) (pt := 51) (by decide) (pc' := 38) rfl (fun (c120 : ¬ p1 < y1) => ?_) (fun (c120 : p1 < y1) => ?_)
  · refine W_iloadN B (hb hby d9_51) (pc' := 52) rfl rfl ?_
    refine W_retI B hret (hb hby d9_52) (by decide) ?_
    exact Or.inr (Or.inr (Or.inl ⟨c118, c119, c120, rfl, rfl⟩))
  refine W_aloadN B (hb hby d9_38) (pc' := 39) rfl rfl rfl ?_
  refine W_getfield B hown (host := "") (Or.inl (ow hw (i := 48) rfl)) Via.refl (hb hby d9_39) (pc' := 42) rfl (j := 14) rfl (q := 4) rfl ?_
  intro T B
  refine W_getfield B hown (host := "") (Or.inl (ow hw (i := 67) rfl)) Via.refl (hb hby d9_42) (pc' := 45) rfl (j := 5) rfl (q := 2) rfl ?_
  intro T B
  refine W_iloadN B (hb hby d9_45) (pc' := 46) rfl rfl ?_
  refine W_iaload B (hb hby d9_46) (pc' := 47) rfl (i := 4) rfl (by decide) (v := (.int (0 : Int32))) rfl ?_
  refine W_istoreN B (hb hby d9_47) (pc' := 48) rfl (v := (0 : Int32)) rfl (ls' := #[.val (.ref a1), .val (.int (2 : Int32)), .val (.int p1), .val (.int (0 : Int32))]) rfl ?_
  refine W_goto B (hb hby d9_48) (by decide) (pc' := 25) (by decide) ?_
  refine W_iloadN B (hb hby d9_25) (pc' := 26) rfl rfl ?_
  refine W_aloadN B (hb hby d9_26) (pc' := 27) rfl rfl rfl ?_
  refine W_getfield B hown (host := "") (Or.inl (ow hw (i := 44) rfl)) Via.refl (hb hby d9_27) (pc' := 30) rfl (j := 14) rfl (q := 2) rfl ?_
  intro T B
  refine W_getfield B hown (host := "") (Or.inl (ow hw (i := 67) rfl)) Via.refl (hb hby d9_30) (pc' := 33) rfl (j := 9) rfl (q := 2) rfl ?_
  intro T B
  refine W_iloadN B (hb hby d9_33) (pc' := 34) rfl rfl ?_
  refine W_iaload B (hb hby d9_34) (pc' := 35) rfl (i := 8) rfl (by decide) (v := (.int (0 : Int32))) rfl ?_
  refine W_icmpY B (hb hby d9_35) (by decide) (pc' := 51) (by decide) (flt hp).2.1 ?_
  refine W_iloadN B (hb hby d9_51) (pc' := 52) rfl rfl ?_
  refine W_retI B hret (hb hby d9_52) (by decide) ?_
  exact Or.inr (Or.inr (Or.inr (⟨c118, c119, c120, rfl, rfl⟩)))
theorem own_strAtoms {Z : State} {a0 : Array Value} (hw : ∀ d ∈ tables_1, d.before a0 Z = true) : ∀ a ∈ Bundle.stringAtoms, a.before a0 Z = true := by
  intro d hd
  simp only [Bundle.stringAtoms, List.mem_cons, List.not_mem_nil, or_false] at hd
  rcases hd with rfl | rfl | rfl | rfl | rfl | rfl | rfl
  · exact (ow hw (i := 6) rfl)
  · exact (ow hw (i := 7) rfl)
  · exact (ow hw (i := 8) rfl)
  · exact (ow hw (i := 9) rfl)
  · exact (ow hw (i := 10) rfl)
  · exact (ow hw (i := 11) rfl)
  · exact (ow hw (i := 12) rfl)
theorem pd_5 : parseMethodDescriptor "(I[II)I" = some ⟨[.int, (.array .int), .int], some .int⟩ := by decide +kernel
theorem ef_rm0 (m : MethodId) (x0 : Int32) (x1 : Int32) (x2 : Int32) (x3 : Int32) : entryFrame m #[(.int x0), (.int x1), (.int x2), (.int x3)] maxLocals = mkF m 0 #[.val (.int x0), .val (.int x1), .val (.int x2), .val (.int x3), .unset, .unset, .unset, .unset, .unset, .unset, .unset, .unset, .unset, .unset, .unset, .unset, .unset, .unset, .unset, .unset, .unset, .unset, .unset, .unset] [] := by first | (simp [entryFrame, mkF, argsToLocals, Value.category, maxLocals]; done) | rfl
theorem pn_2 : plainName "com/example/tanglemark/tanglemark/datalog/SharedSetsHolderPinLaw" = true := by first | (simp [plainName, overriddenIn]; done) | decide +kernel
set_option maxRecDepth 65536 in
set_option maxHeartbeats 40000000 in
theorem rm0 (l : Launch) (Z : State) (a0 : Array Value) (hw : ∀ d ∈ tables_1, d.before a0 Z = true) (h0 : Heap) {lo : Nat} (a1 : Int32) (a2 : Int32) (a3 : Int32) (a4 : Int32) :
    oMetW l Z h0 lo x code maxLocals ret tables_1 room_1 #[(.int a1), (.int a2), (.int a3), (.int a4)] [] (fun (v : Option Value) (_ : oDs) => v = some (.int 1)) := by
  refine oMetW.of_body (plainFor_of_name pn_2) ?_
  intro p e s m below meth c T vm_ B hS hby hml hown hnm hret
  refine W_entry (ef_rm0 m a1 a2 a3 a4) ?_
  have hml : c.maxLocals = 24 := hml
  refine W_iloadN B (hb hby at_0) (pc' := 1) rfl rfl ?_
  refine W_iconst B (hb hby at_1) (pc' := 2) rfl (z := (3 : Int32)) (by decide) ?_
  refine W_iand B (hb hby at_2) (pc' := 3) rfl (z := (a1 &&& (3 : Int32))) rfl ?_
  obtain ⟨v121, hv121⟩ : ∃ z : Int32, z = (a1 &&& (3 : Int32)) := ⟨_, rfl⟩
  refine W_istore B (hb hby at_3) (pc' := 5) rfl (v := v121) hv121.symm (ls' := #[.val (.int a1), .val (.int a2), .val (.int a3), .val (.int a4), .val (.int v121), .unset, .unset, .unset, .unset, .unset, .unset, .unset, .unset, .unset, .unset, .unset, .unset, .unset, .unset, .unset, .unset, .unset, .unset, .unset]) rfl ?_
  have k122 := own_c4 hv121
  refine W_iloadN B (hb hby at_5) (pc' := 6) rfl rfl ?_
  refine W_iconst B (hb hby at_6) (pc' := 7) rfl (z := (2 : Int32)) (by decide) ?_
  refine W_iushr B (hb hby at_7) (pc' := 8) rfl (z := ((a1.toUInt32 >>> ((2 : Int32) &&& 31).toUInt32).toInt32)) rfl ?_
  refine W_iconst B (hb hby at_8) (pc' := 9) rfl (z := (3 : Int32)) (by decide) ?_
  refine W_iand B (hb hby at_9) (pc' := 10) rfl (z := (((a1.toUInt32 >>> ((2 : Int32) &&& 31).toUInt32).toInt32) &&& (3 : Int32))) rfl ?_
  obtain ⟨v123, hv123⟩ : ∃ z : Int32, z = (((a1.toUInt32 >>> ((2 : Int32) &&& 31).toUInt32).toInt32) &&& (3 : Int32)) := ⟨_, rfl⟩
  refine W_istore B (hb hby at_10) (pc' := 12) rfl (v := v123) hv123.symm (ls' := #[.val (.int a1), .val (.int a2), .val (.int a3), .val (.int a4), .val (.int v121), .val (.int v123), .unset, .unset, .unset, .unset, .unset, .unset, .unset, .unset, .unset, .unset, .unset, .unset, .unset, .unset, .unset, .unset, .unset, .unset]) rfl ?_
  have k124 := own_c4 hv123
  refine W_iloadN B (hb hby at_12) (pc' := 13) rfl rfl ?_
  refine W_iconst B (hb hby at_13) (pc' := 14) rfl (z := (4 : Int32)) (by decide) ?_
  refine W_iushr B (hb hby at_14) (pc' := 15) rfl (z := ((a1.toUInt32 >>> ((4 : Int32) &&& 31).toUInt32).toInt32)) rfl ?_
  refine W_iconst B (hb hby at_15) (pc' := 16) rfl (z := (3 : Int32)) (by decide) ?_
  refine W_iand B (hb hby at_16) (pc' := 17) rfl (z := (((a1.toUInt32 >>> ((4 : Int32) &&& 31).toUInt32).toInt32) &&& (3 : Int32))) rfl ?_
  obtain ⟨v125, hv125⟩ : ∃ z : Int32, z = (((a1.toUInt32 >>> ((4 : Int32) &&& 31).toUInt32).toInt32) &&& (3 : Int32)) := ⟨_, rfl⟩
  refine W_istore B (hb hby at_17) (pc' := 19) rfl (v := v125) hv125.symm (ls' := #[.val (.int a1), .val (.int a2), .val (.int a3), .val (.int a4), .val (.int v121), .val (.int v123), .val (.int v125), .unset, .unset, .unset, .unset, .unset, .unset, .unset, .unset, .unset, .unset, .unset, .unset, .unset, .unset, .unset, .unset, .unset]) rfl ?_
  have k126 := own_c4 hv125
  refine W_iloadN B (hb hby at_19) (pc' := 20) rfl rfl ?_
  refine W_iconst B (hb hby at_20) (pc' := 21) rfl (z := (1 : Int32)) (by decide) ?_
  refine W_iand B (hb hby at_21) (pc' := 22) rfl (z := (a2 &&& (1 : Int32))) rfl ?_
  refine W_if_eq B (hb hby at_22) (by decide) (pt := 29) (by decide) (pc' := 25) rfl (fun (c127 : (a2 &&& (1 : Int32)) = (0 : Int32)) => ?_) (fun (c127 : ¬ (a2 &&& (1 : Int32)) = (0 : Int32)) => ?_)
  · refine W_iconst B (hb hby at_29) (pc' := 30) rfl (z := (0 : Int32)) (by decide) ?_
    refine W_istore B (hb hby at_30) (pc' := 32) rfl (v := (0 : Int32)) rfl (ls' := #[.val (.int a1), .val (.int a2), .val (.int a3), .val (.int a4), .val (.int v121), .val (.int v123), .val (.int v125), .val (.int (0 : Int32)), .unset, .unset, .unset, .unset, .unset, .unset, .unset, .unset, .unset, .unset, .unset, .unset, .unset, .unset, .unset, .unset]) rfl ?_
    refine W_iloadN B (hb hby at_32) (pc' := 33) rfl rfl ?_
    refine W_iconst B (hb hby at_33) (pc' := 34) rfl (z := (2 : Int32)) (by decide) ?_
    refine W_iand B (hb hby at_34) (pc' := 35) rfl (z := (a2 &&& (2 : Int32))) rfl ?_
    refine W_if_eq B (hb hby at_35) (by decide) (pt := 42) (by decide) (pc' := 38) rfl (fun (c128 : (a2 &&& (2 : Int32)) = (0 : Int32)) => ?_) (fun (c128 : ¬ (a2 &&& (2 : Int32)) = (0 : Int32)) => ?_)
    · refine W_iconst B (hb hby at_42) (pc' := 43) rfl (z := (0 : Int32)) (by decide) ?_
      refine W_istore B (hb hby at_43) (pc' := 45) rfl (v := (0 : Int32)) rfl (ls' := #[.val (.int a1), .val (.int a2), .val (.int a3), .val (.int a4), .val (.int v121), .val (.int v123), .val (.int v125), .val (.int (0 : Int32)), .val (.int (0 : Int32)), .unset, .unset, .unset, .unset, .unset, .unset, .unset, .unset, .unset, .unset, .unset, .unset, .unset, .unset, .unset]) rfl ?_
      refine W_iloadN B (hb hby at_45) (pc' := 46) rfl rfl ?_
      refine W_ldcInt B hown (ow hw (i := 0) rfl) (hb hby at_46) (pc' := 48) rfl ?_
      refine W_iand B (hb hby at_48) (pc' := 49) rfl (z := (a3 &&& (2147483647 : Int32))) rfl ?_
      refine W_iconst B (hb hby at_49) (pc' := 50) rfl (z := (3 : Int32)) (by decide) ?_
      refine W_irem B (hb hby at_50) (pc' := 51) rfl (by decide) (z := ((a3 &&& (2147483647 : Int32)) % (3 : Int32))) rfl ?_
      obtain ⟨v129, hv129⟩ : ∃ z : Int32, z = ((a3 &&& (2147483647 : Int32)) % (3 : Int32)) := ⟨_, rfl⟩
      refine W_istore B (hb hby at_51) (pc' := 53) rfl (v := v129) hv129.symm (ls' := #[.val (.int a1), .val (.int a2), .val (.int a3), .val (.int a4), .val (.int v121), .val (.int v123), .val (.int v125), .val (.int (0 : Int32)), .val (.int (0 : Int32)), .val (.int v129), .unset, .unset, .unset, .unset, .unset, .unset, .unset, .unset, .unset, .unset, .unset, .unset, .unset, .unset]) rfl ?_
      refine W_iload B (hb hby at_53) (pc' := 55) rfl rfl ?_
      refine W_ifY B (hb hby at_55) (by decide) (pc' := 63) (by decide) (by decide) ?_
      refine W_iconst B (hb hby at_63) (pc' := 64) rfl (z := (0 : Int32)) (by decide) ?_
      refine W_istore B (hb hby at_64) (pc' := 66) rfl (v := (0 : Int32)) rfl (ls' := #[.val (.int a1), .val (.int a2), .val (.int a3), .val (.int a4), .val (.int v121), .val (.int v123), .val (.int v125), .val (.int (0 : Int32)), .val (.int (0 : Int32)), .val (.int v129), .val (.int (0 : Int32)), .unset, .unset, .unset, .unset, .unset, .unset, .unset, .unset, .unset, .unset, .unset, .unset, .unset]) rfl ?_
      refine W_iload B (hb hby at_66) (pc' := 68) rfl rfl ?_
      refine W_iload B (hb hby at_68) (pc' := 70) rfl rfl ?_
      refine W_iadd B (hb hby at_70) (pc' := 71) rfl (z := ((0 : Int32) + v123)) rfl ?_
      obtain ⟨v130, hv130⟩ : ∃ z : Int32, z = ((0 : Int32) + v123) := ⟨_, rfl⟩
      refine W_istore B (hb hby at_71) (pc' := 73) rfl (v := v130) hv130.symm (ls' := #[.val (.int a1), .val (.int a2), .val (.int a3), .val (.int a4), .val (.int v121), .val (.int v123), .val (.int v125), .val (.int (0 : Int32)), .val (.int (0 : Int32)), .val (.int v129), .val (.int (0 : Int32)), .val (.int v130), .unset, .unset, .unset, .unset, .unset, .unset, .unset, .unset, .unset, .unset, .unset, .unset]) rfl ?_
      refine W_iload B (hb hby at_73) (pc' := 75) rfl rfl ?_
      refine W_ifY B (hb hby at_75) (by decide) (pc' := 83) (by decide) (by decide) ?_
      refine W_iload B (hb hby at_83) (pc' := 85) rfl rfl ?_
      refine W_istore B (hb hby at_85) (pc' := 87) rfl (v := v121) rfl (ls' := #[.val (.int a1), .val (.int a2), .val (.int a3), .val (.int a4), .val (.int v121), .val (.int v123), .val (.int v125), .val (.int (0 : Int32)), .val (.int (0 : Int32)), .val (.int v129), .val (.int (0 : Int32)), .val (.int v130), .val (.int v121), .unset, .unset, .unset, .unset, .unset, .unset, .unset, .unset, .unset, .unset, .unset]) rfl ?_
      refine W_iload B (hb hby at_87) (pc' := 89) rfl rfl ?_
      refine W_iload B (hb hby at_89) (pc' := 91) rfl rfl ?_
      refine W_iadd B (hb hby at_91) (pc' := 92) rfl (z := (v121 + v125)) rfl ?_
      obtain ⟨v131, hv131⟩ : ∃ z : Int32, z = (v121 + v125) := ⟨_, rfl⟩
      refine W_istore B (hb hby at_92) (pc' := 94) rfl (v := v131) hv131.symm (ls' := #[.val (.int a1), .val (.int a2), .val (.int a3), .val (.int a4), .val (.int v121), .val (.int v123), .val (.int v125), .val (.int (0 : Int32)), .val (.int (0 : Int32)), .val (.int v129), .val (.int (0 : Int32)), .val (.int v130), .val (.int v121), .val (.int v131), .unset, .unset, .unset, .unset, .unset, .unset, .unset, .unset, .unset, .unset]) rfl ?_
      have k133 : v129.toInt = 0 ∨ v129.toInt = 1 ∨ v129.toInt = 2 := (own_c3 hv129).imp (fun e => by rw [e]; rfl) fun t => t.imp (fun e => by rw [e]; rfl) fun e => by rw [e]; rfl
      refine oJoin B (fun z132 : Int32 => (v129.toInt = 0 ∧ z132.toInt = (v121).toInt) ∨ (v129.toInt = 1 ∧ z132.toInt = (v130).toInt) ∨ (v129.toInt = 2 ∧ z132.toInt = (v131).toInt)) (fun z132 => (mkF m 117 #[.val (.int a1), .val (.int a2), .val (.int a3), .val (.int a4), .val (.int v121), .val (.int v123), .val (.int v125), .val (.int (0 : Int32)), .val (.int (0 : Int32)), .val (.int v129), .val (.int (0 : Int32)), .val (.int v130), .val (.int v121), .val (.int v131), .unset, .unset, .unset, .unset, .unset, .unset, .unset, .unset, .unset, .unset] [(.int z132)])) ?_ ?_
      · intro kJ
        refine W_iload B (hb hby at_94) (pc' := 96) rfl rfl ?_
        refine W_if_ne B (hb hby at_96) (by decide) (pt := 104) (by decide) (pc' := 99) rfl (fun (c134 : ¬ v129 = (0 : Int32)) => ?_) (fun (c134 : v129 = (0 : Int32)) => ?_)
        · refine W_iload B (hb hby at_104) (pc' := 106) rfl rfl ?_
          refine W_iconst B (hb hby at_106) (pc' := 107) rfl (z := (1 : Int32)) (by decide) ?_
          refine W_icmp_ne B (hb hby at_107) (by decide) (pt := 115) (by decide) (pc' := 110) rfl (fun (c135 : ¬ v129 = (1 : Int32)) => ?_) (fun (c135 : v129 = (1 : Int32)) => ?_)
          · refine W_iload B (hb hby at_115) (pc' := 117) rfl rfl ?_
            refine kJ _ _ ?_ B
            have fq1 := orI v131
            have fq2 := orI v121
            have fq3 := orI v125
            have fq4 := oiadd v121 v125
            have fq5 := congrArg Int32.toInt hv131
            have fq6 := orI v129
            have fq7 := k133
            have fq8 : ((0 : Int32)).toInt = 0 := rfl
            have fq9 := oneI c134
            have fq10 : ((1 : Int32)).toInt = 1 := rfl
            have fq11 := oneI c135
            omega
          refine W_iload B (hb hby at_110) (pc' := 112) rfl rfl ?_
          refine W_goto B (hb hby at_112) (by decide) (pc' := 117) (by decide) ?_
          refine kJ _ _ ?_ B
          have fq1 := orI v130
          have fq2 : ((0 : Int32)).toInt = 0 := rfl
          have fq3 := orI v123
          have fq4 := oiadd (0 : Int32) v123
          have fq5 := congrArg Int32.toInt hv130
          have fq6 := orI v129
          have fq7 := k133
          have fq8 := oneI c134
          have fq9 : ((1 : Int32)).toInt = 1 := rfl
          have fq10 := oeqI c135
          omega
        refine W_iload B (hb hby at_99) (pc' := 101) rfl rfl ?_
        refine W_goto B (hb hby at_101) (by decide) (pc' := 117) (by decide) ?_
        refine kJ _ _ ?_ B
        have fq1 := orI v121
        have fq2 := orI v129
        have fq3 := k133
        have fq4 : ((0 : Int32)).toInt = 0 := rfl
        have fq5 := oeqI c134
        omega
      intro z132 T hz132 B
      refine W_istore B (hb hby at_117) (pc' := 119) rfl (v := z132) rfl (ls' := #[.val (.int a1), .val (.int a2), .val (.int a3), .val (.int a4), .val (.int v121), .val (.int v123), .val (.int v125), .val (.int (0 : Int32)), .val (.int (0 : Int32)), .val (.int v129), .val (.int (0 : Int32)), .val (.int v130), .val (.int v121), .val (.int v131), .val (.int z132), .unset, .unset, .unset, .unset, .unset, .unset, .unset, .unset, .unset]) rfl ?_
      refine W_iload B (hb hby at_119) (pc' := 121) rfl rfl ?_
      refine W_if_ne B (hb hby at_121) (by decide) (pt := 126) (by decide) (pc' := 124) rfl (fun (c136 : ¬ z132 = (0 : Int32)) => ?_) (fun (c136 : z132 = (0 : Int32)) => ?_)
      · refine W_iloadN B (hb hby at_126) (pc' := 127) rfl rfl ?_
        refine W_ldcInt B hown (ow hw (i := 0) rfl) (hb hby at_127) (pc' := 129) rfl ?_
        refine W_iand B (hb hby at_129) (pc' := 130) rfl (z := (a4 &&& (2147483647 : Int32))) rfl ?_
        refine W_iload B (hb hby at_130) (pc' := 132) rfl rfl ?_
        refine W_irem B (hb hby at_132) (pc' := 133) rfl c136 (z := ((a4 &&& (2147483647 : Int32)) % z132)) rfl ?_
        obtain ⟨v137, hv137⟩ : ∃ z : Int32, z = ((a4 &&& (2147483647 : Int32)) % z132) := ⟨_, rfl⟩
        refine W_istore B (hb hby at_133) (pc' := 135) rfl (v := v137) hv137.symm (ls' := #[.val (.int a1), .val (.int a2), .val (.int a3), .val (.int a4), .val (.int v121), .val (.int v123), .val (.int v125), .val (.int (0 : Int32)), .val (.int (0 : Int32)), .val (.int v129), .val (.int (0 : Int32)), .val (.int v130), .val (.int v121), .val (.int v131), .val (.int z132), .val (.int v137), .unset, .unset, .unset, .unset, .unset, .unset, .unset, .unset]) rfl ?_
        refine W_iconst B (hb hby at_135) (pc' := 136) rfl (z := (3 : Int32)) (by decide) ?_
        refine W_newarray B (ow hw (i := 1) rfl) (hb hby at_136) (pc' := 138) rfl (by decide) (cap := 3) (by decide) (by decide) (cells' := 1) rfl (slots' := 3) rfl (vs := [(.int (0 : Int32)), (.int (0 : Int32)), (.int (0 : Int32))]) rfl (ty := .int) rfl ?_
        intro T b138 B
        refine W_dup B (hb hby at_138) (pc' := 139) rfl rfl ?_
        refine W_iconst B (hb hby at_139) (pc' := 140) rfl (z := (0 : Int32)) (by decide) ?_
        refine W_bipush B (hb hby at_140) (pc' := 142) rfl (z := (10 : Int32)) (by decide) ?_
        refine W_iastore B (hb hby at_142) (pc' := 143) rfl (i := 0) rfl (by decide) (oLt rfl) (ds' := [(b138, oA .int [(.int (10 : Int32)), o0, o0])]) rfl ?_
        intro T B
        refine W_dup B (hb hby at_143) (pc' := 144) rfl rfl ?_
        refine W_iconst B (hb hby at_144) (pc' := 145) rfl (z := (1 : Int32)) (by decide) ?_
        refine W_bipush B (hb hby at_145) (pc' := 147) rfl (z := (11 : Int32)) (by decide) ?_
        refine W_iastore B (hb hby at_147) (pc' := 148) rfl (i := 0) rfl (by decide) (oLt rfl) (ds' := [(b138, oA .int [(.int (10 : Int32)), (.int (11 : Int32)), o0])]) rfl ?_
        intro T B
        refine W_dup B (hb hby at_148) (pc' := 149) rfl rfl ?_
        refine W_iconst B (hb hby at_149) (pc' := 150) rfl (z := (2 : Int32)) (by decide) ?_
        refine W_bipush B (hb hby at_150) (pc' := 152) rfl (z := (12 : Int32)) (by decide) ?_
        refine W_iastore B (hb hby at_152) (pc' := 153) rfl (i := 0) rfl (by decide) (oLt rfl) (ds' := [(b138, oA .int [(.int (10 : Int32)), (.int (11 : Int32)), (.int (12 : Int32))])]) rfl ?_
        intro T B
        refine W_astore B (hb hby at_153) (pc' := 155) rfl rfl (ls' := #[.val (.int a1), .val (.int a2), .val (.int a3), .val (.int a4), .val (.int v121), .val (.int v123), .val (.int v125), .val (.int (0 : Int32)), .val (.int (0 : Int32)), .val (.int v129), .val (.int (0 : Int32)), .val (.int v130), .val (.int v121), .val (.int v131), .val (.int z132), .val (.int v137), .val (.ref b138), .unset, .unset, .unset, .unset, .unset, .unset, .unset]) rfl ?_
        refine W_iconst B (hb hby at_155) (pc' := 156) rfl (z := (3 : Int32)) (by decide) ?_
        refine W_newarray B (ow hw (i := 1) rfl) (hb hby at_156) (pc' := 158) rfl (by decide) (cap := 3) (by decide) (by decide) (cells' := 2) rfl (slots' := 6) rfl (vs := [(.int (0 : Int32)), (.int (0 : Int32)), (.int (0 : Int32))]) rfl (ty := .int) rfl ?_
        intro T b139 B
        refine W_dup B (hb hby at_158) (pc' := 159) rfl rfl ?_
        refine W_iconst B (hb hby at_159) (pc' := 160) rfl (z := (0 : Int32)) (by decide) ?_
        refine W_bipush B (hb hby at_160) (pc' := 162) rfl (z := (20 : Int32)) (by decide) ?_
        refine W_iastore B (hb hby at_162) (pc' := 163) rfl (i := 0) rfl (by decide) (oLt rfl) (ds' := [(b139, oA .int [(.int (20 : Int32)), o0, o0]), (b138, oA .int [(.int (10 : Int32)), (.int (11 : Int32)), (.int (12 : Int32))])]) rfl ?_
        intro T B
        refine W_dup B (hb hby at_163) (pc' := 164) rfl rfl ?_
        refine W_iconst B (hb hby at_164) (pc' := 165) rfl (z := (1 : Int32)) (by decide) ?_
        refine W_bipush B (hb hby at_165) (pc' := 167) rfl (z := (21 : Int32)) (by decide) ?_
        refine W_iastore B (hb hby at_167) (pc' := 168) rfl (i := 0) rfl (by decide) (oLt rfl) (ds' := [(b139, oA .int [(.int (20 : Int32)), (.int (21 : Int32)), o0]), (b138, oA .int [(.int (10 : Int32)), (.int (11 : Int32)), (.int (12 : Int32))])]) rfl ?_
        intro T B
        refine W_dup B (hb hby at_168) (pc' := 169) rfl rfl ?_
        refine W_iconst B (hb hby at_169) (pc' := 170) rfl (z := (2 : Int32)) (by decide) ?_
        refine W_bipush B (hb hby at_170) (pc' := 172) rfl (z := (22 : Int32)) (by decide) ?_
        refine W_iastore B (hb hby at_172) (pc' := 173) rfl (i := 0) rfl (by decide) (oLt rfl) (ds' := [(b139, oA .int [(.int (20 : Int32)), (.int (21 : Int32)), (.int (22 : Int32))]), (b138, oA .int [(.int (10 : Int32)), (.int (11 : Int32)), (.int (12 : Int32))])]) rfl ?_
        intro T B
        refine W_astore B (hb hby at_173) (pc' := 175) rfl rfl (ls' := #[.val (.int a1), .val (.int a2), .val (.int a3), .val (.int a4), .val (.int v121), .val (.int v123), .val (.int v125), .val (.int (0 : Int32)), .val (.int (0 : Int32)), .val (.int v129), .val (.int (0 : Int32)), .val (.int v130), .val (.int v121), .val (.int v131), .val (.int z132), .val (.int v137), .val (.ref b138), .val (.ref b139), .unset, .unset, .unset, .unset, .unset, .unset]) rfl ?_
        refine W_iconst B (hb hby at_175) (pc' := 176) rfl (z := (3 : Int32)) (by decide) ?_
        refine W_newarray B (ow hw (i := 1) rfl) (hb hby at_176) (pc' := 178) rfl (by decide) (cap := 3) (by decide) (by decide) (cells' := 3) rfl (slots' := 9) rfl (vs := [(.int (0 : Int32)), (.int (0 : Int32)), (.int (0 : Int32))]) rfl (ty := .int) rfl ?_
        intro T b140 B
        refine W_dup B (hb hby at_178) (pc' := 179) rfl rfl ?_
        refine W_iconst B (hb hby at_179) (pc' := 180) rfl (z := (0 : Int32)) (by decide) ?_
        refine W_bipush B (hb hby at_180) (pc' := 182) rfl (z := (30 : Int32)) (by decide) ?_
        refine W_iastore B (hb hby at_182) (pc' := 183) rfl (i := 0) rfl (by decide) (oLt rfl) (ds' := [(b140, oA .int [(.int (30 : Int32)), o0, o0]), (b139, oA .int [(.int (20 : Int32)), (.int (21 : Int32)), (.int (22 : Int32))]), (b138, oA .int [(.int (10 : Int32)), (.int (11 : Int32)), (.int (12 : Int32))])]) rfl ?_
        intro T B
        refine W_dup B (hb hby at_183) (pc' := 184) rfl rfl ?_
        refine W_iconst B (hb hby at_184) (pc' := 185) rfl (z := (1 : Int32)) (by decide) ?_
        refine W_bipush B (hb hby at_185) (pc' := 187) rfl (z := (31 : Int32)) (by decide) ?_
        refine W_iastore B (hb hby at_187) (pc' := 188) rfl (i := 0) rfl (by decide) (oLt rfl) (ds' := [(b140, oA .int [(.int (30 : Int32)), (.int (31 : Int32)), o0]), (b139, oA .int [(.int (20 : Int32)), (.int (21 : Int32)), (.int (22 : Int32))]), (b138, oA .int [(.int (10 : Int32)), (.int (11 : Int32)), (.int (12 : Int32))])]) rfl ?_
        intro T B
        refine W_dup B (hb hby at_188) (pc' := 189) rfl rfl ?_
        refine W_iconst B (hb hby at_189) (pc' := 190) rfl (z := (2 : Int32)) (by decide) ?_
        refine W_bipush B (hb hby at_190) (pc' := 192) rfl (z := (32 : Int32)) (by decide) ?_
        refine W_iastore B (hb hby at_192) (pc' := 193) rfl (i := 0) rfl (by decide) (oLt rfl) (ds' := [(b140, oA .int [(.int (30 : Int32)), (.int (31 : Int32)), (.int (32 : Int32))]), (b139, oA .int [(.int (20 : Int32)), (.int (21 : Int32)), (.int (22 : Int32))]), (b138, oA .int [(.int (10 : Int32)), (.int (11 : Int32)), (.int (12 : Int32))])]) rfl ?_
        intro T B
        refine W_astore B (hb hby at_193) (pc' := 195) rfl rfl (ls' := #[.val (.int a1), .val (.int a2), .val (.int a3), .val (.int a4), .val (.int v121), .val (.int v123), .val (.int v125), .val (.int (0 : Int32)), .val (.int (0 : Int32)), .val (.int v129), .val (.int (0 : Int32)), .val (.int v130), .val (.int v121), .val (.int v131), .val (.int z132), .val (.int v137), .val (.ref b138), .val (.ref b139), .val (.ref b140), .unset, .unset, .unset, .unset, .unset]) rfl ?_
        refine W_new B hown (ow hw (i := 2) rfl) (ow hw (i := 3) rfl) (ow hw (i := 4) rfl) (hb hby at_195) (pc' := 198) rfl (by decide) (cells' := 4) rfl (slots' := 16) rfl (fs := [(fk4, .null), (fk5, .null), (fk6, .null), (fk7, .null), (fk8, .null), (fk9, .null), (fk10, .null)]) (oAll_cons ⟨Or.inr (ow hw (i := 41) rfl), (.object "com/example/tanglemark/tanglemark/datalog/Ints"), by decide, rfl⟩ (oAll_cons ⟨Or.inr (ow hw (i := 43) rfl), (.object "com/example/tanglemark/tanglemark/datalog/Ints"), by decide, rfl⟩ (oAll_cons ⟨Or.inr (ow hw (i := 45) rfl), (.object "com/example/tanglemark/tanglemark/datalog/Ints"), by decide, rfl⟩ (oAll_cons ⟨Or.inr (ow hw (i := 47) rfl), (.object "com/example/tanglemark/tanglemark/datalog/Ints"), by decide, rfl⟩ (oAll_cons ⟨Or.inr (ow hw (i := 49) rfl), (.object "com/example/tanglemark/tanglemark/datalog/Ints"), by decide, rfl⟩ (oAll_cons ⟨Or.inr (ow hw (i := 51) rfl), (.object "com/example/tanglemark/tanglemark/datalog/Ints"), by decide, rfl⟩ (oAll_cons ⟨Or.inr (ow hw (i := 53) rfl), (.object "com/example/tanglemark/tanglemark/datalog/Ints"), by decide, rfl⟩ oAll_nil))))))) (by decide) ?_
        intro T b141 B
        refine W_dup B (hb hby at_198) (pc' := 199) rfl rfl ?_
        refine W_ldcStr B hS (n := 16) hown (ow hw (i := 5) rfl) (own_strAtoms hw) (hb hby at_199) (pc' := 201) rfl (by decide) (by decide) (cells' := 6) rfl (slots' := 36) rfl ?_
        intro T sa142 vm_ lo B hS hown
        refine W_init B (y := (⟨"com/example/tanglemark/tanglemark/datalog/SharedSets", "<init>", "(Ljava/lang/String;)V"⟩ : MethodName)) hown rfl (ow hw (i := 13) rfl) (ow hw (i := 14) rfl) (ow hw (i := 4) rfl) (ow hw (i := 15) rfl) (by decide) (a := b141) (rm_sets l Z a0 hw h0 b141 sa142 [(b140, oA .int [(.int (30 : Int32)), (.int (31 : Int32)), (.int (32 : Int32))]), (b139, oA .int [(.int (20 : Int32)), (.int (21 : Int32)), (.int (22 : Int32))]), (b138, oA .int [(.int (10 : Int32)), (.int (11 : Int32)), (.int (12 : Int32))])]) (lenOf pd_2 rfl) (hb hby at_201) (pc' := 204) rfl (argsL := [(.ref sa142)]) (rest := [(.ref b141)]) rfl (by rw [hml]; rfl) (W := 1) (oLe rfl) (by decide) (cells' := 20) rfl (slots' := 176) rfl ?_
        intro T v_ d_ q_ B
        obtain ⟨c143, d144, c145, d146, c147, d148, c149, d150, c151, d152, c153, d154, c155, d156, rfl, rfl⟩ := q_
        show oWin p e below Z h0 _ _ (T.setTop (mkF m 204 #[.val (.int a1), .val (.int a2), .val (.int a3), .val (.int a4), .val (.int v121), .val (.int v123), .val (.int v125), .val (.int (0 : Int32)), .val (.int (0 : Int32)), .val (.int v129), .val (.int (0 : Int32)), .val (.int v130), .val (.int v121), .val (.int v131), .val (.int z132), .val (.int v137), .val (.ref b138), .val (.ref b139), .val (.ref b140), .unset, .unset, .unset, .unset, .unset] [(.ref b141)]))
        refine W_astore B (hb hby at_204) (pc' := 206) rfl rfl (ls' := #[.val (.int a1), .val (.int a2), .val (.int a3), .val (.int a4), .val (.int v121), .val (.int v123), .val (.int v125), .val (.int (0 : Int32)), .val (.int (0 : Int32)), .val (.int v129), .val (.int (0 : Int32)), .val (.int v130), .val (.int v121), .val (.int v131), .val (.int z132), .val (.int v137), .val (.ref b138), .val (.ref b139), .val (.ref b140), .val (.ref b141), .unset, .unset, .unset, .unset]) rfl ?_
        refine W_aload B (hb hby at_206) (pc' := 208) rfl rfl rfl ?_
        refine W_iconst B (hb hby at_208) (pc' := 209) rfl (z := (-1 : Int32)) (by decide) ?_
        refine W_aload B (hb hby at_209) (pc' := 211) rfl rfl rfl ?_
        refine W_iload B (hb hby at_211) (pc' := 213) rfl rfl ?_
        have u159 : 0 ≤ ((0 : Int32)).toInt ∧ ((0 : Int32)).toInt ≤ 6 := by
          have fq1 : ((0 : Int32)).toInt = 0 := rfl
          have fq2 := orI v121
          have fq3 := k122
          have fq4 := orI v123
          have fq5 := k124
          have fq6 := orI v125
          have fq7 := k126
          have fq8 := orI (a2 &&& (1 : Int32))
          have fq9 := orI a2
          have fq10 : ((1 : Int32)).toInt = 1 := rfl
          have fq11 := omaskI a2 (1 : Int32) 1 2 (by decide) (by decide) (by decide)
          have fq12 := oeqI c127
          have fq13 := orI (a2 &&& (2 : Int32))
          have fq14 : ((2 : Int32)).toInt = 2 := rfl
          have fq15 := oandI a2 (2 : Int32) (by decide)
          have fq16 := oeqI c128
          have fq17 := orI z132
          have fq18 := orI v129
          have fq19 := orI v130
          have fq20 := oiadd (0 : Int32) v123
          have fq21 := congrArg Int32.toInt hv130
          have fq22 := orI v131
          have fq23 := oiadd v121 v125
          have fq24 := congrArg Int32.toInt hv131
          have fq25 := hz132
          have fq26 := oneI c136
          omega
        have u160 : 0 ≤ (v121).toInt ∧ (v121).toInt ≤ 3 := by
          have fq1 := orI v121
          have fq2 := k122
          have fq3 := orI v123
          have fq4 := k124
          have fq5 := orI v125
          have fq6 := k126
          have fq7 := orI (a2 &&& (1 : Int32))
          have fq8 := orI a2
          have fq9 : ((1 : Int32)).toInt = 1 := rfl
          have fq10 := omaskI a2 (1 : Int32) 1 2 (by decide) (by decide) (by decide)
          have fq11 : ((0 : Int32)).toInt = 0 := rfl
          have fq12 := oeqI c127
          have fq13 := orI (a2 &&& (2 : Int32))
          have fq14 : ((2 : Int32)).toInt = 2 := rfl
          have fq15 := oandI a2 (2 : Int32) (by decide)
          have fq16 := oeqI c128
          have fq17 := orI z132
          have fq18 := orI v129
          have fq19 := orI v130
          have fq20 := oiadd (0 : Int32) v123
          have fq21 := congrArg Int32.toInt hv130
          have fq22 := orI v131
          have fq23 := oiadd v121 v125
          have fq24 := congrArg Int32.toInt hv131
          have fq25 := hz132
          have fq26 := oneI c136
          omega
        refine W_virtual B (y := (⟨"com/example/tanglemark/tanglemark/datalog/SharedSets", "add", "(I[II)I"⟩ : MethodName)) (z := (⟨"com/example/tanglemark/tanglemark/datalog/SharedSets", "add", "(I[II)I"⟩ : MethodName)) hown (ow hw (i := 54) rfl) (ow hw (i := 55) rfl) (oNotFace B (ow hw (i := 57) rfl) rfl) (ow hw (i := 57) rfl) (ow hw (i := 56) rfl) (ow hw (i := 4) rfl) (ow hw (i := 58) rfl) (by decide) (a := b141) (rm_add0m l Z a0 hw h0 b141 b138 sa142 c143 d144 c145 d146 c147 d148 c149 d150 c151 d152 c153 d154 c155 d156 v121 (0 : Int32) [o0, o0, o0, o0, o0, o0, o0, o0, o0, o0, o0, o0, o0, o0, o0, o0]  (10 : Int32) (11 : Int32) (12 : Int32) (b140, oA .int [(.int (30 : Int32)), (.int (31 : Int32)), (.int (32 : Int32))]) (b139, oA .int [(.int (20 : Int32)), (.int (21 : Int32)), (.int (22 : Int32))]) [] rfl u159 u160) (lenOf pd_5 rfl) (hb hby at_213) (pc' := 216) rfl (argsL := [(.int (-1 : Int32)), (.ref b138), (.int v121)]) (rest := []) rfl (by rw [hml]; rfl) (W := 0) (oLe rfl) (j := 14) rfl (by decide) (cells' := 20) rfl (slots' := 176) rfl ?_
        intro T v_ d_ q_ B
        obtain ⟨us157, n158, q162, q163, rfl, rfl⟩ := q_
        show oWin p e below Z h0 _ _ (T.setTop (mkF m 216 #[.val (.int a1), .val (.int a2), .val (.int a3), .val (.int a4), .val (.int v121), .val (.int v123), .val (.int v125), .val (.int (0 : Int32)), .val (.int (0 : Int32)), .val (.int v129), .val (.int (0 : Int32)), .val (.int v130), .val (.int v121), .val (.int v131), .val (.int z132), .val (.int v137), .val (.ref b138), .val (.ref b139), .val (.ref b140), .val (.ref b141), .unset, .unset, .unset, .unset] [(.int (0 : Int32))]))
        refine W_istore B (hb hby at_216) (pc' := 218) rfl (v := (0 : Int32)) rfl (ls' := #[.val (.int a1), .val (.int a2), .val (.int a3), .val (.int a4), .val (.int v121), .val (.int v123), .val (.int v125), .val (.int (0 : Int32)), .val (.int (0 : Int32)), .val (.int v129), .val (.int (0 : Int32)), .val (.int v130), .val (.int v121), .val (.int v131), .val (.int z132), .val (.int v137), .val (.ref b138), .val (.ref b139), .val (.ref b140), .val (.ref b141), .val (.int (0 : Int32)), .unset, .unset, .unset]) rfl ?_
        refine W_aload B (hb hby at_218) (pc' := 220) rfl rfl rfl ?_
        refine W_iload B (hb hby at_220) (pc' := 222) rfl rfl ?_
        refine W_ifY B (hb hby at_222) (by decide) (pc' := 230) (by decide) (by decide) ?_
        refine W_iconst B (hb hby at_230) (pc' := 231) rfl (z := (-1 : Int32)) (by decide) ?_
        refine W_aload B (hb hby at_231) (pc' := 233) rfl rfl rfl ?_
        refine W_iload B (hb hby at_233) (pc' := 235) rfl rfl ?_
        have u166 : 0 ≤ (n158).toInt ∧ (n158).toInt ≤ 6 := by
          have fq1 := orI n158
          have fq2 := orI v121
          have fq3 := k122
          have fq4 := orI v123
          have fq5 := k124
          have fq6 := orI v125
          have fq7 := k126
          have fq8 := orI (a2 &&& (1 : Int32))
          have fq9 := orI a2
          have fq10 : ((1 : Int32)).toInt = 1 := rfl
          have fq11 := omaskI a2 (1 : Int32) 1 2 (by decide) (by decide) (by decide)
          have fq12 : ((0 : Int32)).toInt = 0 := rfl
          have fq13 := oeqI c127
          have fq14 := orI (a2 &&& (2 : Int32))
          have fq15 : ((2 : Int32)).toInt = 2 := rfl
          have fq16 := oandI a2 (2 : Int32) (by decide)
          have fq17 := oeqI c128
          have fq18 := orI z132
          have fq19 := orI v129
          have fq20 := orI v130
          have fq21 := oiadd (0 : Int32) v123
          have fq22 := congrArg Int32.toInt hv130
          have fq23 := orI v131
          have fq24 := oiadd v121 v125
          have fq25 := congrArg Int32.toInt hv131
          have fq26 := hz132
          have fq27 := oneI c136
          have fq28 := q163
          omega
        have u167 : 0 ≤ (v123).toInt ∧ (v123).toInt ≤ 3 := by
          have fq1 := orI v123
          have fq2 := orI v121
          have fq3 := k122
          have fq4 := k124
          have fq5 := orI v125
          have fq6 := k126
          have fq7 := orI (a2 &&& (1 : Int32))
          have fq8 := orI a2
          have fq9 : ((1 : Int32)).toInt = 1 := rfl
          have fq10 := omaskI a2 (1 : Int32) 1 2 (by decide) (by decide) (by decide)
          have fq11 : ((0 : Int32)).toInt = 0 := rfl
          have fq12 := oeqI c127
          have fq13 := orI (a2 &&& (2 : Int32))
          have fq14 : ((2 : Int32)).toInt = 2 := rfl
          have fq15 := oandI a2 (2 : Int32) (by decide)
          have fq16 := oeqI c128
          have fq17 := orI z132
          have fq18 := orI v129
          have fq19 := orI v130
          have fq20 := oiadd (0 : Int32) v123
          have fq21 := congrArg Int32.toInt hv130
          have fq22 := orI v131
          have fq23 := oiadd v121 v125
          have fq24 := congrArg Int32.toInt hv131
          have fq25 := hz132
          have fq26 := oneI c136
          have fq27 := orI n158
          have fq28 := q163
          omega
        refine W_virtual B (y := (⟨"com/example/tanglemark/tanglemark/datalog/SharedSets", "add", "(I[II)I"⟩ : MethodName)) (z := (⟨"com/example/tanglemark/tanglemark/datalog/SharedSets", "add", "(I[II)I"⟩ : MethodName)) hown (ow hw (i := 54) rfl) (ow hw (i := 55) rfl) (oNotFace B (ow hw (i := 57) rfl) rfl) (ow hw (i := 57) rfl) (ow hw (i := 56) rfl) (ow hw (i := 4) rfl) (ow hw (i := 58) rfl) (by decide) (a := b141) (rm_add1m l Z a0 hw h0 b141 b139 sa142 c143 d144 c145 d146 c147 d148 c149 d150 c151 d152 c153 d154 c155 d156 v123 n158 us157 (0 : Int32) (0 : Int32) (((0 : Int32) + n158) - (0 : Int32)) (-1 : Int32) (0 : Int32) (1 : Int32) (20 : Int32) (21 : Int32) (22 : Int32) (b140, oA .int [(.int (30 : Int32)), (.int (31 : Int32)), (.int (32 : Int32))]) (b138, oA .int [(.int (10 : Int32)), (.int (11 : Int32)), (.int (12 : Int32))]) [] q162 u166 u167) (lenOf pd_5 rfl) (hb hby at_235) (pc' := 238) rfl (argsL := [(.int (-1 : Int32)), (.ref b139), (.int v123)]) (rest := []) rfl (by rw [hml]; rfl) (W := 0) (oLe rfl) (j := 14) rfl (by decide) (cells' := 20) rfl (slots' := 176) rfl ?_
        intro T v_ d_ q_ B
        obtain ⟨us164, n165, q169, q170, rfl, rfl⟩ := q_
        show oWin p e below Z h0 _ _ (T.setTop (mkF m 238 #[.val (.int a1), .val (.int a2), .val (.int a3), .val (.int a4), .val (.int v121), .val (.int v123), .val (.int v125), .val (.int (0 : Int32)), .val (.int (0 : Int32)), .val (.int v129), .val (.int (0 : Int32)), .val (.int v130), .val (.int v121), .val (.int v131), .val (.int z132), .val (.int v137), .val (.ref b138), .val (.ref b139), .val (.ref b140), .val (.ref b141), .val (.int (0 : Int32)), .unset, .unset, .unset] [(.int (1 : Int32))]))
        refine W_istore B (hb hby at_238) (pc' := 240) rfl (v := (1 : Int32)) rfl (ls' := #[.val (.int a1), .val (.int a2), .val (.int a3), .val (.int a4), .val (.int v121), .val (.int v123), .val (.int v125), .val (.int (0 : Int32)), .val (.int (0 : Int32)), .val (.int v129), .val (.int (0 : Int32)), .val (.int v130), .val (.int v121), .val (.int v131), .val (.int z132), .val (.int v137), .val (.ref b138), .val (.ref b139), .val (.ref b140), .val (.ref b141), .val (.int (0 : Int32)), .val (.int (1 : Int32)), .unset, .unset]) rfl ?_
        refine W_aload B (hb hby at_240) (pc' := 242) rfl rfl rfl ?_
        refine W_iload B (hb hby at_242) (pc' := 244) rfl rfl ?_
        refine W_ifY B (hb hby at_244) (by decide) (pc' := 252) (by decide) (by decide) ?_
        refine W_iload B (hb hby at_252) (pc' := 254) rfl rfl ?_
        refine W_aload B (hb hby at_254) (pc' := 256) rfl rfl rfl ?_
        refine W_iload B (hb hby at_256) (pc' := 258) rfl rfl ?_
        have u173 : 0 ≤ (n165).toInt ∧ (n165).toInt ≤ 6 := by
          have fq1 := orI n165
          have fq2 := orI v121
          have fq3 := k122
          have fq4 := orI v123
          have fq5 := k124
          have fq6 := orI v125
          have fq7 := k126
          have fq8 := orI (a2 &&& (1 : Int32))
          have fq9 := orI a2
          have fq10 : ((1 : Int32)).toInt = 1 := rfl
          have fq11 := omaskI a2 (1 : Int32) 1 2 (by decide) (by decide) (by decide)
          have fq12 : ((0 : Int32)).toInt = 0 := rfl
          have fq13 := oeqI c127
          have fq14 := orI (a2 &&& (2 : Int32))
          have fq15 : ((2 : Int32)).toInt = 2 := rfl
          have fq16 := oandI a2 (2 : Int32) (by decide)
          have fq17 := oeqI c128
          have fq18 := orI z132
          have fq19 := orI v129
          have fq20 := orI v130
          have fq21 := oiadd (0 : Int32) v123
          have fq22 := congrArg Int32.toInt hv130
          have fq23 := orI v131
          have fq24 := oiadd v121 v125
          have fq25 := congrArg Int32.toInt hv131
          have fq26 := hz132
          have fq27 := oneI c136
          have fq28 := orI n158
          have fq29 := q163
          have fq30 := q170
          omega
        have u174 : 0 ≤ (v125).toInt ∧ (v125).toInt ≤ 3 := by
          have fq1 := orI v125
          have fq2 := orI v121
          have fq3 := k122
          have fq4 := orI v123
          have fq5 := k124
          have fq6 := k126
          have fq7 := orI (a2 &&& (1 : Int32))
          have fq8 := orI a2
          have fq9 : ((1 : Int32)).toInt = 1 := rfl
          have fq10 := omaskI a2 (1 : Int32) 1 2 (by decide) (by decide) (by decide)
          have fq11 : ((0 : Int32)).toInt = 0 := rfl
          have fq12 := oeqI c127
          have fq13 := orI (a2 &&& (2 : Int32))
          have fq14 : ((2 : Int32)).toInt = 2 := rfl
          have fq15 := oandI a2 (2 : Int32) (by decide)
          have fq16 := oeqI c128
          have fq17 := orI z132
          have fq18 := orI v129
          have fq19 := orI v130
          have fq20 := oiadd (0 : Int32) v123
          have fq21 := congrArg Int32.toInt hv130
          have fq22 := orI v131
          have fq23 := oiadd v121 v125
          have fq24 := congrArg Int32.toInt hv131
          have fq25 := hz132
          have fq26 := oneI c136
          have fq27 := orI n158
          have fq28 := q163
          have fq29 := orI n165
          have fq30 := q170
          omega
        refine W_virtual B (y := (⟨"com/example/tanglemark/tanglemark/datalog/SharedSets", "add", "(I[II)I"⟩ : MethodName)) (z := (⟨"com/example/tanglemark/tanglemark/datalog/SharedSets", "add", "(I[II)I"⟩ : MethodName)) hown (ow hw (i := 54) rfl) (ow hw (i := 55) rfl) (oNotFace B (ow hw (i := 57) rfl) rfl) (ow hw (i := 57) rfl) (ow hw (i := 56) rfl) (ow hw (i := 4) rfl) (ow hw (i := 58) rfl) (by decide) (a := b141) (rm_add20 l Z a0 hw h0 b141 b140 sa142 c143 d144 c145 d146 c147 d148 c149 d150 c151 d152 c153 d154 c155 d156 v125 n165 us164 (0 : Int32) n158 (0 : Int32) (0 : Int32) (((0 : Int32) + n158) - (0 : Int32)) (((0 : Int32) + n165) - n158) (-1 : Int32) (-1 : Int32) (0 : Int32) (1 : Int32) (1 : Int32) (1 : Int32) (30 : Int32) (31 : Int32) (32 : Int32) (b139, oA .int [(.int (20 : Int32)), (.int (21 : Int32)), (.int (22 : Int32))]) (b138, oA .int [(.int (10 : Int32)), (.int (11 : Int32)), (.int (12 : Int32))]) [] q169 u173 u174 (by decide)) (lenOf pd_5 rfl) (hb hby at_258) (pc' := 261) rfl (argsL := [(.int (0 : Int32)), (.ref b140), (.int v125)]) (rest := []) rfl (by rw [hml]; rfl) (W := 0) (oLe rfl) (j := 14) rfl (by decide) (cells' := 20) rfl (slots' := 176) rfl ?_
        intro T v_ d_ q_ B
        obtain ⟨us171, n172, q176, q177, rfl, rfl⟩ := q_
        show oWin p e below Z h0 _ _ (T.setTop (mkF m 261 #[.val (.int a1), .val (.int a2), .val (.int a3), .val (.int a4), .val (.int v121), .val (.int v123), .val (.int v125), .val (.int (0 : Int32)), .val (.int (0 : Int32)), .val (.int v129), .val (.int (0 : Int32)), .val (.int v130), .val (.int v121), .val (.int v131), .val (.int z132), .val (.int v137), .val (.ref b138), .val (.ref b139), .val (.ref b140), .val (.ref b141), .val (.int (0 : Int32)), .val (.int (1 : Int32)), .unset, .unset] [(.int (2 : Int32))]))
        refine W_istore B (hb hby at_261) (pc' := 263) rfl (v := (2 : Int32)) rfl (ls' := #[.val (.int a1), .val (.int a2), .val (.int a3), .val (.int a4), .val (.int v121), .val (.int v123), .val (.int v125), .val (.int (0 : Int32)), .val (.int (0 : Int32)), .val (.int v129), .val (.int (0 : Int32)), .val (.int v130), .val (.int v121), .val (.int v131), .val (.int z132), .val (.int v137), .val (.ref b138), .val (.ref b139), .val (.ref b140), .val (.ref b141), .val (.int (0 : Int32)), .val (.int (1 : Int32)), .val (.int (2 : Int32)), .unset]) rfl ?_
        refine W_iload B (hb hby at_263) (pc' := 265) rfl rfl ?_
        refine W_ifN B (hb hby at_265) (pc' := 268) rfl (by decide) ?_
        refine W_iload B (hb hby at_268) (pc' := 270) rfl rfl ?_
        refine W_iconst B (hb hby at_270) (pc' := 271) rfl (z := (1 : Int32)) (by decide) ?_
        refine W_icmpN B (hb hby at_271) (pc' := 274) rfl (by decide) ?_
        refine W_iload B (hb hby at_274) (pc' := 276) rfl rfl ?_
        refine W_iconst B (hb hby at_276) (pc' := 277) rfl (z := (2 : Int32)) (by decide) ?_
        refine W_icmpY B (hb hby at_277) (by decide) (pc' := 282) (by decide) (by decide) ?_
        rcases own_c3 hv129 with rfl | rfl | rfl
        · refine W_iload B (hb hby at_282) (pc' := 284) rfl rfl ?_
          refine W_ifN B (hb hby at_284) (pc' := 287) rfl (by decide) ?_
          refine W_iconst B (hb hby at_287) (pc' := 288) rfl (z := (0 : Int32)) (by decide) ?_
          refine W_istore B (hb hby at_288) (pc' := 290) rfl (v := (0 : Int32)) rfl (ls' := #[.val (.int a1), .val (.int a2), .val (.int a3), .val (.int a4), .val (.int v121), .val (.int v123), .val (.int v125), .val (.int (0 : Int32)), .val (.int (0 : Int32)), .val (.int (0 : Int32)), .val (.int (0 : Int32)), .val (.int v130), .val (.int v121), .val (.int v131), .val (.int z132), .val (.int v137), .val (.ref b138), .val (.ref b139), .val (.ref b140), .val (.ref b141), .val (.int (0 : Int32)), .val (.int (1 : Int32)), .val (.int (2 : Int32)), .val (.int (0 : Int32))]) rfl ?_
          refine W_goto B (hb hby at_290) (by decide) (pc' := 364) (by decide) ?_
          refine W_aload B (hb hby at_364) (pc' := 366) rfl rfl rfl ?_
          refine W_iload B (hb hby at_366) (pc' := 368) rfl rfl ?_
          refine W_iload B (hb hby at_368) (pc' := 370) rfl rfl ?_
          have n178 : ¬ v137 < (0 : Int32) := by
            refine onltI_i ?_
            have fq1 := orI v137
            have fq2 := orI ((a4 &&& (2147483647 : Int32)) % z132)
            have fq3 := orI (a4 &&& (2147483647 : Int32))
            have fq4 := orI a4
            have fq5 : ((2147483647 : Int32)).toInt = 2147483647 := rfl
            have fq6 := omaskI a4 (2147483647 : Int32) 31 2147483648 (by decide) (by decide) (by decide)
            have fq7 := orI z132
            have fq8 := oiremV (a4 &&& (2147483647 : Int32)) z132
            have fq9 := congrArg Int32.toInt hv137
            have fq10 : ((0 : Int32)).toInt = 0 := rfl
            have fq11 := orI v121
            have fq12 := k122
            have fq13 := orI v123
            have fq14 := k124
            have fq15 := orI v125
            have fq16 := k126
            have fq17 := orI (a2 &&& (1 : Int32))
            have fq18 := orI a2
            have fq19 : ((1 : Int32)).toInt = 1 := rfl
            have fq20 := omaskI a2 (1 : Int32) 1 2 (by decide) (by decide) (by decide)
            have fq21 := oeqI c127
            have fq22 := orI (a2 &&& (2 : Int32))
            have fq23 : ((2 : Int32)).toInt = 2 := rfl
            have fq24 := oandI a2 (2 : Int32) (by decide)
            have fq25 := oeqI c128
            have fq26 := orI v130
            have fq27 := oiadd (0 : Int32) v123
            have fq28 := congrArg Int32.toInt hv130
            have fq29 := orI v131
            have fq30 := oiadd v121 v125
            have fq31 := congrArg Int32.toInt hv131
            have fq32 := hz132
            have fq33 := oneI c136
            have fq34 := orI n158
            have fq35 := q163
            have fq36 := orI n165
            have fq37 := q170
            have fq38 := orI n172
            have fq39 := q177
            omega
          refine W_virtual B (y := (⟨"com/example/tanglemark/tanglemark/datalog/SharedSets", "holder", "(II)I"⟩ : MethodName)) (z := (⟨"com/example/tanglemark/tanglemark/datalog/SharedSets", "holder", "(II)I"⟩ : MethodName)) hown (ow hw (i := 73) rfl) (ow hw (i := 74) rfl) (oNotFace B (ow hw (i := 76) rfl) rfl) (ow hw (i := 76) rfl) (ow hw (i := 75) rfl) (ow hw (i := 4) rfl) (ow hw (i := 77) rfl) (by decide) (a := b141) (rm_ho000 l Z a0 hw h0 b141 sa142 c143 d144 c145 d146 c147 d148 c149 d150 c151 d152 c153 d154 c155 d156 v137 n172 us171 (0 : Int32) n158 n165 (((0 : Int32) + n158) - (0 : Int32)) (((0 : Int32) + n158) - (0 : Int32)) (((0 : Int32) + n165) - n158) (((((0 : Int32) + n158) - (0 : Int32)) + n172) - n165) (1 : Int32) (1 : Int32) (2 : Int32) [(b140, oA .int [(.int (30 : Int32)), (.int (31 : Int32)), (.int (32 : Int32))]), (b139, oA .int [(.int (20 : Int32)), (.int (21 : Int32)), (.int (22 : Int32))]), (b138, oA .int [(.int (10 : Int32)), (.int (11 : Int32)), (.int (12 : Int32))])] n178) (lenOf pd_0 rfl) (hb hby at_370) (pc' := 373) rfl (argsL := [(.int (0 : Int32)), (.int v137)]) (rest := []) rfl (by rw [hml]; rfl) (W := 0) (oLe rfl) (j := 14) rfl (by decide) (cells' := 20) rfl (slots' := 176) rfl ?_
          intro T v_ d_ q_ B
          rcases q_ with ⟨q179, rfl, rfl⟩ | ⟨q180, rfl, rfl⟩
          · show oWin p e below Z h0 _ _ (T.setTop (mkF m 373 #[.val (.int a1), .val (.int a2), .val (.int a3), .val (.int a4), .val (.int v121), .val (.int v123), .val (.int v125), .val (.int (0 : Int32)), .val (.int (0 : Int32)), .val (.int (0 : Int32)), .val (.int (0 : Int32)), .val (.int v130), .val (.int v121), .val (.int v131), .val (.int z132), .val (.int v137), .val (.ref b138), .val (.ref b139), .val (.ref b140), .val (.ref b141), .val (.int (0 : Int32)), .val (.int (1 : Int32)), .val (.int (2 : Int32)), .val (.int (0 : Int32))] [(.int (0 : Int32))]))
            refine W_iload B (hb hby at_373) (pc' := 375) rfl rfl ?_
            refine W_icmpN B (hb hby at_375) (pc' := 378) rfl (by decide) ?_
            refine W_iconst B (hb hby at_378) (pc' := 379) rfl (z := (1 : Int32)) (by decide) ?_
            refine W_goto B (hb hby at_379) (by decide) (pc' := 383) (by decide) ?_
            refine W_retNW B hS hret (by simp) (hb hby at_383) (by decide) ?_
            rfl
          show oWin p e below Z h0 _ _ (T.setTop (mkF m 373 #[.val (.int a1), .val (.int a2), .val (.int a3), .val (.int a4), .val (.int v121), .val (.int v123), .val (.int v125), .val (.int (0 : Int32)), .val (.int (0 : Int32)), .val (.int (0 : Int32)), .val (.int (0 : Int32)), .val (.int v130), .val (.int v121), .val (.int v131), .val (.int z132), .val (.int v137), .val (.ref b138), .val (.ref b139), .val (.ref b140), .val (.ref b141), .val (.int (0 : Int32)), .val (.int (1 : Int32)), .val (.int (2 : Int32)), .val (.int (0 : Int32))] [(.int (0 : Int32))]))
          refine W_iload B (hb hby at_373) (pc' := 375) rfl rfl ?_
          refine W_icmpN B (hb hby at_375) (pc' := 378) rfl (by decide) ?_
          refine W_iconst B (hb hby at_378) (pc' := 379) rfl (z := (1 : Int32)) (by decide) ?_
          refine W_goto B (hb hby at_379) (by decide) (pc' := 383) (by decide) ?_
          refine W_retNW B hS hret (by simp) (hb hby at_383) (by decide) ?_
          rfl
        · refine W_iload B (hb hby at_282) (pc' := 284) rfl rfl ?_
          refine W_ifY B (hb hby at_284) (by decide) (pc' := 293) (by decide) (by decide) ?_
          refine W_iload B (hb hby at_293) (pc' := 295) rfl rfl ?_
          refine W_iconst B (hb hby at_295) (pc' := 296) rfl (z := (1 : Int32)) (by decide) ?_
          refine W_icmpN B (hb hby at_296) (pc' := 299) rfl (by decide) ?_
          refine W_iload B (hb hby at_299) (pc' := 301) rfl rfl ?_
          refine W_ifY B (hb hby at_301) (by decide) (pc' := 315) (by decide) (by decide) ?_
          refine W_iconst B (hb hby at_315) (pc' := 316) rfl (z := (1 : Int32)) (by decide) ?_
          refine W_istore B (hb hby at_316) (pc' := 318) rfl (v := (1 : Int32)) rfl (ls' := #[.val (.int a1), .val (.int a2), .val (.int a3), .val (.int a4), .val (.int v121), .val (.int v123), .val (.int v125), .val (.int (0 : Int32)), .val (.int (0 : Int32)), .val (.int (1 : Int32)), .val (.int (0 : Int32)), .val (.int v130), .val (.int v121), .val (.int v131), .val (.int z132), .val (.int v137), .val (.ref b138), .val (.ref b139), .val (.ref b140), .val (.ref b141), .val (.int (0 : Int32)), .val (.int (1 : Int32)), .val (.int (2 : Int32)), .val (.int (1 : Int32))]) rfl ?_
          refine W_goto B (hb hby at_318) (by decide) (pc' := 364) (by decide) ?_
          refine W_aload B (hb hby at_364) (pc' := 366) rfl rfl rfl ?_
          refine W_iload B (hb hby at_366) (pc' := 368) rfl rfl ?_
          refine W_iload B (hb hby at_368) (pc' := 370) rfl rfl ?_
          have n181 : ¬ v137 < (0 : Int32) := by
            refine onltI_i ?_
            have fq1 := orI v137
            have fq2 := orI ((a4 &&& (2147483647 : Int32)) % z132)
            have fq3 := orI (a4 &&& (2147483647 : Int32))
            have fq4 := orI a4
            have fq5 : ((2147483647 : Int32)).toInt = 2147483647 := rfl
            have fq6 := omaskI a4 (2147483647 : Int32) 31 2147483648 (by decide) (by decide) (by decide)
            have fq7 := orI z132
            have fq8 := oiremV (a4 &&& (2147483647 : Int32)) z132
            have fq9 := congrArg Int32.toInt hv137
            have fq10 : ((0 : Int32)).toInt = 0 := rfl
            have fq11 := orI v121
            have fq12 := k122
            have fq13 := orI v123
            have fq14 := k124
            have fq15 := orI v125
            have fq16 := k126
            have fq17 := orI (a2 &&& (1 : Int32))
            have fq18 := orI a2
            have fq19 : ((1 : Int32)).toInt = 1 := rfl
            have fq20 := omaskI a2 (1 : Int32) 1 2 (by decide) (by decide) (by decide)
            have fq21 := oeqI c127
            have fq22 := orI (a2 &&& (2 : Int32))
            have fq23 : ((2 : Int32)).toInt = 2 := rfl
            have fq24 := oandI a2 (2 : Int32) (by decide)
            have fq25 := oeqI c128
            have fq26 := orI v130
            have fq27 := oiadd (0 : Int32) v123
            have fq28 := congrArg Int32.toInt hv130
            have fq29 := orI v131
            have fq30 := oiadd v121 v125
            have fq31 := congrArg Int32.toInt hv131
            have fq32 := hz132
            have fq33 := oneI c136
            have fq34 := orI n158
            have fq35 := q163
            have fq36 := orI n165
            have fq37 := q170
            have fq38 := orI n172
            have fq39 := q177
            omega
          refine W_virtual B (y := (⟨"com/example/tanglemark/tanglemark/datalog/SharedSets", "holder", "(II)I"⟩ : MethodName)) (z := (⟨"com/example/tanglemark/tanglemark/datalog/SharedSets", "holder", "(II)I"⟩ : MethodName)) hown (ow hw (i := 73) rfl) (ow hw (i := 74) rfl) (oNotFace B (ow hw (i := 76) rfl) rfl) (ow hw (i := 76) rfl) (ow hw (i := 75) rfl) (ow hw (i := 4) rfl) (ow hw (i := 77) rfl) (by decide) (a := b141) (rm_ho001 l Z a0 hw h0 b141 sa142 c143 d144 c145 d146 c147 d148 c149 d150 c151 d152 c153 d154 c155 d156 v137 n172 us171 (0 : Int32) n158 n165 (((0 : Int32) + n158) - (0 : Int32)) (((0 : Int32) + n158) - (0 : Int32)) (((0 : Int32) + n165) - n158) (((((0 : Int32) + n158) - (0 : Int32)) + n172) - n165) (1 : Int32) (1 : Int32) (2 : Int32) [(b140, oA .int [(.int (30 : Int32)), (.int (31 : Int32)), (.int (32 : Int32))]), (b139, oA .int [(.int (20 : Int32)), (.int (21 : Int32)), (.int (22 : Int32))]), (b138, oA .int [(.int (10 : Int32)), (.int (11 : Int32)), (.int (12 : Int32))])] n181) (lenOf pd_0 rfl) (hb hby at_370) (pc' := 373) rfl (argsL := [(.int (1 : Int32)), (.int v137)]) (rest := []) rfl (by rw [hml]; rfl) (W := 0) (oLe rfl) (j := 14) rfl (by decide) (cells' := 20) rfl (slots' := 176) rfl ?_
          intro T v_ d_ q_ B
          rcases q_ with ⟨q182, rfl, rfl⟩ | ⟨q183, rfl, rfl⟩
          · show oWin p e below Z h0 _ _ (T.setTop (mkF m 373 #[.val (.int a1), .val (.int a2), .val (.int a3), .val (.int a4), .val (.int v121), .val (.int v123), .val (.int v125), .val (.int (0 : Int32)), .val (.int (0 : Int32)), .val (.int (1 : Int32)), .val (.int (0 : Int32)), .val (.int v130), .val (.int v121), .val (.int v131), .val (.int z132), .val (.int v137), .val (.ref b138), .val (.ref b139), .val (.ref b140), .val (.ref b141), .val (.int (0 : Int32)), .val (.int (1 : Int32)), .val (.int (2 : Int32)), .val (.int (1 : Int32))] [(.int (1 : Int32))]))
            refine W_iload B (hb hby at_373) (pc' := 375) rfl rfl ?_
            refine W_icmpN B (hb hby at_375) (pc' := 378) rfl (by decide) ?_
            refine W_iconst B (hb hby at_378) (pc' := 379) rfl (z := (1 : Int32)) (by decide) ?_
            refine W_goto B (hb hby at_379) (by decide) (pc' := 383) (by decide) ?_
            refine W_retNW B hS hret (by simp) (hb hby at_383) (by decide) ?_
            rfl
          show oWin p e below Z h0 _ _ (T.setTop (mkF m 373 #[.val (.int a1), .val (.int a2), .val (.int a3), .val (.int a4), .val (.int v121), .val (.int v123), .val (.int v125), .val (.int (0 : Int32)), .val (.int (0 : Int32)), .val (.int (1 : Int32)), .val (.int (0 : Int32)), .val (.int v130), .val (.int v121), .val (.int v131), .val (.int z132), .val (.int v137), .val (.ref b138), .val (.ref b139), .val (.ref b140), .val (.ref b141), .val (.int (0 : Int32)), .val (.int (1 : Int32)), .val (.int (2 : Int32)), .val (.int (1 : Int32))] [(.int (1 : Int32))]))
          refine W_iload B (hb hby at_373) (pc' := 375) rfl rfl ?_
          refine W_icmpN B (hb hby at_375) (pc' := 378) rfl (by decide) ?_
          refine W_iconst B (hb hby at_378) (pc' := 379) rfl (z := (1 : Int32)) (by decide) ?_
          refine W_goto B (hb hby at_379) (by decide) (pc' := 383) (by decide) ?_
          refine W_retNW B hS hret (by simp) (hb hby at_383) (by decide) ?_
          rfl
        refine W_iload B (hb hby at_282) (pc' := 284) rfl rfl ?_
        refine W_ifY B (hb hby at_284) (by decide) (pc' := 293) (by decide) (by decide) ?_
        refine W_iload B (hb hby at_293) (pc' := 295) rfl rfl ?_
        refine W_iconst B (hb hby at_295) (pc' := 296) rfl (z := (1 : Int32)) (by decide) ?_
        refine W_icmpY B (hb hby at_296) (by decide) (pc' := 321) (by decide) (by decide) ?_
        refine W_iload B (hb hby at_321) (pc' := 323) rfl rfl ?_
        refine W_iload B (hb hby at_323) (pc' := 325) rfl rfl ?_
        refine W_icmp_lt B (hb hby at_325) (by decide) (pt := 334) (by decide) (pc' := 328) rfl (fun (c184 : v137 < v121) => ?_) (fun (c184 : ¬ v137 < v121) => ?_)
        · refine W_iload B (hb hby at_334) (pc' := 336) rfl rfl ?_
          refine W_ifY B (hb hby at_336) (by decide) (pc' := 361) (by decide) (by decide) ?_
          refine W_iconst B (hb hby at_361) (pc' := 362) rfl (z := (0 : Int32)) (by decide) ?_
          refine W_istore B (hb hby at_362) (pc' := 364) rfl (v := (0 : Int32)) rfl (ls' := #[.val (.int a1), .val (.int a2), .val (.int a3), .val (.int a4), .val (.int v121), .val (.int v123), .val (.int v125), .val (.int (0 : Int32)), .val (.int (0 : Int32)), .val (.int (2 : Int32)), .val (.int (0 : Int32)), .val (.int v130), .val (.int v121), .val (.int v131), .val (.int z132), .val (.int v137), .val (.ref b138), .val (.ref b139), .val (.ref b140), .val (.ref b141), .val (.int (0 : Int32)), .val (.int (1 : Int32)), .val (.int (2 : Int32)), .val (.int (0 : Int32))]) rfl ?_
          refine W_aload B (hb hby at_364) (pc' := 366) rfl rfl rfl ?_
          refine W_iload B (hb hby at_366) (pc' := 368) rfl rfl ?_
          refine W_iload B (hb hby at_368) (pc' := 370) rfl rfl ?_
          have n185 : ¬ v137 < (0 : Int32) := by
            refine onltI_i ?_
            have fq1 := orI v137
            have fq2 := orI ((a4 &&& (2147483647 : Int32)) % z132)
            have fq3 := orI (a4 &&& (2147483647 : Int32))
            have fq4 := orI a4
            have fq5 : ((2147483647 : Int32)).toInt = 2147483647 := rfl
            have fq6 := omaskI a4 (2147483647 : Int32) 31 2147483648 (by decide) (by decide) (by decide)
            have fq7 := orI z132
            have fq8 := oiremV (a4 &&& (2147483647 : Int32)) z132
            have fq9 := congrArg Int32.toInt hv137
            have fq10 : ((0 : Int32)).toInt = 0 := rfl
            have fq11 := orI v121
            have fq12 := k122
            have fq13 := orI v123
            have fq14 := k124
            have fq15 := orI v125
            have fq16 := k126
            have fq17 := orI (a2 &&& (1 : Int32))
            have fq18 := orI a2
            have fq19 : ((1 : Int32)).toInt = 1 := rfl
            have fq20 := omaskI a2 (1 : Int32) 1 2 (by decide) (by decide) (by decide)
            have fq21 := oeqI c127
            have fq22 := orI (a2 &&& (2 : Int32))
            have fq23 : ((2 : Int32)).toInt = 2 := rfl
            have fq24 := oandI a2 (2 : Int32) (by decide)
            have fq25 := oeqI c128
            have fq26 := orI v130
            have fq27 := oiadd (0 : Int32) v123
            have fq28 := congrArg Int32.toInt hv130
            have fq29 := orI v131
            have fq30 := oiadd v121 v125
            have fq31 := congrArg Int32.toInt hv131
            have fq32 := hz132
            have fq33 := oneI c136
            have fq34 := orI n158
            have fq35 := q163
            have fq36 := orI n165
            have fq37 := q170
            have fq38 := orI n172
            have fq39 := q177
            have fq40 := oltI c184
            omega
          refine W_virtual B (y := (⟨"com/example/tanglemark/tanglemark/datalog/SharedSets", "holder", "(II)I"⟩ : MethodName)) (z := (⟨"com/example/tanglemark/tanglemark/datalog/SharedSets", "holder", "(II)I"⟩ : MethodName)) hown (ow hw (i := 73) rfl) (ow hw (i := 74) rfl) (oNotFace B (ow hw (i := 76) rfl) rfl) (ow hw (i := 76) rfl) (ow hw (i := 75) rfl) (ow hw (i := 4) rfl) (ow hw (i := 77) rfl) (by decide) (a := b141) (rm_ho002 l Z a0 hw h0 b141 sa142 c143 d144 c145 d146 c147 d148 c149 d150 c151 d152 c153 d154 c155 d156 v137 n172 us171 (0 : Int32) n158 n165 (((0 : Int32) + n158) - (0 : Int32)) (((0 : Int32) + n158) - (0 : Int32)) (((0 : Int32) + n165) - n158) (((((0 : Int32) + n158) - (0 : Int32)) + n172) - n165) (1 : Int32) (1 : Int32) (2 : Int32) [(b140, oA .int [(.int (30 : Int32)), (.int (31 : Int32)), (.int (32 : Int32))]), (b139, oA .int [(.int (20 : Int32)), (.int (21 : Int32)), (.int (22 : Int32))]), (b138, oA .int [(.int (10 : Int32)), (.int (11 : Int32)), (.int (12 : Int32))])] n185) (lenOf pd_0 rfl) (hb hby at_370) (pc' := 373) rfl (argsL := [(.int (2 : Int32)), (.int v137)]) (rest := []) rfl (by rw [hml]; rfl) (W := 0) (oLe rfl) (j := 14) rfl (by decide) (cells' := 20) rfl (slots' := 176) rfl ?_
          intro T v_ d_ q_ B
          rcases q_ with ⟨q186, rfl, rfl⟩ | ⟨q187, q188, rfl, rfl⟩ | ⟨q189, q190, rfl, rfl⟩
          · show oWin p e below Z h0 _ _ (T.setTop (mkF m 373 #[.val (.int a1), .val (.int a2), .val (.int a3), .val (.int a4), .val (.int v121), .val (.int v123), .val (.int v125), .val (.int (0 : Int32)), .val (.int (0 : Int32)), .val (.int (2 : Int32)), .val (.int (0 : Int32)), .val (.int v130), .val (.int v121), .val (.int v131), .val (.int z132), .val (.int v137), .val (.ref b138), .val (.ref b139), .val (.ref b140), .val (.ref b141), .val (.int (0 : Int32)), .val (.int (1 : Int32)), .val (.int (2 : Int32)), .val (.int (0 : Int32))] [(.int (0 : Int32))]))
            refine W_iload B (hb hby at_373) (pc' := 375) rfl rfl ?_
            refine W_icmpN B (hb hby at_375) (pc' := 378) rfl (by decide) ?_
            refine W_iconst B (hb hby at_378) (pc' := 379) rfl (z := (1 : Int32)) (by decide) ?_
            refine W_goto B (hb hby at_379) (by decide) (pc' := 383) (by decide) ?_
            refine W_retNW B hS hret (by simp) (hb hby at_383) (by decide) ?_
            rfl
          · show oWin p e below Z h0 _ _ (T.setTop (mkF m 373 #[.val (.int a1), .val (.int a2), .val (.int a3), .val (.int a4), .val (.int v121), .val (.int v123), .val (.int v125), .val (.int (0 : Int32)), .val (.int (0 : Int32)), .val (.int (2 : Int32)), .val (.int (0 : Int32)), .val (.int v130), .val (.int v121), .val (.int v131), .val (.int z132), .val (.int v137), .val (.ref b138), .val (.ref b139), .val (.ref b140), .val (.ref b141), .val (.int (0 : Int32)), .val (.int (1 : Int32)), .val (.int (2 : Int32)), .val (.int (0 : Int32))] [(.int (2 : Int32))]))
            refine W_iload B (hb hby at_373) (pc' := 375) rfl rfl ?_
            refine W_icmpY B (hb hby at_375) (by decide) (pc' := 382) (by decide) (by decide) ?_
            refine W_iconst B (hb hby at_382) (pc' := 383) rfl (z := (0 : Int32)) (by decide) ?_
            refine W_retNW B hS hret (by simp) (hb hby at_383) (by decide) ?_
            exfalso
            have fq1 := orI v121
            have fq2 := k122
            have fq3 := orI v123
            have fq4 := k124
            have fq5 := orI v125
            have fq6 := k126
            have fq7 := orI (a2 &&& (1 : Int32))
            have fq8 := orI a2
            have fq9 : ((1 : Int32)).toInt = 1 := rfl
            have fq10 := omaskI a2 (1 : Int32) 1 2 (by decide) (by decide) (by decide)
            have fq11 : ((0 : Int32)).toInt = 0 := rfl
            have fq12 := oeqI c127
            have fq13 := orI (a2 &&& (2 : Int32))
            have fq14 : ((2 : Int32)).toInt = 2 := rfl
            have fq15 := oandI a2 (2 : Int32) (by decide)
            have fq16 := oeqI c128
            have fq17 := orI z132
            have fq18 := orI v130
            have fq19 := oiadd (0 : Int32) v123
            have fq20 := congrArg Int32.toInt hv130
            have fq21 := orI v131
            have fq22 := oiadd v121 v125
            have fq23 := congrArg Int32.toInt hv131
            have fq24 := hz132
            have fq25 := oneI c136
            have fq26 := orI n158
            have fq27 := q163
            have fq28 := orI n165
            have fq29 := q170
            have fq30 := orI n172
            have fq31 := q177
            have fq32 := orI v137
            have fq33 := orI ((a4 &&& (2147483647 : Int32)) % z132)
            have fq34 := orI (a4 &&& (2147483647 : Int32))
            have fq35 := orI a4
            have fq36 : ((2147483647 : Int32)).toInt = 2147483647 := rfl
            have fq37 := omaskI a4 (2147483647 : Int32) 31 2147483648 (by decide) (by decide) (by decide)
            have fq38 := oiremV (a4 &&& (2147483647 : Int32)) z132
            have fq39 := congrArg Int32.toInt hv137
            have fq40 := oltI c184
            have fq41 := onltI n185
            have fq42 := oiadd (0 : Int32) n158
            have fq43 := oisub ((0 : Int32) + n158) (0 : Int32)
            have fq44 := onltI q187
            have fq45 := onltI q188
            omega
          show oWin p e below Z h0 _ _ (T.setTop (mkF m 373 #[.val (.int a1), .val (.int a2), .val (.int a3), .val (.int a4), .val (.int v121), .val (.int v123), .val (.int v125), .val (.int (0 : Int32)), .val (.int (0 : Int32)), .val (.int (2 : Int32)), .val (.int (0 : Int32)), .val (.int v130), .val (.int v121), .val (.int v131), .val (.int z132), .val (.int v137), .val (.ref b138), .val (.ref b139), .val (.ref b140), .val (.ref b141), .val (.int (0 : Int32)), .val (.int (1 : Int32)), .val (.int (2 : Int32)), .val (.int (0 : Int32))] [(.int (0 : Int32))]))
          refine W_iload B (hb hby at_373) (pc' := 375) rfl rfl ?_
          refine W_icmpN B (hb hby at_375) (pc' := 378) rfl (by decide) ?_
          refine W_iconst B (hb hby at_378) (pc' := 379) rfl (z := (1 : Int32)) (by decide) ?_
          refine W_goto B (hb hby at_379) (by decide) (pc' := 383) (by decide) ?_
          refine W_retNW B hS hret (by simp) (hb hby at_383) (by decide) ?_
          rfl
        refine W_iconst B (hb hby at_328) (pc' := 329) rfl (z := (2 : Int32)) (by decide) ?_
        refine W_istore B (hb hby at_329) (pc' := 331) rfl (v := (2 : Int32)) rfl (ls' := #[.val (.int a1), .val (.int a2), .val (.int a3), .val (.int a4), .val (.int v121), .val (.int v123), .val (.int v125), .val (.int (0 : Int32)), .val (.int (0 : Int32)), .val (.int (2 : Int32)), .val (.int (0 : Int32)), .val (.int v130), .val (.int v121), .val (.int v131), .val (.int z132), .val (.int v137), .val (.ref b138), .val (.ref b139), .val (.ref b140), .val (.ref b141), .val (.int (0 : Int32)), .val (.int (1 : Int32)), .val (.int (2 : Int32)), .val (.int (2 : Int32))]) rfl ?_
        refine W_goto B (hb hby at_331) (by decide) (pc' := 364) (by decide) ?_
        refine W_aload B (hb hby at_364) (pc' := 366) rfl rfl rfl ?_
        refine W_iload B (hb hby at_366) (pc' := 368) rfl rfl ?_
        refine W_iload B (hb hby at_368) (pc' := 370) rfl rfl ?_
        have n191 : ¬ v137 < (0 : Int32) := by
          refine onltI_i ?_
          have fq1 := orI v137
          have fq2 := orI ((a4 &&& (2147483647 : Int32)) % z132)
          have fq3 := orI (a4 &&& (2147483647 : Int32))
          have fq4 := orI a4
          have fq5 : ((2147483647 : Int32)).toInt = 2147483647 := rfl
          have fq6 := omaskI a4 (2147483647 : Int32) 31 2147483648 (by decide) (by decide) (by decide)
          have fq7 := orI z132
          have fq8 := oiremV (a4 &&& (2147483647 : Int32)) z132
          have fq9 := congrArg Int32.toInt hv137
          have fq10 : ((0 : Int32)).toInt = 0 := rfl
          have fq11 := orI v121
          have fq12 := k122
          have fq13 := orI v123
          have fq14 := k124
          have fq15 := orI v125
          have fq16 := k126
          have fq17 := orI (a2 &&& (1 : Int32))
          have fq18 := orI a2
          have fq19 : ((1 : Int32)).toInt = 1 := rfl
          have fq20 := omaskI a2 (1 : Int32) 1 2 (by decide) (by decide) (by decide)
          have fq21 := oeqI c127
          have fq22 := orI (a2 &&& (2 : Int32))
          have fq23 : ((2 : Int32)).toInt = 2 := rfl
          have fq24 := oandI a2 (2 : Int32) (by decide)
          have fq25 := oeqI c128
          have fq26 := orI v130
          have fq27 := oiadd (0 : Int32) v123
          have fq28 := congrArg Int32.toInt hv130
          have fq29 := orI v131
          have fq30 := oiadd v121 v125
          have fq31 := congrArg Int32.toInt hv131
          have fq32 := hz132
          have fq33 := oneI c136
          have fq34 := orI n158
          have fq35 := q163
          have fq36 := orI n165
          have fq37 := q170
          have fq38 := orI n172
          have fq39 := q177
          have fq40 := onltI c184
          omega
        refine W_virtual B (y := (⟨"com/example/tanglemark/tanglemark/datalog/SharedSets", "holder", "(II)I"⟩ : MethodName)) (z := (⟨"com/example/tanglemark/tanglemark/datalog/SharedSets", "holder", "(II)I"⟩ : MethodName)) hown (ow hw (i := 73) rfl) (ow hw (i := 74) rfl) (oNotFace B (ow hw (i := 76) rfl) rfl) (ow hw (i := 76) rfl) (ow hw (i := 75) rfl) (ow hw (i := 4) rfl) (ow hw (i := 77) rfl) (by decide) (a := b141) (rm_ho002 l Z a0 hw h0 b141 sa142 c143 d144 c145 d146 c147 d148 c149 d150 c151 d152 c153 d154 c155 d156 v137 n172 us171 (0 : Int32) n158 n165 (((0 : Int32) + n158) - (0 : Int32)) (((0 : Int32) + n158) - (0 : Int32)) (((0 : Int32) + n165) - n158) (((((0 : Int32) + n158) - (0 : Int32)) + n172) - n165) (1 : Int32) (1 : Int32) (2 : Int32) [(b140, oA .int [(.int (30 : Int32)), (.int (31 : Int32)), (.int (32 : Int32))]), (b139, oA .int [(.int (20 : Int32)), (.int (21 : Int32)), (.int (22 : Int32))]), (b138, oA .int [(.int (10 : Int32)), (.int (11 : Int32)), (.int (12 : Int32))])] n191) (lenOf pd_0 rfl) (hb hby at_370) (pc' := 373) rfl (argsL := [(.int (2 : Int32)), (.int v137)]) (rest := []) rfl (by rw [hml]; rfl) (W := 0) (oLe rfl) (j := 14) rfl (by decide) (cells' := 20) rfl (slots' := 176) rfl ?_
        intro T v_ d_ q_ B
        rcases q_ with ⟨q192, rfl, rfl⟩ | ⟨q193, q194, rfl, rfl⟩ | ⟨q195, q196, rfl, rfl⟩
        · show oWin p e below Z h0 _ _ (T.setTop (mkF m 373 #[.val (.int a1), .val (.int a2), .val (.int a3), .val (.int a4), .val (.int v121), .val (.int v123), .val (.int v125), .val (.int (0 : Int32)), .val (.int (0 : Int32)), .val (.int (2 : Int32)), .val (.int (0 : Int32)), .val (.int v130), .val (.int v121), .val (.int v131), .val (.int z132), .val (.int v137), .val (.ref b138), .val (.ref b139), .val (.ref b140), .val (.ref b141), .val (.int (0 : Int32)), .val (.int (1 : Int32)), .val (.int (2 : Int32)), .val (.int (2 : Int32))] [(.int (0 : Int32))]))
          refine W_iload B (hb hby at_373) (pc' := 375) rfl rfl ?_
          refine W_icmpY B (hb hby at_375) (by decide) (pc' := 382) (by decide) (by decide) ?_
          refine W_iconst B (hb hby at_382) (pc' := 383) rfl (z := (0 : Int32)) (by decide) ?_
          refine W_retNW B hS hret (by simp) (hb hby at_383) (by decide) ?_
          exfalso
          have fq1 := orI v121
          have fq2 := k122
          have fq3 := orI v123
          have fq4 := k124
          have fq5 := orI v125
          have fq6 := k126
          have fq7 := orI (a2 &&& (1 : Int32))
          have fq8 := orI a2
          have fq9 : ((1 : Int32)).toInt = 1 := rfl
          have fq10 := omaskI a2 (1 : Int32) 1 2 (by decide) (by decide) (by decide)
          have fq11 : ((0 : Int32)).toInt = 0 := rfl
          have fq12 := oeqI c127
          have fq13 := orI (a2 &&& (2 : Int32))
          have fq14 : ((2 : Int32)).toInt = 2 := rfl
          have fq15 := oandI a2 (2 : Int32) (by decide)
          have fq16 := oeqI c128
          have fq17 := orI z132
          have fq18 := orI v130
          have fq19 := oiadd (0 : Int32) v123
          have fq20 := congrArg Int32.toInt hv130
          have fq21 := orI v131
          have fq22 := oiadd v121 v125
          have fq23 := congrArg Int32.toInt hv131
          have fq24 := hz132
          have fq25 := oneI c136
          have fq26 := orI n158
          have fq27 := q163
          have fq28 := orI n165
          have fq29 := q170
          have fq30 := orI n172
          have fq31 := q177
          have fq32 := orI v137
          have fq33 := orI ((a4 &&& (2147483647 : Int32)) % z132)
          have fq34 := orI (a4 &&& (2147483647 : Int32))
          have fq35 := orI a4
          have fq36 : ((2147483647 : Int32)).toInt = 2147483647 := rfl
          have fq37 := omaskI a4 (2147483647 : Int32) 31 2147483648 (by decide) (by decide) (by decide)
          have fq38 := oiremV (a4 &&& (2147483647 : Int32)) z132
          have fq39 := congrArg Int32.toInt hv137
          have fq40 := onltI c184
          have fq41 := onltI n191
          have fq42 := oiadd (0 : Int32) n158
          have fq43 := oisub ((0 : Int32) + n158) (0 : Int32)
          have fq44 := oltI q192
          omega
        · show oWin p e below Z h0 _ _ (T.setTop (mkF m 373 #[.val (.int a1), .val (.int a2), .val (.int a3), .val (.int a4), .val (.int v121), .val (.int v123), .val (.int v125), .val (.int (0 : Int32)), .val (.int (0 : Int32)), .val (.int (2 : Int32)), .val (.int (0 : Int32)), .val (.int v130), .val (.int v121), .val (.int v131), .val (.int z132), .val (.int v137), .val (.ref b138), .val (.ref b139), .val (.ref b140), .val (.ref b141), .val (.int (0 : Int32)), .val (.int (1 : Int32)), .val (.int (2 : Int32)), .val (.int (2 : Int32))] [(.int (2 : Int32))]))
          refine W_iload B (hb hby at_373) (pc' := 375) rfl rfl ?_
          refine W_icmpN B (hb hby at_375) (pc' := 378) rfl (by decide) ?_
          refine W_iconst B (hb hby at_378) (pc' := 379) rfl (z := (1 : Int32)) (by decide) ?_
          refine W_goto B (hb hby at_379) (by decide) (pc' := 383) (by decide) ?_
          refine W_retNW B hS hret (by simp) (hb hby at_383) (by decide) ?_
          rfl
        show oWin p e below Z h0 _ _ (T.setTop (mkF m 373 #[.val (.int a1), .val (.int a2), .val (.int a3), .val (.int a4), .val (.int v121), .val (.int v123), .val (.int v125), .val (.int (0 : Int32)), .val (.int (0 : Int32)), .val (.int (2 : Int32)), .val (.int (0 : Int32)), .val (.int v130), .val (.int v121), .val (.int v131), .val (.int z132), .val (.int v137), .val (.ref b138), .val (.ref b139), .val (.ref b140), .val (.ref b141), .val (.int (0 : Int32)), .val (.int (1 : Int32)), .val (.int (2 : Int32)), .val (.int (2 : Int32))] [(.int (0 : Int32))]))
        refine W_iload B (hb hby at_373) (pc' := 375) rfl rfl ?_
        refine W_icmpY B (hb hby at_375) (by decide) (pc' := 382) (by decide) (by decide) ?_
        refine W_iconst B (hb hby at_382) (pc' := 383) rfl (z := (0 : Int32)) (by decide) ?_
        refine W_retNW B hS hret (by simp) (hb hby at_383) (by decide) ?_
        exfalso
        have fq1 := orI v121
        have fq2 := k122
        have fq3 := orI v123
        have fq4 := k124
        have fq5 := orI v125
        have fq6 := k126
        have fq7 := orI (a2 &&& (1 : Int32))
        have fq8 := orI a2
        have fq9 : ((1 : Int32)).toInt = 1 := rfl
        have fq10 := omaskI a2 (1 : Int32) 1 2 (by decide) (by decide) (by decide)
        have fq11 : ((0 : Int32)).toInt = 0 := rfl
        have fq12 := oeqI c127
        have fq13 := orI (a2 &&& (2 : Int32))
        have fq14 : ((2 : Int32)).toInt = 2 := rfl
        have fq15 := oandI a2 (2 : Int32) (by decide)
        have fq16 := oeqI c128
        have fq17 := orI z132
        have fq18 := orI v130
        have fq19 := oiadd (0 : Int32) v123
        have fq20 := congrArg Int32.toInt hv130
        have fq21 := orI v131
        have fq22 := oiadd v121 v125
        have fq23 := congrArg Int32.toInt hv131
        have fq24 := hz132
        have fq25 := oneI c136
        have fq26 := orI n158
        have fq27 := q163
        have fq28 := orI n165
        have fq29 := q170
        have fq30 := orI n172
        have fq31 := q177
        have fq32 := orI v137
        have fq33 := orI ((a4 &&& (2147483647 : Int32)) % z132)
        have fq34 := orI (a4 &&& (2147483647 : Int32))
        have fq35 := orI a4
        have fq36 : ((2147483647 : Int32)).toInt = 2147483647 := rfl
        have fq37 := omaskI a4 (2147483647 : Int32) 31 2147483648 (by decide) (by decide) (by decide)
        have fq38 := oiremV (a4 &&& (2147483647 : Int32)) z132
        have fq39 := congrArg Int32.toInt hv137
        have fq40 := onltI c184
        have fq41 := onltI n191
        have fq42 := oiadd (0 : Int32) n158
        have fq43 := oisub ((0 : Int32) + n158) (0 : Int32)
        have fq44 := onltI q195
        have fq45 := oltI q196
        omega
      refine W_iconst B (hb hby at_124) (pc' := 125) rfl (z := (1 : Int32)) (by decide) ?_
      refine W_retNW B hS hret (by simp) (hb hby at_125) (by decide) ?_
      rfl
    refine W_iconst B (hb hby at_38) (pc' := 39) rfl (z := (1 : Int32)) (by decide) ?_
    refine W_goto B (hb hby at_39) (by decide) (pc' := 43) (by decide) ?_
    refine W_istore B (hb hby at_43) (pc' := 45) rfl (v := (1 : Int32)) rfl (ls' := #[.val (.int a1), .val (.int a2), .val (.int a3), .val (.int a4), .val (.int v121), .val (.int v123), .val (.int v125), .val (.int (0 : Int32)), .val (.int (1 : Int32)), .unset, .unset, .unset, .unset, .unset, .unset, .unset, .unset, .unset, .unset, .unset, .unset, .unset, .unset, .unset]) rfl ?_
    refine W_iloadN B (hb hby at_45) (pc' := 46) rfl rfl ?_
    refine W_ldcInt B hown (ow hw (i := 0) rfl) (hb hby at_46) (pc' := 48) rfl ?_
    refine W_iand B (hb hby at_48) (pc' := 49) rfl (z := (a3 &&& (2147483647 : Int32))) rfl ?_
    refine W_iconst B (hb hby at_49) (pc' := 50) rfl (z := (3 : Int32)) (by decide) ?_
    refine W_irem B (hb hby at_50) (pc' := 51) rfl (by decide) (z := ((a3 &&& (2147483647 : Int32)) % (3 : Int32))) rfl ?_
    obtain ⟨v197, hv197⟩ : ∃ z : Int32, z = ((a3 &&& (2147483647 : Int32)) % (3 : Int32)) := ⟨_, rfl⟩
    refine W_istore B (hb hby at_51) (pc' := 53) rfl (v := v197) hv197.symm (ls' := #[.val (.int a1), .val (.int a2), .val (.int a3), .val (.int a4), .val (.int v121), .val (.int v123), .val (.int v125), .val (.int (0 : Int32)), .val (.int (1 : Int32)), .val (.int v197), .unset, .unset, .unset, .unset, .unset, .unset, .unset, .unset, .unset, .unset, .unset, .unset, .unset, .unset]) rfl ?_
    refine W_iload B (hb hby at_53) (pc' := 55) rfl rfl ?_
    refine W_ifY B (hb hby at_55) (by decide) (pc' := 63) (by decide) (by decide) ?_
    refine W_iconst B (hb hby at_63) (pc' := 64) rfl (z := (0 : Int32)) (by decide) ?_
    refine W_istore B (hb hby at_64) (pc' := 66) rfl (v := (0 : Int32)) rfl (ls' := #[.val (.int a1), .val (.int a2), .val (.int a3), .val (.int a4), .val (.int v121), .val (.int v123), .val (.int v125), .val (.int (0 : Int32)), .val (.int (1 : Int32)), .val (.int v197), .val (.int (0 : Int32)), .unset, .unset, .unset, .unset, .unset, .unset, .unset, .unset, .unset, .unset, .unset, .unset, .unset]) rfl ?_
    refine W_iload B (hb hby at_66) (pc' := 68) rfl rfl ?_
    refine W_iload B (hb hby at_68) (pc' := 70) rfl rfl ?_
    refine W_iadd B (hb hby at_70) (pc' := 71) rfl (z := ((0 : Int32) + v123)) rfl ?_
    obtain ⟨v198, hv198⟩ : ∃ z : Int32, z = ((0 : Int32) + v123) := ⟨_, rfl⟩
    refine W_istore B (hb hby at_71) (pc' := 73) rfl (v := v198) hv198.symm (ls' := #[.val (.int a1), .val (.int a2), .val (.int a3), .val (.int a4), .val (.int v121), .val (.int v123), .val (.int v125), .val (.int (0 : Int32)), .val (.int (1 : Int32)), .val (.int v197), .val (.int (0 : Int32)), .val (.int v198), .unset, .unset, .unset, .unset, .unset, .unset, .unset, .unset, .unset, .unset, .unset, .unset]) rfl ?_
    refine W_iload B (hb hby at_73) (pc' := 75) rfl rfl ?_
    refine W_ifN B (hb hby at_75) (pc' := 78) rfl (by decide) ?_
    refine W_iload B (hb hby at_78) (pc' := 80) rfl rfl ?_
    refine W_goto B (hb hby at_80) (by decide) (pc' := 85) (by decide) ?_
    refine W_istore B (hb hby at_85) (pc' := 87) rfl (v := v198) rfl (ls' := #[.val (.int a1), .val (.int a2), .val (.int a3), .val (.int a4), .val (.int v121), .val (.int v123), .val (.int v125), .val (.int (0 : Int32)), .val (.int (1 : Int32)), .val (.int v197), .val (.int (0 : Int32)), .val (.int v198), .val (.int v198), .unset, .unset, .unset, .unset, .unset, .unset, .unset, .unset, .unset, .unset, .unset]) rfl ?_
    refine W_iload B (hb hby at_87) (pc' := 89) rfl rfl ?_
    refine W_iload B (hb hby at_89) (pc' := 91) rfl rfl ?_
    refine W_iadd B (hb hby at_91) (pc' := 92) rfl (z := (v198 + v125)) rfl ?_
    obtain ⟨v199, hv199⟩ : ∃ z : Int32, z = (v198 + v125) := ⟨_, rfl⟩
    refine W_istore B (hb hby at_92) (pc' := 94) rfl (v := v199) hv199.symm (ls' := #[.val (.int a1), .val (.int a2), .val (.int a3), .val (.int a4), .val (.int v121), .val (.int v123), .val (.int v125), .val (.int (0 : Int32)), .val (.int (1 : Int32)), .val (.int v197), .val (.int (0 : Int32)), .val (.int v198), .val (.int v198), .val (.int v199), .unset, .unset, .unset, .unset, .unset, .unset, .unset, .unset, .unset, .unset]) rfl ?_
    have k201 : v197.toInt = 0 ∨ v197.toInt = 1 ∨ v197.toInt = 2 := (own_c3 hv197).imp (fun e => by rw [e]; rfl) fun t => t.imp (fun e => by rw [e]; rfl) fun e => by rw [e]; rfl
    refine oJoin B (fun z200 : Int32 => (v197.toInt = 0 ∧ z200.toInt = (v121).toInt) ∨ (v197.toInt = 1 ∧ z200.toInt = (v198).toInt) ∨ (v197.toInt = 2 ∧ z200.toInt = (v199).toInt)) (fun z200 => (mkF m 117 #[.val (.int a1), .val (.int a2), .val (.int a3), .val (.int a4), .val (.int v121), .val (.int v123), .val (.int v125), .val (.int (0 : Int32)), .val (.int (1 : Int32)), .val (.int v197), .val (.int (0 : Int32)), .val (.int v198), .val (.int v198), .val (.int v199), .unset, .unset, .unset, .unset, .unset, .unset, .unset, .unset, .unset, .unset] [(.int z200)])) ?_ ?_
    · intro kJ
      refine W_iload B (hb hby at_94) (pc' := 96) rfl rfl ?_
      refine W_if_ne B (hb hby at_96) (by decide) (pt := 104) (by decide) (pc' := 99) rfl (fun (c202 : ¬ v197 = (0 : Int32)) => ?_) (fun (c202 : v197 = (0 : Int32)) => ?_)
      · refine W_iload B (hb hby at_104) (pc' := 106) rfl rfl ?_
        refine W_iconst B (hb hby at_106) (pc' := 107) rfl (z := (1 : Int32)) (by decide) ?_
        refine W_icmp_ne B (hb hby at_107) (by decide) (pt := 115) (by decide) (pc' := 110) rfl (fun (c203 : ¬ v197 = (1 : Int32)) => ?_) (fun (c203 : v197 = (1 : Int32)) => ?_)
        · refine W_iload B (hb hby at_115) (pc' := 117) rfl rfl ?_
          refine kJ _ _ ?_ B
          have fq1 := orI v199
          have fq2 := orI v198
          have fq3 : ((0 : Int32)).toInt = 0 := rfl
          have fq4 := orI v123
          have fq5 := oiadd (0 : Int32) v123
          have fq6 := congrArg Int32.toInt hv198
          have fq7 := orI v125
          have fq8 := oiadd v198 v125
          have fq9 := congrArg Int32.toInt hv199
          have fq10 := orI v197
          have fq11 := k201
          have fq12 := oneI c202
          have fq13 : ((1 : Int32)).toInt = 1 := rfl
          have fq14 := oneI c203
          omega
        refine W_iload B (hb hby at_110) (pc' := 112) rfl rfl ?_
        refine W_goto B (hb hby at_112) (by decide) (pc' := 117) (by decide) ?_
        refine kJ _ _ ?_ B
        have fq1 := orI v198
        have fq2 : ((0 : Int32)).toInt = 0 := rfl
        have fq3 := orI v123
        have fq4 := oiadd (0 : Int32) v123
        have fq5 := congrArg Int32.toInt hv198
        have fq6 := orI v197
        have fq7 := k201
        have fq8 := oneI c202
        have fq9 : ((1 : Int32)).toInt = 1 := rfl
        have fq10 := oeqI c203
        omega
      refine W_iload B (hb hby at_99) (pc' := 101) rfl rfl ?_
      refine W_goto B (hb hby at_101) (by decide) (pc' := 117) (by decide) ?_
      refine kJ _ _ ?_ B
      have fq1 := orI v121
      have fq2 := orI v197
      have fq3 := k201
      have fq4 : ((0 : Int32)).toInt = 0 := rfl
      have fq5 := oeqI c202
      omega
    intro z200 T hz200 B
    refine W_istore B (hb hby at_117) (pc' := 119) rfl (v := z200) rfl (ls' := #[.val (.int a1), .val (.int a2), .val (.int a3), .val (.int a4), .val (.int v121), .val (.int v123), .val (.int v125), .val (.int (0 : Int32)), .val (.int (1 : Int32)), .val (.int v197), .val (.int (0 : Int32)), .val (.int v198), .val (.int v198), .val (.int v199), .val (.int z200), .unset, .unset, .unset, .unset, .unset, .unset, .unset, .unset, .unset]) rfl ?_
    refine W_iload B (hb hby at_119) (pc' := 121) rfl rfl ?_
    refine W_if_ne B (hb hby at_121) (by decide) (pt := 126) (by decide) (pc' := 124) rfl (fun (c204 : ¬ z200 = (0 : Int32)) => ?_) (fun (c204 : z200 = (0 : Int32)) => ?_)
    · refine W_iloadN B (hb hby at_126) (pc' := 127) rfl rfl ?_
      refine W_ldcInt B hown (ow hw (i := 0) rfl) (hb hby at_127) (pc' := 129) rfl ?_
      refine W_iand B (hb hby at_129) (pc' := 130) rfl (z := (a4 &&& (2147483647 : Int32))) rfl ?_
      refine W_iload B (hb hby at_130) (pc' := 132) rfl rfl ?_
      refine W_irem B (hb hby at_132) (pc' := 133) rfl c204 (z := ((a4 &&& (2147483647 : Int32)) % z200)) rfl ?_
      obtain ⟨v205, hv205⟩ : ∃ z : Int32, z = ((a4 &&& (2147483647 : Int32)) % z200) := ⟨_, rfl⟩
      refine W_istore B (hb hby at_133) (pc' := 135) rfl (v := v205) hv205.symm (ls' := #[.val (.int a1), .val (.int a2), .val (.int a3), .val (.int a4), .val (.int v121), .val (.int v123), .val (.int v125), .val (.int (0 : Int32)), .val (.int (1 : Int32)), .val (.int v197), .val (.int (0 : Int32)), .val (.int v198), .val (.int v198), .val (.int v199), .val (.int z200), .val (.int v205), .unset, .unset, .unset, .unset, .unset, .unset, .unset, .unset]) rfl ?_
      refine W_iconst B (hb hby at_135) (pc' := 136) rfl (z := (3 : Int32)) (by decide) ?_
      refine W_newarray B (ow hw (i := 1) rfl) (hb hby at_136) (pc' := 138) rfl (by decide) (cap := 3) (by decide) (by decide) (cells' := 1) rfl (slots' := 3) rfl (vs := [(.int (0 : Int32)), (.int (0 : Int32)), (.int (0 : Int32))]) rfl (ty := .int) rfl ?_
      intro T b206 B
      refine W_dup B (hb hby at_138) (pc' := 139) rfl rfl ?_
      refine W_iconst B (hb hby at_139) (pc' := 140) rfl (z := (0 : Int32)) (by decide) ?_
      refine W_bipush B (hb hby at_140) (pc' := 142) rfl (z := (10 : Int32)) (by decide) ?_
      refine W_iastore B (hb hby at_142) (pc' := 143) rfl (i := 0) rfl (by decide) (oLt rfl) (ds' := [(b206, oA .int [(.int (10 : Int32)), o0, o0])]) rfl ?_
      intro T B
      refine W_dup B (hb hby at_143) (pc' := 144) rfl rfl ?_
      refine W_iconst B (hb hby at_144) (pc' := 145) rfl (z := (1 : Int32)) (by decide) ?_
      refine W_bipush B (hb hby at_145) (pc' := 147) rfl (z := (11 : Int32)) (by decide) ?_
      refine W_iastore B (hb hby at_147) (pc' := 148) rfl (i := 0) rfl (by decide) (oLt rfl) (ds' := [(b206, oA .int [(.int (10 : Int32)), (.int (11 : Int32)), o0])]) rfl ?_
      intro T B
      refine W_dup B (hb hby at_148) (pc' := 149) rfl rfl ?_
      refine W_iconst B (hb hby at_149) (pc' := 150) rfl (z := (2 : Int32)) (by decide) ?_
      refine W_bipush B (hb hby at_150) (pc' := 152) rfl (z := (12 : Int32)) (by decide) ?_
      refine W_iastore B (hb hby at_152) (pc' := 153) rfl (i := 0) rfl (by decide) (oLt rfl) (ds' := [(b206, oA .int [(.int (10 : Int32)), (.int (11 : Int32)), (.int (12 : Int32))])]) rfl ?_
      intro T B
      refine W_astore B (hb hby at_153) (pc' := 155) rfl rfl (ls' := #[.val (.int a1), .val (.int a2), .val (.int a3), .val (.int a4), .val (.int v121), .val (.int v123), .val (.int v125), .val (.int (0 : Int32)), .val (.int (1 : Int32)), .val (.int v197), .val (.int (0 : Int32)), .val (.int v198), .val (.int v198), .val (.int v199), .val (.int z200), .val (.int v205), .val (.ref b206), .unset, .unset, .unset, .unset, .unset, .unset, .unset]) rfl ?_
      refine W_iconst B (hb hby at_155) (pc' := 156) rfl (z := (3 : Int32)) (by decide) ?_
      refine W_newarray B (ow hw (i := 1) rfl) (hb hby at_156) (pc' := 158) rfl (by decide) (cap := 3) (by decide) (by decide) (cells' := 2) rfl (slots' := 6) rfl (vs := [(.int (0 : Int32)), (.int (0 : Int32)), (.int (0 : Int32))]) rfl (ty := .int) rfl ?_
      intro T b207 B
      refine W_dup B (hb hby at_158) (pc' := 159) rfl rfl ?_
      refine W_iconst B (hb hby at_159) (pc' := 160) rfl (z := (0 : Int32)) (by decide) ?_
      refine W_bipush B (hb hby at_160) (pc' := 162) rfl (z := (20 : Int32)) (by decide) ?_
      refine W_iastore B (hb hby at_162) (pc' := 163) rfl (i := 0) rfl (by decide) (oLt rfl) (ds' := [(b207, oA .int [(.int (20 : Int32)), o0, o0]), (b206, oA .int [(.int (10 : Int32)), (.int (11 : Int32)), (.int (12 : Int32))])]) rfl ?_
      intro T B
      refine W_dup B (hb hby at_163) (pc' := 164) rfl rfl ?_
      refine W_iconst B (hb hby at_164) (pc' := 165) rfl (z := (1 : Int32)) (by decide) ?_
      refine W_bipush B (hb hby at_165) (pc' := 167) rfl (z := (21 : Int32)) (by decide) ?_
      refine W_iastore B (hb hby at_167) (pc' := 168) rfl (i := 0) rfl (by decide) (oLt rfl) (ds' := [(b207, oA .int [(.int (20 : Int32)), (.int (21 : Int32)), o0]), (b206, oA .int [(.int (10 : Int32)), (.int (11 : Int32)), (.int (12 : Int32))])]) rfl ?_
      intro T B
      refine W_dup B (hb hby at_168) (pc' := 169) rfl rfl ?_
      refine W_iconst B (hb hby at_169) (pc' := 170) rfl (z := (2 : Int32)) (by decide) ?_
      refine W_bipush B (hb hby at_170) (pc' := 172) rfl (z := (22 : Int32)) (by decide) ?_
      refine W_iastore B (hb hby at_172) (pc' := 173) rfl (i := 0) rfl (by decide) (oLt rfl) (ds' := [(b207, oA .int [(.int (20 : Int32)), (.int (21 : Int32)), (.int (22 : Int32))]), (b206, oA .int [(.int (10 : Int32)), (.int (11 : Int32)), (.int (12 : Int32))])]) rfl ?_
      intro T B
      refine W_astore B (hb hby at_173) (pc' := 175) rfl rfl (ls' := #[.val (.int a1), .val (.int a2), .val (.int a3), .val (.int a4), .val (.int v121), .val (.int v123), .val (.int v125), .val (.int (0 : Int32)), .val (.int (1 : Int32)), .val (.int v197), .val (.int (0 : Int32)), .val (.int v198), .val (.int v198), .val (.int v199), .val (.int z200), .val (.int v205), .val (.ref b206), .val (.ref b207), .unset, .unset, .unset, .unset, .unset, .unset]) rfl ?_
      refine W_iconst B (hb hby at_175) (pc' := 176) rfl (z := (3 : Int32)) (by decide) ?_
      refine W_newarray B (ow hw (i := 1) rfl) (hb hby at_176) (pc' := 178) rfl (by decide) (cap := 3) (by decide) (by decide) (cells' := 3) rfl (slots' := 9) rfl (vs := [(.int (0 : Int32)), (.int (0 : Int32)), (.int (0 : Int32))]) rfl (ty := .int) rfl ?_
      intro T b208 B
      refine W_dup B (hb hby at_178) (pc' := 179) rfl rfl ?_
      refine W_iconst B (hb hby at_179) (pc' := 180) rfl (z := (0 : Int32)) (by decide) ?_
      refine W_bipush B (hb hby at_180) (pc' := 182) rfl (z := (30 : Int32)) (by decide) ?_
      refine W_iastore B (hb hby at_182) (pc' := 183) rfl (i := 0) rfl (by decide) (oLt rfl) (ds' := [(b208, oA .int [(.int (30 : Int32)), o0, o0]), (b207, oA .int [(.int (20 : Int32)), (.int (21 : Int32)), (.int (22 : Int32))]), (b206, oA .int [(.int (10 : Int32)), (.int (11 : Int32)), (.int (12 : Int32))])]) rfl ?_
      intro T B
      refine W_dup B (hb hby at_183) (pc' := 184) rfl rfl ?_
      refine W_iconst B (hb hby at_184) (pc' := 185) rfl (z := (1 : Int32)) (by decide) ?_
      refine W_bipush B (hb hby at_185) (pc' := 187) rfl (z := (31 : Int32)) (by decide) ?_
      refine W_iastore B (hb hby at_187) (pc' := 188) rfl (i := 0) rfl (by decide) (oLt rfl) (ds' := [(b208, oA .int [(.int (30 : Int32)), (.int (31 : Int32)), o0]), (b207, oA .int [(.int (20 : Int32)), (.int (21 : Int32)), (.int (22 : Int32))]), (b206, oA .int [(.int (10 : Int32)), (.int (11 : Int32)), (.int (12 : Int32))])]) rfl ?_
      intro T B
      refine W_dup B (hb hby at_188) (pc' := 189) rfl rfl ?_
      refine W_iconst B (hb hby at_189) (pc' := 190) rfl (z := (2 : Int32)) (by decide) ?_
      refine W_bipush B (hb hby at_190) (pc' := 192) rfl (z := (32 : Int32)) (by decide) ?_
      refine W_iastore B (hb hby at_192) (pc' := 193) rfl (i := 0) rfl (by decide) (oLt rfl) (ds' := [(b208, oA .int [(.int (30 : Int32)), (.int (31 : Int32)), (.int (32 : Int32))]), (b207, oA .int [(.int (20 : Int32)), (.int (21 : Int32)), (.int (22 : Int32))]), (b206, oA .int [(.int (10 : Int32)), (.int (11 : Int32)), (.int (12 : Int32))])]) rfl ?_
      intro T B
      refine W_astore B (hb hby at_193) (pc' := 195) rfl rfl (ls' := #[.val (.int a1), .val (.int a2), .val (.int a3), .val (.int a4), .val (.int v121), .val (.int v123), .val (.int v125), .val (.int (0 : Int32)), .val (.int (1 : Int32)), .val (.int v197), .val (.int (0 : Int32)), .val (.int v198), .val (.int v198), .val (.int v199), .val (.int z200), .val (.int v205), .val (.ref b206), .val (.ref b207), .val (.ref b208), .unset, .unset, .unset, .unset, .unset]) rfl ?_
      refine W_new B hown (ow hw (i := 2) rfl) (ow hw (i := 3) rfl) (ow hw (i := 4) rfl) (hb hby at_195) (pc' := 198) rfl (by decide) (cells' := 4) rfl (slots' := 16) rfl (fs := [(fk4, .null), (fk5, .null), (fk6, .null), (fk7, .null), (fk8, .null), (fk9, .null), (fk10, .null)]) (oAll_cons ⟨Or.inr (ow hw (i := 41) rfl), (.object "com/example/tanglemark/tanglemark/datalog/Ints"), by decide, rfl⟩ (oAll_cons ⟨Or.inr (ow hw (i := 43) rfl), (.object "com/example/tanglemark/tanglemark/datalog/Ints"), by decide, rfl⟩ (oAll_cons ⟨Or.inr (ow hw (i := 45) rfl), (.object "com/example/tanglemark/tanglemark/datalog/Ints"), by decide, rfl⟩ (oAll_cons ⟨Or.inr (ow hw (i := 47) rfl), (.object "com/example/tanglemark/tanglemark/datalog/Ints"), by decide, rfl⟩ (oAll_cons ⟨Or.inr (ow hw (i := 49) rfl), (.object "com/example/tanglemark/tanglemark/datalog/Ints"), by decide, rfl⟩ (oAll_cons ⟨Or.inr (ow hw (i := 51) rfl), (.object "com/example/tanglemark/tanglemark/datalog/Ints"), by decide, rfl⟩ (oAll_cons ⟨Or.inr (ow hw (i := 53) rfl), (.object "com/example/tanglemark/tanglemark/datalog/Ints"), by decide, rfl⟩ oAll_nil))))))) (by decide) ?_
      intro T b209 B
      refine W_dup B (hb hby at_198) (pc' := 199) rfl rfl ?_
      refine W_ldcStr B hS (n := 16) hown (ow hw (i := 5) rfl) (own_strAtoms hw) (hb hby at_199) (pc' := 201) rfl (by decide) (by decide) (cells' := 6) rfl (slots' := 36) rfl ?_
      intro T sa210 vm_ lo B hS hown
      refine W_init B (y := (⟨"com/example/tanglemark/tanglemark/datalog/SharedSets", "<init>", "(Ljava/lang/String;)V"⟩ : MethodName)) hown rfl (ow hw (i := 13) rfl) (ow hw (i := 14) rfl) (ow hw (i := 4) rfl) (ow hw (i := 15) rfl) (by decide) (a := b209) (rm_sets l Z a0 hw h0 b209 sa210 [(b208, oA .int [(.int (30 : Int32)), (.int (31 : Int32)), (.int (32 : Int32))]), (b207, oA .int [(.int (20 : Int32)), (.int (21 : Int32)), (.int (22 : Int32))]), (b206, oA .int [(.int (10 : Int32)), (.int (11 : Int32)), (.int (12 : Int32))])]) (lenOf pd_2 rfl) (hb hby at_201) (pc' := 204) rfl (argsL := [(.ref sa210)]) (rest := [(.ref b209)]) rfl (by rw [hml]; rfl) (W := 1) (oLe rfl) (by decide) (cells' := 20) rfl (slots' := 176) rfl ?_
      intro T v_ d_ q_ B
      obtain ⟨c211, d212, c213, d214, c215, d216, c217, d218, c219, d220, c221, d222, c223, d224, rfl, rfl⟩ := q_
      show oWin p e below Z h0 _ _ (T.setTop (mkF m 204 #[.val (.int a1), .val (.int a2), .val (.int a3), .val (.int a4), .val (.int v121), .val (.int v123), .val (.int v125), .val (.int (0 : Int32)), .val (.int (1 : Int32)), .val (.int v197), .val (.int (0 : Int32)), .val (.int v198), .val (.int v198), .val (.int v199), .val (.int z200), .val (.int v205), .val (.ref b206), .val (.ref b207), .val (.ref b208), .unset, .unset, .unset, .unset, .unset] [(.ref b209)]))
      refine W_astore B (hb hby at_204) (pc' := 206) rfl rfl (ls' := #[.val (.int a1), .val (.int a2), .val (.int a3), .val (.int a4), .val (.int v121), .val (.int v123), .val (.int v125), .val (.int (0 : Int32)), .val (.int (1 : Int32)), .val (.int v197), .val (.int (0 : Int32)), .val (.int v198), .val (.int v198), .val (.int v199), .val (.int z200), .val (.int v205), .val (.ref b206), .val (.ref b207), .val (.ref b208), .val (.ref b209), .unset, .unset, .unset, .unset]) rfl ?_
      refine W_aload B (hb hby at_206) (pc' := 208) rfl rfl rfl ?_
      refine W_iconst B (hb hby at_208) (pc' := 209) rfl (z := (-1 : Int32)) (by decide) ?_
      refine W_aload B (hb hby at_209) (pc' := 211) rfl rfl rfl ?_
      refine W_iload B (hb hby at_211) (pc' := 213) rfl rfl ?_
      have u227 : 0 ≤ ((0 : Int32)).toInt ∧ ((0 : Int32)).toInt ≤ 6 := by
        have fq1 : ((0 : Int32)).toInt = 0 := rfl
        have fq2 := orI v121
        have fq3 := k122
        have fq4 := orI v123
        have fq5 := k124
        have fq6 := orI v125
        have fq7 := k126
        have fq8 := orI (a2 &&& (1 : Int32))
        have fq9 := orI a2
        have fq10 : ((1 : Int32)).toInt = 1 := rfl
        have fq11 := omaskI a2 (1 : Int32) 1 2 (by decide) (by decide) (by decide)
        have fq12 := oeqI c127
        have fq13 := orI (a2 &&& (2 : Int32))
        have fq14 : ((2 : Int32)).toInt = 2 := rfl
        have fq15 := oandI a2 (2 : Int32) (by decide)
        have fq16 := oneI c128
        have fq17 := orI z200
        have fq18 := orI v197
        have fq19 := orI v198
        have fq20 := oiadd (0 : Int32) v123
        have fq21 := congrArg Int32.toInt hv198
        have fq22 := orI v199
        have fq23 := oiadd v198 v125
        have fq24 := congrArg Int32.toInt hv199
        have fq25 := hz200
        have fq26 := oneI c204
        omega
      have u228 : 0 ≤ (v121).toInt ∧ (v121).toInt ≤ 3 := by
        have fq1 := orI v121
        have fq2 := k122
        have fq3 := orI v123
        have fq4 := k124
        have fq5 := orI v125
        have fq6 := k126
        have fq7 := orI (a2 &&& (1 : Int32))
        have fq8 := orI a2
        have fq9 : ((1 : Int32)).toInt = 1 := rfl
        have fq10 := omaskI a2 (1 : Int32) 1 2 (by decide) (by decide) (by decide)
        have fq11 : ((0 : Int32)).toInt = 0 := rfl
        have fq12 := oeqI c127
        have fq13 := orI (a2 &&& (2 : Int32))
        have fq14 : ((2 : Int32)).toInt = 2 := rfl
        have fq15 := oandI a2 (2 : Int32) (by decide)
        have fq16 := oneI c128
        have fq17 := orI z200
        have fq18 := orI v197
        have fq19 := orI v198
        have fq20 := oiadd (0 : Int32) v123
        have fq21 := congrArg Int32.toInt hv198
        have fq22 := orI v199
        have fq23 := oiadd v198 v125
        have fq24 := congrArg Int32.toInt hv199
        have fq25 := hz200
        have fq26 := oneI c204
        omega
      refine W_virtual B (y := (⟨"com/example/tanglemark/tanglemark/datalog/SharedSets", "add", "(I[II)I"⟩ : MethodName)) (z := (⟨"com/example/tanglemark/tanglemark/datalog/SharedSets", "add", "(I[II)I"⟩ : MethodName)) hown (ow hw (i := 54) rfl) (ow hw (i := 55) rfl) (oNotFace B (ow hw (i := 57) rfl) rfl) (ow hw (i := 57) rfl) (ow hw (i := 56) rfl) (ow hw (i := 4) rfl) (ow hw (i := 58) rfl) (by decide) (a := b209) (rm_add0m l Z a0 hw h0 b209 b206 sa210 c211 d212 c213 d214 c215 d216 c217 d218 c219 d220 c221 d222 c223 d224 v121 (0 : Int32) [o0, o0, o0, o0, o0, o0, o0, o0, o0, o0, o0, o0, o0, o0, o0, o0]  (10 : Int32) (11 : Int32) (12 : Int32) (b208, oA .int [(.int (30 : Int32)), (.int (31 : Int32)), (.int (32 : Int32))]) (b207, oA .int [(.int (20 : Int32)), (.int (21 : Int32)), (.int (22 : Int32))]) [] rfl u227 u228) (lenOf pd_5 rfl) (hb hby at_213) (pc' := 216) rfl (argsL := [(.int (-1 : Int32)), (.ref b206), (.int v121)]) (rest := []) rfl (by rw [hml]; rfl) (W := 0) (oLe rfl) (j := 14) rfl (by decide) (cells' := 20) rfl (slots' := 176) rfl ?_
      intro T v_ d_ q_ B
      obtain ⟨us225, n226, q230, q231, rfl, rfl⟩ := q_
      show oWin p e below Z h0 _ _ (T.setTop (mkF m 216 #[.val (.int a1), .val (.int a2), .val (.int a3), .val (.int a4), .val (.int v121), .val (.int v123), .val (.int v125), .val (.int (0 : Int32)), .val (.int (1 : Int32)), .val (.int v197), .val (.int (0 : Int32)), .val (.int v198), .val (.int v198), .val (.int v199), .val (.int z200), .val (.int v205), .val (.ref b206), .val (.ref b207), .val (.ref b208), .val (.ref b209), .unset, .unset, .unset, .unset] [(.int (0 : Int32))]))
      refine W_istore B (hb hby at_216) (pc' := 218) rfl (v := (0 : Int32)) rfl (ls' := #[.val (.int a1), .val (.int a2), .val (.int a3), .val (.int a4), .val (.int v121), .val (.int v123), .val (.int v125), .val (.int (0 : Int32)), .val (.int (1 : Int32)), .val (.int v197), .val (.int (0 : Int32)), .val (.int v198), .val (.int v198), .val (.int v199), .val (.int z200), .val (.int v205), .val (.ref b206), .val (.ref b207), .val (.ref b208), .val (.ref b209), .val (.int (0 : Int32)), .unset, .unset, .unset]) rfl ?_
      refine W_aload B (hb hby at_218) (pc' := 220) rfl rfl rfl ?_
      refine W_iload B (hb hby at_220) (pc' := 222) rfl rfl ?_
      refine W_ifY B (hb hby at_222) (by decide) (pc' := 230) (by decide) (by decide) ?_
      refine W_iconst B (hb hby at_230) (pc' := 231) rfl (z := (-1 : Int32)) (by decide) ?_
      refine W_aload B (hb hby at_231) (pc' := 233) rfl rfl rfl ?_
      refine W_iload B (hb hby at_233) (pc' := 235) rfl rfl ?_
      have u234 : 0 ≤ (n226).toInt ∧ (n226).toInt ≤ 6 := by
        have fq1 := orI n226
        have fq2 := orI v121
        have fq3 := k122
        have fq4 := orI v123
        have fq5 := k124
        have fq6 := orI v125
        have fq7 := k126
        have fq8 := orI (a2 &&& (1 : Int32))
        have fq9 := orI a2
        have fq10 : ((1 : Int32)).toInt = 1 := rfl
        have fq11 := omaskI a2 (1 : Int32) 1 2 (by decide) (by decide) (by decide)
        have fq12 : ((0 : Int32)).toInt = 0 := rfl
        have fq13 := oeqI c127
        have fq14 := orI (a2 &&& (2 : Int32))
        have fq15 : ((2 : Int32)).toInt = 2 := rfl
        have fq16 := oandI a2 (2 : Int32) (by decide)
        have fq17 := oneI c128
        have fq18 := orI z200
        have fq19 := orI v197
        have fq20 := orI v198
        have fq21 := oiadd (0 : Int32) v123
        have fq22 := congrArg Int32.toInt hv198
        have fq23 := orI v199
        have fq24 := oiadd v198 v125
        have fq25 := congrArg Int32.toInt hv199
        have fq26 := hz200
        have fq27 := oneI c204
        have fq28 := q231
        omega
      have u235 : 0 ≤ (v123).toInt ∧ (v123).toInt ≤ 3 := by
        have fq1 := orI v123
        have fq2 := orI v121
        have fq3 := k122
        have fq4 := k124
        have fq5 := orI v125
        have fq6 := k126
        have fq7 := orI (a2 &&& (1 : Int32))
        have fq8 := orI a2
        have fq9 : ((1 : Int32)).toInt = 1 := rfl
        have fq10 := omaskI a2 (1 : Int32) 1 2 (by decide) (by decide) (by decide)
        have fq11 : ((0 : Int32)).toInt = 0 := rfl
        have fq12 := oeqI c127
        have fq13 := orI (a2 &&& (2 : Int32))
        have fq14 : ((2 : Int32)).toInt = 2 := rfl
        have fq15 := oandI a2 (2 : Int32) (by decide)
        have fq16 := oneI c128
        have fq17 := orI z200
        have fq18 := orI v197
        have fq19 := orI v198
        have fq20 := oiadd (0 : Int32) v123
        have fq21 := congrArg Int32.toInt hv198
        have fq22 := orI v199
        have fq23 := oiadd v198 v125
        have fq24 := congrArg Int32.toInt hv199
        have fq25 := hz200
        have fq26 := oneI c204
        have fq27 := orI n226
        have fq28 := q231
        omega
      refine W_virtual B (y := (⟨"com/example/tanglemark/tanglemark/datalog/SharedSets", "add", "(I[II)I"⟩ : MethodName)) (z := (⟨"com/example/tanglemark/tanglemark/datalog/SharedSets", "add", "(I[II)I"⟩ : MethodName)) hown (ow hw (i := 54) rfl) (ow hw (i := 55) rfl) (oNotFace B (ow hw (i := 57) rfl) rfl) (ow hw (i := 57) rfl) (ow hw (i := 56) rfl) (ow hw (i := 4) rfl) (ow hw (i := 58) rfl) (by decide) (a := b209) (rm_add1m l Z a0 hw h0 b209 b207 sa210 c211 d212 c213 d214 c215 d216 c217 d218 c219 d220 c221 d222 c223 d224 v123 n226 us225 (0 : Int32) (0 : Int32) (((0 : Int32) + n226) - (0 : Int32)) (-1 : Int32) (0 : Int32) (1 : Int32) (20 : Int32) (21 : Int32) (22 : Int32) (b208, oA .int [(.int (30 : Int32)), (.int (31 : Int32)), (.int (32 : Int32))]) (b206, oA .int [(.int (10 : Int32)), (.int (11 : Int32)), (.int (12 : Int32))]) [] q230 u234 u235) (lenOf pd_5 rfl) (hb hby at_235) (pc' := 238) rfl (argsL := [(.int (-1 : Int32)), (.ref b207), (.int v123)]) (rest := []) rfl (by rw [hml]; rfl) (W := 0) (oLe rfl) (j := 14) rfl (by decide) (cells' := 20) rfl (slots' := 176) rfl ?_
      intro T v_ d_ q_ B
      obtain ⟨us232, n233, q237, q238, rfl, rfl⟩ := q_
      show oWin p e below Z h0 _ _ (T.setTop (mkF m 238 #[.val (.int a1), .val (.int a2), .val (.int a3), .val (.int a4), .val (.int v121), .val (.int v123), .val (.int v125), .val (.int (0 : Int32)), .val (.int (1 : Int32)), .val (.int v197), .val (.int (0 : Int32)), .val (.int v198), .val (.int v198), .val (.int v199), .val (.int z200), .val (.int v205), .val (.ref b206), .val (.ref b207), .val (.ref b208), .val (.ref b209), .val (.int (0 : Int32)), .unset, .unset, .unset] [(.int (1 : Int32))]))
      refine W_istore B (hb hby at_238) (pc' := 240) rfl (v := (1 : Int32)) rfl (ls' := #[.val (.int a1), .val (.int a2), .val (.int a3), .val (.int a4), .val (.int v121), .val (.int v123), .val (.int v125), .val (.int (0 : Int32)), .val (.int (1 : Int32)), .val (.int v197), .val (.int (0 : Int32)), .val (.int v198), .val (.int v198), .val (.int v199), .val (.int z200), .val (.int v205), .val (.ref b206), .val (.ref b207), .val (.ref b208), .val (.ref b209), .val (.int (0 : Int32)), .val (.int (1 : Int32)), .unset, .unset]) rfl ?_
      refine W_aload B (hb hby at_240) (pc' := 242) rfl rfl rfl ?_
      refine W_iload B (hb hby at_242) (pc' := 244) rfl rfl ?_
      refine W_ifN B (hb hby at_244) (pc' := 247) rfl (by decide) ?_
      refine W_iload B (hb hby at_247) (pc' := 249) rfl rfl ?_
      refine W_goto B (hb hby at_249) (by decide) (pc' := 254) (by decide) ?_
      refine W_aload B (hb hby at_254) (pc' := 256) rfl rfl rfl ?_
      refine W_iload B (hb hby at_256) (pc' := 258) rfl rfl ?_
      have u241 : 0 ≤ (n233).toInt ∧ (n233).toInt ≤ 6 := by
        have fq1 := orI n233
        have fq2 := orI v121
        have fq3 := k122
        have fq4 := orI v123
        have fq5 := k124
        have fq6 := orI v125
        have fq7 := k126
        have fq8 := orI (a2 &&& (1 : Int32))
        have fq9 := orI a2
        have fq10 : ((1 : Int32)).toInt = 1 := rfl
        have fq11 := omaskI a2 (1 : Int32) 1 2 (by decide) (by decide) (by decide)
        have fq12 : ((0 : Int32)).toInt = 0 := rfl
        have fq13 := oeqI c127
        have fq14 := orI (a2 &&& (2 : Int32))
        have fq15 : ((2 : Int32)).toInt = 2 := rfl
        have fq16 := oandI a2 (2 : Int32) (by decide)
        have fq17 := oneI c128
        have fq18 := orI z200
        have fq19 := orI v197
        have fq20 := orI v198
        have fq21 := oiadd (0 : Int32) v123
        have fq22 := congrArg Int32.toInt hv198
        have fq23 := orI v199
        have fq24 := oiadd v198 v125
        have fq25 := congrArg Int32.toInt hv199
        have fq26 := hz200
        have fq27 := oneI c204
        have fq28 := orI n226
        have fq29 := q231
        have fq30 := q238
        omega
      have u242 : 0 ≤ (v125).toInt ∧ (v125).toInt ≤ 3 := by
        have fq1 := orI v125
        have fq2 := orI v121
        have fq3 := k122
        have fq4 := orI v123
        have fq5 := k124
        have fq6 := k126
        have fq7 := orI (a2 &&& (1 : Int32))
        have fq8 := orI a2
        have fq9 : ((1 : Int32)).toInt = 1 := rfl
        have fq10 := omaskI a2 (1 : Int32) 1 2 (by decide) (by decide) (by decide)
        have fq11 : ((0 : Int32)).toInt = 0 := rfl
        have fq12 := oeqI c127
        have fq13 := orI (a2 &&& (2 : Int32))
        have fq14 : ((2 : Int32)).toInt = 2 := rfl
        have fq15 := oandI a2 (2 : Int32) (by decide)
        have fq16 := oneI c128
        have fq17 := orI z200
        have fq18 := orI v197
        have fq19 := orI v198
        have fq20 := oiadd (0 : Int32) v123
        have fq21 := congrArg Int32.toInt hv198
        have fq22 := orI v199
        have fq23 := oiadd v198 v125
        have fq24 := congrArg Int32.toInt hv199
        have fq25 := hz200
        have fq26 := oneI c204
        have fq27 := orI n226
        have fq28 := q231
        have fq29 := orI n233
        have fq30 := q238
        omega
      refine W_virtual B (y := (⟨"com/example/tanglemark/tanglemark/datalog/SharedSets", "add", "(I[II)I"⟩ : MethodName)) (z := (⟨"com/example/tanglemark/tanglemark/datalog/SharedSets", "add", "(I[II)I"⟩ : MethodName)) hown (ow hw (i := 54) rfl) (ow hw (i := 55) rfl) (oNotFace B (ow hw (i := 57) rfl) rfl) (ow hw (i := 57) rfl) (ow hw (i := 56) rfl) (ow hw (i := 4) rfl) (ow hw (i := 58) rfl) (by decide) (a := b209) (rm_add21 l Z a0 hw h0 b209 b208 sa210 c211 d212 c213 d214 c215 d216 c217 d218 c219 d220 c221 d222 c223 d224 v125 n233 us232 (0 : Int32) n226 (0 : Int32) (0 : Int32) (((0 : Int32) + n226) - (0 : Int32)) (((0 : Int32) + n233) - n226) (-1 : Int32) (-1 : Int32) (0 : Int32) (1 : Int32) (1 : Int32) (1 : Int32) (30 : Int32) (31 : Int32) (32 : Int32) (b207, oA .int [(.int (20 : Int32)), (.int (21 : Int32)), (.int (22 : Int32))]) (b206, oA .int [(.int (10 : Int32)), (.int (11 : Int32)), (.int (12 : Int32))]) [] q237 u241 u242 (by decide)) (lenOf pd_5 rfl) (hb hby at_258) (pc' := 261) rfl (argsL := [(.int (1 : Int32)), (.ref b208), (.int v125)]) (rest := []) rfl (by rw [hml]; rfl) (W := 0) (oLe rfl) (j := 14) rfl (by decide) (cells' := 20) rfl (slots' := 176) rfl ?_
      intro T v_ d_ q_ B
      obtain ⟨us239, n240, q244, q245, rfl, rfl⟩ := q_
      show oWin p e below Z h0 _ _ (T.setTop (mkF m 261 #[.val (.int a1), .val (.int a2), .val (.int a3), .val (.int a4), .val (.int v121), .val (.int v123), .val (.int v125), .val (.int (0 : Int32)), .val (.int (1 : Int32)), .val (.int v197), .val (.int (0 : Int32)), .val (.int v198), .val (.int v198), .val (.int v199), .val (.int z200), .val (.int v205), .val (.ref b206), .val (.ref b207), .val (.ref b208), .val (.ref b209), .val (.int (0 : Int32)), .val (.int (1 : Int32)), .unset, .unset] [(.int (2 : Int32))]))
      refine W_istore B (hb hby at_261) (pc' := 263) rfl (v := (2 : Int32)) rfl (ls' := #[.val (.int a1), .val (.int a2), .val (.int a3), .val (.int a4), .val (.int v121), .val (.int v123), .val (.int v125), .val (.int (0 : Int32)), .val (.int (1 : Int32)), .val (.int v197), .val (.int (0 : Int32)), .val (.int v198), .val (.int v198), .val (.int v199), .val (.int z200), .val (.int v205), .val (.ref b206), .val (.ref b207), .val (.ref b208), .val (.ref b209), .val (.int (0 : Int32)), .val (.int (1 : Int32)), .val (.int (2 : Int32)), .unset]) rfl ?_
      refine W_iload B (hb hby at_263) (pc' := 265) rfl rfl ?_
      refine W_ifN B (hb hby at_265) (pc' := 268) rfl (by decide) ?_
      refine W_iload B (hb hby at_268) (pc' := 270) rfl rfl ?_
      refine W_iconst B (hb hby at_270) (pc' := 271) rfl (z := (1 : Int32)) (by decide) ?_
      refine W_icmpN B (hb hby at_271) (pc' := 274) rfl (by decide) ?_
      refine W_iload B (hb hby at_274) (pc' := 276) rfl rfl ?_
      refine W_iconst B (hb hby at_276) (pc' := 277) rfl (z := (2 : Int32)) (by decide) ?_
      refine W_icmpY B (hb hby at_277) (by decide) (pc' := 282) (by decide) (by decide) ?_
      rcases own_c3 hv197 with rfl | rfl | rfl
      · refine W_iload B (hb hby at_282) (pc' := 284) rfl rfl ?_
        refine W_ifN B (hb hby at_284) (pc' := 287) rfl (by decide) ?_
        refine W_iconst B (hb hby at_287) (pc' := 288) rfl (z := (0 : Int32)) (by decide) ?_
        refine W_istore B (hb hby at_288) (pc' := 290) rfl (v := (0 : Int32)) rfl (ls' := #[.val (.int a1), .val (.int a2), .val (.int a3), .val (.int a4), .val (.int v121), .val (.int v123), .val (.int v125), .val (.int (0 : Int32)), .val (.int (1 : Int32)), .val (.int (0 : Int32)), .val (.int (0 : Int32)), .val (.int v198), .val (.int v198), .val (.int v199), .val (.int z200), .val (.int v205), .val (.ref b206), .val (.ref b207), .val (.ref b208), .val (.ref b209), .val (.int (0 : Int32)), .val (.int (1 : Int32)), .val (.int (2 : Int32)), .val (.int (0 : Int32))]) rfl ?_
        refine W_goto B (hb hby at_290) (by decide) (pc' := 364) (by decide) ?_
        refine W_aload B (hb hby at_364) (pc' := 366) rfl rfl rfl ?_
        refine W_iload B (hb hby at_366) (pc' := 368) rfl rfl ?_
        refine W_iload B (hb hby at_368) (pc' := 370) rfl rfl ?_
        have n246 : ¬ v205 < (0 : Int32) := by
          refine onltI_i ?_
          have fq1 := orI v205
          have fq2 := orI ((a4 &&& (2147483647 : Int32)) % z200)
          have fq3 := orI (a4 &&& (2147483647 : Int32))
          have fq4 := orI a4
          have fq5 : ((2147483647 : Int32)).toInt = 2147483647 := rfl
          have fq6 := omaskI a4 (2147483647 : Int32) 31 2147483648 (by decide) (by decide) (by decide)
          have fq7 := orI z200
          have fq8 := oiremV (a4 &&& (2147483647 : Int32)) z200
          have fq9 := congrArg Int32.toInt hv205
          have fq10 : ((0 : Int32)).toInt = 0 := rfl
          have fq11 := orI v121
          have fq12 := k122
          have fq13 := orI v123
          have fq14 := k124
          have fq15 := orI v125
          have fq16 := k126
          have fq17 := orI (a2 &&& (1 : Int32))
          have fq18 := orI a2
          have fq19 : ((1 : Int32)).toInt = 1 := rfl
          have fq20 := omaskI a2 (1 : Int32) 1 2 (by decide) (by decide) (by decide)
          have fq21 := oeqI c127
          have fq22 := orI (a2 &&& (2 : Int32))
          have fq23 : ((2 : Int32)).toInt = 2 := rfl
          have fq24 := oandI a2 (2 : Int32) (by decide)
          have fq25 := oneI c128
          have fq26 := orI v198
          have fq27 := oiadd (0 : Int32) v123
          have fq28 := congrArg Int32.toInt hv198
          have fq29 := orI v199
          have fq30 := oiadd v198 v125
          have fq31 := congrArg Int32.toInt hv199
          have fq32 := hz200
          have fq33 := oneI c204
          have fq34 := orI n226
          have fq35 := q231
          have fq36 := orI n233
          have fq37 := q238
          have fq38 := orI n240
          have fq39 := q245
          omega
        refine W_virtual B (y := (⟨"com/example/tanglemark/tanglemark/datalog/SharedSets", "holder", "(II)I"⟩ : MethodName)) (z := (⟨"com/example/tanglemark/tanglemark/datalog/SharedSets", "holder", "(II)I"⟩ : MethodName)) hown (ow hw (i := 73) rfl) (ow hw (i := 74) rfl) (oNotFace B (ow hw (i := 76) rfl) rfl) (ow hw (i := 76) rfl) (ow hw (i := 75) rfl) (ow hw (i := 4) rfl) (ow hw (i := 77) rfl) (by decide) (a := b209) (rm_ho010 l Z a0 hw h0 b209 sa210 c211 d212 c213 d214 c215 d216 c217 d218 c219 d220 c221 d222 c223 d224 v205 n240 us239 (0 : Int32) n226 n233 (((0 : Int32) + n233) - n226) (((0 : Int32) + n226) - (0 : Int32)) (((0 : Int32) + n233) - n226) (((((0 : Int32) + n233) - n226) + n240) - n233) (1 : Int32) (1 : Int32) (2 : Int32) [(b208, oA .int [(.int (30 : Int32)), (.int (31 : Int32)), (.int (32 : Int32))]), (b207, oA .int [(.int (20 : Int32)), (.int (21 : Int32)), (.int (22 : Int32))]), (b206, oA .int [(.int (10 : Int32)), (.int (11 : Int32)), (.int (12 : Int32))])] n246) (lenOf pd_0 rfl) (hb hby at_370) (pc' := 373) rfl (argsL := [(.int (0 : Int32)), (.int v205)]) (rest := []) rfl (by rw [hml]; rfl) (W := 0) (oLe rfl) (j := 14) rfl (by decide) (cells' := 20) rfl (slots' := 176) rfl ?_
        intro T v_ d_ q_ B
        rcases q_ with ⟨q247, rfl, rfl⟩ | ⟨q248, rfl, rfl⟩
        · show oWin p e below Z h0 _ _ (T.setTop (mkF m 373 #[.val (.int a1), .val (.int a2), .val (.int a3), .val (.int a4), .val (.int v121), .val (.int v123), .val (.int v125), .val (.int (0 : Int32)), .val (.int (1 : Int32)), .val (.int (0 : Int32)), .val (.int (0 : Int32)), .val (.int v198), .val (.int v198), .val (.int v199), .val (.int z200), .val (.int v205), .val (.ref b206), .val (.ref b207), .val (.ref b208), .val (.ref b209), .val (.int (0 : Int32)), .val (.int (1 : Int32)), .val (.int (2 : Int32)), .val (.int (0 : Int32))] [(.int (0 : Int32))]))
          refine W_iload B (hb hby at_373) (pc' := 375) rfl rfl ?_
          refine W_icmpN B (hb hby at_375) (pc' := 378) rfl (by decide) ?_
          refine W_iconst B (hb hby at_378) (pc' := 379) rfl (z := (1 : Int32)) (by decide) ?_
          refine W_goto B (hb hby at_379) (by decide) (pc' := 383) (by decide) ?_
          refine W_retNW B hS hret (by simp) (hb hby at_383) (by decide) ?_
          rfl
        show oWin p e below Z h0 _ _ (T.setTop (mkF m 373 #[.val (.int a1), .val (.int a2), .val (.int a3), .val (.int a4), .val (.int v121), .val (.int v123), .val (.int v125), .val (.int (0 : Int32)), .val (.int (1 : Int32)), .val (.int (0 : Int32)), .val (.int (0 : Int32)), .val (.int v198), .val (.int v198), .val (.int v199), .val (.int z200), .val (.int v205), .val (.ref b206), .val (.ref b207), .val (.ref b208), .val (.ref b209), .val (.int (0 : Int32)), .val (.int (1 : Int32)), .val (.int (2 : Int32)), .val (.int (0 : Int32))] [(.int (0 : Int32))]))
        refine W_iload B (hb hby at_373) (pc' := 375) rfl rfl ?_
        refine W_icmpN B (hb hby at_375) (pc' := 378) rfl (by decide) ?_
        refine W_iconst B (hb hby at_378) (pc' := 379) rfl (z := (1 : Int32)) (by decide) ?_
        refine W_goto B (hb hby at_379) (by decide) (pc' := 383) (by decide) ?_
        refine W_retNW B hS hret (by simp) (hb hby at_383) (by decide) ?_
        rfl
      · refine W_iload B (hb hby at_282) (pc' := 284) rfl rfl ?_
        refine W_ifY B (hb hby at_284) (by decide) (pc' := 293) (by decide) (by decide) ?_
        refine W_iload B (hb hby at_293) (pc' := 295) rfl rfl ?_
        refine W_iconst B (hb hby at_295) (pc' := 296) rfl (z := (1 : Int32)) (by decide) ?_
        refine W_icmpN B (hb hby at_296) (pc' := 299) rfl (by decide) ?_
        refine W_iload B (hb hby at_299) (pc' := 301) rfl rfl ?_
        refine W_ifY B (hb hby at_301) (by decide) (pc' := 315) (by decide) (by decide) ?_
        refine W_iconst B (hb hby at_315) (pc' := 316) rfl (z := (1 : Int32)) (by decide) ?_
        refine W_istore B (hb hby at_316) (pc' := 318) rfl (v := (1 : Int32)) rfl (ls' := #[.val (.int a1), .val (.int a2), .val (.int a3), .val (.int a4), .val (.int v121), .val (.int v123), .val (.int v125), .val (.int (0 : Int32)), .val (.int (1 : Int32)), .val (.int (1 : Int32)), .val (.int (0 : Int32)), .val (.int v198), .val (.int v198), .val (.int v199), .val (.int z200), .val (.int v205), .val (.ref b206), .val (.ref b207), .val (.ref b208), .val (.ref b209), .val (.int (0 : Int32)), .val (.int (1 : Int32)), .val (.int (2 : Int32)), .val (.int (1 : Int32))]) rfl ?_
        refine W_goto B (hb hby at_318) (by decide) (pc' := 364) (by decide) ?_
        refine W_aload B (hb hby at_364) (pc' := 366) rfl rfl rfl ?_
        refine W_iload B (hb hby at_366) (pc' := 368) rfl rfl ?_
        refine W_iload B (hb hby at_368) (pc' := 370) rfl rfl ?_
        have n249 : ¬ v205 < (0 : Int32) := by
          refine onltI_i ?_
          have fq1 := orI v205
          have fq2 := orI ((a4 &&& (2147483647 : Int32)) % z200)
          have fq3 := orI (a4 &&& (2147483647 : Int32))
          have fq4 := orI a4
          have fq5 : ((2147483647 : Int32)).toInt = 2147483647 := rfl
          have fq6 := omaskI a4 (2147483647 : Int32) 31 2147483648 (by decide) (by decide) (by decide)
          have fq7 := orI z200
          have fq8 := oiremV (a4 &&& (2147483647 : Int32)) z200
          have fq9 := congrArg Int32.toInt hv205
          have fq10 : ((0 : Int32)).toInt = 0 := rfl
          have fq11 := orI v121
          have fq12 := k122
          have fq13 := orI v123
          have fq14 := k124
          have fq15 := orI v125
          have fq16 := k126
          have fq17 := orI (a2 &&& (1 : Int32))
          have fq18 := orI a2
          have fq19 : ((1 : Int32)).toInt = 1 := rfl
          have fq20 := omaskI a2 (1 : Int32) 1 2 (by decide) (by decide) (by decide)
          have fq21 := oeqI c127
          have fq22 := orI (a2 &&& (2 : Int32))
          have fq23 : ((2 : Int32)).toInt = 2 := rfl
          have fq24 := oandI a2 (2 : Int32) (by decide)
          have fq25 := oneI c128
          have fq26 := orI v198
          have fq27 := oiadd (0 : Int32) v123
          have fq28 := congrArg Int32.toInt hv198
          have fq29 := orI v199
          have fq30 := oiadd v198 v125
          have fq31 := congrArg Int32.toInt hv199
          have fq32 := hz200
          have fq33 := oneI c204
          have fq34 := orI n226
          have fq35 := q231
          have fq36 := orI n233
          have fq37 := q238
          have fq38 := orI n240
          have fq39 := q245
          omega
        refine W_virtual B (y := (⟨"com/example/tanglemark/tanglemark/datalog/SharedSets", "holder", "(II)I"⟩ : MethodName)) (z := (⟨"com/example/tanglemark/tanglemark/datalog/SharedSets", "holder", "(II)I"⟩ : MethodName)) hown (ow hw (i := 73) rfl) (ow hw (i := 74) rfl) (oNotFace B (ow hw (i := 76) rfl) rfl) (ow hw (i := 76) rfl) (ow hw (i := 75) rfl) (ow hw (i := 4) rfl) (ow hw (i := 77) rfl) (by decide) (a := b209) (rm_ho011 l Z a0 hw h0 b209 sa210 c211 d212 c213 d214 c215 d216 c217 d218 c219 d220 c221 d222 c223 d224 v205 n240 us239 (0 : Int32) n226 n233 (((0 : Int32) + n233) - n226) (((0 : Int32) + n226) - (0 : Int32)) (((0 : Int32) + n233) - n226) (((((0 : Int32) + n233) - n226) + n240) - n233) (1 : Int32) (1 : Int32) (2 : Int32) [(b208, oA .int [(.int (30 : Int32)), (.int (31 : Int32)), (.int (32 : Int32))]), (b207, oA .int [(.int (20 : Int32)), (.int (21 : Int32)), (.int (22 : Int32))]), (b206, oA .int [(.int (10 : Int32)), (.int (11 : Int32)), (.int (12 : Int32))])] n249) (lenOf pd_0 rfl) (hb hby at_370) (pc' := 373) rfl (argsL := [(.int (1 : Int32)), (.int v205)]) (rest := []) rfl (by rw [hml]; rfl) (W := 0) (oLe rfl) (j := 14) rfl (by decide) (cells' := 20) rfl (slots' := 176) rfl ?_
        intro T v_ d_ q_ B
        rcases q_ with ⟨q250, rfl, rfl⟩ | ⟨q251, rfl, rfl⟩
        · show oWin p e below Z h0 _ _ (T.setTop (mkF m 373 #[.val (.int a1), .val (.int a2), .val (.int a3), .val (.int a4), .val (.int v121), .val (.int v123), .val (.int v125), .val (.int (0 : Int32)), .val (.int (1 : Int32)), .val (.int (1 : Int32)), .val (.int (0 : Int32)), .val (.int v198), .val (.int v198), .val (.int v199), .val (.int z200), .val (.int v205), .val (.ref b206), .val (.ref b207), .val (.ref b208), .val (.ref b209), .val (.int (0 : Int32)), .val (.int (1 : Int32)), .val (.int (2 : Int32)), .val (.int (1 : Int32))] [(.int (1 : Int32))]))
          refine W_iload B (hb hby at_373) (pc' := 375) rfl rfl ?_
          refine W_icmpN B (hb hby at_375) (pc' := 378) rfl (by decide) ?_
          refine W_iconst B (hb hby at_378) (pc' := 379) rfl (z := (1 : Int32)) (by decide) ?_
          refine W_goto B (hb hby at_379) (by decide) (pc' := 383) (by decide) ?_
          refine W_retNW B hS hret (by simp) (hb hby at_383) (by decide) ?_
          rfl
        show oWin p e below Z h0 _ _ (T.setTop (mkF m 373 #[.val (.int a1), .val (.int a2), .val (.int a3), .val (.int a4), .val (.int v121), .val (.int v123), .val (.int v125), .val (.int (0 : Int32)), .val (.int (1 : Int32)), .val (.int (1 : Int32)), .val (.int (0 : Int32)), .val (.int v198), .val (.int v198), .val (.int v199), .val (.int z200), .val (.int v205), .val (.ref b206), .val (.ref b207), .val (.ref b208), .val (.ref b209), .val (.int (0 : Int32)), .val (.int (1 : Int32)), .val (.int (2 : Int32)), .val (.int (1 : Int32))] [(.int (1 : Int32))]))
        refine W_iload B (hb hby at_373) (pc' := 375) rfl rfl ?_
        refine W_icmpN B (hb hby at_375) (pc' := 378) rfl (by decide) ?_
        refine W_iconst B (hb hby at_378) (pc' := 379) rfl (z := (1 : Int32)) (by decide) ?_
        refine W_goto B (hb hby at_379) (by decide) (pc' := 383) (by decide) ?_
        refine W_retNW B hS hret (by simp) (hb hby at_383) (by decide) ?_
        rfl
      refine W_iload B (hb hby at_282) (pc' := 284) rfl rfl ?_
      refine W_ifY B (hb hby at_284) (by decide) (pc' := 293) (by decide) (by decide) ?_
      refine W_iload B (hb hby at_293) (pc' := 295) rfl rfl ?_
      refine W_iconst B (hb hby at_295) (pc' := 296) rfl (z := (1 : Int32)) (by decide) ?_
      refine W_icmpY B (hb hby at_296) (by decide) (pc' := 321) (by decide) (by decide) ?_
      refine W_iload B (hb hby at_321) (pc' := 323) rfl rfl ?_
      refine W_iload B (hb hby at_323) (pc' := 325) rfl rfl ?_
      refine W_icmp_lt B (hb hby at_325) (by decide) (pt := 334) (by decide) (pc' := 328) rfl (fun (c252 : v205 < v198) => ?_) (fun (c252 : ¬ v205 < v198) => ?_)
      · refine W_iload B (hb hby at_334) (pc' := 336) rfl rfl ?_
        refine W_ifN B (hb hby at_336) (pc' := 339) rfl (by decide) ?_
        refine W_iload B (hb hby at_339) (pc' := 341) rfl rfl ?_
        refine W_ifY B (hb hby at_341) (by decide) (pc' := 355) (by decide) (by decide) ?_
        refine W_iconst B (hb hby at_355) (pc' := 356) rfl (z := (1 : Int32)) (by decide) ?_
        refine W_istore B (hb hby at_356) (pc' := 358) rfl (v := (1 : Int32)) rfl (ls' := #[.val (.int a1), .val (.int a2), .val (.int a3), .val (.int a4), .val (.int v121), .val (.int v123), .val (.int v125), .val (.int (0 : Int32)), .val (.int (1 : Int32)), .val (.int (2 : Int32)), .val (.int (0 : Int32)), .val (.int v198), .val (.int v198), .val (.int v199), .val (.int z200), .val (.int v205), .val (.ref b206), .val (.ref b207), .val (.ref b208), .val (.ref b209), .val (.int (0 : Int32)), .val (.int (1 : Int32)), .val (.int (2 : Int32)), .val (.int (1 : Int32))]) rfl ?_
        refine W_goto B (hb hby at_358) (by decide) (pc' := 364) (by decide) ?_
        refine W_aload B (hb hby at_364) (pc' := 366) rfl rfl rfl ?_
        refine W_iload B (hb hby at_366) (pc' := 368) rfl rfl ?_
        refine W_iload B (hb hby at_368) (pc' := 370) rfl rfl ?_
        have n253 : ¬ v205 < (0 : Int32) := by
          refine onltI_i ?_
          have fq1 := orI v205
          have fq2 := orI ((a4 &&& (2147483647 : Int32)) % z200)
          have fq3 := orI (a4 &&& (2147483647 : Int32))
          have fq4 := orI a4
          have fq5 : ((2147483647 : Int32)).toInt = 2147483647 := rfl
          have fq6 := omaskI a4 (2147483647 : Int32) 31 2147483648 (by decide) (by decide) (by decide)
          have fq7 := orI z200
          have fq8 := oiremV (a4 &&& (2147483647 : Int32)) z200
          have fq9 := congrArg Int32.toInt hv205
          have fq10 : ((0 : Int32)).toInt = 0 := rfl
          have fq11 := orI v121
          have fq12 := k122
          have fq13 := orI v123
          have fq14 := k124
          have fq15 := orI v125
          have fq16 := k126
          have fq17 := orI (a2 &&& (1 : Int32))
          have fq18 := orI a2
          have fq19 : ((1 : Int32)).toInt = 1 := rfl
          have fq20 := omaskI a2 (1 : Int32) 1 2 (by decide) (by decide) (by decide)
          have fq21 := oeqI c127
          have fq22 := orI (a2 &&& (2 : Int32))
          have fq23 : ((2 : Int32)).toInt = 2 := rfl
          have fq24 := oandI a2 (2 : Int32) (by decide)
          have fq25 := oneI c128
          have fq26 := orI v198
          have fq27 := oiadd (0 : Int32) v123
          have fq28 := congrArg Int32.toInt hv198
          have fq29 := orI v199
          have fq30 := oiadd v198 v125
          have fq31 := congrArg Int32.toInt hv199
          have fq32 := hz200
          have fq33 := oneI c204
          have fq34 := orI n226
          have fq35 := q231
          have fq36 := orI n233
          have fq37 := q238
          have fq38 := orI n240
          have fq39 := q245
          have fq40 := oltI c252
          omega
        refine W_virtual B (y := (⟨"com/example/tanglemark/tanglemark/datalog/SharedSets", "holder", "(II)I"⟩ : MethodName)) (z := (⟨"com/example/tanglemark/tanglemark/datalog/SharedSets", "holder", "(II)I"⟩ : MethodName)) hown (ow hw (i := 73) rfl) (ow hw (i := 74) rfl) (oNotFace B (ow hw (i := 76) rfl) rfl) (ow hw (i := 76) rfl) (ow hw (i := 75) rfl) (ow hw (i := 4) rfl) (ow hw (i := 77) rfl) (by decide) (a := b209) (rm_ho012 l Z a0 hw h0 b209 sa210 c211 d212 c213 d214 c215 d216 c217 d218 c219 d220 c221 d222 c223 d224 v205 n240 us239 (0 : Int32) n226 n233 (((0 : Int32) + n233) - n226) (((0 : Int32) + n226) - (0 : Int32)) (((0 : Int32) + n233) - n226) (((((0 : Int32) + n233) - n226) + n240) - n233) (1 : Int32) (1 : Int32) (2 : Int32) [(b208, oA .int [(.int (30 : Int32)), (.int (31 : Int32)), (.int (32 : Int32))]), (b207, oA .int [(.int (20 : Int32)), (.int (21 : Int32)), (.int (22 : Int32))]), (b206, oA .int [(.int (10 : Int32)), (.int (11 : Int32)), (.int (12 : Int32))])] n253) (lenOf pd_0 rfl) (hb hby at_370) (pc' := 373) rfl (argsL := [(.int (2 : Int32)), (.int v205)]) (rest := []) rfl (by rw [hml]; rfl) (W := 0) (oLe rfl) (j := 14) rfl (by decide) (cells' := 20) rfl (slots' := 176) rfl ?_
        intro T v_ d_ q_ B
        rcases q_ with ⟨q254, rfl, rfl⟩ | ⟨q255, q256, rfl, rfl⟩ | ⟨q257, q258, rfl, rfl⟩
        · show oWin p e below Z h0 _ _ (T.setTop (mkF m 373 #[.val (.int a1), .val (.int a2), .val (.int a3), .val (.int a4), .val (.int v121), .val (.int v123), .val (.int v125), .val (.int (0 : Int32)), .val (.int (1 : Int32)), .val (.int (2 : Int32)), .val (.int (0 : Int32)), .val (.int v198), .val (.int v198), .val (.int v199), .val (.int z200), .val (.int v205), .val (.ref b206), .val (.ref b207), .val (.ref b208), .val (.ref b209), .val (.int (0 : Int32)), .val (.int (1 : Int32)), .val (.int (2 : Int32)), .val (.int (1 : Int32))] [(.int (1 : Int32))]))
          refine W_iload B (hb hby at_373) (pc' := 375) rfl rfl ?_
          refine W_icmpN B (hb hby at_375) (pc' := 378) rfl (by decide) ?_
          refine W_iconst B (hb hby at_378) (pc' := 379) rfl (z := (1 : Int32)) (by decide) ?_
          refine W_goto B (hb hby at_379) (by decide) (pc' := 383) (by decide) ?_
          refine W_retNW B hS hret (by simp) (hb hby at_383) (by decide) ?_
          rfl
        · show oWin p e below Z h0 _ _ (T.setTop (mkF m 373 #[.val (.int a1), .val (.int a2), .val (.int a3), .val (.int a4), .val (.int v121), .val (.int v123), .val (.int v125), .val (.int (0 : Int32)), .val (.int (1 : Int32)), .val (.int (2 : Int32)), .val (.int (0 : Int32)), .val (.int v198), .val (.int v198), .val (.int v199), .val (.int z200), .val (.int v205), .val (.ref b206), .val (.ref b207), .val (.ref b208), .val (.ref b209), .val (.int (0 : Int32)), .val (.int (1 : Int32)), .val (.int (2 : Int32)), .val (.int (1 : Int32))] [(.int (2 : Int32))]))
          refine W_iload B (hb hby at_373) (pc' := 375) rfl rfl ?_
          refine W_icmpY B (hb hby at_375) (by decide) (pc' := 382) (by decide) (by decide) ?_
          refine W_iconst B (hb hby at_382) (pc' := 383) rfl (z := (0 : Int32)) (by decide) ?_
          refine W_retNW B hS hret (by simp) (hb hby at_383) (by decide) ?_
          exfalso
          have fq1 := orI v121
          have fq2 := k122
          have fq3 := orI v123
          have fq4 := k124
          have fq5 := orI v125
          have fq6 := k126
          have fq7 := orI (a2 &&& (1 : Int32))
          have fq8 := orI a2
          have fq9 : ((1 : Int32)).toInt = 1 := rfl
          have fq10 := omaskI a2 (1 : Int32) 1 2 (by decide) (by decide) (by decide)
          have fq11 : ((0 : Int32)).toInt = 0 := rfl
          have fq12 := oeqI c127
          have fq13 := orI (a2 &&& (2 : Int32))
          have fq14 : ((2 : Int32)).toInt = 2 := rfl
          have fq15 := oandI a2 (2 : Int32) (by decide)
          have fq16 := oneI c128
          have fq17 := orI z200
          have fq18 := orI v198
          have fq19 := oiadd (0 : Int32) v123
          have fq20 := congrArg Int32.toInt hv198
          have fq21 := orI v199
          have fq22 := oiadd v198 v125
          have fq23 := congrArg Int32.toInt hv199
          have fq24 := hz200
          have fq25 := oneI c204
          have fq26 := orI n226
          have fq27 := q231
          have fq28 := orI n233
          have fq29 := q238
          have fq30 := orI n240
          have fq31 := q245
          have fq32 := orI v205
          have fq33 := orI ((a4 &&& (2147483647 : Int32)) % z200)
          have fq34 := orI (a4 &&& (2147483647 : Int32))
          have fq35 := orI a4
          have fq36 : ((2147483647 : Int32)).toInt = 2147483647 := rfl
          have fq37 := omaskI a4 (2147483647 : Int32) 31 2147483648 (by decide) (by decide) (by decide)
          have fq38 := oiremV (a4 &&& (2147483647 : Int32)) z200
          have fq39 := congrArg Int32.toInt hv205
          have fq40 := oltI c252
          have fq41 := onltI n253
          have fq42 := oiadd (0 : Int32) n233
          have fq43 := oisub ((0 : Int32) + n233) n226
          have fq44 := onltI q255
          have fq45 := onltI q256
          omega
        show oWin p e below Z h0 _ _ (T.setTop (mkF m 373 #[.val (.int a1), .val (.int a2), .val (.int a3), .val (.int a4), .val (.int v121), .val (.int v123), .val (.int v125), .val (.int (0 : Int32)), .val (.int (1 : Int32)), .val (.int (2 : Int32)), .val (.int (0 : Int32)), .val (.int v198), .val (.int v198), .val (.int v199), .val (.int z200), .val (.int v205), .val (.ref b206), .val (.ref b207), .val (.ref b208), .val (.ref b209), .val (.int (0 : Int32)), .val (.int (1 : Int32)), .val (.int (2 : Int32)), .val (.int (1 : Int32))] [(.int (1 : Int32))]))
        refine W_iload B (hb hby at_373) (pc' := 375) rfl rfl ?_
        refine W_icmpN B (hb hby at_375) (pc' := 378) rfl (by decide) ?_
        refine W_iconst B (hb hby at_378) (pc' := 379) rfl (z := (1 : Int32)) (by decide) ?_
        refine W_goto B (hb hby at_379) (by decide) (pc' := 383) (by decide) ?_
        refine W_retNW B hS hret (by simp) (hb hby at_383) (by decide) ?_
        rfl
      refine W_iconst B (hb hby at_328) (pc' := 329) rfl (z := (2 : Int32)) (by decide) ?_
      refine W_istore B (hb hby at_329) (pc' := 331) rfl (v := (2 : Int32)) rfl (ls' := #[.val (.int a1), .val (.int a2), .val (.int a3), .val (.int a4), .val (.int v121), .val (.int v123), .val (.int v125), .val (.int (0 : Int32)), .val (.int (1 : Int32)), .val (.int (2 : Int32)), .val (.int (0 : Int32)), .val (.int v198), .val (.int v198), .val (.int v199), .val (.int z200), .val (.int v205), .val (.ref b206), .val (.ref b207), .val (.ref b208), .val (.ref b209), .val (.int (0 : Int32)), .val (.int (1 : Int32)), .val (.int (2 : Int32)), .val (.int (2 : Int32))]) rfl ?_
      refine W_goto B (hb hby at_331) (by decide) (pc' := 364) (by decide) ?_
      refine W_aload B (hb hby at_364) (pc' := 366) rfl rfl rfl ?_
      refine W_iload B (hb hby at_366) (pc' := 368) rfl rfl ?_
      refine W_iload B (hb hby at_368) (pc' := 370) rfl rfl ?_
      have n259 : ¬ v205 < (0 : Int32) := by
        refine onltI_i ?_
        have fq1 := orI v205
        have fq2 := orI ((a4 &&& (2147483647 : Int32)) % z200)
        have fq3 := orI (a4 &&& (2147483647 : Int32))
        have fq4 := orI a4
        have fq5 : ((2147483647 : Int32)).toInt = 2147483647 := rfl
        have fq6 := omaskI a4 (2147483647 : Int32) 31 2147483648 (by decide) (by decide) (by decide)
        have fq7 := orI z200
        have fq8 := oiremV (a4 &&& (2147483647 : Int32)) z200
        have fq9 := congrArg Int32.toInt hv205
        have fq10 : ((0 : Int32)).toInt = 0 := rfl
        have fq11 := orI v121
        have fq12 := k122
        have fq13 := orI v123
        have fq14 := k124
        have fq15 := orI v125
        have fq16 := k126
        have fq17 := orI (a2 &&& (1 : Int32))
        have fq18 := orI a2
        have fq19 : ((1 : Int32)).toInt = 1 := rfl
        have fq20 := omaskI a2 (1 : Int32) 1 2 (by decide) (by decide) (by decide)
        have fq21 := oeqI c127
        have fq22 := orI (a2 &&& (2 : Int32))
        have fq23 : ((2 : Int32)).toInt = 2 := rfl
        have fq24 := oandI a2 (2 : Int32) (by decide)
        have fq25 := oneI c128
        have fq26 := orI v198
        have fq27 := oiadd (0 : Int32) v123
        have fq28 := congrArg Int32.toInt hv198
        have fq29 := orI v199
        have fq30 := oiadd v198 v125
        have fq31 := congrArg Int32.toInt hv199
        have fq32 := hz200
        have fq33 := oneI c204
        have fq34 := orI n226
        have fq35 := q231
        have fq36 := orI n233
        have fq37 := q238
        have fq38 := orI n240
        have fq39 := q245
        have fq40 := onltI c252
        omega
      refine W_virtual B (y := (⟨"com/example/tanglemark/tanglemark/datalog/SharedSets", "holder", "(II)I"⟩ : MethodName)) (z := (⟨"com/example/tanglemark/tanglemark/datalog/SharedSets", "holder", "(II)I"⟩ : MethodName)) hown (ow hw (i := 73) rfl) (ow hw (i := 74) rfl) (oNotFace B (ow hw (i := 76) rfl) rfl) (ow hw (i := 76) rfl) (ow hw (i := 75) rfl) (ow hw (i := 4) rfl) (ow hw (i := 77) rfl) (by decide) (a := b209) (rm_ho012 l Z a0 hw h0 b209 sa210 c211 d212 c213 d214 c215 d216 c217 d218 c219 d220 c221 d222 c223 d224 v205 n240 us239 (0 : Int32) n226 n233 (((0 : Int32) + n233) - n226) (((0 : Int32) + n226) - (0 : Int32)) (((0 : Int32) + n233) - n226) (((((0 : Int32) + n233) - n226) + n240) - n233) (1 : Int32) (1 : Int32) (2 : Int32) [(b208, oA .int [(.int (30 : Int32)), (.int (31 : Int32)), (.int (32 : Int32))]), (b207, oA .int [(.int (20 : Int32)), (.int (21 : Int32)), (.int (22 : Int32))]), (b206, oA .int [(.int (10 : Int32)), (.int (11 : Int32)), (.int (12 : Int32))])] n259) (lenOf pd_0 rfl) (hb hby at_370) (pc' := 373) rfl (argsL := [(.int (2 : Int32)), (.int v205)]) (rest := []) rfl (by rw [hml]; rfl) (W := 0) (oLe rfl) (j := 14) rfl (by decide) (cells' := 20) rfl (slots' := 176) rfl ?_
      intro T v_ d_ q_ B
      rcases q_ with ⟨q260, rfl, rfl⟩ | ⟨q261, q262, rfl, rfl⟩ | ⟨q263, q264, rfl, rfl⟩
      · show oWin p e below Z h0 _ _ (T.setTop (mkF m 373 #[.val (.int a1), .val (.int a2), .val (.int a3), .val (.int a4), .val (.int v121), .val (.int v123), .val (.int v125), .val (.int (0 : Int32)), .val (.int (1 : Int32)), .val (.int (2 : Int32)), .val (.int (0 : Int32)), .val (.int v198), .val (.int v198), .val (.int v199), .val (.int z200), .val (.int v205), .val (.ref b206), .val (.ref b207), .val (.ref b208), .val (.ref b209), .val (.int (0 : Int32)), .val (.int (1 : Int32)), .val (.int (2 : Int32)), .val (.int (2 : Int32))] [(.int (1 : Int32))]))
        refine W_iload B (hb hby at_373) (pc' := 375) rfl rfl ?_
        refine W_icmpY B (hb hby at_375) (by decide) (pc' := 382) (by decide) (by decide) ?_
        refine W_iconst B (hb hby at_382) (pc' := 383) rfl (z := (0 : Int32)) (by decide) ?_
        refine W_retNW B hS hret (by simp) (hb hby at_383) (by decide) ?_
        exfalso
        have fq1 := orI v121
        have fq2 := k122
        have fq3 := orI v123
        have fq4 := k124
        have fq5 := orI v125
        have fq6 := k126
        have fq7 := orI (a2 &&& (1 : Int32))
        have fq8 := orI a2
        have fq9 : ((1 : Int32)).toInt = 1 := rfl
        have fq10 := omaskI a2 (1 : Int32) 1 2 (by decide) (by decide) (by decide)
        have fq11 : ((0 : Int32)).toInt = 0 := rfl
        have fq12 := oeqI c127
        have fq13 := orI (a2 &&& (2 : Int32))
        have fq14 : ((2 : Int32)).toInt = 2 := rfl
        have fq15 := oandI a2 (2 : Int32) (by decide)
        have fq16 := oneI c128
        have fq17 := orI z200
        have fq18 := orI v198
        have fq19 := oiadd (0 : Int32) v123
        have fq20 := congrArg Int32.toInt hv198
        have fq21 := orI v199
        have fq22 := oiadd v198 v125
        have fq23 := congrArg Int32.toInt hv199
        have fq24 := hz200
        have fq25 := oneI c204
        have fq26 := orI n226
        have fq27 := q231
        have fq28 := orI n233
        have fq29 := q238
        have fq30 := orI n240
        have fq31 := q245
        have fq32 := orI v205
        have fq33 := orI ((a4 &&& (2147483647 : Int32)) % z200)
        have fq34 := orI (a4 &&& (2147483647 : Int32))
        have fq35 := orI a4
        have fq36 : ((2147483647 : Int32)).toInt = 2147483647 := rfl
        have fq37 := omaskI a4 (2147483647 : Int32) 31 2147483648 (by decide) (by decide) (by decide)
        have fq38 := oiremV (a4 &&& (2147483647 : Int32)) z200
        have fq39 := congrArg Int32.toInt hv205
        have fq40 := onltI c252
        have fq41 := onltI n259
        have fq42 := oiadd (0 : Int32) n233
        have fq43 := oisub ((0 : Int32) + n233) n226
        have fq44 := oltI q260
        omega
      · show oWin p e below Z h0 _ _ (T.setTop (mkF m 373 #[.val (.int a1), .val (.int a2), .val (.int a3), .val (.int a4), .val (.int v121), .val (.int v123), .val (.int v125), .val (.int (0 : Int32)), .val (.int (1 : Int32)), .val (.int (2 : Int32)), .val (.int (0 : Int32)), .val (.int v198), .val (.int v198), .val (.int v199), .val (.int z200), .val (.int v205), .val (.ref b206), .val (.ref b207), .val (.ref b208), .val (.ref b209), .val (.int (0 : Int32)), .val (.int (1 : Int32)), .val (.int (2 : Int32)), .val (.int (2 : Int32))] [(.int (2 : Int32))]))
        refine W_iload B (hb hby at_373) (pc' := 375) rfl rfl ?_
        refine W_icmpN B (hb hby at_375) (pc' := 378) rfl (by decide) ?_
        refine W_iconst B (hb hby at_378) (pc' := 379) rfl (z := (1 : Int32)) (by decide) ?_
        refine W_goto B (hb hby at_379) (by decide) (pc' := 383) (by decide) ?_
        refine W_retNW B hS hret (by simp) (hb hby at_383) (by decide) ?_
        rfl
      show oWin p e below Z h0 _ _ (T.setTop (mkF m 373 #[.val (.int a1), .val (.int a2), .val (.int a3), .val (.int a4), .val (.int v121), .val (.int v123), .val (.int v125), .val (.int (0 : Int32)), .val (.int (1 : Int32)), .val (.int (2 : Int32)), .val (.int (0 : Int32)), .val (.int v198), .val (.int v198), .val (.int v199), .val (.int z200), .val (.int v205), .val (.ref b206), .val (.ref b207), .val (.ref b208), .val (.ref b209), .val (.int (0 : Int32)), .val (.int (1 : Int32)), .val (.int (2 : Int32)), .val (.int (2 : Int32))] [(.int (1 : Int32))]))
      refine W_iload B (hb hby at_373) (pc' := 375) rfl rfl ?_
      refine W_icmpY B (hb hby at_375) (by decide) (pc' := 382) (by decide) (by decide) ?_
      refine W_iconst B (hb hby at_382) (pc' := 383) rfl (z := (0 : Int32)) (by decide) ?_
      refine W_retNW B hS hret (by simp) (hb hby at_383) (by decide) ?_
      exfalso
      have fq1 := orI v121
      have fq2 := k122
      have fq3 := orI v123
      have fq4 := k124
      have fq5 := orI v125
      have fq6 := k126
      have fq7 := orI (a2 &&& (1 : Int32))
      have fq8 := orI a2
      have fq9 : ((1 : Int32)).toInt = 1 := rfl
      have fq10 := omaskI a2 (1 : Int32) 1 2 (by decide) (by decide) (by decide)
      have fq11 : ((0 : Int32)).toInt = 0 := rfl
      have fq12 := oeqI c127
      have fq13 := orI (a2 &&& (2 : Int32))
      have fq14 : ((2 : Int32)).toInt = 2 := rfl
      have fq15 := oandI a2 (2 : Int32) (by decide)
      have fq16 := oneI c128
      have fq17 := orI z200
      have fq18 := orI v198
      have fq19 := oiadd (0 : Int32) v123
      have fq20 := congrArg Int32.toInt hv198
      have fq21 := orI v199
      have fq22 := oiadd v198 v125
      have fq23 := congrArg Int32.toInt hv199
      have fq24 := hz200
      have fq25 := oneI c204
      have fq26 := orI n226
      have fq27 := q231
      have fq28 := orI n233
      have fq29 := q238
      have fq30 := orI n240
      have fq31 := q245
      have fq32 := orI v205
      have fq33 := orI ((a4 &&& (2147483647 : Int32)) % z200)
      have fq34 := orI (a4 &&& (2147483647 : Int32))
      have fq35 := orI a4
      have fq36 : ((2147483647 : Int32)).toInt = 2147483647 := rfl
      have fq37 := omaskI a4 (2147483647 : Int32) 31 2147483648 (by decide) (by decide) (by decide)
      have fq38 := oiremV (a4 &&& (2147483647 : Int32)) z200
      have fq39 := congrArg Int32.toInt hv205
      have fq40 := onltI c252
      have fq41 := onltI n259
      have fq42 := oiadd (0 : Int32) n233
      have fq43 := oisub ((0 : Int32) + n233) n226
      have fq44 := onltI q263
      have fq45 := oltI q264
      omega
    refine W_iconst B (hb hby at_124) (pc' := 125) rfl (z := (1 : Int32)) (by decide) ?_
    refine W_retNW B hS hret (by simp) (hb hby at_125) (by decide) ?_
    rfl
  refine W_iconst B (hb hby at_25) (pc' := 26) rfl (z := (1 : Int32)) (by decide) ?_
  refine W_goto B (hb hby at_26) (by decide) (pc' := 30) (by decide) ?_
  refine W_istore B (hb hby at_30) (pc' := 32) rfl (v := (1 : Int32)) rfl (ls' := #[.val (.int a1), .val (.int a2), .val (.int a3), .val (.int a4), .val (.int v121), .val (.int v123), .val (.int v125), .val (.int (1 : Int32)), .unset, .unset, .unset, .unset, .unset, .unset, .unset, .unset, .unset, .unset, .unset, .unset, .unset, .unset, .unset, .unset]) rfl ?_
  refine W_iloadN B (hb hby at_32) (pc' := 33) rfl rfl ?_
  refine W_iconst B (hb hby at_33) (pc' := 34) rfl (z := (2 : Int32)) (by decide) ?_
  refine W_iand B (hb hby at_34) (pc' := 35) rfl (z := (a2 &&& (2 : Int32))) rfl ?_
  refine W_if_eq B (hb hby at_35) (by decide) (pt := 42) (by decide) (pc' := 38) rfl (fun (c265 : (a2 &&& (2 : Int32)) = (0 : Int32)) => ?_) (fun (c265 : ¬ (a2 &&& (2 : Int32)) = (0 : Int32)) => ?_)
  · refine W_iconst B (hb hby at_42) (pc' := 43) rfl (z := (0 : Int32)) (by decide) ?_
    refine W_istore B (hb hby at_43) (pc' := 45) rfl (v := (0 : Int32)) rfl (ls' := #[.val (.int a1), .val (.int a2), .val (.int a3), .val (.int a4), .val (.int v121), .val (.int v123), .val (.int v125), .val (.int (1 : Int32)), .val (.int (0 : Int32)), .unset, .unset, .unset, .unset, .unset, .unset, .unset, .unset, .unset, .unset, .unset, .unset, .unset, .unset, .unset]) rfl ?_
    refine W_iloadN B (hb hby at_45) (pc' := 46) rfl rfl ?_
    refine W_ldcInt B hown (ow hw (i := 0) rfl) (hb hby at_46) (pc' := 48) rfl ?_
    refine W_iand B (hb hby at_48) (pc' := 49) rfl (z := (a3 &&& (2147483647 : Int32))) rfl ?_
    refine W_iconst B (hb hby at_49) (pc' := 50) rfl (z := (3 : Int32)) (by decide) ?_
    refine W_irem B (hb hby at_50) (pc' := 51) rfl (by decide) (z := ((a3 &&& (2147483647 : Int32)) % (3 : Int32))) rfl ?_
    obtain ⟨v266, hv266⟩ : ∃ z : Int32, z = ((a3 &&& (2147483647 : Int32)) % (3 : Int32)) := ⟨_, rfl⟩
    refine W_istore B (hb hby at_51) (pc' := 53) rfl (v := v266) hv266.symm (ls' := #[.val (.int a1), .val (.int a2), .val (.int a3), .val (.int a4), .val (.int v121), .val (.int v123), .val (.int v125), .val (.int (1 : Int32)), .val (.int (0 : Int32)), .val (.int v266), .unset, .unset, .unset, .unset, .unset, .unset, .unset, .unset, .unset, .unset, .unset, .unset, .unset, .unset]) rfl ?_
    refine W_iload B (hb hby at_53) (pc' := 55) rfl rfl ?_
    refine W_ifN B (hb hby at_55) (pc' := 58) rfl (by decide) ?_
    refine W_iload B (hb hby at_58) (pc' := 60) rfl rfl ?_
    refine W_goto B (hb hby at_60) (by decide) (pc' := 64) (by decide) ?_
    refine W_istore B (hb hby at_64) (pc' := 66) rfl (v := v121) rfl (ls' := #[.val (.int a1), .val (.int a2), .val (.int a3), .val (.int a4), .val (.int v121), .val (.int v123), .val (.int v125), .val (.int (1 : Int32)), .val (.int (0 : Int32)), .val (.int v266), .val (.int v121), .unset, .unset, .unset, .unset, .unset, .unset, .unset, .unset, .unset, .unset, .unset, .unset, .unset]) rfl ?_
    refine W_iload B (hb hby at_66) (pc' := 68) rfl rfl ?_
    refine W_iload B (hb hby at_68) (pc' := 70) rfl rfl ?_
    refine W_iadd B (hb hby at_70) (pc' := 71) rfl (z := (v121 + v123)) rfl ?_
    obtain ⟨v267, hv267⟩ : ∃ z : Int32, z = (v121 + v123) := ⟨_, rfl⟩
    refine W_istore B (hb hby at_71) (pc' := 73) rfl (v := v267) hv267.symm (ls' := #[.val (.int a1), .val (.int a2), .val (.int a3), .val (.int a4), .val (.int v121), .val (.int v123), .val (.int v125), .val (.int (1 : Int32)), .val (.int (0 : Int32)), .val (.int v266), .val (.int v121), .val (.int v267), .unset, .unset, .unset, .unset, .unset, .unset, .unset, .unset, .unset, .unset, .unset, .unset]) rfl ?_
    refine W_iload B (hb hby at_73) (pc' := 75) rfl rfl ?_
    refine W_ifY B (hb hby at_75) (by decide) (pc' := 83) (by decide) (by decide) ?_
    refine W_iload B (hb hby at_83) (pc' := 85) rfl rfl ?_
    refine W_istore B (hb hby at_85) (pc' := 87) rfl (v := v121) rfl (ls' := #[.val (.int a1), .val (.int a2), .val (.int a3), .val (.int a4), .val (.int v121), .val (.int v123), .val (.int v125), .val (.int (1 : Int32)), .val (.int (0 : Int32)), .val (.int v266), .val (.int v121), .val (.int v267), .val (.int v121), .unset, .unset, .unset, .unset, .unset, .unset, .unset, .unset, .unset, .unset, .unset]) rfl ?_
    refine W_iload B (hb hby at_87) (pc' := 89) rfl rfl ?_
    refine W_iload B (hb hby at_89) (pc' := 91) rfl rfl ?_
    refine W_iadd B (hb hby at_91) (pc' := 92) rfl (z := (v121 + v125)) rfl ?_
    obtain ⟨v268, hv268⟩ : ∃ z : Int32, z = (v121 + v125) := ⟨_, rfl⟩
    refine W_istore B (hb hby at_92) (pc' := 94) rfl (v := v268) hv268.symm (ls' := #[.val (.int a1), .val (.int a2), .val (.int a3), .val (.int a4), .val (.int v121), .val (.int v123), .val (.int v125), .val (.int (1 : Int32)), .val (.int (0 : Int32)), .val (.int v266), .val (.int v121), .val (.int v267), .val (.int v121), .val (.int v268), .unset, .unset, .unset, .unset, .unset, .unset, .unset, .unset, .unset, .unset]) rfl ?_
    have k270 : v266.toInt = 0 ∨ v266.toInt = 1 ∨ v266.toInt = 2 := (own_c3 hv266).imp (fun e => by rw [e]; rfl) fun t => t.imp (fun e => by rw [e]; rfl) fun e => by rw [e]; rfl
    refine oJoin B (fun z269 : Int32 => (v266.toInt = 0 ∧ z269.toInt = (v121).toInt) ∨ (v266.toInt = 1 ∧ z269.toInt = (v267).toInt) ∨ (v266.toInt = 2 ∧ z269.toInt = (v268).toInt)) (fun z269 => (mkF m 117 #[.val (.int a1), .val (.int a2), .val (.int a3), .val (.int a4), .val (.int v121), .val (.int v123), .val (.int v125), .val (.int (1 : Int32)), .val (.int (0 : Int32)), .val (.int v266), .val (.int v121), .val (.int v267), .val (.int v121), .val (.int v268), .unset, .unset, .unset, .unset, .unset, .unset, .unset, .unset, .unset, .unset] [(.int z269)])) ?_ ?_
    · intro kJ
      refine W_iload B (hb hby at_94) (pc' := 96) rfl rfl ?_
      refine W_if_ne B (hb hby at_96) (by decide) (pt := 104) (by decide) (pc' := 99) rfl (fun (c271 : ¬ v266 = (0 : Int32)) => ?_) (fun (c271 : v266 = (0 : Int32)) => ?_)
      · refine W_iload B (hb hby at_104) (pc' := 106) rfl rfl ?_
        refine W_iconst B (hb hby at_106) (pc' := 107) rfl (z := (1 : Int32)) (by decide) ?_
        refine W_icmp_ne B (hb hby at_107) (by decide) (pt := 115) (by decide) (pc' := 110) rfl (fun (c272 : ¬ v266 = (1 : Int32)) => ?_) (fun (c272 : v266 = (1 : Int32)) => ?_)
        · refine W_iload B (hb hby at_115) (pc' := 117) rfl rfl ?_
          refine kJ _ _ ?_ B
          have fq1 := orI v268
          have fq2 := orI v121
          have fq3 := orI v125
          have fq4 := oiadd v121 v125
          have fq5 := congrArg Int32.toInt hv268
          have fq6 := orI v266
          have fq7 := k270
          have fq8 : ((0 : Int32)).toInt = 0 := rfl
          have fq9 := oneI c271
          have fq10 : ((1 : Int32)).toInt = 1 := rfl
          have fq11 := oneI c272
          omega
        refine W_iload B (hb hby at_110) (pc' := 112) rfl rfl ?_
        refine W_goto B (hb hby at_112) (by decide) (pc' := 117) (by decide) ?_
        refine kJ _ _ ?_ B
        have fq1 := orI v267
        have fq2 := orI v121
        have fq3 := orI v123
        have fq4 := oiadd v121 v123
        have fq5 := congrArg Int32.toInt hv267
        have fq6 := orI v266
        have fq7 := k270
        have fq8 : ((0 : Int32)).toInt = 0 := rfl
        have fq9 := oneI c271
        have fq10 : ((1 : Int32)).toInt = 1 := rfl
        have fq11 := oeqI c272
        omega
      refine W_iload B (hb hby at_99) (pc' := 101) rfl rfl ?_
      refine W_goto B (hb hby at_101) (by decide) (pc' := 117) (by decide) ?_
      refine kJ _ _ ?_ B
      have fq1 := orI v121
      have fq2 := orI v266
      have fq3 := k270
      have fq4 : ((0 : Int32)).toInt = 0 := rfl
      have fq5 := oeqI c271
      omega
    intro z269 T hz269 B
    refine W_istore B (hb hby at_117) (pc' := 119) rfl (v := z269) rfl (ls' := #[.val (.int a1), .val (.int a2), .val (.int a3), .val (.int a4), .val (.int v121), .val (.int v123), .val (.int v125), .val (.int (1 : Int32)), .val (.int (0 : Int32)), .val (.int v266), .val (.int v121), .val (.int v267), .val (.int v121), .val (.int v268), .val (.int z269), .unset, .unset, .unset, .unset, .unset, .unset, .unset, .unset, .unset]) rfl ?_
    refine W_iload B (hb hby at_119) (pc' := 121) rfl rfl ?_
    refine W_if_ne B (hb hby at_121) (by decide) (pt := 126) (by decide) (pc' := 124) rfl (fun (c273 : ¬ z269 = (0 : Int32)) => ?_) (fun (c273 : z269 = (0 : Int32)) => ?_)
    · refine W_iloadN B (hb hby at_126) (pc' := 127) rfl rfl ?_
      refine W_ldcInt B hown (ow hw (i := 0) rfl) (hb hby at_127) (pc' := 129) rfl ?_
      refine W_iand B (hb hby at_129) (pc' := 130) rfl (z := (a4 &&& (2147483647 : Int32))) rfl ?_
      refine W_iload B (hb hby at_130) (pc' := 132) rfl rfl ?_
      refine W_irem B (hb hby at_132) (pc' := 133) rfl c273 (z := ((a4 &&& (2147483647 : Int32)) % z269)) rfl ?_
      obtain ⟨v274, hv274⟩ : ∃ z : Int32, z = ((a4 &&& (2147483647 : Int32)) % z269) := ⟨_, rfl⟩
      refine W_istore B (hb hby at_133) (pc' := 135) rfl (v := v274) hv274.symm (ls' := #[.val (.int a1), .val (.int a2), .val (.int a3), .val (.int a4), .val (.int v121), .val (.int v123), .val (.int v125), .val (.int (1 : Int32)), .val (.int (0 : Int32)), .val (.int v266), .val (.int v121), .val (.int v267), .val (.int v121), .val (.int v268), .val (.int z269), .val (.int v274), .unset, .unset, .unset, .unset, .unset, .unset, .unset, .unset]) rfl ?_
      refine W_iconst B (hb hby at_135) (pc' := 136) rfl (z := (3 : Int32)) (by decide) ?_
      refine W_newarray B (ow hw (i := 1) rfl) (hb hby at_136) (pc' := 138) rfl (by decide) (cap := 3) (by decide) (by decide) (cells' := 1) rfl (slots' := 3) rfl (vs := [(.int (0 : Int32)), (.int (0 : Int32)), (.int (0 : Int32))]) rfl (ty := .int) rfl ?_
      intro T b275 B
      refine W_dup B (hb hby at_138) (pc' := 139) rfl rfl ?_
      refine W_iconst B (hb hby at_139) (pc' := 140) rfl (z := (0 : Int32)) (by decide) ?_
      refine W_bipush B (hb hby at_140) (pc' := 142) rfl (z := (10 : Int32)) (by decide) ?_
      refine W_iastore B (hb hby at_142) (pc' := 143) rfl (i := 0) rfl (by decide) (oLt rfl) (ds' := [(b275, oA .int [(.int (10 : Int32)), o0, o0])]) rfl ?_
      intro T B
      refine W_dup B (hb hby at_143) (pc' := 144) rfl rfl ?_
      refine W_iconst B (hb hby at_144) (pc' := 145) rfl (z := (1 : Int32)) (by decide) ?_
      refine W_bipush B (hb hby at_145) (pc' := 147) rfl (z := (11 : Int32)) (by decide) ?_
      refine W_iastore B (hb hby at_147) (pc' := 148) rfl (i := 0) rfl (by decide) (oLt rfl) (ds' := [(b275, oA .int [(.int (10 : Int32)), (.int (11 : Int32)), o0])]) rfl ?_
      intro T B
      refine W_dup B (hb hby at_148) (pc' := 149) rfl rfl ?_
      refine W_iconst B (hb hby at_149) (pc' := 150) rfl (z := (2 : Int32)) (by decide) ?_
      refine W_bipush B (hb hby at_150) (pc' := 152) rfl (z := (12 : Int32)) (by decide) ?_
      refine W_iastore B (hb hby at_152) (pc' := 153) rfl (i := 0) rfl (by decide) (oLt rfl) (ds' := [(b275, oA .int [(.int (10 : Int32)), (.int (11 : Int32)), (.int (12 : Int32))])]) rfl ?_
      intro T B
      refine W_astore B (hb hby at_153) (pc' := 155) rfl rfl (ls' := #[.val (.int a1), .val (.int a2), .val (.int a3), .val (.int a4), .val (.int v121), .val (.int v123), .val (.int v125), .val (.int (1 : Int32)), .val (.int (0 : Int32)), .val (.int v266), .val (.int v121), .val (.int v267), .val (.int v121), .val (.int v268), .val (.int z269), .val (.int v274), .val (.ref b275), .unset, .unset, .unset, .unset, .unset, .unset, .unset]) rfl ?_
      refine W_iconst B (hb hby at_155) (pc' := 156) rfl (z := (3 : Int32)) (by decide) ?_
      refine W_newarray B (ow hw (i := 1) rfl) (hb hby at_156) (pc' := 158) rfl (by decide) (cap := 3) (by decide) (by decide) (cells' := 2) rfl (slots' := 6) rfl (vs := [(.int (0 : Int32)), (.int (0 : Int32)), (.int (0 : Int32))]) rfl (ty := .int) rfl ?_
      intro T b276 B
      refine W_dup B (hb hby at_158) (pc' := 159) rfl rfl ?_
      refine W_iconst B (hb hby at_159) (pc' := 160) rfl (z := (0 : Int32)) (by decide) ?_
      refine W_bipush B (hb hby at_160) (pc' := 162) rfl (z := (20 : Int32)) (by decide) ?_
      refine W_iastore B (hb hby at_162) (pc' := 163) rfl (i := 0) rfl (by decide) (oLt rfl) (ds' := [(b276, oA .int [(.int (20 : Int32)), o0, o0]), (b275, oA .int [(.int (10 : Int32)), (.int (11 : Int32)), (.int (12 : Int32))])]) rfl ?_
      intro T B
      refine W_dup B (hb hby at_163) (pc' := 164) rfl rfl ?_
      refine W_iconst B (hb hby at_164) (pc' := 165) rfl (z := (1 : Int32)) (by decide) ?_
      refine W_bipush B (hb hby at_165) (pc' := 167) rfl (z := (21 : Int32)) (by decide) ?_
      refine W_iastore B (hb hby at_167) (pc' := 168) rfl (i := 0) rfl (by decide) (oLt rfl) (ds' := [(b276, oA .int [(.int (20 : Int32)), (.int (21 : Int32)), o0]), (b275, oA .int [(.int (10 : Int32)), (.int (11 : Int32)), (.int (12 : Int32))])]) rfl ?_
      intro T B
      refine W_dup B (hb hby at_168) (pc' := 169) rfl rfl ?_
      refine W_iconst B (hb hby at_169) (pc' := 170) rfl (z := (2 : Int32)) (by decide) ?_
      refine W_bipush B (hb hby at_170) (pc' := 172) rfl (z := (22 : Int32)) (by decide) ?_
      refine W_iastore B (hb hby at_172) (pc' := 173) rfl (i := 0) rfl (by decide) (oLt rfl) (ds' := [(b276, oA .int [(.int (20 : Int32)), (.int (21 : Int32)), (.int (22 : Int32))]), (b275, oA .int [(.int (10 : Int32)), (.int (11 : Int32)), (.int (12 : Int32))])]) rfl ?_
      intro T B
      refine W_astore B (hb hby at_173) (pc' := 175) rfl rfl (ls' := #[.val (.int a1), .val (.int a2), .val (.int a3), .val (.int a4), .val (.int v121), .val (.int v123), .val (.int v125), .val (.int (1 : Int32)), .val (.int (0 : Int32)), .val (.int v266), .val (.int v121), .val (.int v267), .val (.int v121), .val (.int v268), .val (.int z269), .val (.int v274), .val (.ref b275), .val (.ref b276), .unset, .unset, .unset, .unset, .unset, .unset]) rfl ?_
      refine W_iconst B (hb hby at_175) (pc' := 176) rfl (z := (3 : Int32)) (by decide) ?_
      refine W_newarray B (ow hw (i := 1) rfl) (hb hby at_176) (pc' := 178) rfl (by decide) (cap := 3) (by decide) (by decide) (cells' := 3) rfl (slots' := 9) rfl (vs := [(.int (0 : Int32)), (.int (0 : Int32)), (.int (0 : Int32))]) rfl (ty := .int) rfl ?_
      intro T b277 B
      refine W_dup B (hb hby at_178) (pc' := 179) rfl rfl ?_
      refine W_iconst B (hb hby at_179) (pc' := 180) rfl (z := (0 : Int32)) (by decide) ?_
      refine W_bipush B (hb hby at_180) (pc' := 182) rfl (z := (30 : Int32)) (by decide) ?_
      refine W_iastore B (hb hby at_182) (pc' := 183) rfl (i := 0) rfl (by decide) (oLt rfl) (ds' := [(b277, oA .int [(.int (30 : Int32)), o0, o0]), (b276, oA .int [(.int (20 : Int32)), (.int (21 : Int32)), (.int (22 : Int32))]), (b275, oA .int [(.int (10 : Int32)), (.int (11 : Int32)), (.int (12 : Int32))])]) rfl ?_
      intro T B
      refine W_dup B (hb hby at_183) (pc' := 184) rfl rfl ?_
      refine W_iconst B (hb hby at_184) (pc' := 185) rfl (z := (1 : Int32)) (by decide) ?_
      refine W_bipush B (hb hby at_185) (pc' := 187) rfl (z := (31 : Int32)) (by decide) ?_
      refine W_iastore B (hb hby at_187) (pc' := 188) rfl (i := 0) rfl (by decide) (oLt rfl) (ds' := [(b277, oA .int [(.int (30 : Int32)), (.int (31 : Int32)), o0]), (b276, oA .int [(.int (20 : Int32)), (.int (21 : Int32)), (.int (22 : Int32))]), (b275, oA .int [(.int (10 : Int32)), (.int (11 : Int32)), (.int (12 : Int32))])]) rfl ?_
      intro T B
      refine W_dup B (hb hby at_188) (pc' := 189) rfl rfl ?_
      refine W_iconst B (hb hby at_189) (pc' := 190) rfl (z := (2 : Int32)) (by decide) ?_
      refine W_bipush B (hb hby at_190) (pc' := 192) rfl (z := (32 : Int32)) (by decide) ?_
      refine W_iastore B (hb hby at_192) (pc' := 193) rfl (i := 0) rfl (by decide) (oLt rfl) (ds' := [(b277, oA .int [(.int (30 : Int32)), (.int (31 : Int32)), (.int (32 : Int32))]), (b276, oA .int [(.int (20 : Int32)), (.int (21 : Int32)), (.int (22 : Int32))]), (b275, oA .int [(.int (10 : Int32)), (.int (11 : Int32)), (.int (12 : Int32))])]) rfl ?_
      intro T B
      refine W_astore B (hb hby at_193) (pc' := 195) rfl rfl (ls' := #[.val (.int a1), .val (.int a2), .val (.int a3), .val (.int a4), .val (.int v121), .val (.int v123), .val (.int v125), .val (.int (1 : Int32)), .val (.int (0 : Int32)), .val (.int v266), .val (.int v121), .val (.int v267), .val (.int v121), .val (.int v268), .val (.int z269), .val (.int v274), .val (.ref b275), .val (.ref b276), .val (.ref b277), .unset, .unset, .unset, .unset, .unset]) rfl ?_
      refine W_new B hown (ow hw (i := 2) rfl) (ow hw (i := 3) rfl) (ow hw (i := 4) rfl) (hb hby at_195) (pc' := 198) rfl (by decide) (cells' := 4) rfl (slots' := 16) rfl (fs := [(fk4, .null), (fk5, .null), (fk6, .null), (fk7, .null), (fk8, .null), (fk9, .null), (fk10, .null)]) (oAll_cons ⟨Or.inr (ow hw (i := 41) rfl), (.object "com/example/tanglemark/tanglemark/datalog/Ints"), by decide, rfl⟩ (oAll_cons ⟨Or.inr (ow hw (i := 43) rfl), (.object "com/example/tanglemark/tanglemark/datalog/Ints"), by decide, rfl⟩ (oAll_cons ⟨Or.inr (ow hw (i := 45) rfl), (.object "com/example/tanglemark/tanglemark/datalog/Ints"), by decide, rfl⟩ (oAll_cons ⟨Or.inr (ow hw (i := 47) rfl), (.object "com/example/tanglemark/tanglemark/datalog/Ints"), by decide, rfl⟩ (oAll_cons ⟨Or.inr (ow hw (i := 49) rfl), (.object "com/example/tanglemark/tanglemark/datalog/Ints"), by decide, rfl⟩ (oAll_cons ⟨Or.inr (ow hw (i := 51) rfl), (.object "com/example/tanglemark/tanglemark/datalog/Ints"), by decide, rfl⟩ (oAll_cons ⟨Or.inr (ow hw (i := 53) rfl), (.object "com/example/tanglemark/tanglemark/datalog/Ints"), by decide, rfl⟩ oAll_nil))))))) (by decide) ?_
      intro T b278 B
      refine W_dup B (hb hby at_198) (pc' := 199) rfl rfl ?_
      refine W_ldcStr B hS (n := 16) hown (ow hw (i := 5) rfl) (own_strAtoms hw) (hb hby at_199) (pc' := 201) rfl (by decide) (by decide) (cells' := 6) rfl (slots' := 36) rfl ?_
      intro T sa279 vm_ lo B hS hown
      refine W_init B (y := (⟨"com/example/tanglemark/tanglemark/datalog/SharedSets", "<init>", "(Ljava/lang/String;)V"⟩ : MethodName)) hown rfl (ow hw (i := 13) rfl) (ow hw (i := 14) rfl) (ow hw (i := 4) rfl) (ow hw (i := 15) rfl) (by decide) (a := b278) (rm_sets l Z a0 hw h0 b278 sa279 [(b277, oA .int [(.int (30 : Int32)), (.int (31 : Int32)), (.int (32 : Int32))]), (b276, oA .int [(.int (20 : Int32)), (.int (21 : Int32)), (.int (22 : Int32))]), (b275, oA .int [(.int (10 : Int32)), (.int (11 : Int32)), (.int (12 : Int32))])]) (lenOf pd_2 rfl) (hb hby at_201) (pc' := 204) rfl (argsL := [(.ref sa279)]) (rest := [(.ref b278)]) rfl (by rw [hml]; rfl) (W := 1) (oLe rfl) (by decide) (cells' := 20) rfl (slots' := 176) rfl ?_
      intro T v_ d_ q_ B
      obtain ⟨c280, d281, c282, d283, c284, d285, c286, d287, c288, d289, c290, d291, c292, d293, rfl, rfl⟩ := q_
      show oWin p e below Z h0 _ _ (T.setTop (mkF m 204 #[.val (.int a1), .val (.int a2), .val (.int a3), .val (.int a4), .val (.int v121), .val (.int v123), .val (.int v125), .val (.int (1 : Int32)), .val (.int (0 : Int32)), .val (.int v266), .val (.int v121), .val (.int v267), .val (.int v121), .val (.int v268), .val (.int z269), .val (.int v274), .val (.ref b275), .val (.ref b276), .val (.ref b277), .unset, .unset, .unset, .unset, .unset] [(.ref b278)]))
      refine W_astore B (hb hby at_204) (pc' := 206) rfl rfl (ls' := #[.val (.int a1), .val (.int a2), .val (.int a3), .val (.int a4), .val (.int v121), .val (.int v123), .val (.int v125), .val (.int (1 : Int32)), .val (.int (0 : Int32)), .val (.int v266), .val (.int v121), .val (.int v267), .val (.int v121), .val (.int v268), .val (.int z269), .val (.int v274), .val (.ref b275), .val (.ref b276), .val (.ref b277), .val (.ref b278), .unset, .unset, .unset, .unset]) rfl ?_
      refine W_aload B (hb hby at_206) (pc' := 208) rfl rfl rfl ?_
      refine W_iconst B (hb hby at_208) (pc' := 209) rfl (z := (-1 : Int32)) (by decide) ?_
      refine W_aload B (hb hby at_209) (pc' := 211) rfl rfl rfl ?_
      refine W_iload B (hb hby at_211) (pc' := 213) rfl rfl ?_
      have u296 : 0 ≤ ((0 : Int32)).toInt ∧ ((0 : Int32)).toInt ≤ 6 := by
        have fq1 : ((0 : Int32)).toInt = 0 := rfl
        have fq2 := orI v121
        have fq3 := k122
        have fq4 := orI v123
        have fq5 := k124
        have fq6 := orI v125
        have fq7 := k126
        have fq8 := orI (a2 &&& (1 : Int32))
        have fq9 := orI a2
        have fq10 : ((1 : Int32)).toInt = 1 := rfl
        have fq11 := omaskI a2 (1 : Int32) 1 2 (by decide) (by decide) (by decide)
        have fq12 := oneI c127
        have fq13 := orI (a2 &&& (2 : Int32))
        have fq14 : ((2 : Int32)).toInt = 2 := rfl
        have fq15 := oandI a2 (2 : Int32) (by decide)
        have fq16 := oeqI c265
        have fq17 := orI z269
        have fq18 := orI v266
        have fq19 := orI v267
        have fq20 := oiadd v121 v123
        have fq21 := congrArg Int32.toInt hv267
        have fq22 := orI v268
        have fq23 := oiadd v121 v125
        have fq24 := congrArg Int32.toInt hv268
        have fq25 := hz269
        have fq26 := oneI c273
        omega
      have u297 : 0 ≤ (v121).toInt ∧ (v121).toInt ≤ 3 := by
        have fq1 := orI v121
        have fq2 := k122
        have fq3 := orI v123
        have fq4 := k124
        have fq5 := orI v125
        have fq6 := k126
        have fq7 := orI (a2 &&& (1 : Int32))
        have fq8 := orI a2
        have fq9 : ((1 : Int32)).toInt = 1 := rfl
        have fq10 := omaskI a2 (1 : Int32) 1 2 (by decide) (by decide) (by decide)
        have fq11 : ((0 : Int32)).toInt = 0 := rfl
        have fq12 := oneI c127
        have fq13 := orI (a2 &&& (2 : Int32))
        have fq14 : ((2 : Int32)).toInt = 2 := rfl
        have fq15 := oandI a2 (2 : Int32) (by decide)
        have fq16 := oeqI c265
        have fq17 := orI z269
        have fq18 := orI v266
        have fq19 := orI v267
        have fq20 := oiadd v121 v123
        have fq21 := congrArg Int32.toInt hv267
        have fq22 := orI v268
        have fq23 := oiadd v121 v125
        have fq24 := congrArg Int32.toInt hv268
        have fq25 := hz269
        have fq26 := oneI c273
        omega
      refine W_virtual B (y := (⟨"com/example/tanglemark/tanglemark/datalog/SharedSets", "add", "(I[II)I"⟩ : MethodName)) (z := (⟨"com/example/tanglemark/tanglemark/datalog/SharedSets", "add", "(I[II)I"⟩ : MethodName)) hown (ow hw (i := 54) rfl) (ow hw (i := 55) rfl) (oNotFace B (ow hw (i := 57) rfl) rfl) (ow hw (i := 57) rfl) (ow hw (i := 56) rfl) (ow hw (i := 4) rfl) (ow hw (i := 58) rfl) (by decide) (a := b278) (rm_add0m l Z a0 hw h0 b278 b275 sa279 c280 d281 c282 d283 c284 d285 c286 d287 c288 d289 c290 d291 c292 d293 v121 (0 : Int32) [o0, o0, o0, o0, o0, o0, o0, o0, o0, o0, o0, o0, o0, o0, o0, o0]  (10 : Int32) (11 : Int32) (12 : Int32) (b277, oA .int [(.int (30 : Int32)), (.int (31 : Int32)), (.int (32 : Int32))]) (b276, oA .int [(.int (20 : Int32)), (.int (21 : Int32)), (.int (22 : Int32))]) [] rfl u296 u297) (lenOf pd_5 rfl) (hb hby at_213) (pc' := 216) rfl (argsL := [(.int (-1 : Int32)), (.ref b275), (.int v121)]) (rest := []) rfl (by rw [hml]; rfl) (W := 0) (oLe rfl) (j := 14) rfl (by decide) (cells' := 20) rfl (slots' := 176) rfl ?_
      intro T v_ d_ q_ B
      obtain ⟨us294, n295, q299, q300, rfl, rfl⟩ := q_
      show oWin p e below Z h0 _ _ (T.setTop (mkF m 216 #[.val (.int a1), .val (.int a2), .val (.int a3), .val (.int a4), .val (.int v121), .val (.int v123), .val (.int v125), .val (.int (1 : Int32)), .val (.int (0 : Int32)), .val (.int v266), .val (.int v121), .val (.int v267), .val (.int v121), .val (.int v268), .val (.int z269), .val (.int v274), .val (.ref b275), .val (.ref b276), .val (.ref b277), .val (.ref b278), .unset, .unset, .unset, .unset] [(.int (0 : Int32))]))
      refine W_istore B (hb hby at_216) (pc' := 218) rfl (v := (0 : Int32)) rfl (ls' := #[.val (.int a1), .val (.int a2), .val (.int a3), .val (.int a4), .val (.int v121), .val (.int v123), .val (.int v125), .val (.int (1 : Int32)), .val (.int (0 : Int32)), .val (.int v266), .val (.int v121), .val (.int v267), .val (.int v121), .val (.int v268), .val (.int z269), .val (.int v274), .val (.ref b275), .val (.ref b276), .val (.ref b277), .val (.ref b278), .val (.int (0 : Int32)), .unset, .unset, .unset]) rfl ?_
      refine W_aload B (hb hby at_218) (pc' := 220) rfl rfl rfl ?_
      refine W_iload B (hb hby at_220) (pc' := 222) rfl rfl ?_
      refine W_ifN B (hb hby at_222) (pc' := 225) rfl (by decide) ?_
      refine W_iload B (hb hby at_225) (pc' := 227) rfl rfl ?_
      refine W_goto B (hb hby at_227) (by decide) (pc' := 231) (by decide) ?_
      refine W_aload B (hb hby at_231) (pc' := 233) rfl rfl rfl ?_
      refine W_iload B (hb hby at_233) (pc' := 235) rfl rfl ?_
      have u303 : 0 ≤ (n295).toInt ∧ (n295).toInt ≤ 6 := by
        have fq1 := orI n295
        have fq2 := orI v121
        have fq3 := k122
        have fq4 := orI v123
        have fq5 := k124
        have fq6 := orI v125
        have fq7 := k126
        have fq8 := orI (a2 &&& (1 : Int32))
        have fq9 := orI a2
        have fq10 : ((1 : Int32)).toInt = 1 := rfl
        have fq11 := omaskI a2 (1 : Int32) 1 2 (by decide) (by decide) (by decide)
        have fq12 : ((0 : Int32)).toInt = 0 := rfl
        have fq13 := oneI c127
        have fq14 := orI (a2 &&& (2 : Int32))
        have fq15 : ((2 : Int32)).toInt = 2 := rfl
        have fq16 := oandI a2 (2 : Int32) (by decide)
        have fq17 := oeqI c265
        have fq18 := orI z269
        have fq19 := orI v266
        have fq20 := orI v267
        have fq21 := oiadd v121 v123
        have fq22 := congrArg Int32.toInt hv267
        have fq23 := orI v268
        have fq24 := oiadd v121 v125
        have fq25 := congrArg Int32.toInt hv268
        have fq26 := hz269
        have fq27 := oneI c273
        have fq28 := q300
        omega
      have u304 : 0 ≤ (v123).toInt ∧ (v123).toInt ≤ 3 := by
        have fq1 := orI v123
        have fq2 := orI v121
        have fq3 := k122
        have fq4 := k124
        have fq5 := orI v125
        have fq6 := k126
        have fq7 := orI (a2 &&& (1 : Int32))
        have fq8 := orI a2
        have fq9 : ((1 : Int32)).toInt = 1 := rfl
        have fq10 := omaskI a2 (1 : Int32) 1 2 (by decide) (by decide) (by decide)
        have fq11 : ((0 : Int32)).toInt = 0 := rfl
        have fq12 := oneI c127
        have fq13 := orI (a2 &&& (2 : Int32))
        have fq14 : ((2 : Int32)).toInt = 2 := rfl
        have fq15 := oandI a2 (2 : Int32) (by decide)
        have fq16 := oeqI c265
        have fq17 := orI z269
        have fq18 := orI v266
        have fq19 := orI v267
        have fq20 := oiadd v121 v123
        have fq21 := congrArg Int32.toInt hv267
        have fq22 := orI v268
        have fq23 := oiadd v121 v125
        have fq24 := congrArg Int32.toInt hv268
        have fq25 := hz269
        have fq26 := oneI c273
        have fq27 := orI n295
        have fq28 := q300
        omega
      refine W_virtual B (y := (⟨"com/example/tanglemark/tanglemark/datalog/SharedSets", "add", "(I[II)I"⟩ : MethodName)) (z := (⟨"com/example/tanglemark/tanglemark/datalog/SharedSets", "add", "(I[II)I"⟩ : MethodName)) hown (ow hw (i := 54) rfl) (ow hw (i := 55) rfl) (oNotFace B (ow hw (i := 57) rfl) rfl) (ow hw (i := 57) rfl) (ow hw (i := 56) rfl) (ow hw (i := 4) rfl) (ow hw (i := 58) rfl) (by decide) (a := b278) (rm_add10 l Z a0 hw h0 b278 b276 sa279 c280 d281 c282 d283 c284 d285 c286 d287 c288 d289 c290 d291 c292 d293 v123 n295 us294 (0 : Int32) (0 : Int32) (((0 : Int32) + n295) - (0 : Int32)) (-1 : Int32) (0 : Int32) (1 : Int32) (20 : Int32) (21 : Int32) (22 : Int32) (b277, oA .int [(.int (30 : Int32)), (.int (31 : Int32)), (.int (32 : Int32))]) (b275, oA .int [(.int (10 : Int32)), (.int (11 : Int32)), (.int (12 : Int32))]) [] q299 u303 u304 (by decide)) (lenOf pd_5 rfl) (hb hby at_235) (pc' := 238) rfl (argsL := [(.int (0 : Int32)), (.ref b276), (.int v123)]) (rest := []) rfl (by rw [hml]; rfl) (W := 0) (oLe rfl) (j := 14) rfl (by decide) (cells' := 20) rfl (slots' := 176) rfl ?_
      intro T v_ d_ q_ B
      obtain ⟨us301, n302, q306, q307, rfl, rfl⟩ := q_
      show oWin p e below Z h0 _ _ (T.setTop (mkF m 238 #[.val (.int a1), .val (.int a2), .val (.int a3), .val (.int a4), .val (.int v121), .val (.int v123), .val (.int v125), .val (.int (1 : Int32)), .val (.int (0 : Int32)), .val (.int v266), .val (.int v121), .val (.int v267), .val (.int v121), .val (.int v268), .val (.int z269), .val (.int v274), .val (.ref b275), .val (.ref b276), .val (.ref b277), .val (.ref b278), .val (.int (0 : Int32)), .unset, .unset, .unset] [(.int (1 : Int32))]))
      refine W_istore B (hb hby at_238) (pc' := 240) rfl (v := (1 : Int32)) rfl (ls' := #[.val (.int a1), .val (.int a2), .val (.int a3), .val (.int a4), .val (.int v121), .val (.int v123), .val (.int v125), .val (.int (1 : Int32)), .val (.int (0 : Int32)), .val (.int v266), .val (.int v121), .val (.int v267), .val (.int v121), .val (.int v268), .val (.int z269), .val (.int v274), .val (.ref b275), .val (.ref b276), .val (.ref b277), .val (.ref b278), .val (.int (0 : Int32)), .val (.int (1 : Int32)), .unset, .unset]) rfl ?_
      refine W_aload B (hb hby at_240) (pc' := 242) rfl rfl rfl ?_
      refine W_iload B (hb hby at_242) (pc' := 244) rfl rfl ?_
      refine W_ifY B (hb hby at_244) (by decide) (pc' := 252) (by decide) (by decide) ?_
      refine W_iload B (hb hby at_252) (pc' := 254) rfl rfl ?_
      refine W_aload B (hb hby at_254) (pc' := 256) rfl rfl rfl ?_
      refine W_iload B (hb hby at_256) (pc' := 258) rfl rfl ?_
      have u310 : 0 ≤ (n302).toInt ∧ (n302).toInt ≤ 6 := by
        have fq1 := orI n302
        have fq2 := orI v121
        have fq3 := k122
        have fq4 := orI v123
        have fq5 := k124
        have fq6 := orI v125
        have fq7 := k126
        have fq8 := orI (a2 &&& (1 : Int32))
        have fq9 := orI a2
        have fq10 : ((1 : Int32)).toInt = 1 := rfl
        have fq11 := omaskI a2 (1 : Int32) 1 2 (by decide) (by decide) (by decide)
        have fq12 : ((0 : Int32)).toInt = 0 := rfl
        have fq13 := oneI c127
        have fq14 := orI (a2 &&& (2 : Int32))
        have fq15 : ((2 : Int32)).toInt = 2 := rfl
        have fq16 := oandI a2 (2 : Int32) (by decide)
        have fq17 := oeqI c265
        have fq18 := orI z269
        have fq19 := orI v266
        have fq20 := orI v267
        have fq21 := oiadd v121 v123
        have fq22 := congrArg Int32.toInt hv267
        have fq23 := orI v268
        have fq24 := oiadd v121 v125
        have fq25 := congrArg Int32.toInt hv268
        have fq26 := hz269
        have fq27 := oneI c273
        have fq28 := orI n295
        have fq29 := q300
        have fq30 := q307
        omega
      have u311 : 0 ≤ (v125).toInt ∧ (v125).toInt ≤ 3 := by
        have fq1 := orI v125
        have fq2 := orI v121
        have fq3 := k122
        have fq4 := orI v123
        have fq5 := k124
        have fq6 := k126
        have fq7 := orI (a2 &&& (1 : Int32))
        have fq8 := orI a2
        have fq9 : ((1 : Int32)).toInt = 1 := rfl
        have fq10 := omaskI a2 (1 : Int32) 1 2 (by decide) (by decide) (by decide)
        have fq11 : ((0 : Int32)).toInt = 0 := rfl
        have fq12 := oneI c127
        have fq13 := orI (a2 &&& (2 : Int32))
        have fq14 : ((2 : Int32)).toInt = 2 := rfl
        have fq15 := oandI a2 (2 : Int32) (by decide)
        have fq16 := oeqI c265
        have fq17 := orI z269
        have fq18 := orI v266
        have fq19 := orI v267
        have fq20 := oiadd v121 v123
        have fq21 := congrArg Int32.toInt hv267
        have fq22 := orI v268
        have fq23 := oiadd v121 v125
        have fq24 := congrArg Int32.toInt hv268
        have fq25 := hz269
        have fq26 := oneI c273
        have fq27 := orI n295
        have fq28 := q300
        have fq29 := orI n302
        have fq30 := q307
        omega
      refine W_virtual B (y := (⟨"com/example/tanglemark/tanglemark/datalog/SharedSets", "add", "(I[II)I"⟩ : MethodName)) (z := (⟨"com/example/tanglemark/tanglemark/datalog/SharedSets", "add", "(I[II)I"⟩ : MethodName)) hown (ow hw (i := 54) rfl) (ow hw (i := 55) rfl) (oNotFace B (ow hw (i := 57) rfl) rfl) (ow hw (i := 57) rfl) (ow hw (i := 56) rfl) (ow hw (i := 4) rfl) (ow hw (i := 58) rfl) (by decide) (a := b278) (rm_add20 l Z a0 hw h0 b278 b277 sa279 c280 d281 c282 d283 c284 d285 c286 d287 c288 d289 c290 d291 c292 d293 v125 n302 us301 (0 : Int32) n295 (0 : Int32) (((0 : Int32) + n295) - (0 : Int32)) (((0 : Int32) + n295) - (0 : Int32)) (((((0 : Int32) + n295) - (0 : Int32)) + n302) - n295) (-1 : Int32) (0 : Int32) (0 : Int32) (0 : Int32) (1 : Int32) (2 : Int32) (30 : Int32) (31 : Int32) (32 : Int32) (b276, oA .int [(.int (20 : Int32)), (.int (21 : Int32)), (.int (22 : Int32))]) (b275, oA .int [(.int (10 : Int32)), (.int (11 : Int32)), (.int (12 : Int32))]) [] q306 u310 u311 (by decide)) (lenOf pd_5 rfl) (hb hby at_258) (pc' := 261) rfl (argsL := [(.int (0 : Int32)), (.ref b277), (.int v125)]) (rest := []) rfl (by rw [hml]; rfl) (W := 0) (oLe rfl) (j := 14) rfl (by decide) (cells' := 20) rfl (slots' := 176) rfl ?_
      intro T v_ d_ q_ B
      obtain ⟨us308, n309, q313, q314, rfl, rfl⟩ := q_
      show oWin p e below Z h0 _ _ (T.setTop (mkF m 261 #[.val (.int a1), .val (.int a2), .val (.int a3), .val (.int a4), .val (.int v121), .val (.int v123), .val (.int v125), .val (.int (1 : Int32)), .val (.int (0 : Int32)), .val (.int v266), .val (.int v121), .val (.int v267), .val (.int v121), .val (.int v268), .val (.int z269), .val (.int v274), .val (.ref b275), .val (.ref b276), .val (.ref b277), .val (.ref b278), .val (.int (0 : Int32)), .val (.int (1 : Int32)), .unset, .unset] [(.int (2 : Int32))]))
      refine W_istore B (hb hby at_261) (pc' := 263) rfl (v := (2 : Int32)) rfl (ls' := #[.val (.int a1), .val (.int a2), .val (.int a3), .val (.int a4), .val (.int v121), .val (.int v123), .val (.int v125), .val (.int (1 : Int32)), .val (.int (0 : Int32)), .val (.int v266), .val (.int v121), .val (.int v267), .val (.int v121), .val (.int v268), .val (.int z269), .val (.int v274), .val (.ref b275), .val (.ref b276), .val (.ref b277), .val (.ref b278), .val (.int (0 : Int32)), .val (.int (1 : Int32)), .val (.int (2 : Int32)), .unset]) rfl ?_
      refine W_iload B (hb hby at_263) (pc' := 265) rfl rfl ?_
      refine W_ifN B (hb hby at_265) (pc' := 268) rfl (by decide) ?_
      refine W_iload B (hb hby at_268) (pc' := 270) rfl rfl ?_
      refine W_iconst B (hb hby at_270) (pc' := 271) rfl (z := (1 : Int32)) (by decide) ?_
      refine W_icmpN B (hb hby at_271) (pc' := 274) rfl (by decide) ?_
      refine W_iload B (hb hby at_274) (pc' := 276) rfl rfl ?_
      refine W_iconst B (hb hby at_276) (pc' := 277) rfl (z := (2 : Int32)) (by decide) ?_
      refine W_icmpY B (hb hby at_277) (by decide) (pc' := 282) (by decide) (by decide) ?_
      rcases own_c3 hv266 with rfl | rfl | rfl
      · refine W_iload B (hb hby at_282) (pc' := 284) rfl rfl ?_
        refine W_ifN B (hb hby at_284) (pc' := 287) rfl (by decide) ?_
        refine W_iconst B (hb hby at_287) (pc' := 288) rfl (z := (0 : Int32)) (by decide) ?_
        refine W_istore B (hb hby at_288) (pc' := 290) rfl (v := (0 : Int32)) rfl (ls' := #[.val (.int a1), .val (.int a2), .val (.int a3), .val (.int a4), .val (.int v121), .val (.int v123), .val (.int v125), .val (.int (1 : Int32)), .val (.int (0 : Int32)), .val (.int (0 : Int32)), .val (.int v121), .val (.int v267), .val (.int v121), .val (.int v268), .val (.int z269), .val (.int v274), .val (.ref b275), .val (.ref b276), .val (.ref b277), .val (.ref b278), .val (.int (0 : Int32)), .val (.int (1 : Int32)), .val (.int (2 : Int32)), .val (.int (0 : Int32))]) rfl ?_
        refine W_goto B (hb hby at_290) (by decide) (pc' := 364) (by decide) ?_
        refine W_aload B (hb hby at_364) (pc' := 366) rfl rfl rfl ?_
        refine W_iload B (hb hby at_366) (pc' := 368) rfl rfl ?_
        refine W_iload B (hb hby at_368) (pc' := 370) rfl rfl ?_
        have n315 : ¬ v274 < (0 : Int32) := by
          refine onltI_i ?_
          have fq1 := orI v274
          have fq2 := orI ((a4 &&& (2147483647 : Int32)) % z269)
          have fq3 := orI (a4 &&& (2147483647 : Int32))
          have fq4 := orI a4
          have fq5 : ((2147483647 : Int32)).toInt = 2147483647 := rfl
          have fq6 := omaskI a4 (2147483647 : Int32) 31 2147483648 (by decide) (by decide) (by decide)
          have fq7 := orI z269
          have fq8 := oiremV (a4 &&& (2147483647 : Int32)) z269
          have fq9 := congrArg Int32.toInt hv274
          have fq10 : ((0 : Int32)).toInt = 0 := rfl
          have fq11 := orI v121
          have fq12 := k122
          have fq13 := orI v123
          have fq14 := k124
          have fq15 := orI v125
          have fq16 := k126
          have fq17 := orI (a2 &&& (1 : Int32))
          have fq18 := orI a2
          have fq19 : ((1 : Int32)).toInt = 1 := rfl
          have fq20 := omaskI a2 (1 : Int32) 1 2 (by decide) (by decide) (by decide)
          have fq21 := oneI c127
          have fq22 := orI (a2 &&& (2 : Int32))
          have fq23 : ((2 : Int32)).toInt = 2 := rfl
          have fq24 := oandI a2 (2 : Int32) (by decide)
          have fq25 := oeqI c265
          have fq26 := orI v267
          have fq27 := oiadd v121 v123
          have fq28 := congrArg Int32.toInt hv267
          have fq29 := orI v268
          have fq30 := oiadd v121 v125
          have fq31 := congrArg Int32.toInt hv268
          have fq32 := hz269
          have fq33 := oneI c273
          have fq34 := orI n295
          have fq35 := q300
          have fq36 := orI n302
          have fq37 := q307
          have fq38 := orI n309
          have fq39 := q314
          omega
        refine W_virtual B (y := (⟨"com/example/tanglemark/tanglemark/datalog/SharedSets", "holder", "(II)I"⟩ : MethodName)) (z := (⟨"com/example/tanglemark/tanglemark/datalog/SharedSets", "holder", "(II)I"⟩ : MethodName)) hown (ow hw (i := 73) rfl) (ow hw (i := 74) rfl) (oNotFace B (ow hw (i := 76) rfl) rfl) (ow hw (i := 76) rfl) (ow hw (i := 75) rfl) (ow hw (i := 4) rfl) (ow hw (i := 77) rfl) (by decide) (a := b278) (rm_ho100 l Z a0 hw h0 b278 sa279 c280 d281 c282 d283 c284 d285 c286 d287 c288 d289 c290 d291 c292 d293 v274 n309 us308 (0 : Int32) n295 n302 (((0 : Int32) + n295) - (0 : Int32)) (((0 : Int32) + n295) - (0 : Int32)) (((0 : Int32) + n295) - (0 : Int32)) (((((0 : Int32) + n295) - (0 : Int32)) + n302) - n295) (((((0 : Int32) + n295) - (0 : Int32)) + n309) - n302) (1 : Int32) (2 : Int32) (2 : Int32) [(b277, oA .int [(.int (30 : Int32)), (.int (31 : Int32)), (.int (32 : Int32))]), (b276, oA .int [(.int (20 : Int32)), (.int (21 : Int32)), (.int (22 : Int32))]), (b275, oA .int [(.int (10 : Int32)), (.int (11 : Int32)), (.int (12 : Int32))])] n315) (lenOf pd_0 rfl) (hb hby at_370) (pc' := 373) rfl (argsL := [(.int (0 : Int32)), (.int v274)]) (rest := []) rfl (by rw [hml]; rfl) (W := 0) (oLe rfl) (j := 14) rfl (by decide) (cells' := 20) rfl (slots' := 176) rfl ?_
        intro T v_ d_ q_ B
        rcases q_ with ⟨q316, rfl, rfl⟩ | ⟨q317, rfl, rfl⟩
        · show oWin p e below Z h0 _ _ (T.setTop (mkF m 373 #[.val (.int a1), .val (.int a2), .val (.int a3), .val (.int a4), .val (.int v121), .val (.int v123), .val (.int v125), .val (.int (1 : Int32)), .val (.int (0 : Int32)), .val (.int (0 : Int32)), .val (.int v121), .val (.int v267), .val (.int v121), .val (.int v268), .val (.int z269), .val (.int v274), .val (.ref b275), .val (.ref b276), .val (.ref b277), .val (.ref b278), .val (.int (0 : Int32)), .val (.int (1 : Int32)), .val (.int (2 : Int32)), .val (.int (0 : Int32))] [(.int (0 : Int32))]))
          refine W_iload B (hb hby at_373) (pc' := 375) rfl rfl ?_
          refine W_icmpN B (hb hby at_375) (pc' := 378) rfl (by decide) ?_
          refine W_iconst B (hb hby at_378) (pc' := 379) rfl (z := (1 : Int32)) (by decide) ?_
          refine W_goto B (hb hby at_379) (by decide) (pc' := 383) (by decide) ?_
          refine W_retNW B hS hret (by simp) (hb hby at_383) (by decide) ?_
          rfl
        show oWin p e below Z h0 _ _ (T.setTop (mkF m 373 #[.val (.int a1), .val (.int a2), .val (.int a3), .val (.int a4), .val (.int v121), .val (.int v123), .val (.int v125), .val (.int (1 : Int32)), .val (.int (0 : Int32)), .val (.int (0 : Int32)), .val (.int v121), .val (.int v267), .val (.int v121), .val (.int v268), .val (.int z269), .val (.int v274), .val (.ref b275), .val (.ref b276), .val (.ref b277), .val (.ref b278), .val (.int (0 : Int32)), .val (.int (1 : Int32)), .val (.int (2 : Int32)), .val (.int (0 : Int32))] [(.int (0 : Int32))]))
        refine W_iload B (hb hby at_373) (pc' := 375) rfl rfl ?_
        refine W_icmpN B (hb hby at_375) (pc' := 378) rfl (by decide) ?_
        refine W_iconst B (hb hby at_378) (pc' := 379) rfl (z := (1 : Int32)) (by decide) ?_
        refine W_goto B (hb hby at_379) (by decide) (pc' := 383) (by decide) ?_
        refine W_retNW B hS hret (by simp) (hb hby at_383) (by decide) ?_
        rfl
      · refine W_iload B (hb hby at_282) (pc' := 284) rfl rfl ?_
        refine W_ifY B (hb hby at_284) (by decide) (pc' := 293) (by decide) (by decide) ?_
        refine W_iload B (hb hby at_293) (pc' := 295) rfl rfl ?_
        refine W_iconst B (hb hby at_295) (pc' := 296) rfl (z := (1 : Int32)) (by decide) ?_
        refine W_icmpN B (hb hby at_296) (pc' := 299) rfl (by decide) ?_
        refine W_iload B (hb hby at_299) (pc' := 301) rfl rfl ?_
        refine W_ifN B (hb hby at_301) (pc' := 304) rfl (by decide) ?_
        refine W_iload B (hb hby at_304) (pc' := 306) rfl rfl ?_
        refine W_iload B (hb hby at_306) (pc' := 308) rfl rfl ?_
        refine W_icmp_ge B (hb hby at_308) (by decide) (pt := 315) (by decide) (pc' := 311) rfl (fun (c318 : ¬ v274 < v121) => ?_) (fun (c318 : v274 < v121) => ?_)
        · refine W_iconst B (hb hby at_315) (pc' := 316) rfl (z := (1 : Int32)) (by decide) ?_
          refine W_istore B (hb hby at_316) (pc' := 318) rfl (v := (1 : Int32)) rfl (ls' := #[.val (.int a1), .val (.int a2), .val (.int a3), .val (.int a4), .val (.int v121), .val (.int v123), .val (.int v125), .val (.int (1 : Int32)), .val (.int (0 : Int32)), .val (.int (1 : Int32)), .val (.int v121), .val (.int v267), .val (.int v121), .val (.int v268), .val (.int z269), .val (.int v274), .val (.ref b275), .val (.ref b276), .val (.ref b277), .val (.ref b278), .val (.int (0 : Int32)), .val (.int (1 : Int32)), .val (.int (2 : Int32)), .val (.int (1 : Int32))]) rfl ?_
          refine W_goto B (hb hby at_318) (by decide) (pc' := 364) (by decide) ?_
          refine W_aload B (hb hby at_364) (pc' := 366) rfl rfl rfl ?_
          refine W_iload B (hb hby at_366) (pc' := 368) rfl rfl ?_
          refine W_iload B (hb hby at_368) (pc' := 370) rfl rfl ?_
          have n319 : ¬ v274 < (0 : Int32) := by
            refine onltI_i ?_
            have fq1 := orI v274
            have fq2 := orI ((a4 &&& (2147483647 : Int32)) % z269)
            have fq3 := orI (a4 &&& (2147483647 : Int32))
            have fq4 := orI a4
            have fq5 : ((2147483647 : Int32)).toInt = 2147483647 := rfl
            have fq6 := omaskI a4 (2147483647 : Int32) 31 2147483648 (by decide) (by decide) (by decide)
            have fq7 := orI z269
            have fq8 := oiremV (a4 &&& (2147483647 : Int32)) z269
            have fq9 := congrArg Int32.toInt hv274
            have fq10 : ((0 : Int32)).toInt = 0 := rfl
            have fq11 := orI v121
            have fq12 := k122
            have fq13 := orI v123
            have fq14 := k124
            have fq15 := orI v125
            have fq16 := k126
            have fq17 := orI (a2 &&& (1 : Int32))
            have fq18 := orI a2
            have fq19 : ((1 : Int32)).toInt = 1 := rfl
            have fq20 := omaskI a2 (1 : Int32) 1 2 (by decide) (by decide) (by decide)
            have fq21 := oneI c127
            have fq22 := orI (a2 &&& (2 : Int32))
            have fq23 : ((2 : Int32)).toInt = 2 := rfl
            have fq24 := oandI a2 (2 : Int32) (by decide)
            have fq25 := oeqI c265
            have fq26 := orI v267
            have fq27 := oiadd v121 v123
            have fq28 := congrArg Int32.toInt hv267
            have fq29 := orI v268
            have fq30 := oiadd v121 v125
            have fq31 := congrArg Int32.toInt hv268
            have fq32 := hz269
            have fq33 := oneI c273
            have fq34 := orI n295
            have fq35 := q300
            have fq36 := orI n302
            have fq37 := q307
            have fq38 := orI n309
            have fq39 := q314
            have fq40 := onltI c318
            omega
          refine W_virtual B (y := (⟨"com/example/tanglemark/tanglemark/datalog/SharedSets", "holder", "(II)I"⟩ : MethodName)) (z := (⟨"com/example/tanglemark/tanglemark/datalog/SharedSets", "holder", "(II)I"⟩ : MethodName)) hown (ow hw (i := 73) rfl) (ow hw (i := 74) rfl) (oNotFace B (ow hw (i := 76) rfl) rfl) (ow hw (i := 76) rfl) (ow hw (i := 75) rfl) (ow hw (i := 4) rfl) (ow hw (i := 77) rfl) (by decide) (a := b278) (rm_ho101 l Z a0 hw h0 b278 sa279 c280 d281 c282 d283 c284 d285 c286 d287 c288 d289 c290 d291 c292 d293 v274 n309 us308 (0 : Int32) n295 n302 (((0 : Int32) + n295) - (0 : Int32)) (((0 : Int32) + n295) - (0 : Int32)) (((0 : Int32) + n295) - (0 : Int32)) (((((0 : Int32) + n295) - (0 : Int32)) + n302) - n295) (((((0 : Int32) + n295) - (0 : Int32)) + n309) - n302) (1 : Int32) (2 : Int32) (2 : Int32) [(b277, oA .int [(.int (30 : Int32)), (.int (31 : Int32)), (.int (32 : Int32))]), (b276, oA .int [(.int (20 : Int32)), (.int (21 : Int32)), (.int (22 : Int32))]), (b275, oA .int [(.int (10 : Int32)), (.int (11 : Int32)), (.int (12 : Int32))])] n319) (lenOf pd_0 rfl) (hb hby at_370) (pc' := 373) rfl (argsL := [(.int (1 : Int32)), (.int v274)]) (rest := []) rfl (by rw [hml]; rfl) (W := 0) (oLe rfl) (j := 14) rfl (by decide) (cells' := 20) rfl (slots' := 176) rfl ?_
          intro T v_ d_ q_ B
          rcases q_ with ⟨q320, rfl, rfl⟩ | ⟨q321, q322, rfl, rfl⟩ | ⟨q323, q324, rfl, rfl⟩
          · show oWin p e below Z h0 _ _ (T.setTop (mkF m 373 #[.val (.int a1), .val (.int a2), .val (.int a3), .val (.int a4), .val (.int v121), .val (.int v123), .val (.int v125), .val (.int (1 : Int32)), .val (.int (0 : Int32)), .val (.int (1 : Int32)), .val (.int v121), .val (.int v267), .val (.int v121), .val (.int v268), .val (.int z269), .val (.int v274), .val (.ref b275), .val (.ref b276), .val (.ref b277), .val (.ref b278), .val (.int (0 : Int32)), .val (.int (1 : Int32)), .val (.int (2 : Int32)), .val (.int (1 : Int32))] [(.int (0 : Int32))]))
            refine W_iload B (hb hby at_373) (pc' := 375) rfl rfl ?_
            refine W_icmpY B (hb hby at_375) (by decide) (pc' := 382) (by decide) (by decide) ?_
            refine W_iconst B (hb hby at_382) (pc' := 383) rfl (z := (0 : Int32)) (by decide) ?_
            refine W_retNW B hS hret (by simp) (hb hby at_383) (by decide) ?_
            exfalso
            have fq1 := orI v121
            have fq2 := k122
            have fq3 := orI v123
            have fq4 := k124
            have fq5 := orI v125
            have fq6 := k126
            have fq7 := orI (a2 &&& (1 : Int32))
            have fq8 := orI a2
            have fq9 : ((1 : Int32)).toInt = 1 := rfl
            have fq10 := omaskI a2 (1 : Int32) 1 2 (by decide) (by decide) (by decide)
            have fq11 : ((0 : Int32)).toInt = 0 := rfl
            have fq12 := oneI c127
            have fq13 := orI (a2 &&& (2 : Int32))
            have fq14 : ((2 : Int32)).toInt = 2 := rfl
            have fq15 := oandI a2 (2 : Int32) (by decide)
            have fq16 := oeqI c265
            have fq17 := orI z269
            have fq18 := orI v267
            have fq19 := oiadd v121 v123
            have fq20 := congrArg Int32.toInt hv267
            have fq21 := orI v268
            have fq22 := oiadd v121 v125
            have fq23 := congrArg Int32.toInt hv268
            have fq24 := hz269
            have fq25 := oneI c273
            have fq26 := orI n295
            have fq27 := q300
            have fq28 := orI n302
            have fq29 := q307
            have fq30 := orI n309
            have fq31 := q314
            have fq32 := orI v274
            have fq33 := orI ((a4 &&& (2147483647 : Int32)) % z269)
            have fq34 := orI (a4 &&& (2147483647 : Int32))
            have fq35 := orI a4
            have fq36 : ((2147483647 : Int32)).toInt = 2147483647 := rfl
            have fq37 := omaskI a4 (2147483647 : Int32) 31 2147483648 (by decide) (by decide) (by decide)
            have fq38 := oiremV (a4 &&& (2147483647 : Int32)) z269
            have fq39 := congrArg Int32.toInt hv274
            have fq40 := onltI c318
            have fq41 := onltI n319
            have fq42 := oiadd (0 : Int32) n295
            have fq43 := oisub ((0 : Int32) + n295) (0 : Int32)
            have fq44 := oltI q320
            omega
          · show oWin p e below Z h0 _ _ (T.setTop (mkF m 373 #[.val (.int a1), .val (.int a2), .val (.int a3), .val (.int a4), .val (.int v121), .val (.int v123), .val (.int v125), .val (.int (1 : Int32)), .val (.int (0 : Int32)), .val (.int (1 : Int32)), .val (.int v121), .val (.int v267), .val (.int v121), .val (.int v268), .val (.int z269), .val (.int v274), .val (.ref b275), .val (.ref b276), .val (.ref b277), .val (.ref b278), .val (.int (0 : Int32)), .val (.int (1 : Int32)), .val (.int (2 : Int32)), .val (.int (1 : Int32))] [(.int (1 : Int32))]))
            refine W_iload B (hb hby at_373) (pc' := 375) rfl rfl ?_
            refine W_icmpN B (hb hby at_375) (pc' := 378) rfl (by decide) ?_
            refine W_iconst B (hb hby at_378) (pc' := 379) rfl (z := (1 : Int32)) (by decide) ?_
            refine W_goto B (hb hby at_379) (by decide) (pc' := 383) (by decide) ?_
            refine W_retNW B hS hret (by simp) (hb hby at_383) (by decide) ?_
            rfl
          show oWin p e below Z h0 _ _ (T.setTop (mkF m 373 #[.val (.int a1), .val (.int a2), .val (.int a3), .val (.int a4), .val (.int v121), .val (.int v123), .val (.int v125), .val (.int (1 : Int32)), .val (.int (0 : Int32)), .val (.int (1 : Int32)), .val (.int v121), .val (.int v267), .val (.int v121), .val (.int v268), .val (.int z269), .val (.int v274), .val (.ref b275), .val (.ref b276), .val (.ref b277), .val (.ref b278), .val (.int (0 : Int32)), .val (.int (1 : Int32)), .val (.int (2 : Int32)), .val (.int (1 : Int32))] [(.int (0 : Int32))]))
          refine W_iload B (hb hby at_373) (pc' := 375) rfl rfl ?_
          refine W_icmpY B (hb hby at_375) (by decide) (pc' := 382) (by decide) (by decide) ?_
          refine W_iconst B (hb hby at_382) (pc' := 383) rfl (z := (0 : Int32)) (by decide) ?_
          refine W_retNW B hS hret (by simp) (hb hby at_383) (by decide) ?_
          exfalso
          have fq1 := orI v121
          have fq2 := k122
          have fq3 := orI v123
          have fq4 := k124
          have fq5 := orI v125
          have fq6 := k126
          have fq7 := orI (a2 &&& (1 : Int32))
          have fq8 := orI a2
          have fq9 : ((1 : Int32)).toInt = 1 := rfl
          have fq10 := omaskI a2 (1 : Int32) 1 2 (by decide) (by decide) (by decide)
          have fq11 : ((0 : Int32)).toInt = 0 := rfl
          have fq12 := oneI c127
          have fq13 := orI (a2 &&& (2 : Int32))
          have fq14 : ((2 : Int32)).toInt = 2 := rfl
          have fq15 := oandI a2 (2 : Int32) (by decide)
          have fq16 := oeqI c265
          have fq17 := orI z269
          have fq18 := orI v267
          have fq19 := oiadd v121 v123
          have fq20 := congrArg Int32.toInt hv267
          have fq21 := orI v268
          have fq22 := oiadd v121 v125
          have fq23 := congrArg Int32.toInt hv268
          have fq24 := hz269
          have fq25 := oneI c273
          have fq26 := orI n295
          have fq27 := q300
          have fq28 := orI n302
          have fq29 := q307
          have fq30 := orI n309
          have fq31 := q314
          have fq32 := orI v274
          have fq33 := orI ((a4 &&& (2147483647 : Int32)) % z269)
          have fq34 := orI (a4 &&& (2147483647 : Int32))
          have fq35 := orI a4
          have fq36 : ((2147483647 : Int32)).toInt = 2147483647 := rfl
          have fq37 := omaskI a4 (2147483647 : Int32) 31 2147483648 (by decide) (by decide) (by decide)
          have fq38 := oiremV (a4 &&& (2147483647 : Int32)) z269
          have fq39 := congrArg Int32.toInt hv274
          have fq40 := onltI c318
          have fq41 := onltI n319
          have fq42 := oiadd (0 : Int32) n295
          have fq43 := oisub ((0 : Int32) + n295) (0 : Int32)
          have fq44 := onltI q323
          have fq45 := oltI q324
          omega
        refine W_iconst B (hb hby at_311) (pc' := 312) rfl (z := (0 : Int32)) (by decide) ?_
        refine W_goto B (hb hby at_312) (by decide) (pc' := 316) (by decide) ?_
        refine W_istore B (hb hby at_316) (pc' := 318) rfl (v := (0 : Int32)) rfl (ls' := #[.val (.int a1), .val (.int a2), .val (.int a3), .val (.int a4), .val (.int v121), .val (.int v123), .val (.int v125), .val (.int (1 : Int32)), .val (.int (0 : Int32)), .val (.int (1 : Int32)), .val (.int v121), .val (.int v267), .val (.int v121), .val (.int v268), .val (.int z269), .val (.int v274), .val (.ref b275), .val (.ref b276), .val (.ref b277), .val (.ref b278), .val (.int (0 : Int32)), .val (.int (1 : Int32)), .val (.int (2 : Int32)), .val (.int (0 : Int32))]) rfl ?_
        refine W_goto B (hb hby at_318) (by decide) (pc' := 364) (by decide) ?_
        refine W_aload B (hb hby at_364) (pc' := 366) rfl rfl rfl ?_
        refine W_iload B (hb hby at_366) (pc' := 368) rfl rfl ?_
        refine W_iload B (hb hby at_368) (pc' := 370) rfl rfl ?_
        have n325 : ¬ v274 < (0 : Int32) := by
          refine onltI_i ?_
          have fq1 := orI v274
          have fq2 := orI ((a4 &&& (2147483647 : Int32)) % z269)
          have fq3 := orI (a4 &&& (2147483647 : Int32))
          have fq4 := orI a4
          have fq5 : ((2147483647 : Int32)).toInt = 2147483647 := rfl
          have fq6 := omaskI a4 (2147483647 : Int32) 31 2147483648 (by decide) (by decide) (by decide)
          have fq7 := orI z269
          have fq8 := oiremV (a4 &&& (2147483647 : Int32)) z269
          have fq9 := congrArg Int32.toInt hv274
          have fq10 : ((0 : Int32)).toInt = 0 := rfl
          have fq11 := orI v121
          have fq12 := k122
          have fq13 := orI v123
          have fq14 := k124
          have fq15 := orI v125
          have fq16 := k126
          have fq17 := orI (a2 &&& (1 : Int32))
          have fq18 := orI a2
          have fq19 : ((1 : Int32)).toInt = 1 := rfl
          have fq20 := omaskI a2 (1 : Int32) 1 2 (by decide) (by decide) (by decide)
          have fq21 := oneI c127
          have fq22 := orI (a2 &&& (2 : Int32))
          have fq23 : ((2 : Int32)).toInt = 2 := rfl
          have fq24 := oandI a2 (2 : Int32) (by decide)
          have fq25 := oeqI c265
          have fq26 := orI v267
          have fq27 := oiadd v121 v123
          have fq28 := congrArg Int32.toInt hv267
          have fq29 := orI v268
          have fq30 := oiadd v121 v125
          have fq31 := congrArg Int32.toInt hv268
          have fq32 := hz269
          have fq33 := oneI c273
          have fq34 := orI n295
          have fq35 := q300
          have fq36 := orI n302
          have fq37 := q307
          have fq38 := orI n309
          have fq39 := q314
          have fq40 := oltI c318
          omega
        refine W_virtual B (y := (⟨"com/example/tanglemark/tanglemark/datalog/SharedSets", "holder", "(II)I"⟩ : MethodName)) (z := (⟨"com/example/tanglemark/tanglemark/datalog/SharedSets", "holder", "(II)I"⟩ : MethodName)) hown (ow hw (i := 73) rfl) (ow hw (i := 74) rfl) (oNotFace B (ow hw (i := 76) rfl) rfl) (ow hw (i := 76) rfl) (ow hw (i := 75) rfl) (ow hw (i := 4) rfl) (ow hw (i := 77) rfl) (by decide) (a := b278) (rm_ho101 l Z a0 hw h0 b278 sa279 c280 d281 c282 d283 c284 d285 c286 d287 c288 d289 c290 d291 c292 d293 v274 n309 us308 (0 : Int32) n295 n302 (((0 : Int32) + n295) - (0 : Int32)) (((0 : Int32) + n295) - (0 : Int32)) (((0 : Int32) + n295) - (0 : Int32)) (((((0 : Int32) + n295) - (0 : Int32)) + n302) - n295) (((((0 : Int32) + n295) - (0 : Int32)) + n309) - n302) (1 : Int32) (2 : Int32) (2 : Int32) [(b277, oA .int [(.int (30 : Int32)), (.int (31 : Int32)), (.int (32 : Int32))]), (b276, oA .int [(.int (20 : Int32)), (.int (21 : Int32)), (.int (22 : Int32))]), (b275, oA .int [(.int (10 : Int32)), (.int (11 : Int32)), (.int (12 : Int32))])] n325) (lenOf pd_0 rfl) (hb hby at_370) (pc' := 373) rfl (argsL := [(.int (1 : Int32)), (.int v274)]) (rest := []) rfl (by rw [hml]; rfl) (W := 0) (oLe rfl) (j := 14) rfl (by decide) (cells' := 20) rfl (slots' := 176) rfl ?_
        intro T v_ d_ q_ B
        rcases q_ with ⟨q326, rfl, rfl⟩ | ⟨q327, q328, rfl, rfl⟩ | ⟨q329, q330, rfl, rfl⟩
        · show oWin p e below Z h0 _ _ (T.setTop (mkF m 373 #[.val (.int a1), .val (.int a2), .val (.int a3), .val (.int a4), .val (.int v121), .val (.int v123), .val (.int v125), .val (.int (1 : Int32)), .val (.int (0 : Int32)), .val (.int (1 : Int32)), .val (.int v121), .val (.int v267), .val (.int v121), .val (.int v268), .val (.int z269), .val (.int v274), .val (.ref b275), .val (.ref b276), .val (.ref b277), .val (.ref b278), .val (.int (0 : Int32)), .val (.int (1 : Int32)), .val (.int (2 : Int32)), .val (.int (0 : Int32))] [(.int (0 : Int32))]))
          refine W_iload B (hb hby at_373) (pc' := 375) rfl rfl ?_
          refine W_icmpN B (hb hby at_375) (pc' := 378) rfl (by decide) ?_
          refine W_iconst B (hb hby at_378) (pc' := 379) rfl (z := (1 : Int32)) (by decide) ?_
          refine W_goto B (hb hby at_379) (by decide) (pc' := 383) (by decide) ?_
          refine W_retNW B hS hret (by simp) (hb hby at_383) (by decide) ?_
          rfl
        · show oWin p e below Z h0 _ _ (T.setTop (mkF m 373 #[.val (.int a1), .val (.int a2), .val (.int a3), .val (.int a4), .val (.int v121), .val (.int v123), .val (.int v125), .val (.int (1 : Int32)), .val (.int (0 : Int32)), .val (.int (1 : Int32)), .val (.int v121), .val (.int v267), .val (.int v121), .val (.int v268), .val (.int z269), .val (.int v274), .val (.ref b275), .val (.ref b276), .val (.ref b277), .val (.ref b278), .val (.int (0 : Int32)), .val (.int (1 : Int32)), .val (.int (2 : Int32)), .val (.int (0 : Int32))] [(.int (1 : Int32))]))
          refine W_iload B (hb hby at_373) (pc' := 375) rfl rfl ?_
          refine W_icmpY B (hb hby at_375) (by decide) (pc' := 382) (by decide) (by decide) ?_
          refine W_iconst B (hb hby at_382) (pc' := 383) rfl (z := (0 : Int32)) (by decide) ?_
          refine W_retNW B hS hret (by simp) (hb hby at_383) (by decide) ?_
          exfalso
          have fq1 := orI v121
          have fq2 := k122
          have fq3 := orI v123
          have fq4 := k124
          have fq5 := orI v125
          have fq6 := k126
          have fq7 := orI (a2 &&& (1 : Int32))
          have fq8 := orI a2
          have fq9 : ((1 : Int32)).toInt = 1 := rfl
          have fq10 := omaskI a2 (1 : Int32) 1 2 (by decide) (by decide) (by decide)
          have fq11 : ((0 : Int32)).toInt = 0 := rfl
          have fq12 := oneI c127
          have fq13 := orI (a2 &&& (2 : Int32))
          have fq14 : ((2 : Int32)).toInt = 2 := rfl
          have fq15 := oandI a2 (2 : Int32) (by decide)
          have fq16 := oeqI c265
          have fq17 := orI z269
          have fq18 := orI v267
          have fq19 := oiadd v121 v123
          have fq20 := congrArg Int32.toInt hv267
          have fq21 := orI v268
          have fq22 := oiadd v121 v125
          have fq23 := congrArg Int32.toInt hv268
          have fq24 := hz269
          have fq25 := oneI c273
          have fq26 := orI n295
          have fq27 := q300
          have fq28 := orI n302
          have fq29 := q307
          have fq30 := orI n309
          have fq31 := q314
          have fq32 := orI v274
          have fq33 := orI ((a4 &&& (2147483647 : Int32)) % z269)
          have fq34 := orI (a4 &&& (2147483647 : Int32))
          have fq35 := orI a4
          have fq36 : ((2147483647 : Int32)).toInt = 2147483647 := rfl
          have fq37 := omaskI a4 (2147483647 : Int32) 31 2147483648 (by decide) (by decide) (by decide)
          have fq38 := oiremV (a4 &&& (2147483647 : Int32)) z269
          have fq39 := congrArg Int32.toInt hv274
          have fq40 := oltI c318
          have fq41 := onltI n325
          have fq42 := oiadd (0 : Int32) n295
          have fq43 := oisub ((0 : Int32) + n295) (0 : Int32)
          have fq44 := onltI q327
          have fq45 := onltI q328
          omega
        show oWin p e below Z h0 _ _ (T.setTop (mkF m 373 #[.val (.int a1), .val (.int a2), .val (.int a3), .val (.int a4), .val (.int v121), .val (.int v123), .val (.int v125), .val (.int (1 : Int32)), .val (.int (0 : Int32)), .val (.int (1 : Int32)), .val (.int v121), .val (.int v267), .val (.int v121), .val (.int v268), .val (.int z269), .val (.int v274), .val (.ref b275), .val (.ref b276), .val (.ref b277), .val (.ref b278), .val (.int (0 : Int32)), .val (.int (1 : Int32)), .val (.int (2 : Int32)), .val (.int (0 : Int32))] [(.int (0 : Int32))]))
        refine W_iload B (hb hby at_373) (pc' := 375) rfl rfl ?_
        refine W_icmpN B (hb hby at_375) (pc' := 378) rfl (by decide) ?_
        refine W_iconst B (hb hby at_378) (pc' := 379) rfl (z := (1 : Int32)) (by decide) ?_
        refine W_goto B (hb hby at_379) (by decide) (pc' := 383) (by decide) ?_
        refine W_retNW B hS hret (by simp) (hb hby at_383) (by decide) ?_
        rfl
      refine W_iload B (hb hby at_282) (pc' := 284) rfl rfl ?_
      refine W_ifY B (hb hby at_284) (by decide) (pc' := 293) (by decide) (by decide) ?_
      refine W_iload B (hb hby at_293) (pc' := 295) rfl rfl ?_
      refine W_iconst B (hb hby at_295) (pc' := 296) rfl (z := (1 : Int32)) (by decide) ?_
      refine W_icmpY B (hb hby at_296) (by decide) (pc' := 321) (by decide) (by decide) ?_
      refine W_iload B (hb hby at_321) (pc' := 323) rfl rfl ?_
      refine W_iload B (hb hby at_323) (pc' := 325) rfl rfl ?_
      refine W_icmp_lt B (hb hby at_325) (by decide) (pt := 334) (by decide) (pc' := 328) rfl (fun (c331 : v274 < v121) => ?_) (fun (c331 : ¬ v274 < v121) => ?_)
      · refine W_iload B (hb hby at_334) (pc' := 336) rfl rfl ?_
        refine W_ifY B (hb hby at_336) (by decide) (pc' := 361) (by decide) (by decide) ?_
        refine W_iconst B (hb hby at_361) (pc' := 362) rfl (z := (0 : Int32)) (by decide) ?_
        refine W_istore B (hb hby at_362) (pc' := 364) rfl (v := (0 : Int32)) rfl (ls' := #[.val (.int a1), .val (.int a2), .val (.int a3), .val (.int a4), .val (.int v121), .val (.int v123), .val (.int v125), .val (.int (1 : Int32)), .val (.int (0 : Int32)), .val (.int (2 : Int32)), .val (.int v121), .val (.int v267), .val (.int v121), .val (.int v268), .val (.int z269), .val (.int v274), .val (.ref b275), .val (.ref b276), .val (.ref b277), .val (.ref b278), .val (.int (0 : Int32)), .val (.int (1 : Int32)), .val (.int (2 : Int32)), .val (.int (0 : Int32))]) rfl ?_
        refine W_aload B (hb hby at_364) (pc' := 366) rfl rfl rfl ?_
        refine W_iload B (hb hby at_366) (pc' := 368) rfl rfl ?_
        refine W_iload B (hb hby at_368) (pc' := 370) rfl rfl ?_
        have n332 : ¬ v274 < (0 : Int32) := by
          refine onltI_i ?_
          have fq1 := orI v274
          have fq2 := orI ((a4 &&& (2147483647 : Int32)) % z269)
          have fq3 := orI (a4 &&& (2147483647 : Int32))
          have fq4 := orI a4
          have fq5 : ((2147483647 : Int32)).toInt = 2147483647 := rfl
          have fq6 := omaskI a4 (2147483647 : Int32) 31 2147483648 (by decide) (by decide) (by decide)
          have fq7 := orI z269
          have fq8 := oiremV (a4 &&& (2147483647 : Int32)) z269
          have fq9 := congrArg Int32.toInt hv274
          have fq10 : ((0 : Int32)).toInt = 0 := rfl
          have fq11 := orI v121
          have fq12 := k122
          have fq13 := orI v123
          have fq14 := k124
          have fq15 := orI v125
          have fq16 := k126
          have fq17 := orI (a2 &&& (1 : Int32))
          have fq18 := orI a2
          have fq19 : ((1 : Int32)).toInt = 1 := rfl
          have fq20 := omaskI a2 (1 : Int32) 1 2 (by decide) (by decide) (by decide)
          have fq21 := oneI c127
          have fq22 := orI (a2 &&& (2 : Int32))
          have fq23 : ((2 : Int32)).toInt = 2 := rfl
          have fq24 := oandI a2 (2 : Int32) (by decide)
          have fq25 := oeqI c265
          have fq26 := orI v267
          have fq27 := oiadd v121 v123
          have fq28 := congrArg Int32.toInt hv267
          have fq29 := orI v268
          have fq30 := oiadd v121 v125
          have fq31 := congrArg Int32.toInt hv268
          have fq32 := hz269
          have fq33 := oneI c273
          have fq34 := orI n295
          have fq35 := q300
          have fq36 := orI n302
          have fq37 := q307
          have fq38 := orI n309
          have fq39 := q314
          have fq40 := oltI c331
          omega
        refine W_virtual B (y := (⟨"com/example/tanglemark/tanglemark/datalog/SharedSets", "holder", "(II)I"⟩ : MethodName)) (z := (⟨"com/example/tanglemark/tanglemark/datalog/SharedSets", "holder", "(II)I"⟩ : MethodName)) hown (ow hw (i := 73) rfl) (ow hw (i := 74) rfl) (oNotFace B (ow hw (i := 76) rfl) rfl) (ow hw (i := 76) rfl) (ow hw (i := 75) rfl) (ow hw (i := 4) rfl) (ow hw (i := 77) rfl) (by decide) (a := b278) (rm_ho102 l Z a0 hw h0 b278 sa279 c280 d281 c282 d283 c284 d285 c286 d287 c288 d289 c290 d291 c292 d293 v274 n309 us308 (0 : Int32) n295 n302 (((0 : Int32) + n295) - (0 : Int32)) (((0 : Int32) + n295) - (0 : Int32)) (((0 : Int32) + n295) - (0 : Int32)) (((((0 : Int32) + n295) - (0 : Int32)) + n302) - n295) (((((0 : Int32) + n295) - (0 : Int32)) + n309) - n302) (1 : Int32) (2 : Int32) (2 : Int32) [(b277, oA .int [(.int (30 : Int32)), (.int (31 : Int32)), (.int (32 : Int32))]), (b276, oA .int [(.int (20 : Int32)), (.int (21 : Int32)), (.int (22 : Int32))]), (b275, oA .int [(.int (10 : Int32)), (.int (11 : Int32)), (.int (12 : Int32))])] n332) (lenOf pd_0 rfl) (hb hby at_370) (pc' := 373) rfl (argsL := [(.int (2 : Int32)), (.int v274)]) (rest := []) rfl (by rw [hml]; rfl) (W := 0) (oLe rfl) (j := 14) rfl (by decide) (cells' := 20) rfl (slots' := 176) rfl ?_
        intro T v_ d_ q_ B
        rcases q_ with ⟨q333, rfl, rfl⟩ | ⟨q334, q335, rfl, rfl⟩ | ⟨q336, q337, rfl, rfl⟩
        · show oWin p e below Z h0 _ _ (T.setTop (mkF m 373 #[.val (.int a1), .val (.int a2), .val (.int a3), .val (.int a4), .val (.int v121), .val (.int v123), .val (.int v125), .val (.int (1 : Int32)), .val (.int (0 : Int32)), .val (.int (2 : Int32)), .val (.int v121), .val (.int v267), .val (.int v121), .val (.int v268), .val (.int z269), .val (.int v274), .val (.ref b275), .val (.ref b276), .val (.ref b277), .val (.ref b278), .val (.int (0 : Int32)), .val (.int (1 : Int32)), .val (.int (2 : Int32)), .val (.int (0 : Int32))] [(.int (0 : Int32))]))
          refine W_iload B (hb hby at_373) (pc' := 375) rfl rfl ?_
          refine W_icmpN B (hb hby at_375) (pc' := 378) rfl (by decide) ?_
          refine W_iconst B (hb hby at_378) (pc' := 379) rfl (z := (1 : Int32)) (by decide) ?_
          refine W_goto B (hb hby at_379) (by decide) (pc' := 383) (by decide) ?_
          refine W_retNW B hS hret (by simp) (hb hby at_383) (by decide) ?_
          rfl
        · show oWin p e below Z h0 _ _ (T.setTop (mkF m 373 #[.val (.int a1), .val (.int a2), .val (.int a3), .val (.int a4), .val (.int v121), .val (.int v123), .val (.int v125), .val (.int (1 : Int32)), .val (.int (0 : Int32)), .val (.int (2 : Int32)), .val (.int v121), .val (.int v267), .val (.int v121), .val (.int v268), .val (.int z269), .val (.int v274), .val (.ref b275), .val (.ref b276), .val (.ref b277), .val (.ref b278), .val (.int (0 : Int32)), .val (.int (1 : Int32)), .val (.int (2 : Int32)), .val (.int (0 : Int32))] [(.int (2 : Int32))]))
          refine W_iload B (hb hby at_373) (pc' := 375) rfl rfl ?_
          refine W_icmpY B (hb hby at_375) (by decide) (pc' := 382) (by decide) (by decide) ?_
          refine W_iconst B (hb hby at_382) (pc' := 383) rfl (z := (0 : Int32)) (by decide) ?_
          refine W_retNW B hS hret (by simp) (hb hby at_383) (by decide) ?_
          exfalso
          have fq1 := orI v121
          have fq2 := k122
          have fq3 := orI v123
          have fq4 := k124
          have fq5 := orI v125
          have fq6 := k126
          have fq7 := orI (a2 &&& (1 : Int32))
          have fq8 := orI a2
          have fq9 : ((1 : Int32)).toInt = 1 := rfl
          have fq10 := omaskI a2 (1 : Int32) 1 2 (by decide) (by decide) (by decide)
          have fq11 : ((0 : Int32)).toInt = 0 := rfl
          have fq12 := oneI c127
          have fq13 := orI (a2 &&& (2 : Int32))
          have fq14 : ((2 : Int32)).toInt = 2 := rfl
          have fq15 := oandI a2 (2 : Int32) (by decide)
          have fq16 := oeqI c265
          have fq17 := orI z269
          have fq18 := orI v267
          have fq19 := oiadd v121 v123
          have fq20 := congrArg Int32.toInt hv267
          have fq21 := orI v268
          have fq22 := oiadd v121 v125
          have fq23 := congrArg Int32.toInt hv268
          have fq24 := hz269
          have fq25 := oneI c273
          have fq26 := orI n295
          have fq27 := q300
          have fq28 := orI n302
          have fq29 := q307
          have fq30 := orI n309
          have fq31 := q314
          have fq32 := orI v274
          have fq33 := orI ((a4 &&& (2147483647 : Int32)) % z269)
          have fq34 := orI (a4 &&& (2147483647 : Int32))
          have fq35 := orI a4
          have fq36 : ((2147483647 : Int32)).toInt = 2147483647 := rfl
          have fq37 := omaskI a4 (2147483647 : Int32) 31 2147483648 (by decide) (by decide) (by decide)
          have fq38 := oiremV (a4 &&& (2147483647 : Int32)) z269
          have fq39 := congrArg Int32.toInt hv274
          have fq40 := oltI c331
          have fq41 := onltI n332
          have fq42 := oiadd (0 : Int32) n295
          have fq43 := oisub ((0 : Int32) + n295) (0 : Int32)
          have fq44 := onltI q334
          have fq45 := onltI q335
          omega
        show oWin p e below Z h0 _ _ (T.setTop (mkF m 373 #[.val (.int a1), .val (.int a2), .val (.int a3), .val (.int a4), .val (.int v121), .val (.int v123), .val (.int v125), .val (.int (1 : Int32)), .val (.int (0 : Int32)), .val (.int (2 : Int32)), .val (.int v121), .val (.int v267), .val (.int v121), .val (.int v268), .val (.int z269), .val (.int v274), .val (.ref b275), .val (.ref b276), .val (.ref b277), .val (.ref b278), .val (.int (0 : Int32)), .val (.int (1 : Int32)), .val (.int (2 : Int32)), .val (.int (0 : Int32))] [(.int (0 : Int32))]))
        refine W_iload B (hb hby at_373) (pc' := 375) rfl rfl ?_
        refine W_icmpN B (hb hby at_375) (pc' := 378) rfl (by decide) ?_
        refine W_iconst B (hb hby at_378) (pc' := 379) rfl (z := (1 : Int32)) (by decide) ?_
        refine W_goto B (hb hby at_379) (by decide) (pc' := 383) (by decide) ?_
        refine W_retNW B hS hret (by simp) (hb hby at_383) (by decide) ?_
        rfl
      refine W_iconst B (hb hby at_328) (pc' := 329) rfl (z := (2 : Int32)) (by decide) ?_
      refine W_istore B (hb hby at_329) (pc' := 331) rfl (v := (2 : Int32)) rfl (ls' := #[.val (.int a1), .val (.int a2), .val (.int a3), .val (.int a4), .val (.int v121), .val (.int v123), .val (.int v125), .val (.int (1 : Int32)), .val (.int (0 : Int32)), .val (.int (2 : Int32)), .val (.int v121), .val (.int v267), .val (.int v121), .val (.int v268), .val (.int z269), .val (.int v274), .val (.ref b275), .val (.ref b276), .val (.ref b277), .val (.ref b278), .val (.int (0 : Int32)), .val (.int (1 : Int32)), .val (.int (2 : Int32)), .val (.int (2 : Int32))]) rfl ?_
      refine W_goto B (hb hby at_331) (by decide) (pc' := 364) (by decide) ?_
      refine W_aload B (hb hby at_364) (pc' := 366) rfl rfl rfl ?_
      refine W_iload B (hb hby at_366) (pc' := 368) rfl rfl ?_
      refine W_iload B (hb hby at_368) (pc' := 370) rfl rfl ?_
      have n338 : ¬ v274 < (0 : Int32) := by
        refine onltI_i ?_
        have fq1 := orI v274
        have fq2 := orI ((a4 &&& (2147483647 : Int32)) % z269)
        have fq3 := orI (a4 &&& (2147483647 : Int32))
        have fq4 := orI a4
        have fq5 : ((2147483647 : Int32)).toInt = 2147483647 := rfl
        have fq6 := omaskI a4 (2147483647 : Int32) 31 2147483648 (by decide) (by decide) (by decide)
        have fq7 := orI z269
        have fq8 := oiremV (a4 &&& (2147483647 : Int32)) z269
        have fq9 := congrArg Int32.toInt hv274
        have fq10 : ((0 : Int32)).toInt = 0 := rfl
        have fq11 := orI v121
        have fq12 := k122
        have fq13 := orI v123
        have fq14 := k124
        have fq15 := orI v125
        have fq16 := k126
        have fq17 := orI (a2 &&& (1 : Int32))
        have fq18 := orI a2
        have fq19 : ((1 : Int32)).toInt = 1 := rfl
        have fq20 := omaskI a2 (1 : Int32) 1 2 (by decide) (by decide) (by decide)
        have fq21 := oneI c127
        have fq22 := orI (a2 &&& (2 : Int32))
        have fq23 : ((2 : Int32)).toInt = 2 := rfl
        have fq24 := oandI a2 (2 : Int32) (by decide)
        have fq25 := oeqI c265
        have fq26 := orI v267
        have fq27 := oiadd v121 v123
        have fq28 := congrArg Int32.toInt hv267
        have fq29 := orI v268
        have fq30 := oiadd v121 v125
        have fq31 := congrArg Int32.toInt hv268
        have fq32 := hz269
        have fq33 := oneI c273
        have fq34 := orI n295
        have fq35 := q300
        have fq36 := orI n302
        have fq37 := q307
        have fq38 := orI n309
        have fq39 := q314
        have fq40 := onltI c331
        omega
      refine W_virtual B (y := (⟨"com/example/tanglemark/tanglemark/datalog/SharedSets", "holder", "(II)I"⟩ : MethodName)) (z := (⟨"com/example/tanglemark/tanglemark/datalog/SharedSets", "holder", "(II)I"⟩ : MethodName)) hown (ow hw (i := 73) rfl) (ow hw (i := 74) rfl) (oNotFace B (ow hw (i := 76) rfl) rfl) (ow hw (i := 76) rfl) (ow hw (i := 75) rfl) (ow hw (i := 4) rfl) (ow hw (i := 77) rfl) (by decide) (a := b278) (rm_ho102 l Z a0 hw h0 b278 sa279 c280 d281 c282 d283 c284 d285 c286 d287 c288 d289 c290 d291 c292 d293 v274 n309 us308 (0 : Int32) n295 n302 (((0 : Int32) + n295) - (0 : Int32)) (((0 : Int32) + n295) - (0 : Int32)) (((0 : Int32) + n295) - (0 : Int32)) (((((0 : Int32) + n295) - (0 : Int32)) + n302) - n295) (((((0 : Int32) + n295) - (0 : Int32)) + n309) - n302) (1 : Int32) (2 : Int32) (2 : Int32) [(b277, oA .int [(.int (30 : Int32)), (.int (31 : Int32)), (.int (32 : Int32))]), (b276, oA .int [(.int (20 : Int32)), (.int (21 : Int32)), (.int (22 : Int32))]), (b275, oA .int [(.int (10 : Int32)), (.int (11 : Int32)), (.int (12 : Int32))])] n338) (lenOf pd_0 rfl) (hb hby at_370) (pc' := 373) rfl (argsL := [(.int (2 : Int32)), (.int v274)]) (rest := []) rfl (by rw [hml]; rfl) (W := 0) (oLe rfl) (j := 14) rfl (by decide) (cells' := 20) rfl (slots' := 176) rfl ?_
      intro T v_ d_ q_ B
      rcases q_ with ⟨q339, rfl, rfl⟩ | ⟨q340, q341, rfl, rfl⟩ | ⟨q342, q343, rfl, rfl⟩
      · show oWin p e below Z h0 _ _ (T.setTop (mkF m 373 #[.val (.int a1), .val (.int a2), .val (.int a3), .val (.int a4), .val (.int v121), .val (.int v123), .val (.int v125), .val (.int (1 : Int32)), .val (.int (0 : Int32)), .val (.int (2 : Int32)), .val (.int v121), .val (.int v267), .val (.int v121), .val (.int v268), .val (.int z269), .val (.int v274), .val (.ref b275), .val (.ref b276), .val (.ref b277), .val (.ref b278), .val (.int (0 : Int32)), .val (.int (1 : Int32)), .val (.int (2 : Int32)), .val (.int (2 : Int32))] [(.int (0 : Int32))]))
        refine W_iload B (hb hby at_373) (pc' := 375) rfl rfl ?_
        refine W_icmpY B (hb hby at_375) (by decide) (pc' := 382) (by decide) (by decide) ?_
        refine W_iconst B (hb hby at_382) (pc' := 383) rfl (z := (0 : Int32)) (by decide) ?_
        refine W_retNW B hS hret (by simp) (hb hby at_383) (by decide) ?_
        exfalso
        have fq1 := orI v121
        have fq2 := k122
        have fq3 := orI v123
        have fq4 := k124
        have fq5 := orI v125
        have fq6 := k126
        have fq7 := orI (a2 &&& (1 : Int32))
        have fq8 := orI a2
        have fq9 : ((1 : Int32)).toInt = 1 := rfl
        have fq10 := omaskI a2 (1 : Int32) 1 2 (by decide) (by decide) (by decide)
        have fq11 : ((0 : Int32)).toInt = 0 := rfl
        have fq12 := oneI c127
        have fq13 := orI (a2 &&& (2 : Int32))
        have fq14 : ((2 : Int32)).toInt = 2 := rfl
        have fq15 := oandI a2 (2 : Int32) (by decide)
        have fq16 := oeqI c265
        have fq17 := orI z269
        have fq18 := orI v267
        have fq19 := oiadd v121 v123
        have fq20 := congrArg Int32.toInt hv267
        have fq21 := orI v268
        have fq22 := oiadd v121 v125
        have fq23 := congrArg Int32.toInt hv268
        have fq24 := hz269
        have fq25 := oneI c273
        have fq26 := orI n295
        have fq27 := q300
        have fq28 := orI n302
        have fq29 := q307
        have fq30 := orI n309
        have fq31 := q314
        have fq32 := orI v274
        have fq33 := orI ((a4 &&& (2147483647 : Int32)) % z269)
        have fq34 := orI (a4 &&& (2147483647 : Int32))
        have fq35 := orI a4
        have fq36 : ((2147483647 : Int32)).toInt = 2147483647 := rfl
        have fq37 := omaskI a4 (2147483647 : Int32) 31 2147483648 (by decide) (by decide) (by decide)
        have fq38 := oiremV (a4 &&& (2147483647 : Int32)) z269
        have fq39 := congrArg Int32.toInt hv274
        have fq40 := onltI c331
        have fq41 := onltI n338
        have fq42 := oiadd (0 : Int32) n295
        have fq43 := oisub ((0 : Int32) + n295) (0 : Int32)
        have fq44 := oltI q339
        omega
      · show oWin p e below Z h0 _ _ (T.setTop (mkF m 373 #[.val (.int a1), .val (.int a2), .val (.int a3), .val (.int a4), .val (.int v121), .val (.int v123), .val (.int v125), .val (.int (1 : Int32)), .val (.int (0 : Int32)), .val (.int (2 : Int32)), .val (.int v121), .val (.int v267), .val (.int v121), .val (.int v268), .val (.int z269), .val (.int v274), .val (.ref b275), .val (.ref b276), .val (.ref b277), .val (.ref b278), .val (.int (0 : Int32)), .val (.int (1 : Int32)), .val (.int (2 : Int32)), .val (.int (2 : Int32))] [(.int (2 : Int32))]))
        refine W_iload B (hb hby at_373) (pc' := 375) rfl rfl ?_
        refine W_icmpN B (hb hby at_375) (pc' := 378) rfl (by decide) ?_
        refine W_iconst B (hb hby at_378) (pc' := 379) rfl (z := (1 : Int32)) (by decide) ?_
        refine W_goto B (hb hby at_379) (by decide) (pc' := 383) (by decide) ?_
        refine W_retNW B hS hret (by simp) (hb hby at_383) (by decide) ?_
        rfl
      show oWin p e below Z h0 _ _ (T.setTop (mkF m 373 #[.val (.int a1), .val (.int a2), .val (.int a3), .val (.int a4), .val (.int v121), .val (.int v123), .val (.int v125), .val (.int (1 : Int32)), .val (.int (0 : Int32)), .val (.int (2 : Int32)), .val (.int v121), .val (.int v267), .val (.int v121), .val (.int v268), .val (.int z269), .val (.int v274), .val (.ref b275), .val (.ref b276), .val (.ref b277), .val (.ref b278), .val (.int (0 : Int32)), .val (.int (1 : Int32)), .val (.int (2 : Int32)), .val (.int (2 : Int32))] [(.int (0 : Int32))]))
      refine W_iload B (hb hby at_373) (pc' := 375) rfl rfl ?_
      refine W_icmpY B (hb hby at_375) (by decide) (pc' := 382) (by decide) (by decide) ?_
      refine W_iconst B (hb hby at_382) (pc' := 383) rfl (z := (0 : Int32)) (by decide) ?_
      refine W_retNW B hS hret (by simp) (hb hby at_383) (by decide) ?_
      exfalso
      have fq1 := orI v121
      have fq2 := k122
      have fq3 := orI v123
      have fq4 := k124
      have fq5 := orI v125
      have fq6 := k126
      have fq7 := orI (a2 &&& (1 : Int32))
      have fq8 := orI a2
      have fq9 : ((1 : Int32)).toInt = 1 := rfl
      have fq10 := omaskI a2 (1 : Int32) 1 2 (by decide) (by decide) (by decide)
      have fq11 : ((0 : Int32)).toInt = 0 := rfl
      have fq12 := oneI c127
      have fq13 := orI (a2 &&& (2 : Int32))
      have fq14 : ((2 : Int32)).toInt = 2 := rfl
      have fq15 := oandI a2 (2 : Int32) (by decide)
      have fq16 := oeqI c265
      have fq17 := orI z269
      have fq18 := orI v267
      have fq19 := oiadd v121 v123
      have fq20 := congrArg Int32.toInt hv267
      have fq21 := orI v268
      have fq22 := oiadd v121 v125
      have fq23 := congrArg Int32.toInt hv268
      have fq24 := hz269
      have fq25 := oneI c273
      have fq26 := orI n295
      have fq27 := q300
      have fq28 := orI n302
      have fq29 := q307
      have fq30 := orI n309
      have fq31 := q314
      have fq32 := orI v274
      have fq33 := orI ((a4 &&& (2147483647 : Int32)) % z269)
      have fq34 := orI (a4 &&& (2147483647 : Int32))
      have fq35 := orI a4
      have fq36 : ((2147483647 : Int32)).toInt = 2147483647 := rfl
      have fq37 := omaskI a4 (2147483647 : Int32) 31 2147483648 (by decide) (by decide) (by decide)
      have fq38 := oiremV (a4 &&& (2147483647 : Int32)) z269
      have fq39 := congrArg Int32.toInt hv274
      have fq40 := onltI c331
      have fq41 := onltI n338
      have fq42 := oiadd (0 : Int32) n295
      have fq43 := oisub ((0 : Int32) + n295) (0 : Int32)
      have fq44 := onltI q342
      have fq45 := oltI q343
      omega
    refine W_iconst B (hb hby at_124) (pc' := 125) rfl (z := (1 : Int32)) (by decide) ?_
    refine W_retNW B hS hret (by simp) (hb hby at_125) (by decide) ?_
    rfl
  refine W_iconst B (hb hby at_38) (pc' := 39) rfl (z := (1 : Int32)) (by decide) ?_
  refine W_goto B (hb hby at_39) (by decide) (pc' := 43) (by decide) ?_
  refine W_istore B (hb hby at_43) (pc' := 45) rfl (v := (1 : Int32)) rfl (ls' := #[.val (.int a1), .val (.int a2), .val (.int a3), .val (.int a4), .val (.int v121), .val (.int v123), .val (.int v125), .val (.int (1 : Int32)), .val (.int (1 : Int32)), .unset, .unset, .unset, .unset, .unset, .unset, .unset, .unset, .unset, .unset, .unset, .unset, .unset, .unset, .unset]) rfl ?_
  refine W_iloadN B (hb hby at_45) (pc' := 46) rfl rfl ?_
  refine W_ldcInt B hown (ow hw (i := 0) rfl) (hb hby at_46) (pc' := 48) rfl ?_
  refine W_iand B (hb hby at_48) (pc' := 49) rfl (z := (a3 &&& (2147483647 : Int32))) rfl ?_
  refine W_iconst B (hb hby at_49) (pc' := 50) rfl (z := (3 : Int32)) (by decide) ?_
  refine W_irem B (hb hby at_50) (pc' := 51) rfl (by decide) (z := ((a3 &&& (2147483647 : Int32)) % (3 : Int32))) rfl ?_
  obtain ⟨v344, hv344⟩ : ∃ z : Int32, z = ((a3 &&& (2147483647 : Int32)) % (3 : Int32)) := ⟨_, rfl⟩
  refine W_istore B (hb hby at_51) (pc' := 53) rfl (v := v344) hv344.symm (ls' := #[.val (.int a1), .val (.int a2), .val (.int a3), .val (.int a4), .val (.int v121), .val (.int v123), .val (.int v125), .val (.int (1 : Int32)), .val (.int (1 : Int32)), .val (.int v344), .unset, .unset, .unset, .unset, .unset, .unset, .unset, .unset, .unset, .unset, .unset, .unset, .unset, .unset]) rfl ?_
  refine W_iload B (hb hby at_53) (pc' := 55) rfl rfl ?_
  refine W_ifN B (hb hby at_55) (pc' := 58) rfl (by decide) ?_
  refine W_iload B (hb hby at_58) (pc' := 60) rfl rfl ?_
  refine W_goto B (hb hby at_60) (by decide) (pc' := 64) (by decide) ?_
  refine W_istore B (hb hby at_64) (pc' := 66) rfl (v := v121) rfl (ls' := #[.val (.int a1), .val (.int a2), .val (.int a3), .val (.int a4), .val (.int v121), .val (.int v123), .val (.int v125), .val (.int (1 : Int32)), .val (.int (1 : Int32)), .val (.int v344), .val (.int v121), .unset, .unset, .unset, .unset, .unset, .unset, .unset, .unset, .unset, .unset, .unset, .unset, .unset]) rfl ?_
  refine W_iload B (hb hby at_66) (pc' := 68) rfl rfl ?_
  refine W_iload B (hb hby at_68) (pc' := 70) rfl rfl ?_
  refine W_iadd B (hb hby at_70) (pc' := 71) rfl (z := (v121 + v123)) rfl ?_
  obtain ⟨v345, hv345⟩ : ∃ z : Int32, z = (v121 + v123) := ⟨_, rfl⟩
  refine W_istore B (hb hby at_71) (pc' := 73) rfl (v := v345) hv345.symm (ls' := #[.val (.int a1), .val (.int a2), .val (.int a3), .val (.int a4), .val (.int v121), .val (.int v123), .val (.int v125), .val (.int (1 : Int32)), .val (.int (1 : Int32)), .val (.int v344), .val (.int v121), .val (.int v345), .unset, .unset, .unset, .unset, .unset, .unset, .unset, .unset, .unset, .unset, .unset, .unset]) rfl ?_
  refine W_iload B (hb hby at_73) (pc' := 75) rfl rfl ?_
  refine W_ifN B (hb hby at_75) (pc' := 78) rfl (by decide) ?_
  refine W_iload B (hb hby at_78) (pc' := 80) rfl rfl ?_
  refine W_goto B (hb hby at_80) (by decide) (pc' := 85) (by decide) ?_
  refine W_istore B (hb hby at_85) (pc' := 87) rfl (v := v345) rfl (ls' := #[.val (.int a1), .val (.int a2), .val (.int a3), .val (.int a4), .val (.int v121), .val (.int v123), .val (.int v125), .val (.int (1 : Int32)), .val (.int (1 : Int32)), .val (.int v344), .val (.int v121), .val (.int v345), .val (.int v345), .unset, .unset, .unset, .unset, .unset, .unset, .unset, .unset, .unset, .unset, .unset]) rfl ?_
  refine W_iload B (hb hby at_87) (pc' := 89) rfl rfl ?_
  refine W_iload B (hb hby at_89) (pc' := 91) rfl rfl ?_
  refine W_iadd B (hb hby at_91) (pc' := 92) rfl (z := (v345 + v125)) rfl ?_
  obtain ⟨v346, hv346⟩ : ∃ z : Int32, z = (v345 + v125) := ⟨_, rfl⟩
  refine W_istore B (hb hby at_92) (pc' := 94) rfl (v := v346) hv346.symm (ls' := #[.val (.int a1), .val (.int a2), .val (.int a3), .val (.int a4), .val (.int v121), .val (.int v123), .val (.int v125), .val (.int (1 : Int32)), .val (.int (1 : Int32)), .val (.int v344), .val (.int v121), .val (.int v345), .val (.int v345), .val (.int v346), .unset, .unset, .unset, .unset, .unset, .unset, .unset, .unset, .unset, .unset]) rfl ?_
  have k348 : v344.toInt = 0 ∨ v344.toInt = 1 ∨ v344.toInt = 2 := (own_c3 hv344).imp (fun e => by rw [e]; rfl) fun t => t.imp (fun e => by rw [e]; rfl) fun e => by rw [e]; rfl
  refine oJoin B (fun z347 : Int32 => (v344.toInt = 0 ∧ z347.toInt = (v121).toInt) ∨ (v344.toInt = 1 ∧ z347.toInt = (v345).toInt) ∨ (v344.toInt = 2 ∧ z347.toInt = (v346).toInt)) (fun z347 => (mkF m 117 #[.val (.int a1), .val (.int a2), .val (.int a3), .val (.int a4), .val (.int v121), .val (.int v123), .val (.int v125), .val (.int (1 : Int32)), .val (.int (1 : Int32)), .val (.int v344), .val (.int v121), .val (.int v345), .val (.int v345), .val (.int v346), .unset, .unset, .unset, .unset, .unset, .unset, .unset, .unset, .unset, .unset] [(.int z347)])) ?_ ?_
  · intro kJ
    refine W_iload B (hb hby at_94) (pc' := 96) rfl rfl ?_
    refine W_if_ne B (hb hby at_96) (by decide) (pt := 104) (by decide) (pc' := 99) rfl (fun (c349 : ¬ v344 = (0 : Int32)) => ?_) (fun (c349 : v344 = (0 : Int32)) => ?_)
    · refine W_iload B (hb hby at_104) (pc' := 106) rfl rfl ?_
      refine W_iconst B (hb hby at_106) (pc' := 107) rfl (z := (1 : Int32)) (by decide) ?_
      refine W_icmp_ne B (hb hby at_107) (by decide) (pt := 115) (by decide) (pc' := 110) rfl (fun (c350 : ¬ v344 = (1 : Int32)) => ?_) (fun (c350 : v344 = (1 : Int32)) => ?_)
      · refine W_iload B (hb hby at_115) (pc' := 117) rfl rfl ?_
        refine kJ _ _ ?_ B
        have fq1 := orI v346
        have fq2 := orI v345
        have fq3 := orI v121
        have fq4 := orI v123
        have fq5 := oiadd v121 v123
        have fq6 := congrArg Int32.toInt hv345
        have fq7 := orI v125
        have fq8 := oiadd v345 v125
        have fq9 := congrArg Int32.toInt hv346
        have fq10 := orI v344
        have fq11 := k348
        have fq12 : ((0 : Int32)).toInt = 0 := rfl
        have fq13 := oneI c349
        have fq14 : ((1 : Int32)).toInt = 1 := rfl
        have fq15 := oneI c350
        omega
      refine W_iload B (hb hby at_110) (pc' := 112) rfl rfl ?_
      refine W_goto B (hb hby at_112) (by decide) (pc' := 117) (by decide) ?_
      refine kJ _ _ ?_ B
      have fq1 := orI v345
      have fq2 := orI v121
      have fq3 := orI v123
      have fq4 := oiadd v121 v123
      have fq5 := congrArg Int32.toInt hv345
      have fq6 := orI v344
      have fq7 := k348
      have fq8 : ((0 : Int32)).toInt = 0 := rfl
      have fq9 := oneI c349
      have fq10 : ((1 : Int32)).toInt = 1 := rfl
      have fq11 := oeqI c350
      omega
    refine W_iload B (hb hby at_99) (pc' := 101) rfl rfl ?_
    refine W_goto B (hb hby at_101) (by decide) (pc' := 117) (by decide) ?_
    refine kJ _ _ ?_ B
    have fq1 := orI v121
    have fq2 := orI v344
    have fq3 := k348
    have fq4 : ((0 : Int32)).toInt = 0 := rfl
    have fq5 := oeqI c349
    omega
  intro z347 T hz347 B
  refine W_istore B (hb hby at_117) (pc' := 119) rfl (v := z347) rfl (ls' := #[.val (.int a1), .val (.int a2), .val (.int a3), .val (.int a4), .val (.int v121), .val (.int v123), .val (.int v125), .val (.int (1 : Int32)), .val (.int (1 : Int32)), .val (.int v344), .val (.int v121), .val (.int v345), .val (.int v345), .val (.int v346), .val (.int z347), .unset, .unset, .unset, .unset, .unset, .unset, .unset, .unset, .unset]) rfl ?_
  refine W_iload B (hb hby at_119) (pc' := 121) rfl rfl ?_
  refine W_if_ne B (hb hby at_121) (by decide) (pt := 126) (by decide) (pc' := 124) rfl (fun (c351 : ¬ z347 = (0 : Int32)) => ?_) (fun (c351 : z347 = (0 : Int32)) => ?_)
  · refine W_iloadN B (hb hby at_126) (pc' := 127) rfl rfl ?_
    refine W_ldcInt B hown (ow hw (i := 0) rfl) (hb hby at_127) (pc' := 129) rfl ?_
    refine W_iand B (hb hby at_129) (pc' := 130) rfl (z := (a4 &&& (2147483647 : Int32))) rfl ?_
    refine W_iload B (hb hby at_130) (pc' := 132) rfl rfl ?_
    refine W_irem B (hb hby at_132) (pc' := 133) rfl c351 (z := ((a4 &&& (2147483647 : Int32)) % z347)) rfl ?_
    obtain ⟨v352, hv352⟩ : ∃ z : Int32, z = ((a4 &&& (2147483647 : Int32)) % z347) := ⟨_, rfl⟩
    refine W_istore B (hb hby at_133) (pc' := 135) rfl (v := v352) hv352.symm (ls' := #[.val (.int a1), .val (.int a2), .val (.int a3), .val (.int a4), .val (.int v121), .val (.int v123), .val (.int v125), .val (.int (1 : Int32)), .val (.int (1 : Int32)), .val (.int v344), .val (.int v121), .val (.int v345), .val (.int v345), .val (.int v346), .val (.int z347), .val (.int v352), .unset, .unset, .unset, .unset, .unset, .unset, .unset, .unset]) rfl ?_
    refine W_iconst B (hb hby at_135) (pc' := 136) rfl (z := (3 : Int32)) (by decide) ?_
    refine W_newarray B (ow hw (i := 1) rfl) (hb hby at_136) (pc' := 138) rfl (by decide) (cap := 3) (by decide) (by decide) (cells' := 1) rfl (slots' := 3) rfl (vs := [(.int (0 : Int32)), (.int (0 : Int32)), (.int (0 : Int32))]) rfl (ty := .int) rfl ?_
    intro T b353 B
    refine W_dup B (hb hby at_138) (pc' := 139) rfl rfl ?_
    refine W_iconst B (hb hby at_139) (pc' := 140) rfl (z := (0 : Int32)) (by decide) ?_
    refine W_bipush B (hb hby at_140) (pc' := 142) rfl (z := (10 : Int32)) (by decide) ?_
    refine W_iastore B (hb hby at_142) (pc' := 143) rfl (i := 0) rfl (by decide) (oLt rfl) (ds' := [(b353, oA .int [(.int (10 : Int32)), o0, o0])]) rfl ?_
    intro T B
    refine W_dup B (hb hby at_143) (pc' := 144) rfl rfl ?_
    refine W_iconst B (hb hby at_144) (pc' := 145) rfl (z := (1 : Int32)) (by decide) ?_
    refine W_bipush B (hb hby at_145) (pc' := 147) rfl (z := (11 : Int32)) (by decide) ?_
    refine W_iastore B (hb hby at_147) (pc' := 148) rfl (i := 0) rfl (by decide) (oLt rfl) (ds' := [(b353, oA .int [(.int (10 : Int32)), (.int (11 : Int32)), o0])]) rfl ?_
    intro T B
    refine W_dup B (hb hby at_148) (pc' := 149) rfl rfl ?_
    refine W_iconst B (hb hby at_149) (pc' := 150) rfl (z := (2 : Int32)) (by decide) ?_
    refine W_bipush B (hb hby at_150) (pc' := 152) rfl (z := (12 : Int32)) (by decide) ?_
    refine W_iastore B (hb hby at_152) (pc' := 153) rfl (i := 0) rfl (by decide) (oLt rfl) (ds' := [(b353, oA .int [(.int (10 : Int32)), (.int (11 : Int32)), (.int (12 : Int32))])]) rfl ?_
    intro T B
    refine W_astore B (hb hby at_153) (pc' := 155) rfl rfl (ls' := #[.val (.int a1), .val (.int a2), .val (.int a3), .val (.int a4), .val (.int v121), .val (.int v123), .val (.int v125), .val (.int (1 : Int32)), .val (.int (1 : Int32)), .val (.int v344), .val (.int v121), .val (.int v345), .val (.int v345), .val (.int v346), .val (.int z347), .val (.int v352), .val (.ref b353), .unset, .unset, .unset, .unset, .unset, .unset, .unset]) rfl ?_
    refine W_iconst B (hb hby at_155) (pc' := 156) rfl (z := (3 : Int32)) (by decide) ?_
    refine W_newarray B (ow hw (i := 1) rfl) (hb hby at_156) (pc' := 158) rfl (by decide) (cap := 3) (by decide) (by decide) (cells' := 2) rfl (slots' := 6) rfl (vs := [(.int (0 : Int32)), (.int (0 : Int32)), (.int (0 : Int32))]) rfl (ty := .int) rfl ?_
    intro T b354 B
    refine W_dup B (hb hby at_158) (pc' := 159) rfl rfl ?_
    refine W_iconst B (hb hby at_159) (pc' := 160) rfl (z := (0 : Int32)) (by decide) ?_
    refine W_bipush B (hb hby at_160) (pc' := 162) rfl (z := (20 : Int32)) (by decide) ?_
    refine W_iastore B (hb hby at_162) (pc' := 163) rfl (i := 0) rfl (by decide) (oLt rfl) (ds' := [(b354, oA .int [(.int (20 : Int32)), o0, o0]), (b353, oA .int [(.int (10 : Int32)), (.int (11 : Int32)), (.int (12 : Int32))])]) rfl ?_
    intro T B
    refine W_dup B (hb hby at_163) (pc' := 164) rfl rfl ?_
    refine W_iconst B (hb hby at_164) (pc' := 165) rfl (z := (1 : Int32)) (by decide) ?_
    refine W_bipush B (hb hby at_165) (pc' := 167) rfl (z := (21 : Int32)) (by decide) ?_
    refine W_iastore B (hb hby at_167) (pc' := 168) rfl (i := 0) rfl (by decide) (oLt rfl) (ds' := [(b354, oA .int [(.int (20 : Int32)), (.int (21 : Int32)), o0]), (b353, oA .int [(.int (10 : Int32)), (.int (11 : Int32)), (.int (12 : Int32))])]) rfl ?_
    intro T B
    refine W_dup B (hb hby at_168) (pc' := 169) rfl rfl ?_
    refine W_iconst B (hb hby at_169) (pc' := 170) rfl (z := (2 : Int32)) (by decide) ?_
    refine W_bipush B (hb hby at_170) (pc' := 172) rfl (z := (22 : Int32)) (by decide) ?_
    refine W_iastore B (hb hby at_172) (pc' := 173) rfl (i := 0) rfl (by decide) (oLt rfl) (ds' := [(b354, oA .int [(.int (20 : Int32)), (.int (21 : Int32)), (.int (22 : Int32))]), (b353, oA .int [(.int (10 : Int32)), (.int (11 : Int32)), (.int (12 : Int32))])]) rfl ?_
    intro T B
    refine W_astore B (hb hby at_173) (pc' := 175) rfl rfl (ls' := #[.val (.int a1), .val (.int a2), .val (.int a3), .val (.int a4), .val (.int v121), .val (.int v123), .val (.int v125), .val (.int (1 : Int32)), .val (.int (1 : Int32)), .val (.int v344), .val (.int v121), .val (.int v345), .val (.int v345), .val (.int v346), .val (.int z347), .val (.int v352), .val (.ref b353), .val (.ref b354), .unset, .unset, .unset, .unset, .unset, .unset]) rfl ?_
    refine W_iconst B (hb hby at_175) (pc' := 176) rfl (z := (3 : Int32)) (by decide) ?_
    refine W_newarray B (ow hw (i := 1) rfl) (hb hby at_176) (pc' := 178) rfl (by decide) (cap := 3) (by decide) (by decide) (cells' := 3) rfl (slots' := 9) rfl (vs := [(.int (0 : Int32)), (.int (0 : Int32)), (.int (0 : Int32))]) rfl (ty := .int) rfl ?_
    intro T b355 B
    refine W_dup B (hb hby at_178) (pc' := 179) rfl rfl ?_
    refine W_iconst B (hb hby at_179) (pc' := 180) rfl (z := (0 : Int32)) (by decide) ?_
    refine W_bipush B (hb hby at_180) (pc' := 182) rfl (z := (30 : Int32)) (by decide) ?_
    refine W_iastore B (hb hby at_182) (pc' := 183) rfl (i := 0) rfl (by decide) (oLt rfl) (ds' := [(b355, oA .int [(.int (30 : Int32)), o0, o0]), (b354, oA .int [(.int (20 : Int32)), (.int (21 : Int32)), (.int (22 : Int32))]), (b353, oA .int [(.int (10 : Int32)), (.int (11 : Int32)), (.int (12 : Int32))])]) rfl ?_
    intro T B
    refine W_dup B (hb hby at_183) (pc' := 184) rfl rfl ?_
    refine W_iconst B (hb hby at_184) (pc' := 185) rfl (z := (1 : Int32)) (by decide) ?_
    refine W_bipush B (hb hby at_185) (pc' := 187) rfl (z := (31 : Int32)) (by decide) ?_
    refine W_iastore B (hb hby at_187) (pc' := 188) rfl (i := 0) rfl (by decide) (oLt rfl) (ds' := [(b355, oA .int [(.int (30 : Int32)), (.int (31 : Int32)), o0]), (b354, oA .int [(.int (20 : Int32)), (.int (21 : Int32)), (.int (22 : Int32))]), (b353, oA .int [(.int (10 : Int32)), (.int (11 : Int32)), (.int (12 : Int32))])]) rfl ?_
    intro T B
    refine W_dup B (hb hby at_188) (pc' := 189) rfl rfl ?_
    refine W_iconst B (hb hby at_189) (pc' := 190) rfl (z := (2 : Int32)) (by decide) ?_
    refine W_bipush B (hb hby at_190) (pc' := 192) rfl (z := (32 : Int32)) (by decide) ?_
    refine W_iastore B (hb hby at_192) (pc' := 193) rfl (i := 0) rfl (by decide) (oLt rfl) (ds' := [(b355, oA .int [(.int (30 : Int32)), (.int (31 : Int32)), (.int (32 : Int32))]), (b354, oA .int [(.int (20 : Int32)), (.int (21 : Int32)), (.int (22 : Int32))]), (b353, oA .int [(.int (10 : Int32)), (.int (11 : Int32)), (.int (12 : Int32))])]) rfl ?_
    intro T B
    refine W_astore B (hb hby at_193) (pc' := 195) rfl rfl (ls' := #[.val (.int a1), .val (.int a2), .val (.int a3), .val (.int a4), .val (.int v121), .val (.int v123), .val (.int v125), .val (.int (1 : Int32)), .val (.int (1 : Int32)), .val (.int v344), .val (.int v121), .val (.int v345), .val (.int v345), .val (.int v346), .val (.int z347), .val (.int v352), .val (.ref b353), .val (.ref b354), .val (.ref b355), .unset, .unset, .unset, .unset, .unset]) rfl ?_
    refine W_new B hown (ow hw (i := 2) rfl) (ow hw (i := 3) rfl) (ow hw (i := 4) rfl) (hb hby at_195) (pc' := 198) rfl (by decide) (cells' := 4) rfl (slots' := 16) rfl (fs := [(fk4, .null), (fk5, .null), (fk6, .null), (fk7, .null), (fk8, .null), (fk9, .null), (fk10, .null)]) (oAll_cons ⟨Or.inr (ow hw (i := 41) rfl), (.object "com/example/tanglemark/tanglemark/datalog/Ints"), by decide, rfl⟩ (oAll_cons ⟨Or.inr (ow hw (i := 43) rfl), (.object "com/example/tanglemark/tanglemark/datalog/Ints"), by decide, rfl⟩ (oAll_cons ⟨Or.inr (ow hw (i := 45) rfl), (.object "com/example/tanglemark/tanglemark/datalog/Ints"), by decide, rfl⟩ (oAll_cons ⟨Or.inr (ow hw (i := 47) rfl), (.object "com/example/tanglemark/tanglemark/datalog/Ints"), by decide, rfl⟩ (oAll_cons ⟨Or.inr (ow hw (i := 49) rfl), (.object "com/example/tanglemark/tanglemark/datalog/Ints"), by decide, rfl⟩ (oAll_cons ⟨Or.inr (ow hw (i := 51) rfl), (.object "com/example/tanglemark/tanglemark/datalog/Ints"), by decide, rfl⟩ (oAll_cons ⟨Or.inr (ow hw (i := 53) rfl), (.object "com/example/tanglemark/tanglemark/datalog/Ints"), by decide, rfl⟩ oAll_nil))))))) (by decide) ?_
    intro T b356 B
    refine W_dup B (hb hby at_198) (pc' := 199) rfl rfl ?_
    refine W_ldcStr B hS (n := 16) hown (ow hw (i := 5) rfl) (own_strAtoms hw) (hb hby at_199) (pc' := 201) rfl (by decide) (by decide) (cells' := 6) rfl (slots' := 36) rfl ?_
    intro T sa357 vm_ lo B hS hown
    refine W_init B (y := (⟨"com/example/tanglemark/tanglemark/datalog/SharedSets", "<init>", "(Ljava/lang/String;)V"⟩ : MethodName)) hown rfl (ow hw (i := 13) rfl) (ow hw (i := 14) rfl) (ow hw (i := 4) rfl) (ow hw (i := 15) rfl) (by decide) (a := b356) (rm_sets l Z a0 hw h0 b356 sa357 [(b355, oA .int [(.int (30 : Int32)), (.int (31 : Int32)), (.int (32 : Int32))]), (b354, oA .int [(.int (20 : Int32)), (.int (21 : Int32)), (.int (22 : Int32))]), (b353, oA .int [(.int (10 : Int32)), (.int (11 : Int32)), (.int (12 : Int32))])]) (lenOf pd_2 rfl) (hb hby at_201) (pc' := 204) rfl (argsL := [(.ref sa357)]) (rest := [(.ref b356)]) rfl (by rw [hml]; rfl) (W := 1) (oLe rfl) (by decide) (cells' := 20) rfl (slots' := 176) rfl ?_
    intro T v_ d_ q_ B
    obtain ⟨c358, d359, c360, d361, c362, d363, c364, d365, c366, d367, c368, d369, c370, d371, rfl, rfl⟩ := q_
    show oWin p e below Z h0 _ _ (T.setTop (mkF m 204 #[.val (.int a1), .val (.int a2), .val (.int a3), .val (.int a4), .val (.int v121), .val (.int v123), .val (.int v125), .val (.int (1 : Int32)), .val (.int (1 : Int32)), .val (.int v344), .val (.int v121), .val (.int v345), .val (.int v345), .val (.int v346), .val (.int z347), .val (.int v352), .val (.ref b353), .val (.ref b354), .val (.ref b355), .unset, .unset, .unset, .unset, .unset] [(.ref b356)]))
    refine W_astore B (hb hby at_204) (pc' := 206) rfl rfl (ls' := #[.val (.int a1), .val (.int a2), .val (.int a3), .val (.int a4), .val (.int v121), .val (.int v123), .val (.int v125), .val (.int (1 : Int32)), .val (.int (1 : Int32)), .val (.int v344), .val (.int v121), .val (.int v345), .val (.int v345), .val (.int v346), .val (.int z347), .val (.int v352), .val (.ref b353), .val (.ref b354), .val (.ref b355), .val (.ref b356), .unset, .unset, .unset, .unset]) rfl ?_
    refine W_aload B (hb hby at_206) (pc' := 208) rfl rfl rfl ?_
    refine W_iconst B (hb hby at_208) (pc' := 209) rfl (z := (-1 : Int32)) (by decide) ?_
    refine W_aload B (hb hby at_209) (pc' := 211) rfl rfl rfl ?_
    refine W_iload B (hb hby at_211) (pc' := 213) rfl rfl ?_
    have u374 : 0 ≤ ((0 : Int32)).toInt ∧ ((0 : Int32)).toInt ≤ 6 := by
      have fq1 : ((0 : Int32)).toInt = 0 := rfl
      have fq2 := orI v121
      have fq3 := k122
      have fq4 := orI v123
      have fq5 := k124
      have fq6 := orI v125
      have fq7 := k126
      have fq8 := orI (a2 &&& (1 : Int32))
      have fq9 := orI a2
      have fq10 : ((1 : Int32)).toInt = 1 := rfl
      have fq11 := omaskI a2 (1 : Int32) 1 2 (by decide) (by decide) (by decide)
      have fq12 := oneI c127
      have fq13 := orI (a2 &&& (2 : Int32))
      have fq14 : ((2 : Int32)).toInt = 2 := rfl
      have fq15 := oandI a2 (2 : Int32) (by decide)
      have fq16 := oneI c265
      have fq17 := orI z347
      have fq18 := orI v344
      have fq19 := orI v345
      have fq20 := oiadd v121 v123
      have fq21 := congrArg Int32.toInt hv345
      have fq22 := orI v346
      have fq23 := oiadd v345 v125
      have fq24 := congrArg Int32.toInt hv346
      have fq25 := hz347
      have fq26 := oneI c351
      omega
    have u375 : 0 ≤ (v121).toInt ∧ (v121).toInt ≤ 3 := by
      have fq1 := orI v121
      have fq2 := k122
      have fq3 := orI v123
      have fq4 := k124
      have fq5 := orI v125
      have fq6 := k126
      have fq7 := orI (a2 &&& (1 : Int32))
      have fq8 := orI a2
      have fq9 : ((1 : Int32)).toInt = 1 := rfl
      have fq10 := omaskI a2 (1 : Int32) 1 2 (by decide) (by decide) (by decide)
      have fq11 : ((0 : Int32)).toInt = 0 := rfl
      have fq12 := oneI c127
      have fq13 := orI (a2 &&& (2 : Int32))
      have fq14 : ((2 : Int32)).toInt = 2 := rfl
      have fq15 := oandI a2 (2 : Int32) (by decide)
      have fq16 := oneI c265
      have fq17 := orI z347
      have fq18 := orI v344
      have fq19 := orI v345
      have fq20 := oiadd v121 v123
      have fq21 := congrArg Int32.toInt hv345
      have fq22 := orI v346
      have fq23 := oiadd v345 v125
      have fq24 := congrArg Int32.toInt hv346
      have fq25 := hz347
      have fq26 := oneI c351
      omega
    refine W_virtual B (y := (⟨"com/example/tanglemark/tanglemark/datalog/SharedSets", "add", "(I[II)I"⟩ : MethodName)) (z := (⟨"com/example/tanglemark/tanglemark/datalog/SharedSets", "add", "(I[II)I"⟩ : MethodName)) hown (ow hw (i := 54) rfl) (ow hw (i := 55) rfl) (oNotFace B (ow hw (i := 57) rfl) rfl) (ow hw (i := 57) rfl) (ow hw (i := 56) rfl) (ow hw (i := 4) rfl) (ow hw (i := 58) rfl) (by decide) (a := b356) (rm_add0m l Z a0 hw h0 b356 b353 sa357 c358 d359 c360 d361 c362 d363 c364 d365 c366 d367 c368 d369 c370 d371 v121 (0 : Int32) [o0, o0, o0, o0, o0, o0, o0, o0, o0, o0, o0, o0, o0, o0, o0, o0]  (10 : Int32) (11 : Int32) (12 : Int32) (b355, oA .int [(.int (30 : Int32)), (.int (31 : Int32)), (.int (32 : Int32))]) (b354, oA .int [(.int (20 : Int32)), (.int (21 : Int32)), (.int (22 : Int32))]) [] rfl u374 u375) (lenOf pd_5 rfl) (hb hby at_213) (pc' := 216) rfl (argsL := [(.int (-1 : Int32)), (.ref b353), (.int v121)]) (rest := []) rfl (by rw [hml]; rfl) (W := 0) (oLe rfl) (j := 14) rfl (by decide) (cells' := 20) rfl (slots' := 176) rfl ?_
    intro T v_ d_ q_ B
    obtain ⟨us372, n373, q377, q378, rfl, rfl⟩ := q_
    show oWin p e below Z h0 _ _ (T.setTop (mkF m 216 #[.val (.int a1), .val (.int a2), .val (.int a3), .val (.int a4), .val (.int v121), .val (.int v123), .val (.int v125), .val (.int (1 : Int32)), .val (.int (1 : Int32)), .val (.int v344), .val (.int v121), .val (.int v345), .val (.int v345), .val (.int v346), .val (.int z347), .val (.int v352), .val (.ref b353), .val (.ref b354), .val (.ref b355), .val (.ref b356), .unset, .unset, .unset, .unset] [(.int (0 : Int32))]))
    refine W_istore B (hb hby at_216) (pc' := 218) rfl (v := (0 : Int32)) rfl (ls' := #[.val (.int a1), .val (.int a2), .val (.int a3), .val (.int a4), .val (.int v121), .val (.int v123), .val (.int v125), .val (.int (1 : Int32)), .val (.int (1 : Int32)), .val (.int v344), .val (.int v121), .val (.int v345), .val (.int v345), .val (.int v346), .val (.int z347), .val (.int v352), .val (.ref b353), .val (.ref b354), .val (.ref b355), .val (.ref b356), .val (.int (0 : Int32)), .unset, .unset, .unset]) rfl ?_
    refine W_aload B (hb hby at_218) (pc' := 220) rfl rfl rfl ?_
    refine W_iload B (hb hby at_220) (pc' := 222) rfl rfl ?_
    refine W_ifN B (hb hby at_222) (pc' := 225) rfl (by decide) ?_
    refine W_iload B (hb hby at_225) (pc' := 227) rfl rfl ?_
    refine W_goto B (hb hby at_227) (by decide) (pc' := 231) (by decide) ?_
    refine W_aload B (hb hby at_231) (pc' := 233) rfl rfl rfl ?_
    refine W_iload B (hb hby at_233) (pc' := 235) rfl rfl ?_
    have u381 : 0 ≤ (n373).toInt ∧ (n373).toInt ≤ 6 := by
      have fq1 := orI n373
      have fq2 := orI v121
      have fq3 := k122
      have fq4 := orI v123
      have fq5 := k124
      have fq6 := orI v125
      have fq7 := k126
      have fq8 := orI (a2 &&& (1 : Int32))
      have fq9 := orI a2
      have fq10 : ((1 : Int32)).toInt = 1 := rfl
      have fq11 := omaskI a2 (1 : Int32) 1 2 (by decide) (by decide) (by decide)
      have fq12 : ((0 : Int32)).toInt = 0 := rfl
      have fq13 := oneI c127
      have fq14 := orI (a2 &&& (2 : Int32))
      have fq15 : ((2 : Int32)).toInt = 2 := rfl
      have fq16 := oandI a2 (2 : Int32) (by decide)
      have fq17 := oneI c265
      have fq18 := orI z347
      have fq19 := orI v344
      have fq20 := orI v345
      have fq21 := oiadd v121 v123
      have fq22 := congrArg Int32.toInt hv345
      have fq23 := orI v346
      have fq24 := oiadd v345 v125
      have fq25 := congrArg Int32.toInt hv346
      have fq26 := hz347
      have fq27 := oneI c351
      have fq28 := q378
      omega
    have u382 : 0 ≤ (v123).toInt ∧ (v123).toInt ≤ 3 := by
      have fq1 := orI v123
      have fq2 := orI v121
      have fq3 := k122
      have fq4 := k124
      have fq5 := orI v125
      have fq6 := k126
      have fq7 := orI (a2 &&& (1 : Int32))
      have fq8 := orI a2
      have fq9 : ((1 : Int32)).toInt = 1 := rfl
      have fq10 := omaskI a2 (1 : Int32) 1 2 (by decide) (by decide) (by decide)
      have fq11 : ((0 : Int32)).toInt = 0 := rfl
      have fq12 := oneI c127
      have fq13 := orI (a2 &&& (2 : Int32))
      have fq14 : ((2 : Int32)).toInt = 2 := rfl
      have fq15 := oandI a2 (2 : Int32) (by decide)
      have fq16 := oneI c265
      have fq17 := orI z347
      have fq18 := orI v344
      have fq19 := orI v345
      have fq20 := oiadd v121 v123
      have fq21 := congrArg Int32.toInt hv345
      have fq22 := orI v346
      have fq23 := oiadd v345 v125
      have fq24 := congrArg Int32.toInt hv346
      have fq25 := hz347
      have fq26 := oneI c351
      have fq27 := orI n373
      have fq28 := q378
      omega
    refine W_virtual B (y := (⟨"com/example/tanglemark/tanglemark/datalog/SharedSets", "add", "(I[II)I"⟩ : MethodName)) (z := (⟨"com/example/tanglemark/tanglemark/datalog/SharedSets", "add", "(I[II)I"⟩ : MethodName)) hown (ow hw (i := 54) rfl) (ow hw (i := 55) rfl) (oNotFace B (ow hw (i := 57) rfl) rfl) (ow hw (i := 57) rfl) (ow hw (i := 56) rfl) (ow hw (i := 4) rfl) (ow hw (i := 58) rfl) (by decide) (a := b356) (rm_add10 l Z a0 hw h0 b356 b354 sa357 c358 d359 c360 d361 c362 d363 c364 d365 c366 d367 c368 d369 c370 d371 v123 n373 us372 (0 : Int32) (0 : Int32) (((0 : Int32) + n373) - (0 : Int32)) (-1 : Int32) (0 : Int32) (1 : Int32) (20 : Int32) (21 : Int32) (22 : Int32) (b355, oA .int [(.int (30 : Int32)), (.int (31 : Int32)), (.int (32 : Int32))]) (b353, oA .int [(.int (10 : Int32)), (.int (11 : Int32)), (.int (12 : Int32))]) [] q377 u381 u382 (by decide)) (lenOf pd_5 rfl) (hb hby at_235) (pc' := 238) rfl (argsL := [(.int (0 : Int32)), (.ref b354), (.int v123)]) (rest := []) rfl (by rw [hml]; rfl) (W := 0) (oLe rfl) (j := 14) rfl (by decide) (cells' := 20) rfl (slots' := 176) rfl ?_
    intro T v_ d_ q_ B
    obtain ⟨us379, n380, q384, q385, rfl, rfl⟩ := q_
    show oWin p e below Z h0 _ _ (T.setTop (mkF m 238 #[.val (.int a1), .val (.int a2), .val (.int a3), .val (.int a4), .val (.int v121), .val (.int v123), .val (.int v125), .val (.int (1 : Int32)), .val (.int (1 : Int32)), .val (.int v344), .val (.int v121), .val (.int v345), .val (.int v345), .val (.int v346), .val (.int z347), .val (.int v352), .val (.ref b353), .val (.ref b354), .val (.ref b355), .val (.ref b356), .val (.int (0 : Int32)), .unset, .unset, .unset] [(.int (1 : Int32))]))
    refine W_istore B (hb hby at_238) (pc' := 240) rfl (v := (1 : Int32)) rfl (ls' := #[.val (.int a1), .val (.int a2), .val (.int a3), .val (.int a4), .val (.int v121), .val (.int v123), .val (.int v125), .val (.int (1 : Int32)), .val (.int (1 : Int32)), .val (.int v344), .val (.int v121), .val (.int v345), .val (.int v345), .val (.int v346), .val (.int z347), .val (.int v352), .val (.ref b353), .val (.ref b354), .val (.ref b355), .val (.ref b356), .val (.int (0 : Int32)), .val (.int (1 : Int32)), .unset, .unset]) rfl ?_
    refine W_aload B (hb hby at_240) (pc' := 242) rfl rfl rfl ?_
    refine W_iload B (hb hby at_242) (pc' := 244) rfl rfl ?_
    refine W_ifN B (hb hby at_244) (pc' := 247) rfl (by decide) ?_
    refine W_iload B (hb hby at_247) (pc' := 249) rfl rfl ?_
    refine W_goto B (hb hby at_249) (by decide) (pc' := 254) (by decide) ?_
    refine W_aload B (hb hby at_254) (pc' := 256) rfl rfl rfl ?_
    refine W_iload B (hb hby at_256) (pc' := 258) rfl rfl ?_
    have u388 : 0 ≤ (n380).toInt ∧ (n380).toInt ≤ 6 := by
      have fq1 := orI n380
      have fq2 := orI v121
      have fq3 := k122
      have fq4 := orI v123
      have fq5 := k124
      have fq6 := orI v125
      have fq7 := k126
      have fq8 := orI (a2 &&& (1 : Int32))
      have fq9 := orI a2
      have fq10 : ((1 : Int32)).toInt = 1 := rfl
      have fq11 := omaskI a2 (1 : Int32) 1 2 (by decide) (by decide) (by decide)
      have fq12 : ((0 : Int32)).toInt = 0 := rfl
      have fq13 := oneI c127
      have fq14 := orI (a2 &&& (2 : Int32))
      have fq15 : ((2 : Int32)).toInt = 2 := rfl
      have fq16 := oandI a2 (2 : Int32) (by decide)
      have fq17 := oneI c265
      have fq18 := orI z347
      have fq19 := orI v344
      have fq20 := orI v345
      have fq21 := oiadd v121 v123
      have fq22 := congrArg Int32.toInt hv345
      have fq23 := orI v346
      have fq24 := oiadd v345 v125
      have fq25 := congrArg Int32.toInt hv346
      have fq26 := hz347
      have fq27 := oneI c351
      have fq28 := orI n373
      have fq29 := q378
      have fq30 := q385
      omega
    have u389 : 0 ≤ (v125).toInt ∧ (v125).toInt ≤ 3 := by
      have fq1 := orI v125
      have fq2 := orI v121
      have fq3 := k122
      have fq4 := orI v123
      have fq5 := k124
      have fq6 := k126
      have fq7 := orI (a2 &&& (1 : Int32))
      have fq8 := orI a2
      have fq9 : ((1 : Int32)).toInt = 1 := rfl
      have fq10 := omaskI a2 (1 : Int32) 1 2 (by decide) (by decide) (by decide)
      have fq11 : ((0 : Int32)).toInt = 0 := rfl
      have fq12 := oneI c127
      have fq13 := orI (a2 &&& (2 : Int32))
      have fq14 : ((2 : Int32)).toInt = 2 := rfl
      have fq15 := oandI a2 (2 : Int32) (by decide)
      have fq16 := oneI c265
      have fq17 := orI z347
      have fq18 := orI v344
      have fq19 := orI v345
      have fq20 := oiadd v121 v123
      have fq21 := congrArg Int32.toInt hv345
      have fq22 := orI v346
      have fq23 := oiadd v345 v125
      have fq24 := congrArg Int32.toInt hv346
      have fq25 := hz347
      have fq26 := oneI c351
      have fq27 := orI n373
      have fq28 := q378
      have fq29 := orI n380
      have fq30 := q385
      omega
    refine W_virtual B (y := (⟨"com/example/tanglemark/tanglemark/datalog/SharedSets", "add", "(I[II)I"⟩ : MethodName)) (z := (⟨"com/example/tanglemark/tanglemark/datalog/SharedSets", "add", "(I[II)I"⟩ : MethodName)) hown (ow hw (i := 54) rfl) (ow hw (i := 55) rfl) (oNotFace B (ow hw (i := 57) rfl) rfl) (ow hw (i := 57) rfl) (ow hw (i := 56) rfl) (ow hw (i := 4) rfl) (ow hw (i := 58) rfl) (by decide) (a := b356) (rm_add21 l Z a0 hw h0 b356 b355 sa357 c358 d359 c360 d361 c362 d363 c364 d365 c366 d367 c368 d369 c370 d371 v125 n380 us379 (0 : Int32) n373 (0 : Int32) (((0 : Int32) + n373) - (0 : Int32)) (((0 : Int32) + n373) - (0 : Int32)) (((((0 : Int32) + n373) - (0 : Int32)) + n380) - n373) (-1 : Int32) (0 : Int32) (0 : Int32) (0 : Int32) (1 : Int32) (2 : Int32) (30 : Int32) (31 : Int32) (32 : Int32) (b354, oA .int [(.int (20 : Int32)), (.int (21 : Int32)), (.int (22 : Int32))]) (b353, oA .int [(.int (10 : Int32)), (.int (11 : Int32)), (.int (12 : Int32))]) [] q384 u388 u389 (by decide)) (lenOf pd_5 rfl) (hb hby at_258) (pc' := 261) rfl (argsL := [(.int (1 : Int32)), (.ref b355), (.int v125)]) (rest := []) rfl (by rw [hml]; rfl) (W := 0) (oLe rfl) (j := 14) rfl (by decide) (cells' := 20) rfl (slots' := 176) rfl ?_
    intro T v_ d_ q_ B
    obtain ⟨us386, n387, q391, q392, rfl, rfl⟩ := q_
    show oWin p e below Z h0 _ _ (T.setTop (mkF m 261 #[.val (.int a1), .val (.int a2), .val (.int a3), .val (.int a4), .val (.int v121), .val (.int v123), .val (.int v125), .val (.int (1 : Int32)), .val (.int (1 : Int32)), .val (.int v344), .val (.int v121), .val (.int v345), .val (.int v345), .val (.int v346), .val (.int z347), .val (.int v352), .val (.ref b353), .val (.ref b354), .val (.ref b355), .val (.ref b356), .val (.int (0 : Int32)), .val (.int (1 : Int32)), .unset, .unset] [(.int (2 : Int32))]))
    refine W_istore B (hb hby at_261) (pc' := 263) rfl (v := (2 : Int32)) rfl (ls' := #[.val (.int a1), .val (.int a2), .val (.int a3), .val (.int a4), .val (.int v121), .val (.int v123), .val (.int v125), .val (.int (1 : Int32)), .val (.int (1 : Int32)), .val (.int v344), .val (.int v121), .val (.int v345), .val (.int v345), .val (.int v346), .val (.int z347), .val (.int v352), .val (.ref b353), .val (.ref b354), .val (.ref b355), .val (.ref b356), .val (.int (0 : Int32)), .val (.int (1 : Int32)), .val (.int (2 : Int32)), .unset]) rfl ?_
    refine W_iload B (hb hby at_263) (pc' := 265) rfl rfl ?_
    refine W_ifN B (hb hby at_265) (pc' := 268) rfl (by decide) ?_
    refine W_iload B (hb hby at_268) (pc' := 270) rfl rfl ?_
    refine W_iconst B (hb hby at_270) (pc' := 271) rfl (z := (1 : Int32)) (by decide) ?_
    refine W_icmpN B (hb hby at_271) (pc' := 274) rfl (by decide) ?_
    refine W_iload B (hb hby at_274) (pc' := 276) rfl rfl ?_
    refine W_iconst B (hb hby at_276) (pc' := 277) rfl (z := (2 : Int32)) (by decide) ?_
    refine W_icmpY B (hb hby at_277) (by decide) (pc' := 282) (by decide) (by decide) ?_
    rcases own_c3 hv344 with rfl | rfl | rfl
    · refine W_iload B (hb hby at_282) (pc' := 284) rfl rfl ?_
      refine W_ifN B (hb hby at_284) (pc' := 287) rfl (by decide) ?_
      refine W_iconst B (hb hby at_287) (pc' := 288) rfl (z := (0 : Int32)) (by decide) ?_
      refine W_istore B (hb hby at_288) (pc' := 290) rfl (v := (0 : Int32)) rfl (ls' := #[.val (.int a1), .val (.int a2), .val (.int a3), .val (.int a4), .val (.int v121), .val (.int v123), .val (.int v125), .val (.int (1 : Int32)), .val (.int (1 : Int32)), .val (.int (0 : Int32)), .val (.int v121), .val (.int v345), .val (.int v345), .val (.int v346), .val (.int z347), .val (.int v352), .val (.ref b353), .val (.ref b354), .val (.ref b355), .val (.ref b356), .val (.int (0 : Int32)), .val (.int (1 : Int32)), .val (.int (2 : Int32)), .val (.int (0 : Int32))]) rfl ?_
      refine W_goto B (hb hby at_290) (by decide) (pc' := 364) (by decide) ?_
      refine W_aload B (hb hby at_364) (pc' := 366) rfl rfl rfl ?_
      refine W_iload B (hb hby at_366) (pc' := 368) rfl rfl ?_
      refine W_iload B (hb hby at_368) (pc' := 370) rfl rfl ?_
      have n393 : ¬ v352 < (0 : Int32) := by
        refine onltI_i ?_
        have fq1 := orI v352
        have fq2 := orI ((a4 &&& (2147483647 : Int32)) % z347)
        have fq3 := orI (a4 &&& (2147483647 : Int32))
        have fq4 := orI a4
        have fq5 : ((2147483647 : Int32)).toInt = 2147483647 := rfl
        have fq6 := omaskI a4 (2147483647 : Int32) 31 2147483648 (by decide) (by decide) (by decide)
        have fq7 := orI z347
        have fq8 := oiremV (a4 &&& (2147483647 : Int32)) z347
        have fq9 := congrArg Int32.toInt hv352
        have fq10 : ((0 : Int32)).toInt = 0 := rfl
        have fq11 := orI v121
        have fq12 := k122
        have fq13 := orI v123
        have fq14 := k124
        have fq15 := orI v125
        have fq16 := k126
        have fq17 := orI (a2 &&& (1 : Int32))
        have fq18 := orI a2
        have fq19 : ((1 : Int32)).toInt = 1 := rfl
        have fq20 := omaskI a2 (1 : Int32) 1 2 (by decide) (by decide) (by decide)
        have fq21 := oneI c127
        have fq22 := orI (a2 &&& (2 : Int32))
        have fq23 : ((2 : Int32)).toInt = 2 := rfl
        have fq24 := oandI a2 (2 : Int32) (by decide)
        have fq25 := oneI c265
        have fq26 := orI v345
        have fq27 := oiadd v121 v123
        have fq28 := congrArg Int32.toInt hv345
        have fq29 := orI v346
        have fq30 := oiadd v345 v125
        have fq31 := congrArg Int32.toInt hv346
        have fq32 := hz347
        have fq33 := oneI c351
        have fq34 := orI n373
        have fq35 := q378
        have fq36 := orI n380
        have fq37 := q385
        have fq38 := orI n387
        have fq39 := q392
        omega
      refine W_virtual B (y := (⟨"com/example/tanglemark/tanglemark/datalog/SharedSets", "holder", "(II)I"⟩ : MethodName)) (z := (⟨"com/example/tanglemark/tanglemark/datalog/SharedSets", "holder", "(II)I"⟩ : MethodName)) hown (ow hw (i := 73) rfl) (ow hw (i := 74) rfl) (oNotFace B (ow hw (i := 76) rfl) rfl) (ow hw (i := 76) rfl) (ow hw (i := 75) rfl) (ow hw (i := 4) rfl) (ow hw (i := 77) rfl) (by decide) (a := b356) (rm_ho110 l Z a0 hw h0 b356 sa357 c358 d359 c360 d361 c362 d363 c364 d365 c366 d367 c368 d369 c370 d371 v352 n387 us386 (0 : Int32) n373 n380 (((0 : Int32) + n373) - (0 : Int32)) (((((0 : Int32) + n373) - (0 : Int32)) + n380) - n373) (((0 : Int32) + n373) - (0 : Int32)) (((((0 : Int32) + n373) - (0 : Int32)) + n380) - n373) (((((((0 : Int32) + n373) - (0 : Int32)) + n380) - n373) + n387) - n380) (1 : Int32) (2 : Int32) (3 : Int32) [(b355, oA .int [(.int (30 : Int32)), (.int (31 : Int32)), (.int (32 : Int32))]), (b354, oA .int [(.int (20 : Int32)), (.int (21 : Int32)), (.int (22 : Int32))]), (b353, oA .int [(.int (10 : Int32)), (.int (11 : Int32)), (.int (12 : Int32))])] n393) (lenOf pd_0 rfl) (hb hby at_370) (pc' := 373) rfl (argsL := [(.int (0 : Int32)), (.int v352)]) (rest := []) rfl (by rw [hml]; rfl) (W := 0) (oLe rfl) (j := 14) rfl (by decide) (cells' := 20) rfl (slots' := 176) rfl ?_
      intro T v_ d_ q_ B
      rcases q_ with ⟨q394, rfl, rfl⟩ | ⟨q395, rfl, rfl⟩
      · show oWin p e below Z h0 _ _ (T.setTop (mkF m 373 #[.val (.int a1), .val (.int a2), .val (.int a3), .val (.int a4), .val (.int v121), .val (.int v123), .val (.int v125), .val (.int (1 : Int32)), .val (.int (1 : Int32)), .val (.int (0 : Int32)), .val (.int v121), .val (.int v345), .val (.int v345), .val (.int v346), .val (.int z347), .val (.int v352), .val (.ref b353), .val (.ref b354), .val (.ref b355), .val (.ref b356), .val (.int (0 : Int32)), .val (.int (1 : Int32)), .val (.int (2 : Int32)), .val (.int (0 : Int32))] [(.int (0 : Int32))]))
        refine W_iload B (hb hby at_373) (pc' := 375) rfl rfl ?_
        refine W_icmpN B (hb hby at_375) (pc' := 378) rfl (by decide) ?_
        refine W_iconst B (hb hby at_378) (pc' := 379) rfl (z := (1 : Int32)) (by decide) ?_
        refine W_goto B (hb hby at_379) (by decide) (pc' := 383) (by decide) ?_
        refine W_retNW B hS hret (by simp) (hb hby at_383) (by decide) ?_
        rfl
      show oWin p e below Z h0 _ _ (T.setTop (mkF m 373 #[.val (.int a1), .val (.int a2), .val (.int a3), .val (.int a4), .val (.int v121), .val (.int v123), .val (.int v125), .val (.int (1 : Int32)), .val (.int (1 : Int32)), .val (.int (0 : Int32)), .val (.int v121), .val (.int v345), .val (.int v345), .val (.int v346), .val (.int z347), .val (.int v352), .val (.ref b353), .val (.ref b354), .val (.ref b355), .val (.ref b356), .val (.int (0 : Int32)), .val (.int (1 : Int32)), .val (.int (2 : Int32)), .val (.int (0 : Int32))] [(.int (0 : Int32))]))
      refine W_iload B (hb hby at_373) (pc' := 375) rfl rfl ?_
      refine W_icmpN B (hb hby at_375) (pc' := 378) rfl (by decide) ?_
      refine W_iconst B (hb hby at_378) (pc' := 379) rfl (z := (1 : Int32)) (by decide) ?_
      refine W_goto B (hb hby at_379) (by decide) (pc' := 383) (by decide) ?_
      refine W_retNW B hS hret (by simp) (hb hby at_383) (by decide) ?_
      rfl
    · refine W_iload B (hb hby at_282) (pc' := 284) rfl rfl ?_
      refine W_ifY B (hb hby at_284) (by decide) (pc' := 293) (by decide) (by decide) ?_
      refine W_iload B (hb hby at_293) (pc' := 295) rfl rfl ?_
      refine W_iconst B (hb hby at_295) (pc' := 296) rfl (z := (1 : Int32)) (by decide) ?_
      refine W_icmpN B (hb hby at_296) (pc' := 299) rfl (by decide) ?_
      refine W_iload B (hb hby at_299) (pc' := 301) rfl rfl ?_
      refine W_ifN B (hb hby at_301) (pc' := 304) rfl (by decide) ?_
      refine W_iload B (hb hby at_304) (pc' := 306) rfl rfl ?_
      refine W_iload B (hb hby at_306) (pc' := 308) rfl rfl ?_
      refine W_icmp_ge B (hb hby at_308) (by decide) (pt := 315) (by decide) (pc' := 311) rfl (fun (c396 : ¬ v352 < v121) => ?_) (fun (c396 : v352 < v121) => ?_)
      · refine W_iconst B (hb hby at_315) (pc' := 316) rfl (z := (1 : Int32)) (by decide) ?_
        refine W_istore B (hb hby at_316) (pc' := 318) rfl (v := (1 : Int32)) rfl (ls' := #[.val (.int a1), .val (.int a2), .val (.int a3), .val (.int a4), .val (.int v121), .val (.int v123), .val (.int v125), .val (.int (1 : Int32)), .val (.int (1 : Int32)), .val (.int (1 : Int32)), .val (.int v121), .val (.int v345), .val (.int v345), .val (.int v346), .val (.int z347), .val (.int v352), .val (.ref b353), .val (.ref b354), .val (.ref b355), .val (.ref b356), .val (.int (0 : Int32)), .val (.int (1 : Int32)), .val (.int (2 : Int32)), .val (.int (1 : Int32))]) rfl ?_
        refine W_goto B (hb hby at_318) (by decide) (pc' := 364) (by decide) ?_
        refine W_aload B (hb hby at_364) (pc' := 366) rfl rfl rfl ?_
        refine W_iload B (hb hby at_366) (pc' := 368) rfl rfl ?_
        refine W_iload B (hb hby at_368) (pc' := 370) rfl rfl ?_
        have n397 : ¬ v352 < (0 : Int32) := by
          refine onltI_i ?_
          have fq1 := orI v352
          have fq2 := orI ((a4 &&& (2147483647 : Int32)) % z347)
          have fq3 := orI (a4 &&& (2147483647 : Int32))
          have fq4 := orI a4
          have fq5 : ((2147483647 : Int32)).toInt = 2147483647 := rfl
          have fq6 := omaskI a4 (2147483647 : Int32) 31 2147483648 (by decide) (by decide) (by decide)
          have fq7 := orI z347
          have fq8 := oiremV (a4 &&& (2147483647 : Int32)) z347
          have fq9 := congrArg Int32.toInt hv352
          have fq10 : ((0 : Int32)).toInt = 0 := rfl
          have fq11 := orI v121
          have fq12 := k122
          have fq13 := orI v123
          have fq14 := k124
          have fq15 := orI v125
          have fq16 := k126
          have fq17 := orI (a2 &&& (1 : Int32))
          have fq18 := orI a2
          have fq19 : ((1 : Int32)).toInt = 1 := rfl
          have fq20 := omaskI a2 (1 : Int32) 1 2 (by decide) (by decide) (by decide)
          have fq21 := oneI c127
          have fq22 := orI (a2 &&& (2 : Int32))
          have fq23 : ((2 : Int32)).toInt = 2 := rfl
          have fq24 := oandI a2 (2 : Int32) (by decide)
          have fq25 := oneI c265
          have fq26 := orI v345
          have fq27 := oiadd v121 v123
          have fq28 := congrArg Int32.toInt hv345
          have fq29 := orI v346
          have fq30 := oiadd v345 v125
          have fq31 := congrArg Int32.toInt hv346
          have fq32 := hz347
          have fq33 := oneI c351
          have fq34 := orI n373
          have fq35 := q378
          have fq36 := orI n380
          have fq37 := q385
          have fq38 := orI n387
          have fq39 := q392
          have fq40 := onltI c396
          omega
        refine W_virtual B (y := (⟨"com/example/tanglemark/tanglemark/datalog/SharedSets", "holder", "(II)I"⟩ : MethodName)) (z := (⟨"com/example/tanglemark/tanglemark/datalog/SharedSets", "holder", "(II)I"⟩ : MethodName)) hown (ow hw (i := 73) rfl) (ow hw (i := 74) rfl) (oNotFace B (ow hw (i := 76) rfl) rfl) (ow hw (i := 76) rfl) (ow hw (i := 75) rfl) (ow hw (i := 4) rfl) (ow hw (i := 77) rfl) (by decide) (a := b356) (rm_ho111 l Z a0 hw h0 b356 sa357 c358 d359 c360 d361 c362 d363 c364 d365 c366 d367 c368 d369 c370 d371 v352 n387 us386 (0 : Int32) n373 n380 (((0 : Int32) + n373) - (0 : Int32)) (((((0 : Int32) + n373) - (0 : Int32)) + n380) - n373) (((0 : Int32) + n373) - (0 : Int32)) (((((0 : Int32) + n373) - (0 : Int32)) + n380) - n373) (((((((0 : Int32) + n373) - (0 : Int32)) + n380) - n373) + n387) - n380) (1 : Int32) (2 : Int32) (3 : Int32) [(b355, oA .int [(.int (30 : Int32)), (.int (31 : Int32)), (.int (32 : Int32))]), (b354, oA .int [(.int (20 : Int32)), (.int (21 : Int32)), (.int (22 : Int32))]), (b353, oA .int [(.int (10 : Int32)), (.int (11 : Int32)), (.int (12 : Int32))])] n397) (lenOf pd_0 rfl) (hb hby at_370) (pc' := 373) rfl (argsL := [(.int (1 : Int32)), (.int v352)]) (rest := []) rfl (by rw [hml]; rfl) (W := 0) (oLe rfl) (j := 14) rfl (by decide) (cells' := 20) rfl (slots' := 176) rfl ?_
        intro T v_ d_ q_ B
        rcases q_ with ⟨q398, rfl, rfl⟩ | ⟨q399, q400, rfl, rfl⟩ | ⟨q401, q402, rfl, rfl⟩
        · show oWin p e below Z h0 _ _ (T.setTop (mkF m 373 #[.val (.int a1), .val (.int a2), .val (.int a3), .val (.int a4), .val (.int v121), .val (.int v123), .val (.int v125), .val (.int (1 : Int32)), .val (.int (1 : Int32)), .val (.int (1 : Int32)), .val (.int v121), .val (.int v345), .val (.int v345), .val (.int v346), .val (.int z347), .val (.int v352), .val (.ref b353), .val (.ref b354), .val (.ref b355), .val (.ref b356), .val (.int (0 : Int32)), .val (.int (1 : Int32)), .val (.int (2 : Int32)), .val (.int (1 : Int32))] [(.int (0 : Int32))]))
          refine W_iload B (hb hby at_373) (pc' := 375) rfl rfl ?_
          refine W_icmpY B (hb hby at_375) (by decide) (pc' := 382) (by decide) (by decide) ?_
          refine W_iconst B (hb hby at_382) (pc' := 383) rfl (z := (0 : Int32)) (by decide) ?_
          refine W_retNW B hS hret (by simp) (hb hby at_383) (by decide) ?_
          exfalso
          have fq1 := orI v121
          have fq2 := k122
          have fq3 := orI v123
          have fq4 := k124
          have fq5 := orI v125
          have fq6 := k126
          have fq7 := orI (a2 &&& (1 : Int32))
          have fq8 := orI a2
          have fq9 : ((1 : Int32)).toInt = 1 := rfl
          have fq10 := omaskI a2 (1 : Int32) 1 2 (by decide) (by decide) (by decide)
          have fq11 : ((0 : Int32)).toInt = 0 := rfl
          have fq12 := oneI c127
          have fq13 := orI (a2 &&& (2 : Int32))
          have fq14 : ((2 : Int32)).toInt = 2 := rfl
          have fq15 := oandI a2 (2 : Int32) (by decide)
          have fq16 := oneI c265
          have fq17 := orI z347
          have fq18 := orI v345
          have fq19 := oiadd v121 v123
          have fq20 := congrArg Int32.toInt hv345
          have fq21 := orI v346
          have fq22 := oiadd v345 v125
          have fq23 := congrArg Int32.toInt hv346
          have fq24 := hz347
          have fq25 := oneI c351
          have fq26 := orI n373
          have fq27 := q378
          have fq28 := orI n380
          have fq29 := q385
          have fq30 := orI n387
          have fq31 := q392
          have fq32 := orI v352
          have fq33 := orI ((a4 &&& (2147483647 : Int32)) % z347)
          have fq34 := orI (a4 &&& (2147483647 : Int32))
          have fq35 := orI a4
          have fq36 : ((2147483647 : Int32)).toInt = 2147483647 := rfl
          have fq37 := omaskI a4 (2147483647 : Int32) 31 2147483648 (by decide) (by decide) (by decide)
          have fq38 := oiremV (a4 &&& (2147483647 : Int32)) z347
          have fq39 := congrArg Int32.toInt hv352
          have fq40 := onltI c396
          have fq41 := onltI n397
          have fq42 := oiadd (0 : Int32) n373
          have fq43 := oisub ((0 : Int32) + n373) (0 : Int32)
          have fq44 := oltI q398
          omega
        · show oWin p e below Z h0 _ _ (T.setTop (mkF m 373 #[.val (.int a1), .val (.int a2), .val (.int a3), .val (.int a4), .val (.int v121), .val (.int v123), .val (.int v125), .val (.int (1 : Int32)), .val (.int (1 : Int32)), .val (.int (1 : Int32)), .val (.int v121), .val (.int v345), .val (.int v345), .val (.int v346), .val (.int z347), .val (.int v352), .val (.ref b353), .val (.ref b354), .val (.ref b355), .val (.ref b356), .val (.int (0 : Int32)), .val (.int (1 : Int32)), .val (.int (2 : Int32)), .val (.int (1 : Int32))] [(.int (1 : Int32))]))
          refine W_iload B (hb hby at_373) (pc' := 375) rfl rfl ?_
          refine W_icmpN B (hb hby at_375) (pc' := 378) rfl (by decide) ?_
          refine W_iconst B (hb hby at_378) (pc' := 379) rfl (z := (1 : Int32)) (by decide) ?_
          refine W_goto B (hb hby at_379) (by decide) (pc' := 383) (by decide) ?_
          refine W_retNW B hS hret (by simp) (hb hby at_383) (by decide) ?_
          rfl
        show oWin p e below Z h0 _ _ (T.setTop (mkF m 373 #[.val (.int a1), .val (.int a2), .val (.int a3), .val (.int a4), .val (.int v121), .val (.int v123), .val (.int v125), .val (.int (1 : Int32)), .val (.int (1 : Int32)), .val (.int (1 : Int32)), .val (.int v121), .val (.int v345), .val (.int v345), .val (.int v346), .val (.int z347), .val (.int v352), .val (.ref b353), .val (.ref b354), .val (.ref b355), .val (.ref b356), .val (.int (0 : Int32)), .val (.int (1 : Int32)), .val (.int (2 : Int32)), .val (.int (1 : Int32))] [(.int (0 : Int32))]))
        refine W_iload B (hb hby at_373) (pc' := 375) rfl rfl ?_
        refine W_icmpY B (hb hby at_375) (by decide) (pc' := 382) (by decide) (by decide) ?_
        refine W_iconst B (hb hby at_382) (pc' := 383) rfl (z := (0 : Int32)) (by decide) ?_
        refine W_retNW B hS hret (by simp) (hb hby at_383) (by decide) ?_
        exfalso
        have fq1 := orI v121
        have fq2 := k122
        have fq3 := orI v123
        have fq4 := k124
        have fq5 := orI v125
        have fq6 := k126
        have fq7 := orI (a2 &&& (1 : Int32))
        have fq8 := orI a2
        have fq9 : ((1 : Int32)).toInt = 1 := rfl
        have fq10 := omaskI a2 (1 : Int32) 1 2 (by decide) (by decide) (by decide)
        have fq11 : ((0 : Int32)).toInt = 0 := rfl
        have fq12 := oneI c127
        have fq13 := orI (a2 &&& (2 : Int32))
        have fq14 : ((2 : Int32)).toInt = 2 := rfl
        have fq15 := oandI a2 (2 : Int32) (by decide)
        have fq16 := oneI c265
        have fq17 := orI z347
        have fq18 := orI v345
        have fq19 := oiadd v121 v123
        have fq20 := congrArg Int32.toInt hv345
        have fq21 := orI v346
        have fq22 := oiadd v345 v125
        have fq23 := congrArg Int32.toInt hv346
        have fq24 := hz347
        have fq25 := oneI c351
        have fq26 := orI n373
        have fq27 := q378
        have fq28 := orI n380
        have fq29 := q385
        have fq30 := orI n387
        have fq31 := q392
        have fq32 := orI v352
        have fq33 := orI ((a4 &&& (2147483647 : Int32)) % z347)
        have fq34 := orI (a4 &&& (2147483647 : Int32))
        have fq35 := orI a4
        have fq36 : ((2147483647 : Int32)).toInt = 2147483647 := rfl
        have fq37 := omaskI a4 (2147483647 : Int32) 31 2147483648 (by decide) (by decide) (by decide)
        have fq38 := oiremV (a4 &&& (2147483647 : Int32)) z347
        have fq39 := congrArg Int32.toInt hv352
        have fq40 := onltI c396
        have fq41 := onltI n397
        have fq42 := oiadd (0 : Int32) n373
        have fq43 := oisub ((0 : Int32) + n373) (0 : Int32)
        have fq44 := onltI q401
        have fq45 := oltI q402
        omega
      refine W_iconst B (hb hby at_311) (pc' := 312) rfl (z := (0 : Int32)) (by decide) ?_
      refine W_goto B (hb hby at_312) (by decide) (pc' := 316) (by decide) ?_
      refine W_istore B (hb hby at_316) (pc' := 318) rfl (v := (0 : Int32)) rfl (ls' := #[.val (.int a1), .val (.int a2), .val (.int a3), .val (.int a4), .val (.int v121), .val (.int v123), .val (.int v125), .val (.int (1 : Int32)), .val (.int (1 : Int32)), .val (.int (1 : Int32)), .val (.int v121), .val (.int v345), .val (.int v345), .val (.int v346), .val (.int z347), .val (.int v352), .val (.ref b353), .val (.ref b354), .val (.ref b355), .val (.ref b356), .val (.int (0 : Int32)), .val (.int (1 : Int32)), .val (.int (2 : Int32)), .val (.int (0 : Int32))]) rfl ?_
      refine W_goto B (hb hby at_318) (by decide) (pc' := 364) (by decide) ?_
      refine W_aload B (hb hby at_364) (pc' := 366) rfl rfl rfl ?_
      refine W_iload B (hb hby at_366) (pc' := 368) rfl rfl ?_
      refine W_iload B (hb hby at_368) (pc' := 370) rfl rfl ?_
      have n403 : ¬ v352 < (0 : Int32) := by
        refine onltI_i ?_
        have fq1 := orI v352
        have fq2 := orI ((a4 &&& (2147483647 : Int32)) % z347)
        have fq3 := orI (a4 &&& (2147483647 : Int32))
        have fq4 := orI a4
        have fq5 : ((2147483647 : Int32)).toInt = 2147483647 := rfl
        have fq6 := omaskI a4 (2147483647 : Int32) 31 2147483648 (by decide) (by decide) (by decide)
        have fq7 := orI z347
        have fq8 := oiremV (a4 &&& (2147483647 : Int32)) z347
        have fq9 := congrArg Int32.toInt hv352
        have fq10 : ((0 : Int32)).toInt = 0 := rfl
        have fq11 := orI v121
        have fq12 := k122
        have fq13 := orI v123
        have fq14 := k124
        have fq15 := orI v125
        have fq16 := k126
        have fq17 := orI (a2 &&& (1 : Int32))
        have fq18 := orI a2
        have fq19 : ((1 : Int32)).toInt = 1 := rfl
        have fq20 := omaskI a2 (1 : Int32) 1 2 (by decide) (by decide) (by decide)
        have fq21 := oneI c127
        have fq22 := orI (a2 &&& (2 : Int32))
        have fq23 : ((2 : Int32)).toInt = 2 := rfl
        have fq24 := oandI a2 (2 : Int32) (by decide)
        have fq25 := oneI c265
        have fq26 := orI v345
        have fq27 := oiadd v121 v123
        have fq28 := congrArg Int32.toInt hv345
        have fq29 := orI v346
        have fq30 := oiadd v345 v125
        have fq31 := congrArg Int32.toInt hv346
        have fq32 := hz347
        have fq33 := oneI c351
        have fq34 := orI n373
        have fq35 := q378
        have fq36 := orI n380
        have fq37 := q385
        have fq38 := orI n387
        have fq39 := q392
        have fq40 := oltI c396
        omega
      refine W_virtual B (y := (⟨"com/example/tanglemark/tanglemark/datalog/SharedSets", "holder", "(II)I"⟩ : MethodName)) (z := (⟨"com/example/tanglemark/tanglemark/datalog/SharedSets", "holder", "(II)I"⟩ : MethodName)) hown (ow hw (i := 73) rfl) (ow hw (i := 74) rfl) (oNotFace B (ow hw (i := 76) rfl) rfl) (ow hw (i := 76) rfl) (ow hw (i := 75) rfl) (ow hw (i := 4) rfl) (ow hw (i := 77) rfl) (by decide) (a := b356) (rm_ho111 l Z a0 hw h0 b356 sa357 c358 d359 c360 d361 c362 d363 c364 d365 c366 d367 c368 d369 c370 d371 v352 n387 us386 (0 : Int32) n373 n380 (((0 : Int32) + n373) - (0 : Int32)) (((((0 : Int32) + n373) - (0 : Int32)) + n380) - n373) (((0 : Int32) + n373) - (0 : Int32)) (((((0 : Int32) + n373) - (0 : Int32)) + n380) - n373) (((((((0 : Int32) + n373) - (0 : Int32)) + n380) - n373) + n387) - n380) (1 : Int32) (2 : Int32) (3 : Int32) [(b355, oA .int [(.int (30 : Int32)), (.int (31 : Int32)), (.int (32 : Int32))]), (b354, oA .int [(.int (20 : Int32)), (.int (21 : Int32)), (.int (22 : Int32))]), (b353, oA .int [(.int (10 : Int32)), (.int (11 : Int32)), (.int (12 : Int32))])] n403) (lenOf pd_0 rfl) (hb hby at_370) (pc' := 373) rfl (argsL := [(.int (1 : Int32)), (.int v352)]) (rest := []) rfl (by rw [hml]; rfl) (W := 0) (oLe rfl) (j := 14) rfl (by decide) (cells' := 20) rfl (slots' := 176) rfl ?_
      intro T v_ d_ q_ B
      rcases q_ with ⟨q404, rfl, rfl⟩ | ⟨q405, q406, rfl, rfl⟩ | ⟨q407, q408, rfl, rfl⟩
      · show oWin p e below Z h0 _ _ (T.setTop (mkF m 373 #[.val (.int a1), .val (.int a2), .val (.int a3), .val (.int a4), .val (.int v121), .val (.int v123), .val (.int v125), .val (.int (1 : Int32)), .val (.int (1 : Int32)), .val (.int (1 : Int32)), .val (.int v121), .val (.int v345), .val (.int v345), .val (.int v346), .val (.int z347), .val (.int v352), .val (.ref b353), .val (.ref b354), .val (.ref b355), .val (.ref b356), .val (.int (0 : Int32)), .val (.int (1 : Int32)), .val (.int (2 : Int32)), .val (.int (0 : Int32))] [(.int (0 : Int32))]))
        refine W_iload B (hb hby at_373) (pc' := 375) rfl rfl ?_
        refine W_icmpN B (hb hby at_375) (pc' := 378) rfl (by decide) ?_
        refine W_iconst B (hb hby at_378) (pc' := 379) rfl (z := (1 : Int32)) (by decide) ?_
        refine W_goto B (hb hby at_379) (by decide) (pc' := 383) (by decide) ?_
        refine W_retNW B hS hret (by simp) (hb hby at_383) (by decide) ?_
        rfl
      · show oWin p e below Z h0 _ _ (T.setTop (mkF m 373 #[.val (.int a1), .val (.int a2), .val (.int a3), .val (.int a4), .val (.int v121), .val (.int v123), .val (.int v125), .val (.int (1 : Int32)), .val (.int (1 : Int32)), .val (.int (1 : Int32)), .val (.int v121), .val (.int v345), .val (.int v345), .val (.int v346), .val (.int z347), .val (.int v352), .val (.ref b353), .val (.ref b354), .val (.ref b355), .val (.ref b356), .val (.int (0 : Int32)), .val (.int (1 : Int32)), .val (.int (2 : Int32)), .val (.int (0 : Int32))] [(.int (1 : Int32))]))
        refine W_iload B (hb hby at_373) (pc' := 375) rfl rfl ?_
        refine W_icmpY B (hb hby at_375) (by decide) (pc' := 382) (by decide) (by decide) ?_
        refine W_iconst B (hb hby at_382) (pc' := 383) rfl (z := (0 : Int32)) (by decide) ?_
        refine W_retNW B hS hret (by simp) (hb hby at_383) (by decide) ?_
        exfalso
        have fq1 := orI v121
        have fq2 := k122
        have fq3 := orI v123
        have fq4 := k124
        have fq5 := orI v125
        have fq6 := k126
        have fq7 := orI (a2 &&& (1 : Int32))
        have fq8 := orI a2
        have fq9 : ((1 : Int32)).toInt = 1 := rfl
        have fq10 := omaskI a2 (1 : Int32) 1 2 (by decide) (by decide) (by decide)
        have fq11 : ((0 : Int32)).toInt = 0 := rfl
        have fq12 := oneI c127
        have fq13 := orI (a2 &&& (2 : Int32))
        have fq14 : ((2 : Int32)).toInt = 2 := rfl
        have fq15 := oandI a2 (2 : Int32) (by decide)
        have fq16 := oneI c265
        have fq17 := orI z347
        have fq18 := orI v345
        have fq19 := oiadd v121 v123
        have fq20 := congrArg Int32.toInt hv345
        have fq21 := orI v346
        have fq22 := oiadd v345 v125
        have fq23 := congrArg Int32.toInt hv346
        have fq24 := hz347
        have fq25 := oneI c351
        have fq26 := orI n373
        have fq27 := q378
        have fq28 := orI n380
        have fq29 := q385
        have fq30 := orI n387
        have fq31 := q392
        have fq32 := orI v352
        have fq33 := orI ((a4 &&& (2147483647 : Int32)) % z347)
        have fq34 := orI (a4 &&& (2147483647 : Int32))
        have fq35 := orI a4
        have fq36 : ((2147483647 : Int32)).toInt = 2147483647 := rfl
        have fq37 := omaskI a4 (2147483647 : Int32) 31 2147483648 (by decide) (by decide) (by decide)
        have fq38 := oiremV (a4 &&& (2147483647 : Int32)) z347
        have fq39 := congrArg Int32.toInt hv352
        have fq40 := oltI c396
        have fq41 := onltI n403
        have fq42 := oiadd (0 : Int32) n373
        have fq43 := oisub ((0 : Int32) + n373) (0 : Int32)
        have fq44 := onltI q405
        have fq45 := onltI q406
        omega
      show oWin p e below Z h0 _ _ (T.setTop (mkF m 373 #[.val (.int a1), .val (.int a2), .val (.int a3), .val (.int a4), .val (.int v121), .val (.int v123), .val (.int v125), .val (.int (1 : Int32)), .val (.int (1 : Int32)), .val (.int (1 : Int32)), .val (.int v121), .val (.int v345), .val (.int v345), .val (.int v346), .val (.int z347), .val (.int v352), .val (.ref b353), .val (.ref b354), .val (.ref b355), .val (.ref b356), .val (.int (0 : Int32)), .val (.int (1 : Int32)), .val (.int (2 : Int32)), .val (.int (0 : Int32))] [(.int (0 : Int32))]))
      refine W_iload B (hb hby at_373) (pc' := 375) rfl rfl ?_
      refine W_icmpN B (hb hby at_375) (pc' := 378) rfl (by decide) ?_
      refine W_iconst B (hb hby at_378) (pc' := 379) rfl (z := (1 : Int32)) (by decide) ?_
      refine W_goto B (hb hby at_379) (by decide) (pc' := 383) (by decide) ?_
      refine W_retNW B hS hret (by simp) (hb hby at_383) (by decide) ?_
      rfl
    refine W_iload B (hb hby at_282) (pc' := 284) rfl rfl ?_
    refine W_ifY B (hb hby at_284) (by decide) (pc' := 293) (by decide) (by decide) ?_
    refine W_iload B (hb hby at_293) (pc' := 295) rfl rfl ?_
    refine W_iconst B (hb hby at_295) (pc' := 296) rfl (z := (1 : Int32)) (by decide) ?_
    refine W_icmpY B (hb hby at_296) (by decide) (pc' := 321) (by decide) (by decide) ?_
    refine W_iload B (hb hby at_321) (pc' := 323) rfl rfl ?_
    refine W_iload B (hb hby at_323) (pc' := 325) rfl rfl ?_
    refine W_icmp_lt B (hb hby at_325) (by decide) (pt := 334) (by decide) (pc' := 328) rfl (fun (c409 : v352 < v345) => ?_) (fun (c409 : ¬ v352 < v345) => ?_)
    · refine W_iload B (hb hby at_334) (pc' := 336) rfl rfl ?_
      refine W_ifN B (hb hby at_336) (pc' := 339) rfl (by decide) ?_
      refine W_iload B (hb hby at_339) (pc' := 341) rfl rfl ?_
      refine W_ifN B (hb hby at_341) (pc' := 344) rfl (by decide) ?_
      refine W_iload B (hb hby at_344) (pc' := 346) rfl rfl ?_
      refine W_iload B (hb hby at_346) (pc' := 348) rfl rfl ?_
      refine W_icmp_ge B (hb hby at_348) (by decide) (pt := 355) (by decide) (pc' := 351) rfl (fun (c410 : ¬ v352 < v121) => ?_) (fun (c410 : v352 < v121) => ?_)
      · refine W_iconst B (hb hby at_355) (pc' := 356) rfl (z := (1 : Int32)) (by decide) ?_
        refine W_istore B (hb hby at_356) (pc' := 358) rfl (v := (1 : Int32)) rfl (ls' := #[.val (.int a1), .val (.int a2), .val (.int a3), .val (.int a4), .val (.int v121), .val (.int v123), .val (.int v125), .val (.int (1 : Int32)), .val (.int (1 : Int32)), .val (.int (2 : Int32)), .val (.int v121), .val (.int v345), .val (.int v345), .val (.int v346), .val (.int z347), .val (.int v352), .val (.ref b353), .val (.ref b354), .val (.ref b355), .val (.ref b356), .val (.int (0 : Int32)), .val (.int (1 : Int32)), .val (.int (2 : Int32)), .val (.int (1 : Int32))]) rfl ?_
        refine W_goto B (hb hby at_358) (by decide) (pc' := 364) (by decide) ?_
        refine W_aload B (hb hby at_364) (pc' := 366) rfl rfl rfl ?_
        refine W_iload B (hb hby at_366) (pc' := 368) rfl rfl ?_
        refine W_iload B (hb hby at_368) (pc' := 370) rfl rfl ?_
        have n411 : ¬ v352 < (0 : Int32) := by
          refine onltI_i ?_
          have fq1 := orI v352
          have fq2 := orI ((a4 &&& (2147483647 : Int32)) % z347)
          have fq3 := orI (a4 &&& (2147483647 : Int32))
          have fq4 := orI a4
          have fq5 : ((2147483647 : Int32)).toInt = 2147483647 := rfl
          have fq6 := omaskI a4 (2147483647 : Int32) 31 2147483648 (by decide) (by decide) (by decide)
          have fq7 := orI z347
          have fq8 := oiremV (a4 &&& (2147483647 : Int32)) z347
          have fq9 := congrArg Int32.toInt hv352
          have fq10 : ((0 : Int32)).toInt = 0 := rfl
          have fq11 := orI v121
          have fq12 := k122
          have fq13 := orI v123
          have fq14 := k124
          have fq15 := orI v125
          have fq16 := k126
          have fq17 := orI (a2 &&& (1 : Int32))
          have fq18 := orI a2
          have fq19 : ((1 : Int32)).toInt = 1 := rfl
          have fq20 := omaskI a2 (1 : Int32) 1 2 (by decide) (by decide) (by decide)
          have fq21 := oneI c127
          have fq22 := orI (a2 &&& (2 : Int32))
          have fq23 : ((2 : Int32)).toInt = 2 := rfl
          have fq24 := oandI a2 (2 : Int32) (by decide)
          have fq25 := oneI c265
          have fq26 := orI v345
          have fq27 := oiadd v121 v123
          have fq28 := congrArg Int32.toInt hv345
          have fq29 := orI v346
          have fq30 := oiadd v345 v125
          have fq31 := congrArg Int32.toInt hv346
          have fq32 := hz347
          have fq33 := oneI c351
          have fq34 := orI n373
          have fq35 := q378
          have fq36 := orI n380
          have fq37 := q385
          have fq38 := orI n387
          have fq39 := q392
          have fq40 := oltI c409
          have fq41 := onltI c410
          omega
        refine W_virtual B (y := (⟨"com/example/tanglemark/tanglemark/datalog/SharedSets", "holder", "(II)I"⟩ : MethodName)) (z := (⟨"com/example/tanglemark/tanglemark/datalog/SharedSets", "holder", "(II)I"⟩ : MethodName)) hown (ow hw (i := 73) rfl) (ow hw (i := 74) rfl) (oNotFace B (ow hw (i := 76) rfl) rfl) (ow hw (i := 76) rfl) (ow hw (i := 75) rfl) (ow hw (i := 4) rfl) (ow hw (i := 77) rfl) (by decide) (a := b356) (rm_ho112 l Z a0 hw h0 b356 sa357 c358 d359 c360 d361 c362 d363 c364 d365 c366 d367 c368 d369 c370 d371 v352 n387 us386 (0 : Int32) n373 n380 (((0 : Int32) + n373) - (0 : Int32)) (((((0 : Int32) + n373) - (0 : Int32)) + n380) - n373) (((0 : Int32) + n373) - (0 : Int32)) (((((0 : Int32) + n373) - (0 : Int32)) + n380) - n373) (((((((0 : Int32) + n373) - (0 : Int32)) + n380) - n373) + n387) - n380) (1 : Int32) (2 : Int32) (3 : Int32) [(b355, oA .int [(.int (30 : Int32)), (.int (31 : Int32)), (.int (32 : Int32))]), (b354, oA .int [(.int (20 : Int32)), (.int (21 : Int32)), (.int (22 : Int32))]), (b353, oA .int [(.int (10 : Int32)), (.int (11 : Int32)), (.int (12 : Int32))])] n411) (lenOf pd_0 rfl) (hb hby at_370) (pc' := 373) rfl (argsL := [(.int (2 : Int32)), (.int v352)]) (rest := []) rfl (by rw [hml]; rfl) (W := 0) (oLe rfl) (j := 14) rfl (by decide) (cells' := 20) rfl (slots' := 176) rfl ?_
        intro T v_ d_ q_ B
        rcases q_ with ⟨q412, rfl, rfl⟩ | ⟨q413, q414, rfl, rfl⟩ | ⟨q415, q416, q417, rfl, rfl⟩ | ⟨q418, q419, q420, rfl, rfl⟩
        · show oWin p e below Z h0 _ _ (T.setTop (mkF m 373 #[.val (.int a1), .val (.int a2), .val (.int a3), .val (.int a4), .val (.int v121), .val (.int v123), .val (.int v125), .val (.int (1 : Int32)), .val (.int (1 : Int32)), .val (.int (2 : Int32)), .val (.int v121), .val (.int v345), .val (.int v345), .val (.int v346), .val (.int z347), .val (.int v352), .val (.ref b353), .val (.ref b354), .val (.ref b355), .val (.ref b356), .val (.int (0 : Int32)), .val (.int (1 : Int32)), .val (.int (2 : Int32)), .val (.int (1 : Int32))] [(.int (0 : Int32))]))
          refine W_iload B (hb hby at_373) (pc' := 375) rfl rfl ?_
          refine W_icmpY B (hb hby at_375) (by decide) (pc' := 382) (by decide) (by decide) ?_
          refine W_iconst B (hb hby at_382) (pc' := 383) rfl (z := (0 : Int32)) (by decide) ?_
          refine W_retNW B hS hret (by simp) (hb hby at_383) (by decide) ?_
          exfalso
          have fq1 := orI v121
          have fq2 := k122
          have fq3 := orI v123
          have fq4 := k124
          have fq5 := orI v125
          have fq6 := k126
          have fq7 := orI (a2 &&& (1 : Int32))
          have fq8 := orI a2
          have fq9 : ((1 : Int32)).toInt = 1 := rfl
          have fq10 := omaskI a2 (1 : Int32) 1 2 (by decide) (by decide) (by decide)
          have fq11 : ((0 : Int32)).toInt = 0 := rfl
          have fq12 := oneI c127
          have fq13 := orI (a2 &&& (2 : Int32))
          have fq14 : ((2 : Int32)).toInt = 2 := rfl
          have fq15 := oandI a2 (2 : Int32) (by decide)
          have fq16 := oneI c265
          have fq17 := orI z347
          have fq18 := orI v345
          have fq19 := oiadd v121 v123
          have fq20 := congrArg Int32.toInt hv345
          have fq21 := orI v346
          have fq22 := oiadd v345 v125
          have fq23 := congrArg Int32.toInt hv346
          have fq24 := hz347
          have fq25 := oneI c351
          have fq26 := orI n373
          have fq27 := q378
          have fq28 := orI n380
          have fq29 := q385
          have fq30 := orI n387
          have fq31 := q392
          have fq32 := orI v352
          have fq33 := orI ((a4 &&& (2147483647 : Int32)) % z347)
          have fq34 := orI (a4 &&& (2147483647 : Int32))
          have fq35 := orI a4
          have fq36 : ((2147483647 : Int32)).toInt = 2147483647 := rfl
          have fq37 := omaskI a4 (2147483647 : Int32) 31 2147483648 (by decide) (by decide) (by decide)
          have fq38 := oiremV (a4 &&& (2147483647 : Int32)) z347
          have fq39 := congrArg Int32.toInt hv352
          have fq40 := oltI c409
          have fq41 := onltI c410
          have fq42 := onltI n411
          have fq43 := oiadd (0 : Int32) n373
          have fq44 := oisub ((0 : Int32) + n373) (0 : Int32)
          have fq45 := oltI q412
          omega
        · show oWin p e below Z h0 _ _ (T.setTop (mkF m 373 #[.val (.int a1), .val (.int a2), .val (.int a3), .val (.int a4), .val (.int v121), .val (.int v123), .val (.int v125), .val (.int (1 : Int32)), .val (.int (1 : Int32)), .val (.int (2 : Int32)), .val (.int v121), .val (.int v345), .val (.int v345), .val (.int v346), .val (.int z347), .val (.int v352), .val (.ref b353), .val (.ref b354), .val (.ref b355), .val (.ref b356), .val (.int (0 : Int32)), .val (.int (1 : Int32)), .val (.int (2 : Int32)), .val (.int (1 : Int32))] [(.int (2 : Int32))]))
          refine W_iload B (hb hby at_373) (pc' := 375) rfl rfl ?_
          refine W_icmpY B (hb hby at_375) (by decide) (pc' := 382) (by decide) (by decide) ?_
          refine W_iconst B (hb hby at_382) (pc' := 383) rfl (z := (0 : Int32)) (by decide) ?_
          refine W_retNW B hS hret (by simp) (hb hby at_383) (by decide) ?_
          exfalso
          have fq1 := orI v121
          have fq2 := k122
          have fq3 := orI v123
          have fq4 := k124
          have fq5 := orI v125
          have fq6 := k126
          have fq7 := orI (a2 &&& (1 : Int32))
          have fq8 := orI a2
          have fq9 : ((1 : Int32)).toInt = 1 := rfl
          have fq10 := omaskI a2 (1 : Int32) 1 2 (by decide) (by decide) (by decide)
          have fq11 : ((0 : Int32)).toInt = 0 := rfl
          have fq12 := oneI c127
          have fq13 := orI (a2 &&& (2 : Int32))
          have fq14 : ((2 : Int32)).toInt = 2 := rfl
          have fq15 := oandI a2 (2 : Int32) (by decide)
          have fq16 := oneI c265
          have fq17 := orI z347
          have fq18 := orI v345
          have fq19 := oiadd v121 v123
          have fq20 := congrArg Int32.toInt hv345
          have fq21 := orI v346
          have fq22 := oiadd v345 v125
          have fq23 := congrArg Int32.toInt hv346
          have fq24 := hz347
          have fq25 := oneI c351
          have fq26 := orI n373
          have fq27 := q378
          have fq28 := orI n380
          have fq29 := q385
          have fq30 := orI n387
          have fq31 := q392
          have fq32 := orI v352
          have fq33 := orI ((a4 &&& (2147483647 : Int32)) % z347)
          have fq34 := orI (a4 &&& (2147483647 : Int32))
          have fq35 := orI a4
          have fq36 : ((2147483647 : Int32)).toInt = 2147483647 := rfl
          have fq37 := omaskI a4 (2147483647 : Int32) 31 2147483648 (by decide) (by decide) (by decide)
          have fq38 := oiremV (a4 &&& (2147483647 : Int32)) z347
          have fq39 := congrArg Int32.toInt hv352
          have fq40 := oltI c409
          have fq41 := onltI c410
          have fq42 := onltI n411
          have fq43 := oiadd (0 : Int32) n373
          have fq44 := oisub ((0 : Int32) + n373) (0 : Int32)
          have fq45 := onltI q413
          have fq46 := oiadd (((0 : Int32) + n373) - (0 : Int32)) n380
          have fq47 := oisub ((((0 : Int32) + n373) - (0 : Int32)) + n380) n373
          have fq48 := onltI q414
          omega
        · show oWin p e below Z h0 _ _ (T.setTop (mkF m 373 #[.val (.int a1), .val (.int a2), .val (.int a3), .val (.int a4), .val (.int v121), .val (.int v123), .val (.int v125), .val (.int (1 : Int32)), .val (.int (1 : Int32)), .val (.int (2 : Int32)), .val (.int v121), .val (.int v345), .val (.int v345), .val (.int v346), .val (.int z347), .val (.int v352), .val (.ref b353), .val (.ref b354), .val (.ref b355), .val (.ref b356), .val (.int (0 : Int32)), .val (.int (1 : Int32)), .val (.int (2 : Int32)), .val (.int (1 : Int32))] [(.int (1 : Int32))]))
          refine W_iload B (hb hby at_373) (pc' := 375) rfl rfl ?_
          refine W_icmpN B (hb hby at_375) (pc' := 378) rfl (by decide) ?_
          refine W_iconst B (hb hby at_378) (pc' := 379) rfl (z := (1 : Int32)) (by decide) ?_
          refine W_goto B (hb hby at_379) (by decide) (pc' := 383) (by decide) ?_
          refine W_retNW B hS hret (by simp) (hb hby at_383) (by decide) ?_
          rfl
        show oWin p e below Z h0 _ _ (T.setTop (mkF m 373 #[.val (.int a1), .val (.int a2), .val (.int a3), .val (.int a4), .val (.int v121), .val (.int v123), .val (.int v125), .val (.int (1 : Int32)), .val (.int (1 : Int32)), .val (.int (2 : Int32)), .val (.int v121), .val (.int v345), .val (.int v345), .val (.int v346), .val (.int z347), .val (.int v352), .val (.ref b353), .val (.ref b354), .val (.ref b355), .val (.ref b356), .val (.int (0 : Int32)), .val (.int (1 : Int32)), .val (.int (2 : Int32)), .val (.int (1 : Int32))] [(.int (0 : Int32))]))
        refine W_iload B (hb hby at_373) (pc' := 375) rfl rfl ?_
        refine W_icmpY B (hb hby at_375) (by decide) (pc' := 382) (by decide) (by decide) ?_
        refine W_iconst B (hb hby at_382) (pc' := 383) rfl (z := (0 : Int32)) (by decide) ?_
        refine W_retNW B hS hret (by simp) (hb hby at_383) (by decide) ?_
        exfalso
        have fq1 := orI v121
        have fq2 := k122
        have fq3 := orI v123
        have fq4 := k124
        have fq5 := orI v125
        have fq6 := k126
        have fq7 := orI (a2 &&& (1 : Int32))
        have fq8 := orI a2
        have fq9 : ((1 : Int32)).toInt = 1 := rfl
        have fq10 := omaskI a2 (1 : Int32) 1 2 (by decide) (by decide) (by decide)
        have fq11 : ((0 : Int32)).toInt = 0 := rfl
        have fq12 := oneI c127
        have fq13 := orI (a2 &&& (2 : Int32))
        have fq14 : ((2 : Int32)).toInt = 2 := rfl
        have fq15 := oandI a2 (2 : Int32) (by decide)
        have fq16 := oneI c265
        have fq17 := orI z347
        have fq18 := orI v345
        have fq19 := oiadd v121 v123
        have fq20 := congrArg Int32.toInt hv345
        have fq21 := orI v346
        have fq22 := oiadd v345 v125
        have fq23 := congrArg Int32.toInt hv346
        have fq24 := hz347
        have fq25 := oneI c351
        have fq26 := orI n373
        have fq27 := q378
        have fq28 := orI n380
        have fq29 := q385
        have fq30 := orI n387
        have fq31 := q392
        have fq32 := orI v352
        have fq33 := orI ((a4 &&& (2147483647 : Int32)) % z347)
        have fq34 := orI (a4 &&& (2147483647 : Int32))
        have fq35 := orI a4
        have fq36 : ((2147483647 : Int32)).toInt = 2147483647 := rfl
        have fq37 := omaskI a4 (2147483647 : Int32) 31 2147483648 (by decide) (by decide) (by decide)
        have fq38 := oiremV (a4 &&& (2147483647 : Int32)) z347
        have fq39 := congrArg Int32.toInt hv352
        have fq40 := oltI c409
        have fq41 := onltI c410
        have fq42 := onltI n411
        have fq43 := oiadd (0 : Int32) n373
        have fq44 := oisub ((0 : Int32) + n373) (0 : Int32)
        have fq45 := onltI q418
        have fq46 := oiadd (((0 : Int32) + n373) - (0 : Int32)) n380
        have fq47 := oisub ((((0 : Int32) + n373) - (0 : Int32)) + n380) n373
        have fq48 := oltI q419
        have fq49 := oltI q420
        omega
      refine W_iconst B (hb hby at_351) (pc' := 352) rfl (z := (0 : Int32)) (by decide) ?_
      refine W_goto B (hb hby at_352) (by decide) (pc' := 356) (by decide) ?_
      refine W_istore B (hb hby at_356) (pc' := 358) rfl (v := (0 : Int32)) rfl (ls' := #[.val (.int a1), .val (.int a2), .val (.int a3), .val (.int a4), .val (.int v121), .val (.int v123), .val (.int v125), .val (.int (1 : Int32)), .val (.int (1 : Int32)), .val (.int (2 : Int32)), .val (.int v121), .val (.int v345), .val (.int v345), .val (.int v346), .val (.int z347), .val (.int v352), .val (.ref b353), .val (.ref b354), .val (.ref b355), .val (.ref b356), .val (.int (0 : Int32)), .val (.int (1 : Int32)), .val (.int (2 : Int32)), .val (.int (0 : Int32))]) rfl ?_
      refine W_goto B (hb hby at_358) (by decide) (pc' := 364) (by decide) ?_
      refine W_aload B (hb hby at_364) (pc' := 366) rfl rfl rfl ?_
      refine W_iload B (hb hby at_366) (pc' := 368) rfl rfl ?_
      refine W_iload B (hb hby at_368) (pc' := 370) rfl rfl ?_
      have n421 : ¬ v352 < (0 : Int32) := by
        refine onltI_i ?_
        have fq1 := orI v352
        have fq2 := orI ((a4 &&& (2147483647 : Int32)) % z347)
        have fq3 := orI (a4 &&& (2147483647 : Int32))
        have fq4 := orI a4
        have fq5 : ((2147483647 : Int32)).toInt = 2147483647 := rfl
        have fq6 := omaskI a4 (2147483647 : Int32) 31 2147483648 (by decide) (by decide) (by decide)
        have fq7 := orI z347
        have fq8 := oiremV (a4 &&& (2147483647 : Int32)) z347
        have fq9 := congrArg Int32.toInt hv352
        have fq10 : ((0 : Int32)).toInt = 0 := rfl
        have fq11 := orI v121
        have fq12 := k122
        have fq13 := orI v123
        have fq14 := k124
        have fq15 := orI v125
        have fq16 := k126
        have fq17 := orI (a2 &&& (1 : Int32))
        have fq18 := orI a2
        have fq19 : ((1 : Int32)).toInt = 1 := rfl
        have fq20 := omaskI a2 (1 : Int32) 1 2 (by decide) (by decide) (by decide)
        have fq21 := oneI c127
        have fq22 := orI (a2 &&& (2 : Int32))
        have fq23 : ((2 : Int32)).toInt = 2 := rfl
        have fq24 := oandI a2 (2 : Int32) (by decide)
        have fq25 := oneI c265
        have fq26 := orI v345
        have fq27 := oiadd v121 v123
        have fq28 := congrArg Int32.toInt hv345
        have fq29 := orI v346
        have fq30 := oiadd v345 v125
        have fq31 := congrArg Int32.toInt hv346
        have fq32 := hz347
        have fq33 := oneI c351
        have fq34 := orI n373
        have fq35 := q378
        have fq36 := orI n380
        have fq37 := q385
        have fq38 := orI n387
        have fq39 := q392
        have fq40 := oltI c409
        have fq41 := oltI c410
        omega
      refine W_virtual B (y := (⟨"com/example/tanglemark/tanglemark/datalog/SharedSets", "holder", "(II)I"⟩ : MethodName)) (z := (⟨"com/example/tanglemark/tanglemark/datalog/SharedSets", "holder", "(II)I"⟩ : MethodName)) hown (ow hw (i := 73) rfl) (ow hw (i := 74) rfl) (oNotFace B (ow hw (i := 76) rfl) rfl) (ow hw (i := 76) rfl) (ow hw (i := 75) rfl) (ow hw (i := 4) rfl) (ow hw (i := 77) rfl) (by decide) (a := b356) (rm_ho112 l Z a0 hw h0 b356 sa357 c358 d359 c360 d361 c362 d363 c364 d365 c366 d367 c368 d369 c370 d371 v352 n387 us386 (0 : Int32) n373 n380 (((0 : Int32) + n373) - (0 : Int32)) (((((0 : Int32) + n373) - (0 : Int32)) + n380) - n373) (((0 : Int32) + n373) - (0 : Int32)) (((((0 : Int32) + n373) - (0 : Int32)) + n380) - n373) (((((((0 : Int32) + n373) - (0 : Int32)) + n380) - n373) + n387) - n380) (1 : Int32) (2 : Int32) (3 : Int32) [(b355, oA .int [(.int (30 : Int32)), (.int (31 : Int32)), (.int (32 : Int32))]), (b354, oA .int [(.int (20 : Int32)), (.int (21 : Int32)), (.int (22 : Int32))]), (b353, oA .int [(.int (10 : Int32)), (.int (11 : Int32)), (.int (12 : Int32))])] n421) (lenOf pd_0 rfl) (hb hby at_370) (pc' := 373) rfl (argsL := [(.int (2 : Int32)), (.int v352)]) (rest := []) rfl (by rw [hml]; rfl) (W := 0) (oLe rfl) (j := 14) rfl (by decide) (cells' := 20) rfl (slots' := 176) rfl ?_
      intro T v_ d_ q_ B
      rcases q_ with ⟨q422, rfl, rfl⟩ | ⟨q423, q424, rfl, rfl⟩ | ⟨q425, q426, q427, rfl, rfl⟩ | ⟨q428, q429, q430, rfl, rfl⟩
      · show oWin p e below Z h0 _ _ (T.setTop (mkF m 373 #[.val (.int a1), .val (.int a2), .val (.int a3), .val (.int a4), .val (.int v121), .val (.int v123), .val (.int v125), .val (.int (1 : Int32)), .val (.int (1 : Int32)), .val (.int (2 : Int32)), .val (.int v121), .val (.int v345), .val (.int v345), .val (.int v346), .val (.int z347), .val (.int v352), .val (.ref b353), .val (.ref b354), .val (.ref b355), .val (.ref b356), .val (.int (0 : Int32)), .val (.int (1 : Int32)), .val (.int (2 : Int32)), .val (.int (0 : Int32))] [(.int (0 : Int32))]))
        refine W_iload B (hb hby at_373) (pc' := 375) rfl rfl ?_
        refine W_icmpN B (hb hby at_375) (pc' := 378) rfl (by decide) ?_
        refine W_iconst B (hb hby at_378) (pc' := 379) rfl (z := (1 : Int32)) (by decide) ?_
        refine W_goto B (hb hby at_379) (by decide) (pc' := 383) (by decide) ?_
        refine W_retNW B hS hret (by simp) (hb hby at_383) (by decide) ?_
        rfl
      · show oWin p e below Z h0 _ _ (T.setTop (mkF m 373 #[.val (.int a1), .val (.int a2), .val (.int a3), .val (.int a4), .val (.int v121), .val (.int v123), .val (.int v125), .val (.int (1 : Int32)), .val (.int (1 : Int32)), .val (.int (2 : Int32)), .val (.int v121), .val (.int v345), .val (.int v345), .val (.int v346), .val (.int z347), .val (.int v352), .val (.ref b353), .val (.ref b354), .val (.ref b355), .val (.ref b356), .val (.int (0 : Int32)), .val (.int (1 : Int32)), .val (.int (2 : Int32)), .val (.int (0 : Int32))] [(.int (2 : Int32))]))
        refine W_iload B (hb hby at_373) (pc' := 375) rfl rfl ?_
        refine W_icmpY B (hb hby at_375) (by decide) (pc' := 382) (by decide) (by decide) ?_
        refine W_iconst B (hb hby at_382) (pc' := 383) rfl (z := (0 : Int32)) (by decide) ?_
        refine W_retNW B hS hret (by simp) (hb hby at_383) (by decide) ?_
        exfalso
        have fq1 := orI v121
        have fq2 := k122
        have fq3 := orI v123
        have fq4 := k124
        have fq5 := orI v125
        have fq6 := k126
        have fq7 := orI (a2 &&& (1 : Int32))
        have fq8 := orI a2
        have fq9 : ((1 : Int32)).toInt = 1 := rfl
        have fq10 := omaskI a2 (1 : Int32) 1 2 (by decide) (by decide) (by decide)
        have fq11 : ((0 : Int32)).toInt = 0 := rfl
        have fq12 := oneI c127
        have fq13 := orI (a2 &&& (2 : Int32))
        have fq14 : ((2 : Int32)).toInt = 2 := rfl
        have fq15 := oandI a2 (2 : Int32) (by decide)
        have fq16 := oneI c265
        have fq17 := orI z347
        have fq18 := orI v345
        have fq19 := oiadd v121 v123
        have fq20 := congrArg Int32.toInt hv345
        have fq21 := orI v346
        have fq22 := oiadd v345 v125
        have fq23 := congrArg Int32.toInt hv346
        have fq24 := hz347
        have fq25 := oneI c351
        have fq26 := orI n373
        have fq27 := q378
        have fq28 := orI n380
        have fq29 := q385
        have fq30 := orI n387
        have fq31 := q392
        have fq32 := orI v352
        have fq33 := orI ((a4 &&& (2147483647 : Int32)) % z347)
        have fq34 := orI (a4 &&& (2147483647 : Int32))
        have fq35 := orI a4
        have fq36 : ((2147483647 : Int32)).toInt = 2147483647 := rfl
        have fq37 := omaskI a4 (2147483647 : Int32) 31 2147483648 (by decide) (by decide) (by decide)
        have fq38 := oiremV (a4 &&& (2147483647 : Int32)) z347
        have fq39 := congrArg Int32.toInt hv352
        have fq40 := oltI c409
        have fq41 := oltI c410
        have fq42 := onltI n421
        have fq43 := oiadd (0 : Int32) n373
        have fq44 := oisub ((0 : Int32) + n373) (0 : Int32)
        have fq45 := onltI q423
        have fq46 := oiadd (((0 : Int32) + n373) - (0 : Int32)) n380
        have fq47 := oisub ((((0 : Int32) + n373) - (0 : Int32)) + n380) n373
        have fq48 := onltI q424
        omega
      · show oWin p e below Z h0 _ _ (T.setTop (mkF m 373 #[.val (.int a1), .val (.int a2), .val (.int a3), .val (.int a4), .val (.int v121), .val (.int v123), .val (.int v125), .val (.int (1 : Int32)), .val (.int (1 : Int32)), .val (.int (2 : Int32)), .val (.int v121), .val (.int v345), .val (.int v345), .val (.int v346), .val (.int z347), .val (.int v352), .val (.ref b353), .val (.ref b354), .val (.ref b355), .val (.ref b356), .val (.int (0 : Int32)), .val (.int (1 : Int32)), .val (.int (2 : Int32)), .val (.int (0 : Int32))] [(.int (1 : Int32))]))
        refine W_iload B (hb hby at_373) (pc' := 375) rfl rfl ?_
        refine W_icmpY B (hb hby at_375) (by decide) (pc' := 382) (by decide) (by decide) ?_
        refine W_iconst B (hb hby at_382) (pc' := 383) rfl (z := (0 : Int32)) (by decide) ?_
        refine W_retNW B hS hret (by simp) (hb hby at_383) (by decide) ?_
        exfalso
        have fq1 := orI v121
        have fq2 := k122
        have fq3 := orI v123
        have fq4 := k124
        have fq5 := orI v125
        have fq6 := k126
        have fq7 := orI (a2 &&& (1 : Int32))
        have fq8 := orI a2
        have fq9 : ((1 : Int32)).toInt = 1 := rfl
        have fq10 := omaskI a2 (1 : Int32) 1 2 (by decide) (by decide) (by decide)
        have fq11 : ((0 : Int32)).toInt = 0 := rfl
        have fq12 := oneI c127
        have fq13 := orI (a2 &&& (2 : Int32))
        have fq14 : ((2 : Int32)).toInt = 2 := rfl
        have fq15 := oandI a2 (2 : Int32) (by decide)
        have fq16 := oneI c265
        have fq17 := orI z347
        have fq18 := orI v345
        have fq19 := oiadd v121 v123
        have fq20 := congrArg Int32.toInt hv345
        have fq21 := orI v346
        have fq22 := oiadd v345 v125
        have fq23 := congrArg Int32.toInt hv346
        have fq24 := hz347
        have fq25 := oneI c351
        have fq26 := orI n373
        have fq27 := q378
        have fq28 := orI n380
        have fq29 := q385
        have fq30 := orI n387
        have fq31 := q392
        have fq32 := orI v352
        have fq33 := orI ((a4 &&& (2147483647 : Int32)) % z347)
        have fq34 := orI (a4 &&& (2147483647 : Int32))
        have fq35 := orI a4
        have fq36 : ((2147483647 : Int32)).toInt = 2147483647 := rfl
        have fq37 := omaskI a4 (2147483647 : Int32) 31 2147483648 (by decide) (by decide) (by decide)
        have fq38 := oiremV (a4 &&& (2147483647 : Int32)) z347
        have fq39 := congrArg Int32.toInt hv352
        have fq40 := oltI c409
        have fq41 := oltI c410
        have fq42 := onltI n421
        have fq43 := oiadd (0 : Int32) n373
        have fq44 := oisub ((0 : Int32) + n373) (0 : Int32)
        have fq45 := onltI q425
        have fq46 := oiadd (((0 : Int32) + n373) - (0 : Int32)) n380
        have fq47 := oisub ((((0 : Int32) + n373) - (0 : Int32)) + n380) n373
        have fq48 := oltI q426
        have fq49 := onltI q427
        omega
      show oWin p e below Z h0 _ _ (T.setTop (mkF m 373 #[.val (.int a1), .val (.int a2), .val (.int a3), .val (.int a4), .val (.int v121), .val (.int v123), .val (.int v125), .val (.int (1 : Int32)), .val (.int (1 : Int32)), .val (.int (2 : Int32)), .val (.int v121), .val (.int v345), .val (.int v345), .val (.int v346), .val (.int z347), .val (.int v352), .val (.ref b353), .val (.ref b354), .val (.ref b355), .val (.ref b356), .val (.int (0 : Int32)), .val (.int (1 : Int32)), .val (.int (2 : Int32)), .val (.int (0 : Int32))] [(.int (0 : Int32))]))
      refine W_iload B (hb hby at_373) (pc' := 375) rfl rfl ?_
      refine W_icmpN B (hb hby at_375) (pc' := 378) rfl (by decide) ?_
      refine W_iconst B (hb hby at_378) (pc' := 379) rfl (z := (1 : Int32)) (by decide) ?_
      refine W_goto B (hb hby at_379) (by decide) (pc' := 383) (by decide) ?_
      refine W_retNW B hS hret (by simp) (hb hby at_383) (by decide) ?_
      rfl
    refine W_iconst B (hb hby at_328) (pc' := 329) rfl (z := (2 : Int32)) (by decide) ?_
    refine W_istore B (hb hby at_329) (pc' := 331) rfl (v := (2 : Int32)) rfl (ls' := #[.val (.int a1), .val (.int a2), .val (.int a3), .val (.int a4), .val (.int v121), .val (.int v123), .val (.int v125), .val (.int (1 : Int32)), .val (.int (1 : Int32)), .val (.int (2 : Int32)), .val (.int v121), .val (.int v345), .val (.int v345), .val (.int v346), .val (.int z347), .val (.int v352), .val (.ref b353), .val (.ref b354), .val (.ref b355), .val (.ref b356), .val (.int (0 : Int32)), .val (.int (1 : Int32)), .val (.int (2 : Int32)), .val (.int (2 : Int32))]) rfl ?_
    refine W_goto B (hb hby at_331) (by decide) (pc' := 364) (by decide) ?_
    refine W_aload B (hb hby at_364) (pc' := 366) rfl rfl rfl ?_
    refine W_iload B (hb hby at_366) (pc' := 368) rfl rfl ?_
    refine W_iload B (hb hby at_368) (pc' := 370) rfl rfl ?_
    have n431 : ¬ v352 < (0 : Int32) := by
      refine onltI_i ?_
      have fq1 := orI v352
      have fq2 := orI ((a4 &&& (2147483647 : Int32)) % z347)
      have fq3 := orI (a4 &&& (2147483647 : Int32))
      have fq4 := orI a4
      have fq5 : ((2147483647 : Int32)).toInt = 2147483647 := rfl
      have fq6 := omaskI a4 (2147483647 : Int32) 31 2147483648 (by decide) (by decide) (by decide)
      have fq7 := orI z347
      have fq8 := oiremV (a4 &&& (2147483647 : Int32)) z347
      have fq9 := congrArg Int32.toInt hv352
      have fq10 : ((0 : Int32)).toInt = 0 := rfl
      have fq11 := orI v121
      have fq12 := k122
      have fq13 := orI v123
      have fq14 := k124
      have fq15 := orI v125
      have fq16 := k126
      have fq17 := orI (a2 &&& (1 : Int32))
      have fq18 := orI a2
      have fq19 : ((1 : Int32)).toInt = 1 := rfl
      have fq20 := omaskI a2 (1 : Int32) 1 2 (by decide) (by decide) (by decide)
      have fq21 := oneI c127
      have fq22 := orI (a2 &&& (2 : Int32))
      have fq23 : ((2 : Int32)).toInt = 2 := rfl
      have fq24 := oandI a2 (2 : Int32) (by decide)
      have fq25 := oneI c265
      have fq26 := orI v345
      have fq27 := oiadd v121 v123
      have fq28 := congrArg Int32.toInt hv345
      have fq29 := orI v346
      have fq30 := oiadd v345 v125
      have fq31 := congrArg Int32.toInt hv346
      have fq32 := hz347
      have fq33 := oneI c351
      have fq34 := orI n373
      have fq35 := q378
      have fq36 := orI n380
      have fq37 := q385
      have fq38 := orI n387
      have fq39 := q392
      have fq40 := onltI c409
      omega
    refine W_virtual B (y := (⟨"com/example/tanglemark/tanglemark/datalog/SharedSets", "holder", "(II)I"⟩ : MethodName)) (z := (⟨"com/example/tanglemark/tanglemark/datalog/SharedSets", "holder", "(II)I"⟩ : MethodName)) hown (ow hw (i := 73) rfl) (ow hw (i := 74) rfl) (oNotFace B (ow hw (i := 76) rfl) rfl) (ow hw (i := 76) rfl) (ow hw (i := 75) rfl) (ow hw (i := 4) rfl) (ow hw (i := 77) rfl) (by decide) (a := b356) (rm_ho112 l Z a0 hw h0 b356 sa357 c358 d359 c360 d361 c362 d363 c364 d365 c366 d367 c368 d369 c370 d371 v352 n387 us386 (0 : Int32) n373 n380 (((0 : Int32) + n373) - (0 : Int32)) (((((0 : Int32) + n373) - (0 : Int32)) + n380) - n373) (((0 : Int32) + n373) - (0 : Int32)) (((((0 : Int32) + n373) - (0 : Int32)) + n380) - n373) (((((((0 : Int32) + n373) - (0 : Int32)) + n380) - n373) + n387) - n380) (1 : Int32) (2 : Int32) (3 : Int32) [(b355, oA .int [(.int (30 : Int32)), (.int (31 : Int32)), (.int (32 : Int32))]), (b354, oA .int [(.int (20 : Int32)), (.int (21 : Int32)), (.int (22 : Int32))]), (b353, oA .int [(.int (10 : Int32)), (.int (11 : Int32)), (.int (12 : Int32))])] n431) (lenOf pd_0 rfl) (hb hby at_370) (pc' := 373) rfl (argsL := [(.int (2 : Int32)), (.int v352)]) (rest := []) rfl (by rw [hml]; rfl) (W := 0) (oLe rfl) (j := 14) rfl (by decide) (cells' := 20) rfl (slots' := 176) rfl ?_
    intro T v_ d_ q_ B
    rcases q_ with ⟨q432, rfl, rfl⟩ | ⟨q433, q434, rfl, rfl⟩ | ⟨q435, q436, q437, rfl, rfl⟩ | ⟨q438, q439, q440, rfl, rfl⟩
    · show oWin p e below Z h0 _ _ (T.setTop (mkF m 373 #[.val (.int a1), .val (.int a2), .val (.int a3), .val (.int a4), .val (.int v121), .val (.int v123), .val (.int v125), .val (.int (1 : Int32)), .val (.int (1 : Int32)), .val (.int (2 : Int32)), .val (.int v121), .val (.int v345), .val (.int v345), .val (.int v346), .val (.int z347), .val (.int v352), .val (.ref b353), .val (.ref b354), .val (.ref b355), .val (.ref b356), .val (.int (0 : Int32)), .val (.int (1 : Int32)), .val (.int (2 : Int32)), .val (.int (2 : Int32))] [(.int (0 : Int32))]))
      refine W_iload B (hb hby at_373) (pc' := 375) rfl rfl ?_
      refine W_icmpY B (hb hby at_375) (by decide) (pc' := 382) (by decide) (by decide) ?_
      refine W_iconst B (hb hby at_382) (pc' := 383) rfl (z := (0 : Int32)) (by decide) ?_
      refine W_retNW B hS hret (by simp) (hb hby at_383) (by decide) ?_
      exfalso
      have fq1 := orI v121
      have fq2 := k122
      have fq3 := orI v123
      have fq4 := k124
      have fq5 := orI v125
      have fq6 := k126
      have fq7 := orI (a2 &&& (1 : Int32))
      have fq8 := orI a2
      have fq9 : ((1 : Int32)).toInt = 1 := rfl
      have fq10 := omaskI a2 (1 : Int32) 1 2 (by decide) (by decide) (by decide)
      have fq11 : ((0 : Int32)).toInt = 0 := rfl
      have fq12 := oneI c127
      have fq13 := orI (a2 &&& (2 : Int32))
      have fq14 : ((2 : Int32)).toInt = 2 := rfl
      have fq15 := oandI a2 (2 : Int32) (by decide)
      have fq16 := oneI c265
      have fq17 := orI z347
      have fq18 := orI v345
      have fq19 := oiadd v121 v123
      have fq20 := congrArg Int32.toInt hv345
      have fq21 := orI v346
      have fq22 := oiadd v345 v125
      have fq23 := congrArg Int32.toInt hv346
      have fq24 := hz347
      have fq25 := oneI c351
      have fq26 := orI n373
      have fq27 := q378
      have fq28 := orI n380
      have fq29 := q385
      have fq30 := orI n387
      have fq31 := q392
      have fq32 := orI v352
      have fq33 := orI ((a4 &&& (2147483647 : Int32)) % z347)
      have fq34 := orI (a4 &&& (2147483647 : Int32))
      have fq35 := orI a4
      have fq36 : ((2147483647 : Int32)).toInt = 2147483647 := rfl
      have fq37 := omaskI a4 (2147483647 : Int32) 31 2147483648 (by decide) (by decide) (by decide)
      have fq38 := oiremV (a4 &&& (2147483647 : Int32)) z347
      have fq39 := congrArg Int32.toInt hv352
      have fq40 := onltI c409
      have fq41 := onltI n431
      have fq42 := oiadd (0 : Int32) n373
      have fq43 := oisub ((0 : Int32) + n373) (0 : Int32)
      have fq44 := oltI q432
      omega
    · show oWin p e below Z h0 _ _ (T.setTop (mkF m 373 #[.val (.int a1), .val (.int a2), .val (.int a3), .val (.int a4), .val (.int v121), .val (.int v123), .val (.int v125), .val (.int (1 : Int32)), .val (.int (1 : Int32)), .val (.int (2 : Int32)), .val (.int v121), .val (.int v345), .val (.int v345), .val (.int v346), .val (.int z347), .val (.int v352), .val (.ref b353), .val (.ref b354), .val (.ref b355), .val (.ref b356), .val (.int (0 : Int32)), .val (.int (1 : Int32)), .val (.int (2 : Int32)), .val (.int (2 : Int32))] [(.int (2 : Int32))]))
      refine W_iload B (hb hby at_373) (pc' := 375) rfl rfl ?_
      refine W_icmpN B (hb hby at_375) (pc' := 378) rfl (by decide) ?_
      refine W_iconst B (hb hby at_378) (pc' := 379) rfl (z := (1 : Int32)) (by decide) ?_
      refine W_goto B (hb hby at_379) (by decide) (pc' := 383) (by decide) ?_
      refine W_retNW B hS hret (by simp) (hb hby at_383) (by decide) ?_
      rfl
    · show oWin p e below Z h0 _ _ (T.setTop (mkF m 373 #[.val (.int a1), .val (.int a2), .val (.int a3), .val (.int a4), .val (.int v121), .val (.int v123), .val (.int v125), .val (.int (1 : Int32)), .val (.int (1 : Int32)), .val (.int (2 : Int32)), .val (.int v121), .val (.int v345), .val (.int v345), .val (.int v346), .val (.int z347), .val (.int v352), .val (.ref b353), .val (.ref b354), .val (.ref b355), .val (.ref b356), .val (.int (0 : Int32)), .val (.int (1 : Int32)), .val (.int (2 : Int32)), .val (.int (2 : Int32))] [(.int (1 : Int32))]))
      refine W_iload B (hb hby at_373) (pc' := 375) rfl rfl ?_
      refine W_icmpY B (hb hby at_375) (by decide) (pc' := 382) (by decide) (by decide) ?_
      refine W_iconst B (hb hby at_382) (pc' := 383) rfl (z := (0 : Int32)) (by decide) ?_
      refine W_retNW B hS hret (by simp) (hb hby at_383) (by decide) ?_
      exfalso
      have fq1 := orI v121
      have fq2 := k122
      have fq3 := orI v123
      have fq4 := k124
      have fq5 := orI v125
      have fq6 := k126
      have fq7 := orI (a2 &&& (1 : Int32))
      have fq8 := orI a2
      have fq9 : ((1 : Int32)).toInt = 1 := rfl
      have fq10 := omaskI a2 (1 : Int32) 1 2 (by decide) (by decide) (by decide)
      have fq11 : ((0 : Int32)).toInt = 0 := rfl
      have fq12 := oneI c127
      have fq13 := orI (a2 &&& (2 : Int32))
      have fq14 : ((2 : Int32)).toInt = 2 := rfl
      have fq15 := oandI a2 (2 : Int32) (by decide)
      have fq16 := oneI c265
      have fq17 := orI z347
      have fq18 := orI v345
      have fq19 := oiadd v121 v123
      have fq20 := congrArg Int32.toInt hv345
      have fq21 := orI v346
      have fq22 := oiadd v345 v125
      have fq23 := congrArg Int32.toInt hv346
      have fq24 := hz347
      have fq25 := oneI c351
      have fq26 := orI n373
      have fq27 := q378
      have fq28 := orI n380
      have fq29 := q385
      have fq30 := orI n387
      have fq31 := q392
      have fq32 := orI v352
      have fq33 := orI ((a4 &&& (2147483647 : Int32)) % z347)
      have fq34 := orI (a4 &&& (2147483647 : Int32))
      have fq35 := orI a4
      have fq36 : ((2147483647 : Int32)).toInt = 2147483647 := rfl
      have fq37 := omaskI a4 (2147483647 : Int32) 31 2147483648 (by decide) (by decide) (by decide)
      have fq38 := oiremV (a4 &&& (2147483647 : Int32)) z347
      have fq39 := congrArg Int32.toInt hv352
      have fq40 := onltI c409
      have fq41 := onltI n431
      have fq42 := oiadd (0 : Int32) n373
      have fq43 := oisub ((0 : Int32) + n373) (0 : Int32)
      have fq44 := onltI q435
      have fq45 := oiadd (((0 : Int32) + n373) - (0 : Int32)) n380
      have fq46 := oisub ((((0 : Int32) + n373) - (0 : Int32)) + n380) n373
      have fq47 := oltI q436
      have fq48 := onltI q437
      omega
    show oWin p e below Z h0 _ _ (T.setTop (mkF m 373 #[.val (.int a1), .val (.int a2), .val (.int a3), .val (.int a4), .val (.int v121), .val (.int v123), .val (.int v125), .val (.int (1 : Int32)), .val (.int (1 : Int32)), .val (.int (2 : Int32)), .val (.int v121), .val (.int v345), .val (.int v345), .val (.int v346), .val (.int z347), .val (.int v352), .val (.ref b353), .val (.ref b354), .val (.ref b355), .val (.ref b356), .val (.int (0 : Int32)), .val (.int (1 : Int32)), .val (.int (2 : Int32)), .val (.int (2 : Int32))] [(.int (0 : Int32))]))
    refine W_iload B (hb hby at_373) (pc' := 375) rfl rfl ?_
    refine W_icmpY B (hb hby at_375) (by decide) (pc' := 382) (by decide) (by decide) ?_
    refine W_iconst B (hb hby at_382) (pc' := 383) rfl (z := (0 : Int32)) (by decide) ?_
    refine W_retNW B hS hret (by simp) (hb hby at_383) (by decide) ?_
    exfalso
    have fq1 := orI v121
    have fq2 := k122
    have fq3 := orI v123
    have fq4 := k124
    have fq5 := orI v125
    have fq6 := k126
    have fq7 := orI (a2 &&& (1 : Int32))
    have fq8 := orI a2
    have fq9 : ((1 : Int32)).toInt = 1 := rfl
    have fq10 := omaskI a2 (1 : Int32) 1 2 (by decide) (by decide) (by decide)
    have fq11 : ((0 : Int32)).toInt = 0 := rfl
    have fq12 := oneI c127
    have fq13 := orI (a2 &&& (2 : Int32))
    have fq14 : ((2 : Int32)).toInt = 2 := rfl
    have fq15 := oandI a2 (2 : Int32) (by decide)
    have fq16 := oneI c265
    have fq17 := orI z347
    have fq18 := orI v345
    have fq19 := oiadd v121 v123
    have fq20 := congrArg Int32.toInt hv345
    have fq21 := orI v346
    have fq22 := oiadd v345 v125
    have fq23 := congrArg Int32.toInt hv346
    have fq24 := hz347
    have fq25 := oneI c351
    have fq26 := orI n373
    have fq27 := q378
    have fq28 := orI n380
    have fq29 := q385
    have fq30 := orI n387
    have fq31 := q392
    have fq32 := orI v352
    have fq33 := orI ((a4 &&& (2147483647 : Int32)) % z347)
    have fq34 := orI (a4 &&& (2147483647 : Int32))
    have fq35 := orI a4
    have fq36 : ((2147483647 : Int32)).toInt = 2147483647 := rfl
    have fq37 := omaskI a4 (2147483647 : Int32) 31 2147483648 (by decide) (by decide) (by decide)
    have fq38 := oiremV (a4 &&& (2147483647 : Int32)) z347
    have fq39 := congrArg Int32.toInt hv352
    have fq40 := onltI c409
    have fq41 := onltI n431
    have fq42 := oiadd (0 : Int32) n373
    have fq43 := oisub ((0 : Int32) + n373) (0 : Int32)
    have fq44 := onltI q438
    have fq45 := oiadd (((0 : Int32) + n373) - (0 : Int32)) n380
    have fq46 := oisub ((((0 : Int32) + n373) - (0 : Int32)) + n380) n373
    have fq47 := oltI q439
    have fq48 := oltI q440
    omega
  refine W_iconst B (hb hby at_124) (pc' := 125) rfl (z := (1 : Int32)) (by decide) ?_
  refine W_retNW B hS hret (by simp) (hb hby at_125) (by decide) ?_
  rfl
set_option maxRecDepth 65536 in
set_option maxHeartbeats 40000000 in
theorem comes_1 {Post : Tables → Env → Array Value → State → Outcome → State → Prop} (hpost : ∀ tb e args s v u, (limb_1_1.after args s (.returned v) u = true ∧ limb_1_2.after args s (.returned v) u = true ∧ True) → ReturnedEndW s (.returned v) u (Jvm.fieldLocs frame_1_writes args s ++ Jvm.arrayLocs frame_1_arrays args s ++ Jvm.staticLocs frame_1_statics s) 48 1408 → Post tb e args s (.returned v) u) :
    ArmFor flags0 classFile x code maxLocals ret World_1 tables_1 room_1 Calls_1 rest_1 Pre_1 Post := by
  intro l hfl _ _ p e ha hc hk s m args below hf hA hF happ hP
  obtain ⟨hcalls, hrest, hpre⟩ := hP
  obtain ⟨-, -, -, hnamed, -, -, -, hat⟩ := (Spec.applies_iff hf).mp happ
  obtain ⟨hg, hn⟩ := and_e (Cond.before_iff.mp (show (Jvm.Cond.and given_1 narrow_1).before args s = true from hpre))
  obtain ⟨g1, g2⟩ := and_e hg
  obtain ⟨g3, g4⟩ := and_e g2
  obtain ⟨g5, g6⟩ := and_e g4
  obtain ⟨g7, g8⟩ := and_e g6
  obtain ⟨w0, w1, w2, w3, rfl⟩ : ∃ w0 w1 w2 w3 : Value, args = #[w0, w1, w2, w3] := by
    have hs : args.size = 4 := by simpa [Cond.value, given_1] using g1
    obtain ⟨L⟩ := args
    match L, hs with
    | [w0, w1, w2, w3], _ => exact ⟨w0, w1, w2, w3, rfl⟩
  have hw := fun d (hd : d ∈ tables_1) => atoms_spec (ws := Jvm.Cond.code x code maxLocals ret :: tables_1) hat d (List.mem_cons_of_mem _ hd)
  have hfit : Fit s := fun {y c} hc i hi => by
    obtain ⟨ha, rfl⟩ := Array.getElem?_eq_some_iff.mp hc
    have q := List.all_eq_true.mp ((Array.all_eq_true_iff_forall_mem.mp hF) _ (Array.getElem_mem ha)) i (List.mem_range.mpr hi)
    simpa [Array.getElem?_eq_getElem hi] using q
  obtain ⟨i0, ei0⟩ := is_v g3
  obtain rfl : w0 = (.int i0) := Option.some.inj ei0
  obtain ⟨i1, ei1⟩ := is_v g5
  obtain rfl : w1 = (.int i1) := Option.some.inj ei1
  obtain ⟨i2, ei2⟩ := is_v g7
  obtain rfl : w2 = (.int i2) := Option.some.inj ei2
  obtain ⟨i3, ei3⟩ := is_v g8
  obtain rfl : w3 = (.int i3) := Option.some.inj ei3
  obtain ⟨n, o, h1, h2, h3, _, L, rfl, ⟨N, lo', ds', -, rfl⟩, hq⟩ := rm0 l s _ hw s.heap i0 i1 i2 i3  s.heap (oHP.nil s s.heap) p e ha hc hk s m _ below hf ((Spec.applies_iff_loose hf).mp happ).1 ⟨rfl, State.Warmed39.refl s, rfl⟩ trivial
  refine ⟨n, _, h1, h2, h3, hpost _ _ _ _ _ _ ⟨Cond.after_iff.mpr rfl, Cond.after_iff.mpr (eq_i res_at (Term.int_eval (1)) rfl), trivial⟩ ⟨hq.1, hq.2.1, hq.2.2.1, (hq.2.2.2.sift fun y hy => Or.inr (N y hy)).mono (by decide) (by decide)⟩⟩
theorem main_1_1 : Claimed_1_1 := comes_1 fun _ _ _ _ _ _ h hF => ⟨h.1, hF⟩
theorem main_1_2 : Claimed_1_2 := comes_1 fun _ _ _ _ _ _ h hF => ⟨h.2.1, hF⟩
end Jvm.Pilot.@@N@@
namespace Jvm.Pilot.@@N@@
open Jvm Jvm.ClassFile Sem Op Lib Jvm.Free Jvm.Stand Jvm.Pilot.@@N@@.Jvm.D
/-! MADE BY PROGRAM (witnessworld.py) out of the Statement's table words and the real class files: 16 classes; the members and pool entries that the words name. The judged class is class 1, her method 1. -/
namespace start1
open Jvm.ClassFile
def u (s : String) : CpInfo := .utf8 (stringToUtf16 s)
/-- a pool by its gaps: so many unusable entries, then the entry; so many at the end -/
def gap : Nat → List CpInfo → List CpInfo
  | 0, r => r
  | n + 1, r => .unusable :: gap n r
def poolList (es : List (Nat × CpInfo)) (last : Nat) : List CpInfo := es.foldr (fun e r => gap e.1 (e.2 :: r)) (gap last [])
def pool (es : List (Nat × CpInfo)) (last : Nat) : Array CpInfo := ⟨poolList es last⟩
def fileOf (pool : Array CpInfo) (this : Nat) (attrs : Array Attribute := #[]) (ms : Array MethodInfo := #[]) (fl : Nat := 33) (sup : Nat := 0) (ifs : Array Nat := #[]) (fds : Array FieldInfo := #[]) : ClassFile where
  minorVersion := 0
  majorVersion := 65
  constantPool := pool
  accessFlags := fl
  thisClass := this
  superClass := sup
  interfaces := ifs
  fields := fds
  methods := ms
  attributes := attrs
def plain (name : String) (sup : Option ClassId) : Class where
  name := name
  kind := .ordinary
  loader := none
  accessFlags := 33
  super := sup
  interfaces := #[]
  cf := none
  fields := #[]
  methods := #[]
  instanceTypes := #[]
  staticTypes := #[]
  resolved := #[]
  callSites := []
  init := .initialized
  statics := none
  mirror := none

def pool0 : Array CpInfo := pool [(5, u "<init>"), (0, u "()V"), (1, .class_ 10), (1, u "java/lang/Object")] 113

def k0c0 : Code := { maxStack := 0, maxLocals := 1, code := object_method_1_code, exceptionTable := #[], attributes := #[] }
def k0m0 : Method := { name := "<init>", desc := "()V", sig := { parameters := [], returnType := none }, accessFlags := 1, code := some k0c0 }
/-- java/lang/Object -/
def k0 : Class := { plain "java/lang/Object" none with
  accessFlags := 33
  interfaces := #[]
  cf := some (fileOf pool0 8 #[] #[{ accessFlags := 1, nameIndex := 5, descriptorIndex := 6, attributes := #[] }] 33 0 #[] #[])
  fields := #[]
  methods := #[k0m0]
  instanceTypes := #[]
  staticTypes := #[]
  resolved := Array.replicate 124 none
  statics := none }

def pool1 : Array CpInfo := pool [(2, .class_ 4), (1, u "java/lang/Object"), (0, u "<init>"), (0, u "()V"), (0, .integer 2147483647), (0, .class_ 9), (0, u "com/example/tanglemark/tanglemark/datalog/SharedSets"), (0, .string 11), (0, u "sets"), (0, .methodref 8 13), (0, .nameAndType 5 14), (0, u "(Ljava/lang/String;)V"), (0, .methodref 8 16), (0, .nameAndType 17 18), (0, u "add"), (0, u "(I[II)I"), (0, .methodref 8 20), (0, .nameAndType 21 22), (0, u "holder"), (0, u "(II)I"), (0, .class_ 24), (0, u "com/example/tanglemark/tanglemark/datalog/SharedSetsHolderPinLaw"), (2, u "law"), (0, u "(IIII)Z")] 5

def k1m0 : Method := { name := "<init>", desc := "()V", sig := { parameters := [], returnType := none }, accessFlags := 1, code := none }
def k1c1 : Code := { maxStack := 4, maxLocals := 24, code := code, exceptionTable := #[], attributes := #[] }
def k1m1 : Method := { name := "law", desc := "(IIII)Z", sig := { parameters := [.int, .int, .int, .int], returnType := some .boolean }, accessFlags := 9, code := some k1c1 }
/-- com/example/tanglemark/tanglemark/datalog/SharedSetsHolderPinLaw -/
def k1 : Class := { plain "com/example/tanglemark/tanglemark/datalog/SharedSetsHolderPinLaw" (some 0) with
  accessFlags := 49
  interfaces := #[]
  cf := some (fileOf pool1 23 #[] #[{ accessFlags := 1, nameIndex := 5, descriptorIndex := 6, attributes := #[] }, { accessFlags := 9, nameIndex := 27, descriptorIndex := 28, attributes := #[] }] 49 2 #[] #[])
  fields := #[]
  methods := #[k1m0, k1m1]
  instanceTypes := #[]
  staticTypes := #[]
  resolved := Array.replicate 34 none
  statics := none }

def pool2 : Array CpInfo := pool [(1, .methodref 2 3), (0, .class_ 4), (0, .nameAndType 5 6), (0, u "java/lang/Object"), (0, u "<init>"), (0, u "()V"), (0, .class_ 8), (0, u "com/example/tanglemark/tanglemark/datalog/Ints"), (0, .methodref 7 10), (0, .nameAndType 5 11), (0, u "(Ljava/lang/String;)V"), (0, .fieldref 13 14), (0, .class_ 15), (0, .nameAndType 16 17), (0, u "com/example/tanglemark/tanglemark/datalog/SharedSets"), (0, u "values"), (0, u "Lcom/example/tanglemark/tanglemark/datalog/Ints;"), (0, .fieldref 13 19), (0, .nameAndType 20 17), (0, u "from"), (0, .fieldref 13 22), (0, .nameAndType 23 17), (0, u "base"), (0, .fieldref 13 25), (0, .nameAndType 26 17), (0, u "size"), (0, .fieldref 13 28), (0, .nameAndType 29 17), (0, u "parent"), (0, .fieldref 13 31), (0, .nameAndType 32 17), (0, u "root"), (0, .fieldref 13 34), (0, .nameAndType 35 17), (0, u "depth"), (0, .fieldref 7 37), (0, .nameAndType 26 38), (0, u "I"), (0, .fieldref 7 40), (0, .nameAndType 16 41), (0, u "[I"), (0, .methodref 13 43), (0, .nameAndType 26 44), (0, u "(I)I"), (3, u "(II)I"), (0, .methodref 7 50), (0, .nameAndType 51 52), (0, u "add"), (0, u "(I)V"), (2, u "holder"), (7, u "MAX_DEPTH"), (4, u "(I[II)I")] 4

def k2c0 : Code := { maxStack := 4, maxLocals := 2, code := prog_51_method_1_code, exceptionTable := #[], attributes := #[] }
def k2m0 : Method := { name := "<init>", desc := "(Ljava/lang/String;)V", sig := { parameters := [(.object "java/lang/String")], returnType := none }, accessFlags := 0, code := some k2c0 }
def k2c1 : Code := { maxStack := 4, maxLocals := 8, code := prog_51_method_2_code, exceptionTable := #[], attributes := #[] }
def k2m1 : Method := { name := "add", desc := "(I[II)I", sig := { parameters := [.int, (.array .int), .int], returnType := some .int }, accessFlags := 0, code := some k2c1 }
def k2c2 : Code := { maxStack := 2, maxLocals := 2, code := prog_51_method_3_code, exceptionTable := #[], attributes := #[] }
def k2m2 : Method := { name := "size", desc := "(I)I", sig := { parameters := [.int], returnType := some .int }, accessFlags := 0, code := some k2c2 }
def k2c3 : Code := { maxStack := 3, maxLocals := 4, code := prog_51_method_5_code, exceptionTable := #[], attributes := #[] }
def k2m3 : Method := { name := "holder", desc := "(II)I", sig := { parameters := [.int, .int], returnType := some .int }, accessFlags := 0, code := some k2c3 }
/-- com/example/tanglemark/tanglemark/datalog/SharedSets -/
def k2 : Class := { plain "com/example/tanglemark/tanglemark/datalog/SharedSets" (some 0) with
  accessFlags := 48
  interfaces := #[]
  cf := some (fileOf pool2 13 #[] #[{ accessFlags := 0, nameIndex := 5, descriptorIndex := 11, attributes := #[] }, { accessFlags := 0, nameIndex := 51, descriptorIndex := 68, attributes := #[] }, { accessFlags := 0, nameIndex := 26, descriptorIndex := 44, attributes := #[] }, { accessFlags := 0, nameIndex := 55, descriptorIndex := 48, attributes := #[] }] 48 2 #[] #[{ accessFlags := 24, nameIndex := 63, descriptorIndex := 38, attributes := #[] }, { accessFlags := 18, nameIndex := 16, descriptorIndex := 17, attributes := #[] }, { accessFlags := 18, nameIndex := 20, descriptorIndex := 17, attributes := #[] }, { accessFlags := 18, nameIndex := 23, descriptorIndex := 17, attributes := #[] }, { accessFlags := 18, nameIndex := 26, descriptorIndex := 17, attributes := #[] }, { accessFlags := 18, nameIndex := 29, descriptorIndex := 17, attributes := #[] }, { accessFlags := 18, nameIndex := 32, descriptorIndex := 17, attributes := #[] }, { accessFlags := 18, nameIndex := 35, descriptorIndex := 17, attributes := #[] }])
  fields := #[{ name := "MAX_DEPTH", type := .int, accessFlags := 24, slot := 0, constantValue := 0 }, { name := "values", type := (.object "com/example/tanglemark/tanglemark/datalog/Ints"), accessFlags := 18, slot := 0, constantValue := 0 }, { name := "from", type := (.object "com/example/tanglemark/tanglemark/datalog/Ints"), accessFlags := 18, slot := 1, constantValue := 0 }, { name := "base", type := (.object "com/example/tanglemark/tanglemark/datalog/Ints"), accessFlags := 18, slot := 2, constantValue := 0 }, { name := "size", type := (.object "com/example/tanglemark/tanglemark/datalog/Ints"), accessFlags := 18, slot := 3, constantValue := 0 }, { name := "parent", type := (.object "com/example/tanglemark/tanglemark/datalog/Ints"), accessFlags := 18, slot := 4, constantValue := 0 }, { name := "root", type := (.object "com/example/tanglemark/tanglemark/datalog/Ints"), accessFlags := 18, slot := 5, constantValue := 0 }, { name := "depth", type := (.object "com/example/tanglemark/tanglemark/datalog/Ints"), accessFlags := 18, slot := 6, constantValue := 0 }]
  methods := #[k2m0, k2m1, k2m2, k2m3]
  instanceTypes := #[(.object "com/example/tanglemark/tanglemark/datalog/Ints"), (.object "com/example/tanglemark/tanglemark/datalog/Ints"), (.object "com/example/tanglemark/tanglemark/datalog/Ints"), (.object "com/example/tanglemark/tanglemark/datalog/Ints"), (.object "com/example/tanglemark/tanglemark/datalog/Ints"), (.object "com/example/tanglemark/tanglemark/datalog/Ints"), (.object "com/example/tanglemark/tanglemark/datalog/Ints")]
  staticTypes := #[.int]
  resolved := Array.replicate 73 none
  statics := none }

def pool3 : Array CpInfo := pool [(1, .class_ 2), (0, u "java/io/Serializable"), (0, .class_ 4), (0, u "java/lang/Object")] 2

/-- java/io/Serializable -/
def k3 : Class := { plain "java/io/Serializable" (some 0) with
  accessFlags := 1537
  interfaces := #[]
  cf := some (fileOf pool3 1 #[] #[] 1537 3 #[] #[])
  fields := #[]
  methods := #[]
  instanceTypes := #[]
  staticTypes := #[]
  resolved := Array.replicate 7 none
  statics := none }

def pool4 : Array CpInfo := pool [(1, .class_ 2), (0, u "java/lang/Comparable"), (0, .class_ 4), (0, u "java/lang/Object")] 7

/-- java/lang/Comparable -/
def k4 : Class := { plain "java/lang/Comparable" (some 0) with
  accessFlags := 1537
  interfaces := #[]
  cf := some (fileOf pool4 1 #[] #[] 1537 3 #[] #[])
  fields := #[]
  methods := #[]
  instanceTypes := #[]
  staticTypes := #[]
  resolved := Array.replicate 12 none
  statics := none }

def pool5 : Array CpInfo := pool [(2, .class_ 4), (1, u "java/lang/CharSequence"), (42, .class_ 48), (0, u "java/lang/CharSequence$1CodePointIterator"), (10, .class_ 60), (0, u "java/lang/CharSequence$1CharIterator"), (5, .class_ 67), (0, u "java/lang/Object")] 63

/-- java/lang/CharSequence -/
def k5 : Class := { plain "java/lang/CharSequence" (some 0) with
  accessFlags := 1537
  interfaces := #[]
  cf := some (fileOf pool5 2 #[.nestMembers #[47, 59]] #[] 1537 66 #[] #[])
  fields := #[]
  methods := #[]
  instanceTypes := #[]
  staticTypes := #[]
  resolved := Array.replicate 131 none
  statics := none }

def pool6 : Array CpInfo := pool [(1, .class_ 2), (0, u "java/lang/constant/Constable"), (0, .class_ 4), (0, u "java/lang/Object")] 6

/-- java/lang/constant/Constable -/
def k6 : Class := { plain "java/lang/constant/Constable" (some 0) with
  accessFlags := 1537
  interfaces := #[]
  cf := some (fileOf pool6 1 #[] #[] 1537 3 #[] #[])
  fields := #[]
  methods := #[]
  instanceTypes := #[]
  staticTypes := #[]
  resolved := Array.replicate 11 none
  statics := none }

def pool7 : Array CpInfo := pool [(1, .class_ 2), (0, u "java/lang/constant/ConstantDesc"), (0, .class_ 4), (0, u "java/lang/Object")] 32

/-- java/lang/constant/ConstantDesc -/
def k7 : Class := { plain "java/lang/constant/ConstantDesc" (some 0) with
  accessFlags := 1537
  interfaces := #[]
  cf := some (fileOf pool7 1 #[] #[] 1537 3 #[] #[])
  fields := #[]
  methods := #[]
  instanceTypes := #[]
  staticTypes := #[]
  resolved := Array.replicate 37 none
  statics := none }

def pool8 : Array CpInfo := pool [(2, .class_ 4), (1, u "java/lang/Object"), (0, u "<init>"), (0, u "()V"), (3, .class_ 12), (1, u "java/lang/String"), (0, u "value"), (0, u "[B"), (2, u "coder"), (0, u "B"), (2, u "hash"), (0, u "I"), (2, u "hashIsZero"), (0, u "Z"), (13, u "COMPACT_STRINGS"), (534, .class_ 576), (0, u "java/lang/CharSequence"), (22, u "CASE_INSENSITIVE_ORDER"), (0, u "Ljava/util/Comparator;"), (500, u "serialPersistentFields"), (0, u "[Ljava/io/ObjectStreamField;"), (0, .class_ 1104), (0, u "java/lang/String$CaseInsensitiveComparator"), (1, .class_ 1107), (0, u "java/io/Serializable"), (0, .class_ 1109), (0, u "java/lang/Comparable"), (0, .class_ 1111), (0, u "java/lang/constant/Constable"), (0, .class_ 1113), (0, u "java/lang/constant/ConstantDesc"), (2, u "serialVersionUID"), (0, u "J"), (3, u "REPL"), (0, u "C"), (2, u "LATIN1"), (1, u "UTF16")] 323

def k8m0 : Method := { name := "<init>", desc := "()V", sig := { parameters := [], returnType := none }, accessFlags := 1, code := none }
/-- java/lang/String -/
def k8 : Class := { plain "java/lang/String" (some 0) with
  accessFlags := 49
  interfaces := #[3, 4, 5, 6, 7]
  cf := some (fileOf pool8 10 #[.nestMembers #[1103]] #[{ accessFlags := 1, nameIndex := 5, descriptorIndex := 6, attributes := #[] }] 49 2 #[1106, 1108, 575, 1110, 1112] #[{ accessFlags := 18, nameIndex := 13, descriptorIndex := 14, attributes := #[] }, { accessFlags := 18, nameIndex := 17, descriptorIndex := 18, attributes := #[] }, { accessFlags := 2, nameIndex := 21, descriptorIndex := 22, attributes := #[] }, { accessFlags := 2, nameIndex := 25, descriptorIndex := 26, attributes := #[] }, { accessFlags := 26, nameIndex := 1116, descriptorIndex := 1117, attributes := #[] }, { accessFlags := 24, nameIndex := 40, descriptorIndex := 26, attributes := #[] }, { accessFlags := 26, nameIndex := 1101, descriptorIndex := 1102, attributes := #[] }, { accessFlags := 26, nameIndex := 1121, descriptorIndex := 1122, attributes := #[] }, { accessFlags := 25, nameIndex := 599, descriptorIndex := 600, attributes := #[] }, { accessFlags := 24, nameIndex := 1125, descriptorIndex := 18, attributes := #[] }, { accessFlags := 24, nameIndex := 1127, descriptorIndex := 18, attributes := #[] }])
  fields := #[{ name := "value", type := (.array .byte), accessFlags := 18, slot := 0, constantValue := 0 }, { name := "coder", type := .byte, accessFlags := 18, slot := 1, constantValue := 0 }, { name := "hash", type := .int, accessFlags := 2, slot := 2, constantValue := 0 }, { name := "hashIsZero", type := .boolean, accessFlags := 2, slot := 3, constantValue := 0 }, { name := "serialVersionUID", type := .long, accessFlags := 26, slot := 0, constantValue := 0 }, { name := "COMPACT_STRINGS", type := .boolean, accessFlags := 24, slot := 1, constantValue := 0 }, { name := "serialPersistentFields", type := (.array (.object "java/io/ObjectStreamField")), accessFlags := 26, slot := 2, constantValue := 0 }, { name := "REPL", type := .char, accessFlags := 26, slot := 3, constantValue := 0 }, { name := "CASE_INSENSITIVE_ORDER", type := (.object "java/util/Comparator"), accessFlags := 25, slot := 4, constantValue := 0 }, { name := "LATIN1", type := .byte, accessFlags := 24, slot := 5, constantValue := 0 }, { name := "UTF16", type := .byte, accessFlags := 24, slot := 6, constantValue := 0 }]
  methods := #[k8m0]
  instanceTypes := #[(.array .byte), .byte, .int, .boolean]
  staticTypes := #[.long, .boolean, (.array (.object "java/io/ObjectStreamField")), .char, (.object "java/util/Comparator"), .byte, .byte]
  resolved := Array.replicate 1451 none
  statics := none }

def pool9 : Array CpInfo := pool [(3, .integer 2147483639), (0, .methodref 5 6), (0, .class_ 7), (0, .nameAndType 8 9), (0, u "com/example/tanglemark/tanglemark/datalog/Ints"), (0, u "<init>"), (0, u "(Ljava/lang/String;I)V"), (0, .methodref 11 12), (0, .class_ 13), (0, .nameAndType 8 14), (0, u "java/lang/Object"), (0, u "()V"), (0, .fieldref 5 16), (0, .nameAndType 17 18), (0, u "owner"), (0, u "Ljava/lang/String;"), (0, .fieldref 5 20), (0, .nameAndType 21 22), (0, u "maxLength"), (0, u "I"), (0, .methodref 24 25), (0, .class_ 26), (0, .nameAndType 27 28), (0, u "java/lang/Math"), (0, u "min"), (0, u "(II)I"), (0, .fieldref 5 30), (0, .nameAndType 31 32), (0, u "values"), (0, u "[I"), (0, .fieldref 5 34), (0, .nameAndType 35 22), (0, u "size"), (8, u "(Ljava/lang/String;)V"), (0, .long 2), (12, u "add"), (0, u "(I)V")] 20

def k9c0 : Code := { maxStack := 3, maxLocals := 2, code := prog_15_method_1_code, exceptionTable := #[], attributes := #[] }
def k9m0 : Method := { name := "<init>", desc := "(Ljava/lang/String;)V", sig := { parameters := [(.object "java/lang/String")], returnType := none }, accessFlags := 0, code := some k9c0 }
def k9c1 : Code := { maxStack := 3, maxLocals := 3, code := prog_15_method_2_code, exceptionTable := #[], attributes := #[] }
def k9m1 : Method := { name := "<init>", desc := "(Ljava/lang/String;I)V", sig := { parameters := [(.object "java/lang/String"), .int], returnType := none }, accessFlags := 0, code := some k9c1 }
def k9c2 : Code := { maxStack := 6, maxLocals := 2, code := prog_15_method_3_code, exceptionTable := #[], attributes := #[] }
def k9m2 : Method := { name := "add", desc := "(I)V", sig := { parameters := [.int], returnType := none }, accessFlags := 0, code := some k9c2 }
/-- com/example/tanglemark/tanglemark/datalog/Ints -/
def k9 : Class := { plain "com/example/tanglemark/tanglemark/datalog/Ints" (some 0) with
  accessFlags := 48
  interfaces := #[]
  cf := some (fileOf pool9 5 #[] #[{ accessFlags := 0, nameIndex := 8, descriptorIndex := 44, attributes := #[] }, { accessFlags := 0, nameIndex := 8, descriptorIndex := 9, attributes := #[] }, { accessFlags := 0, nameIndex := 58, descriptorIndex := 59, attributes := #[] }] 48 11 #[] #[{ accessFlags := 18, nameIndex := 17, descriptorIndex := 18, attributes := #[] }, { accessFlags := 18, nameIndex := 21, descriptorIndex := 22, attributes := #[] }, { accessFlags := 0, nameIndex := 31, descriptorIndex := 32, attributes := #[] }, { accessFlags := 0, nameIndex := 35, descriptorIndex := 22, attributes := #[] }])
  fields := #[{ name := "owner", type := (.object "java/lang/String"), accessFlags := 18, slot := 0, constantValue := 0 }, { name := "maxLength", type := .int, accessFlags := 18, slot := 1, constantValue := 0 }, { name := "values", type := (.array .int), accessFlags := 0, slot := 2, constantValue := 0 }, { name := "size", type := .int, accessFlags := 0, slot := 3, constantValue := 0 }]
  methods := #[k9m0, k9m1, k9m2]
  instanceTypes := #[(.object "java/lang/String"), .int, (.array .int), .int]
  staticTypes := #[]
  resolved := Array.replicate 80 none
  statics := none }

def pool10 : Array CpInfo := pool [(1, .class_ 2), (0, u "java/lang/Math"), (1, .class_ 6), (1, u "java/lang/Object"), (0, u "<init>"), (0, u "()V"), (89, .class_ 100), (1, u "java/lang/Math$RandomNumberGeneratorHolder"), (71, u "negativeZeroFloatBits"), (0, u "J"), (2, u "negativeZeroDoubleBits"), (24, u "min"), (43, u "$assertionsDisabled"), (0, u "Z"), (88, u "(II)I"), (2, u "twoToTheDoubleScaleDown"), (0, u "D"), (4, u "twoToTheDoubleScaleUp"), (9, u "E"), (3, u "PI"), (2, u "TAU"), (2, u "DEGREES_TO_RADIANS"), (0, u "RADIANS_TO_DEGREES")] 94

def k10m0 : Method := { name := "<init>", desc := "()V", sig := { parameters := [], returnType := none }, accessFlags := 2, code := none }
def k10c1 : Code := { maxStack := 2, maxLocals := 2, code := jdk_29_method_69_code, exceptionTable := #[], attributes := #[] }
def k10m1 : Method := { name := "min", desc := "(II)I", sig := { parameters := [.int, .int], returnType := some .int }, accessFlags := 9, code := some k10c1 }
/-- java/lang/Math -/
def k10 : Class := { plain "java/lang/Math" (some 0) with
  accessFlags := 49
  interfaces := #[]
  cf := some (fileOf pool10 1 #[.nestMembers #[98]] #[{ accessFlags := 2, nameIndex := 7, descriptorIndex := 8, attributes := #[] }, { accessFlags := 9, nameIndex := 201, descriptorIndex := 335, attributes := #[] }] 49 4 #[] #[{ accessFlags := 25, nameIndex := 354, descriptorIndex := 339, attributes := #[] }, { accessFlags := 25, nameIndex := 358, descriptorIndex := 339, attributes := #[] }, { accessFlags := 25, nameIndex := 361, descriptorIndex := 339, attributes := #[] }, { accessFlags := 26, nameIndex := 364, descriptorIndex := 339, attributes := #[] }, { accessFlags := 26, nameIndex := 365, descriptorIndex := 339, attributes := #[] }, { accessFlags := 26, nameIndex := 172, descriptorIndex := 173, attributes := #[] }, { accessFlags := 26, nameIndex := 176, descriptorIndex := 173, attributes := #[] }, { accessFlags := 8, nameIndex := 344, descriptorIndex := 339, attributes := #[] }, { accessFlags := 8, nameIndex := 338, descriptorIndex := 339, attributes := #[] }, { accessFlags := 4120, nameIndex := 245, descriptorIndex := 246, attributes := #[] }])
  fields := #[{ name := "E", type := .double, accessFlags := 25, slot := 0, constantValue := 0 }, { name := "PI", type := .double, accessFlags := 25, slot := 1, constantValue := 0 }, { name := "TAU", type := .double, accessFlags := 25, slot := 2, constantValue := 0 }, { name := "DEGREES_TO_RADIANS", type := .double, accessFlags := 26, slot := 3, constantValue := 0 }, { name := "RADIANS_TO_DEGREES", type := .double, accessFlags := 26, slot := 4, constantValue := 0 }, { name := "negativeZeroFloatBits", type := .long, accessFlags := 26, slot := 5, constantValue := 0 }, { name := "negativeZeroDoubleBits", type := .long, accessFlags := 26, slot := 6, constantValue := 0 }, { name := "twoToTheDoubleScaleUp", type := .double, accessFlags := 8, slot := 7, constantValue := 0 }, { name := "twoToTheDoubleScaleDown", type := .double, accessFlags := 8, slot := 8, constantValue := 0 }, { name := "$assertionsDisabled", type := .boolean, accessFlags := 4120, slot := 9, constantValue := 0 }]
  methods := #[k10m0, k10m1]
  instanceTypes := #[]
  staticTypes := #[.double, .double, .double, .double, .double, .long, .long, .double, .double, .boolean]
  resolved := Array.replicate 460 none
  statics := none }

def pool11 : Array CpInfo := pool [(1, u "java/lang/Cloneable"), (0, .class_ 1), (0, u "java/lang/Object"), (0, .class_ 3)] 3

/-- java/lang/Cloneable -/
def k11 : Class := { plain "java/lang/Cloneable" (some 0) with
  accessFlags := 1537
  interfaces := #[]
  cf := some (fileOf pool11 2 #[] #[] 1537 4 #[] #[])
  fields := #[]
  methods := #[]
  instanceTypes := #[]
  staticTypes := #[]
  resolved := Array.replicate 8 none
  statics := none }

/-- the primitive byte -/
def k12 : Class := { plain "byte" none with kind := .primitive 'B', accessFlags := 0x411 }
/-- [B -/
def k13 : Class := { plain "[B" (some 0) with kind := .array 12 .byte, interfaces := #[11, 3], accessFlags := 1041 }

/-- the primitive int -/
def k14 : Class := { plain "int" none with kind := .primitive 'I', accessFlags := 0x411 }
/-- [I -/
def k15 : Class := { plain "[I" (some 0) with kind := .array 14 .int, interfaces := #[11, 3], accessFlags := 1041 }

def heap : Heap := #[]
def classes : Array Class := #[k0, k1, k2, k3, k4, k5, k6, k7, k8, k9, k10, k11, k12, k13, k14, k15]
def interned : List (Array UInt16 × Addr) := []
def slotsUsed : Nat := 0
def theMethod : MethodId := ⟨1, 1⟩
def args0 : Array Value := #[.int 5, .int 6, .int 7, .int 8]
def aboutOver (below : List Frame) : State where
  vm := { classes := classes, interned := interned.toArray }
  heap := heap
  slotsUsed := slotsUsed
  threads := #[{ frames := .invoking theMethod args0 :: below }]
def below0 : List Frame := [.native { method := ⟨0, 0⟩, args := #[] }]
def about1 : State := aboutOver below0
def p0 : Program := .bare "" "" ""
def e0 : Env := launch0.env 0 0 0
theorem w_frames : about1.frames = Frame.invoking theMethod args0 :: below0 := rfl
set_option maxRecDepth 65536 in
theorem w_args : argsFit about1.vm theMethod args0 = true := by decide +kernel
set_option maxRecDepth 65536 in
theorem w_heap : heapFits about1 = true := by decide +kernel
set_option maxRecDepth 65536 in
theorem w_runnable : about1.curStatus? = some .runnable := by decide +kernel
set_option maxRecDepth 65536 in
theorem w_alone : about1.alone = true := by decide +kernel
set_option maxRecDepth 65536 in
theorem w_named : about1.methodNamed? x = some theMethod := by decide +kernel
set_option maxRecDepth 65536 in
theorem w_hears : about1.hears theMethod below0 = true := by decide +kernel
set_option maxRecDepth 65536 in
theorem w_ripe : about1.ripe theMethod args0 below0 = true := by decide +kernel
theorem w_running : about1.status = .running := rfl
set_option maxRecDepth 65536 in
theorem w_room : about1.hasRoom e0.platform room_1 = true :=
  launch0.hasRoom_least _ room_1 (by decide +kernel) (by decide +kernel) (by decide +kernel) (by decide +kernel) (by decide +kernel) (by decide +kernel)
theorem allAtoms_all (ts : List Jvm.Cond) (a : Array Jvm.Value) (st : Jvm.State) : (allAtoms ts).before a st = ts.all (fun c => c.before a st) := by
  induction ts with
  | nil => rfl
  | cons c t ih =>
    show (Jvm.Cond.and c (allAtoms t)).before a st = _
    rw [Jvm.Cond.before_and, ih, List.all_cons]
def words1 : List Jvm.Cond := Jvm.Cond.code x code maxLocals ret :: tables_1
/-- a 'code' word, met by the world's own term for the bytes: nothing is compared byte by byte -/
theorem code_word {y : MethodName} {bytes : ByteArray} {mx : Nat} {rt : Option FieldType} {a : Array Value} {s : State} {m : MethodId} {meth : Method} {c : Code} (h1 : s.methodNamed? y = some m) (h2 : s.vm.method? m = some meth) (h3 : meth.code = some c) (h4 : c.code = bytes)
    (h5 : (c.maxLocals == mx && c.exceptionTable.isEmpty && decide (c.maxStack ≤ mostOperands) && decide (meth.sig.returnType = rt) && !meth.locks && decide (parseMethodDescriptor y.desc = some meth.sig)) = true) : (Jvm.Cond.code y bytes mx rt).before a s = true := by
  simp only [Bool.and_eq_true, beq_iff_eq, Bool.not_eq_true', decide_eq_true_eq] at h5
  obtain ⟨⟨⟨⟨⟨g1, g2⟩, g3⟩, g4⟩, g5⟩, g6⟩ := h5
  simp [Cond.before, Cond.holds, Cond.value, h1, h2, h3, h4, g1, g2, g3, g4, g5, g6]
def isCode : Jvm.Cond → Bool
  | .code _ _ _ _ => true
  | _ => false
theorem all_split {L : List Jvm.Cond} {P : Jvm.Cond → Bool} (h1 : L.all (fun c => isCode c || P c) = true) (h2 : ∀ c ∈ L.filter isCode, P c = true) : L.all P = true := by
  refine List.all_eq_true.mpr fun c hc => ?_
  have h := List.all_eq_true.mp h1 c hc
  rcases Bool.eq_false_or_eq_true (isCode c) with hi | hi
  · exact h2 c (List.mem_filter.mpr ⟨hc, hi⟩)
  · simpa [hi] using h
set_option maxRecDepth 65536 in
theorem w_c0 : (Jvm.Cond.code x code maxLocals ret).before args0 about1 = true := code_word (m := ⟨1, 1⟩) (meth := k1m1) (c := k1c1) (by decide +kernel) rfl rfl rfl (by decide +kernel)
set_option maxRecDepth 65536 in
theorem w_c1 : (Jvm.Cond.code ({ cls := "com/example/tanglemark/tanglemark/datalog/SharedSets", name := "<init>", desc := "(Ljava/lang/String;)V" } : Jvm.MethodName) prog_51_method_1_code (2 : Nat) (Option.none : Option Jvm.ClassFile.FieldType)).before args0 about1 = true := code_word (m := ⟨2, 0⟩) (meth := k2m0) (c := k2c0) (by decide +kernel) rfl rfl rfl (by decide +kernel)
set_option maxRecDepth 65536 in
theorem w_c2 : (Jvm.Cond.code ({ cls := "java/lang/Object", name := "<init>", desc := "()V" } : Jvm.MethodName) object_method_1_code (1 : Nat) (Option.none : Option Jvm.ClassFile.FieldType)).before args0 about1 = true := code_word (m := ⟨0, 0⟩) (meth := k0m0) (c := k0c0) (by decide +kernel) rfl rfl rfl (by decide +kernel)
set_option maxRecDepth 65536 in
theorem w_c3 : (Jvm.Cond.code ({ cls := "com/example/tanglemark/tanglemark/datalog/Ints", name := "<init>", desc := "(Ljava/lang/String;)V" } : Jvm.MethodName) prog_15_method_1_code (2 : Nat) (Option.none : Option Jvm.ClassFile.FieldType)).before args0 about1 = true := code_word (m := ⟨9, 0⟩) (meth := k9m0) (c := k9c0) (by decide +kernel) rfl rfl rfl (by decide +kernel)
set_option maxRecDepth 65536 in
theorem w_c4 : (Jvm.Cond.code ({ cls := "com/example/tanglemark/tanglemark/datalog/Ints", name := "<init>", desc := "(Ljava/lang/String;I)V" } : Jvm.MethodName) prog_15_method_2_code (3 : Nat) (Option.none : Option Jvm.ClassFile.FieldType)).before args0 about1 = true := code_word (m := ⟨9, 1⟩) (meth := k9m1) (c := k9c1) (by decide +kernel) rfl rfl rfl (by decide +kernel)
set_option maxRecDepth 65536 in
theorem w_c5 : (Jvm.Cond.code ({ cls := "java/lang/Math", name := "min", desc := "(II)I" } : Jvm.MethodName) jdk_29_method_69_code (2 : Nat) (Option.some Jvm.ClassFile.FieldType.int)).before args0 about1 = true := code_word (m := ⟨10, 1⟩) (meth := k10m1) (c := k10c1) (by decide +kernel) rfl rfl rfl (by decide +kernel)
set_option maxRecDepth 65536 in
theorem w_c6 : (Jvm.Cond.code ({ cls := "com/example/tanglemark/tanglemark/datalog/SharedSets", name := "add", desc := "(I[II)I" } : Jvm.MethodName) prog_51_method_2_code (8 : Nat) (Option.some Jvm.ClassFile.FieldType.int)).before args0 about1 = true := code_word (m := ⟨2, 1⟩) (meth := k2m1) (c := k2c1) (by decide +kernel) rfl rfl rfl (by decide +kernel)
set_option maxRecDepth 65536 in
theorem w_c7 : (Jvm.Cond.code ({ cls := "com/example/tanglemark/tanglemark/datalog/Ints", name := "add", desc := "(I)V" } : Jvm.MethodName) prog_15_method_3_code (2 : Nat) (Option.none : Option Jvm.ClassFile.FieldType)).before args0 about1 = true := code_word (m := ⟨9, 2⟩) (meth := k9m2) (c := k9c2) (by decide +kernel) rfl rfl rfl (by decide +kernel)
set_option maxRecDepth 65536 in
theorem w_c8 : (Jvm.Cond.code ({ cls := "com/example/tanglemark/tanglemark/datalog/SharedSets", name := "size", desc := "(I)I" } : Jvm.MethodName) prog_51_method_3_code (2 : Nat) (Option.some Jvm.ClassFile.FieldType.int)).before args0 about1 = true := code_word (m := ⟨2, 2⟩) (meth := k2m2) (c := k2c2) (by decide +kernel) rfl rfl rfl (by decide +kernel)
set_option maxRecDepth 65536 in
theorem w_c9 : (Jvm.Cond.code ({ cls := "com/example/tanglemark/tanglemark/datalog/SharedSets", name := "holder", desc := "(II)I" } : Jvm.MethodName) prog_51_method_5_code (4 : Nat) (Option.some Jvm.ClassFile.FieldType.int)).before args0 about1 = true := code_word (m := ⟨2, 3⟩) (meth := k2m3) (c := k2c3) (by decide +kernel) rfl rfl rfl (by decide +kernel)
def codes1 : List Jvm.Cond := [Jvm.Cond.code x code maxLocals ret, Jvm.Cond.code ({ cls := "com/example/tanglemark/tanglemark/datalog/SharedSets", name := "<init>", desc := "(Ljava/lang/String;)V" } : Jvm.MethodName) prog_51_method_1_code (2 : Nat) (Option.none : Option Jvm.ClassFile.FieldType), Jvm.Cond.code ({ cls := "java/lang/Object", name := "<init>", desc := "()V" } : Jvm.MethodName) object_method_1_code (1 : Nat) (Option.none : Option Jvm.ClassFile.FieldType), Jvm.Cond.code ({ cls := "com/example/tanglemark/tanglemark/datalog/Ints", name := "<init>", desc := "(Ljava/lang/String;)V" } : Jvm.MethodName) prog_15_method_1_code (2 : Nat) (Option.none : Option Jvm.ClassFile.FieldType), Jvm.Cond.code ({ cls := "com/example/tanglemark/tanglemark/datalog/Ints", name := "<init>", desc := "(Ljava/lang/String;I)V" } : Jvm.MethodName) prog_15_method_2_code (3 : Nat) (Option.none : Option Jvm.ClassFile.FieldType), Jvm.Cond.code ({ cls := "java/lang/Math", name := "min", desc := "(II)I" } : Jvm.MethodName) jdk_29_method_69_code (2 : Nat) (Option.some Jvm.ClassFile.FieldType.int), Jvm.Cond.code ({ cls := "com/example/tanglemark/tanglemark/datalog/SharedSets", name := "add", desc := "(I[II)I" } : Jvm.MethodName) prog_51_method_2_code (8 : Nat) (Option.some Jvm.ClassFile.FieldType.int), Jvm.Cond.code ({ cls := "com/example/tanglemark/tanglemark/datalog/Ints", name := "add", desc := "(I)V" } : Jvm.MethodName) prog_15_method_3_code (2 : Nat) (Option.none : Option Jvm.ClassFile.FieldType), Jvm.Cond.code ({ cls := "com/example/tanglemark/tanglemark/datalog/SharedSets", name := "size", desc := "(I)I" } : Jvm.MethodName) prog_51_method_3_code (2 : Nat) (Option.some Jvm.ClassFile.FieldType.int), Jvm.Cond.code ({ cls := "com/example/tanglemark/tanglemark/datalog/SharedSets", name := "holder", desc := "(II)I" } : Jvm.MethodName) prog_51_method_5_code (4 : Nat) (Option.some Jvm.ClassFile.FieldType.int)]
set_option maxRecDepth 65536 in
theorem codes_eq : words1.filter isCode = codes1 := rfl
theorem w_codes : ∀ c ∈ words1.filter isCode, c.before args0 about1 = true := by
  rw [codes_eq]
  intro c hc
  simp only [codes1, List.mem_cons, List.not_mem_nil, or_false] at hc
  rcases hc with rfl | rfl | rfl | rfl | rfl | rfl | rfl | rfl | rfl | rfl
  · exact w_c0
  · exact w_c1
  · exact w_c2
  · exact w_c3
  · exact w_c4
  · exact w_c5
  · exact w_c6
  · exact w_c7
  · exact w_c8
  · exact w_c9
set_option maxRecDepth 65536 in
theorem w_t1 : (words1.take 24).all (fun c => isCode c || c.before args0 about1) = true := by decide +kernel
set_option maxRecDepth 65536 in
theorem w_t2 : ((words1.drop 24).take 24).all (fun c => isCode c || c.before args0 about1) = true := by decide +kernel
set_option maxRecDepth 65536 in
theorem w_t3 : (((words1.drop 24).drop 24).take 24).all (fun c => isCode c || c.before args0 about1) = true := by decide +kernel
set_option maxRecDepth 65536 in
theorem w_t4 : (((words1.drop 24).drop 24).drop 24).all (fun c => isCode c || c.before args0 about1) = true := by decide +kernel
theorem w_tables : (allAtoms (Jvm.Cond.code x code maxLocals ret :: tables_1)).before args0 about1 = true := by
  rw [allAtoms_all]
  show words1.all (fun c => c.before args0 about1) = true
  refine all_split ?_ w_codes
  rw [← List.take_append_drop 24 words1, List.all_append, w_t1, ← List.take_append_drop 24 (words1.drop 24), List.all_append, w_t2, ← List.take_append_drop 24 ((words1.drop 24).drop 24), List.all_append, w_t3, w_t4]
  rfl
set_option maxRecDepth 65536 in
theorem w_case : (Jvm.Cond.and given_1 narrow_1).before args0 about1 = true := by decide +kernel
theorem w_applies : (headSpec (Jvm.Cond.code x code maxLocals ret :: tables_1) room_1).applies x e0.platform about1 = true :=
  (Spec.applies_iff w_frames).mpr ⟨w_running, w_runnable, w_alone, w_named, w_hears, w_ripe, w_room, w_tables⟩
theorem atStart : AtStart classFile x code maxLocals ret World_1 tables_1 room_1 Calls_1 rest_1 Pre_1 launch0 p0 e0 about1 theMethod args0 below0 :=
  ⟨lists_1, trivial, launch0.admits_env _ _ _, launch0.least_env, fairChoices_fair.cas, fairChoices_fair.clock, w_frames, w_args, w_heap, w_applies, trivial, trivial, w_case⟩
end start1
theorem witness_1 : WitnessClaimed_1 := ⟨start1.p0, start1.e0, start1.about1, start1.theMethod, start1.args0, start1.below0, start1.atStart⟩
end Jvm.Pilot.@@N@@
