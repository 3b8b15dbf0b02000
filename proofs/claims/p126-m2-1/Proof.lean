import JvmDerived
import JvmDerived.Pilot.@@N@@Statement
import JvmDerived.Pilot.@@N@@Code
set_option linter.unusedVariables false
set_option linter.unusedSimpArgs false
namespace Jvm.Pilot.@@N@@
open Jvm Jvm.ClassFile Sem Op Lib Jvm.Free Jvm.Stand Jvm.LawKit Jvm.RoadKit Bundle Jvm.Pilot.@@N@@.Jvm.D
theorem ow {Z : State} {a0 : Array Value} (hw : ∀ d ∈ tables_1, d.before a0 Z = true) {i : Nat} {d : Jvm.Cond} (h : tables_1[i]? = some d) : d.before a0 Z = true := hw d (List.mem_of_getElem? h)
theorem oLt {n m : Nat} (h : Nat.blt n m = true) : n < m := by simpa [Nat.blt_eq] using h
theorem oLe {n m : Nat} (h : Nat.ble n m = true) : n ≤ m := Nat.le_of_ble_eq_true h
theorem ogeI (x : Int32) : -2147483648 ≤ x.toInt := by have := Int32.le_toInt x; omega
theorem oltI' (x : Int32) : x.toInt < 2147483648 := by have := Int32.toInt_lt x; omega
theorem ogeL (x : Int64) : -9223372036854775808 ≤ x.toInt := by have := Int64.le_toInt x; omega
theorem oltL' (x : Int64) : x.toInt < 9223372036854775808 := by have := Int64.toInt_lt x; omega
theorem orI (x : Int32) : -2147483648 ≤ x.toInt ∧ x.toInt < 2147483648 := ⟨ogeI x, oltI' x⟩
theorem orL (x : Int64) : -9223372036854775808 ≤ x.toInt ∧ x.toInt < 9223372036854775808 := ⟨ogeL x, oltL' x⟩
theorem oiadd (x y : Int32) : ((x + y).toInt - (x.toInt + y.toInt)) % 4294967296 = 0 ∧ -2147483648 ≤ (x + y).toInt ∧ (x + y).toInt < 2147483648 := ⟨c_iadd x y, orI _⟩
theorem oisub (x y : Int32) : ((x - y).toInt - (x.toInt - y.toInt)) % 4294967296 = 0 ∧ -2147483648 ≤ (x - y).toInt ∧ (x - y).toInt < 2147483648 := ⟨c_isub x y, orI _⟩
theorem oladd (x y : Int64) : ((x + y).toInt - (x.toInt + y.toInt)) % 18446744073709551616 = 0 ∧ -9223372036854775808 ≤ (x + y).toInt ∧ (x + y).toInt < 9223372036854775808 := ⟨c_ladd x y, orL _⟩
theorem olsub (x y : Int64) : ((x - y).toInt - (x.toInt - y.toInt)) % 18446744073709551616 = 0 ∧ -9223372036854775808 ≤ (x - y).toInt ∧ (x - y).toInt < 9223372036854775808 := ⟨c_lsub x y, orL _⟩
theorem oltI {x y : Int32} (h : x < y) : x.toInt < y.toInt := Int32.lt_iff_toInt_lt.mp h
theorem oltL {x y : Int64} (h : x < y) : x.toInt < y.toInt := Int64.lt_iff_toInt_lt.mp h
theorem onltI {x y : Int32} (h : ¬ x < y) : y.toInt ≤ x.toInt := by rw [Int32.lt_iff_toInt_lt] at h; omega
theorem onltL {x y : Int64} (h : ¬ x < y) : y.toInt ≤ x.toInt := by rw [Int64.lt_iff_toInt_lt] at h; omega
theorem oeqI {x y : Int32} (h : x = y) : x.toInt = y.toInt := congrArg _ h
theorem oeqL {x y : Int64} (h : x = y) : x.toInt = y.toInt := congrArg _ h
theorem oneI {x y : Int32} (h : ¬ x = y) : x.toInt ≠ y.toInt := fun q => h (Int32.toInt_inj.mp q)
theorem oneL {x y : Int64} (h : ¬ x = y) : x.toInt ≠ y.toInt := fun q => h (Int64.toInt_inj.mp q)
theorem oltI_i {x y : Int32} (h : x.toInt < y.toInt) : x < y := Int32.lt_iff_toInt_lt.mpr h
theorem oltL_i {x y : Int64} (h : x.toInt < y.toInt) : x < y := Int64.lt_iff_toInt_lt.mpr h
theorem onltI_i {x y : Int32} (h : y.toInt ≤ x.toInt) : ¬ x < y := by rw [Int32.lt_iff_toInt_lt]; omega
theorem onltL_i {x y : Int64} (h : y.toInt ≤ x.toInt) : ¬ x < y := by rw [Int64.lt_iff_toInt_lt]; omega
theorem oeqI_i {x y : Int32} (h : x.toInt = y.toInt) : x = y := Int32.toInt_inj.mp h
theorem oeqL_i {x y : Int64} (h : x.toInt = y.toInt) : x = y := Int64.toInt_inj.mp h
theorem oneI_i {x y : Int32} (h : x.toInt ≠ y.toInt) : ¬ x = y := fun q => h (congrArg _ q)
theorem oneL_i {x y : Int64} (h : x.toInt ≠ y.toInt) : ¬ x = y := fun q => h (congrArg _ q)
theorem otoI {x y : Int32} (h : x.toInt = y.toInt) : x = y := Int32.toInt_inj.mp h
theorem otoL {x y : Int64} (h : x.toInt = y.toInt) : x = y := Int64.toInt_inj.mp h
theorem omaskI (x m : Int32) (k : Nat) (P : Int) (hk : k ≤ 31) (hm : m.toBitVec.toNat = 2 ^ k - 1) (hP : P = ((2 ^ k : Nat) : Int)) : (x &&& m).toInt = x.toInt % P := by rw [hP]; exact c_mask x m k hk hm
theorem omaskL (x m : Int64) (k : Nat) (P : Int) (hk : k ≤ 63) (hm : m.toBitVec.toNat = 2 ^ k - 1) (hP : P = ((2 ^ k : Nat) : Int)) : (x &&& m).toInt = x.toInt % P := by rw [hP]; exact c_maskL x m k hk hm
theorem oandI (x m : Int32) (hm : 0 ≤ m.toInt) : 0 ≤ (x &&& m).toInt ∧ (x &&& m).toInt ≤ m.toInt := c_and x m hm
theorem oishr (x q : Int32) (k : Nat) (P : Int) (hk : q.toBitVec.toNat % 32 = k) (hP : P = ((2 ^ k : Nat) : Int)) : (x >>> (q &&& 31)).toInt = x.toInt / P := by rw [hP]; exact c_ishr x q k hk
theorem oishl (x q : Int32) (k : Nat) (P : Int) (hk : q.toBitVec.toNat % 32 = k) (hP : P = ((2 ^ k : Nat) : Int)) : ((x <<< (q &&& 31)).toInt - x.toInt * P) % 4294967296 = 0 := by rw [hP]; exact c_ishl x q k hk
theorem oiushr (x q : Int32) (k : Nat) (P : Int) (hk : q.toBitVec.toNat % 32 = k) (hP : P = ((2 ^ k : Nat) : Int)) (h0 : 0 < k) : ((x.toUInt32 >>> (q &&& 31).toUInt32).toInt32).toInt = (x.toInt % 4294967296) / P := by rw [hP]; exact c_iushr x q k hk h0
theorem olshr (x : Int64) (q : Int32) (k : Nat) (P : Int) (hk : q.toBitVec.toNat % 64 = k) (hP : P = ((2 ^ k : Nat) : Int)) : (x >>> (q &&& 0x3f).toInt64).toInt = x.toInt / P := by rw [hP]; exact c_lshr x q k hk
theorem olshl (x : Int64) (q : Int32) (k : Nat) (P : Int) (hk : q.toBitVec.toNat % 64 = k) (hP : P = ((2 ^ k : Nat) : Int)) : ((x <<< (q &&& 0x3f).toInt64).toInt - x.toInt * P) % 18446744073709551616 = 0 := by rw [hP]; exact c_lshl x q k hk
theorem olushr (x : Int64) (q : Int32) (k : Nat) (P : Int) (hk : q.toBitVec.toNat % 64 = k) (hP : P = ((2 ^ k : Nat) : Int)) (h0 : 0 < k) : ((x.toUInt64 >>> (q &&& 0x3f).toInt64.toUInt64).toInt64).toInt = (x.toInt % 18446744073709551616) / P := by rw [hP]; exact c_lushr x q k hk h0
theorem oirem (x y : Int32) (d : Int) (hy : y.toInt = d) (h0 : 0 < d) (h1 : y ≠ -1) : (0 ≤ x.toInt → (x % y).toInt = x.toInt % d) ∧ (x.toInt < 0 → (x % y).toInt = -((-x.toInt) % d)) := c_irem x y d hy
theorem olrem (x y : Int64) (d : Int) (hy : y.toInt = d) (h0 : 0 < d) (h1 : y ≠ -1) : (0 ≤ x.toInt → (x - (x / y) * y).toInt = x.toInt % d) ∧ (x.toInt < 0 → (x - (x / y) * y).toInt = -((-x.toInt) % d)) := c_lrem x y d hy
theorem oidiv (x y : Int32) (d : Int) (hy : y.toInt = d) (h0 : 0 < d) (h1 : y ≠ -1) : (0 ≤ x.toInt → (x / y).toInt = x.toInt / d) ∧ (x.toInt < 0 → (x / y).toInt = -((-x.toInt) / d)) := c_idiv x y d hy h1
theorem oldiv (x y : Int64) (d : Int) (hy : y.toInt = d) (h0 : 0 < d) (h1 : y ≠ -1) : (0 ≤ x.toInt → (x / y).toInt = x.toInt / d) ∧ (x.toInt < 0 → (x / y).toInt = -((-x.toInt) / d)) := c_ldiv x y d hy h1
theorem olremV (x y : Int64) : 0 ≤ x.toInt → 0 < y.toInt → 0 ≤ (x - (x / y) * y).toInt ∧ (x - (x / y) * y).toInt < y.toInt ∧ (x - (x / y) * y).toInt ≤ x.toInt := by
  intro h1 h2
  rw [(c_lrem x y y.toInt rfl).1 h1]
  exact ⟨Int.emod_nonneg _ (by omega), Int.emod_lt_of_pos _ h2, by have q1 := Int.mul_ediv_add_emod x.toInt y.toInt; have q2 := Int.mul_nonneg (Int.le_of_lt h2) (Int.ediv_nonneg h1 (Int.le_of_lt h2)); omega⟩
theorem oiremV (x y : Int32) : 0 ≤ x.toInt → 0 < y.toInt → 0 ≤ (x % y).toInt ∧ (x % y).toInt < y.toInt ∧ (x % y).toInt ≤ x.toInt := by
  intro h1 h2
  rw [(c_irem x y y.toInt rfl).1 h1]
  exact ⟨Int.emod_nonneg _ (by omega), Int.emod_lt_of_pos _ h2, by have q1 := Int.mul_ediv_add_emod x.toInt y.toInt; have q2 := Int.mul_nonneg (Int.le_of_lt h2) (Int.ediv_nonneg h1 (Int.le_of_lt h2)); omega⟩
abbrev o0 : Value := .int (0 : Int32)
abbrev oFK : Type := String × String × String
abbrev oD : Type := Sum (FieldType × List Value) (String × List (oFK × Value))
abbrev oA (ty : FieldType) (vs : List Value) : oD := .inl (ty, vs)
abbrev oO (C : String) (fs : List (oFK × Value)) : oD := .inr (C, fs)
abbrev oDs : Type := List (Addr × oD)
def oSl (Z : State) (f : oFK) : Nat := Jvm.RoadKit.slotOf Z f.1 f.2.1 f.2.2
def oIs (Z : State) (h : Heap) (a : Addr) (d : oD) : Prop :=
  match d with
  | .inl x => ∃ c : Cell, Arr Z h a c x.1 ∧ c.slots = x.2.toArray ∧ (∀ C, x.1 = .object C → Ovr Z c.cls C) ∧ Exa Z h a ("[" ++ x.1.toString) ∧ ∀ v ∈ x.2, fits x.1 v = true
  | .inr x => Exa Z h a x.1 ∧ (∀ f ∈ x.2, Fld Z h a f.1.1 f.1.2.1 f.1.2.2 f.2) ∧ x.2.Pairwise (fun f g => oSl Z f.1 ≠ oSl Z g.1)
def oHP (Z : State) (h0 : Heap) (lo : Nat) (h : Heap) (ds : oDs) : Prop := (Ext h0 h ∧ lo ≤ h.size) ∧ (ds.map (·.1)).Nodup ∧ ∀ x ∈ ds, h0.size ≤ x.1 ∧ oIs Z h x.1 x.2
theorem oExt.refl (h : Heap) : Ext h h := ⟨Nat.le_refl _, fun _ _ q => q⟩
theorem oExt.trans {h h' h'' : Heap} (E : Ext h h') (E' : Ext h' h'') : Ext h h'' := ⟨Nat.le_trans E.1 E'.1, fun a c q => E'.2 a c (E.2 a c q)⟩
theorem oHP.nil (Z : State) (h : Heap) : oHP Z h h.size h [] := ⟨⟨oExt.refl h, Nat.le_refl _⟩, List.nodup_nil, fun x hx => nomatch hx⟩
theorem oIs.lt {Z : State} {h : Heap} {a : Addr} {d : oD} (I : oIs Z h a d) : a < h.size := by
  cases d with
  | inl x => obtain ⟨c, A, -⟩ := I; exact A.lt
  | inr x => exact I.1.lt
theorem oIs.ext {Z : State} {h h' : Heap} {a : Addr} {d : oD} (E : Ext h h') (I : oIs Z h a d) : oIs Z h' a d := by
  cases d with
  | inl x => obtain ⟨c, A, r1, r2, r3, r4⟩ := I; exact ⟨c, A.ext E, r1, r2, r3.ext E, r4⟩
  | inr x => exact ⟨I.1.ext E, fun f hf => (I.2.1 f hf).ext E, I.2.2⟩
theorem oIs.other {Z : State} {h h' : Heap} {a b : Addr} {sl : Nat} {v : Value} {d : oD} (W : Wr h h' a sl v) (ne : b ≠ a) (I : oIs Z h b d) : oIs Z h' b d := by
  cases d with
  | inl x => obtain ⟨c, A, r1, r2, r3, r4⟩ := I; exact ⟨c, A.other W ne, r1, r2, r3.wr W, r4⟩
  | inr x => exact ⟨I.1.wr W, fun f hf => (I.2.1 f hf).other W (Or.inl ne), I.2.2⟩
theorem oHP.at {Z : State} {h0 h : Heap} {lo : Nat} {ds : oDs} (H : oHP Z h0 lo h ds) {i : Nat} {a : Addr} {d : oD} (hi : ds[i]? = some (a, d)) : h0.size ≤ a ∧ oIs Z h a d := H.2.2 (a, d) (List.mem_of_getElem? hi)
theorem oHP.more {Z : State} {h0 h h' : Heap} {lo : Nat} {ds : oDs} (H : oHP Z h0 lo h ds) (E : Ext h h') {lo' : Nat} (hlo : lo' ≤ h'.size) : oHP Z h0 lo' h' ds := ⟨⟨oExt.trans H.1.1 E, hlo⟩, H.2.1, fun x hx => ⟨(H.2.2 x hx).1, (H.2.2 x hx).2.ext E⟩⟩
theorem oHP.new {Z : State} {h0 h h' : Heap} {lo : Nat} {ds : oDs} (H : oHP Z h0 lo h ds) (E : Ext h h') {d : oD} (I : oIs Z h' h.size d) : oHP Z h0 lo h' ((h.size, d) :: ds) := by
  refine ⟨⟨oExt.trans H.1.1 E, Nat.le_trans H.1.2 E.1⟩, ?_, ?_⟩
  · rw [List.map_cons, List.nodup_cons]
    refine ⟨fun q => ?_, H.2.1⟩
    obtain ⟨x, hx, e⟩ := List.mem_map.mp q
    exact absurd e (Nat.ne_of_lt (H.2.2 x hx).2.lt)
  · intro x hx
    rcases List.mem_cons.mp hx with rfl | hx
    · exact ⟨H.1.1.1, I⟩
    · exact ⟨(H.2.2 x hx).1, (H.2.2 x hx).2.ext E⟩
theorem oHP.ne {Z : State} {h0 h : Heap} {lo : Nat} {ds : oDs} (H : oHP Z h0 lo h ds) {i j : Nat} {x y : Addr × oD} (hi : ds[i]? = some x) (hj : ds[j]? = some y) (ne : i ≠ j) : x.1 ≠ y.1 := by
  intro q
  have h1 : (ds.map (·.1))[i]? = some x.1 := by rw [List.getElem?_map, hi]; rfl
  have h2 : (ds.map (·.1))[j]? = some x.1 := by rw [List.getElem?_map, hj, q]; rfl
  obtain ⟨l1, e1⟩ := List.getElem?_eq_some_iff.mp h1
  obtain ⟨l2, e2⟩ := List.getElem?_eq_some_iff.mp h2
  have P := List.pairwise_iff_getElem.mp (List.nodup_iff_pairwise_ne.mp H.2.1)
  rcases Nat.lt_or_gt_of_ne ne with r | r
  · exact P i j l1 l2 r (e1.trans e2.symm)
  · exact P j i l2 l1 r (e2.trans e1.symm)
theorem oHP.wr {Z : State} {h0 h h' : Heap} {lo : Nat} {ds : oDs} (H : oHP Z h0 lo h ds) {i : Nat} {a : Addr} {d d' : oD} {sl : Nat} {v : Value} (hi : ds[i]? = some (a, d)) (W : Wr h h' a sl v) (I : oIs Z h' a d') : oHP Z h0 lo h' (ds.set i (a, d')) := by
  have hl : i < ds.length := (List.getElem?_eq_some_iff.mp hi).1
  have ha := (H.at hi).1
  refine ⟨?_, ?_, ?_⟩
  · obtain ⟨cell, w1, w2, w3, w4⟩ := W
    refine ⟨⟨by rw [w4]; simpa using H.1.1.1, fun b cb hb => ?_⟩, by rw [w4]; simpa using H.1.2⟩
    have hb' := H.1.1.2 b cb hb
    have hlt : b < h0.size := (Array.getElem?_eq_some_iff.mp hb).1
    rw [w4, Array.getElem?_setIfInBounds_ne (Nat.ne_of_gt (Nat.lt_of_lt_of_le hlt ha))]
    exact hb'
  · have e : (ds.set i (a, d')).map (·.1) = ds.map (·.1) := by
      rw [List.map_set]
      have h1 : (ds.map (·.1))[i]? = some a := by rw [List.getElem?_map, hi]; rfl
      obtain ⟨l1, e1⟩ := List.getElem?_eq_some_iff.mp h1
      show (ds.map (·.1)).set i a = _
      rw [← e1, List.set_getElem_self]
    rw [e]; exact H.2.1
  · intro x hx
    obtain ⟨j, hj⟩ := List.mem_iff_getElem?.mp hx
    rw [List.getElem?_set] at hj
    by_cases q : i = j
    · rw [if_pos q, if_pos hl] at hj
      cases hj; exact ⟨ha, I⟩
    · rw [if_neg q] at hj
      have ne : x.1 ≠ a := H.ne hj hi (Ne.symm q)
      obtain ⟨g1, g2⟩ := H.2.2 x (List.mem_of_getElem? hj)
      exact ⟨g1, g2.other W ne⟩
def oB (p : Program) (l : Launch) (e : Env) (R : Room) (s : State) (m : MethodId) (args : Array Value) (below : List Frame) (meth : Method) (c : Code) (Z : State) (h0 : Heap) (lo : Nat) (T : State) (cells slots : Nat) (ds : oDs) : Prop :=
  p.tables.exec = Jvm.exec ∧ Z.Warmed39 s.vm ∧ meth.locks = false ∧ ∃ locs, Stand p l e R s m args below meth c T locs cells slots ∧ Fr h0.size locs ∧ oHP Z h0 lo T.heap ds
def oWin (p : Program) (e : Env) (below : List Frame) (Z : State) (h0 : Heap) (Q : Option Value → oDs → Prop) (E : Outcome → State → List Loc → Prop) (S : State) : Prop :=
  ∃ U o, Steps p.tables e below S U ∧ U.status = .running ∧ Ended U below o ∧ ∃ v L, o = .returned v ∧ (Fr h0.size L ∧ ∃ lo ds, oHP Z h0 lo U.heap ds ∧ Q v ds) ∧ E o U L
/-- the end of a walk, said of the walk's start: the plain frame; the wide one (a String constant may have been interned) -/
def oFE (s : State) (lo kc ks : Nat) (o : Outcome) (U : State) (L : List Loc) : Prop := lo ≤ U.heap.size ∧ FrameEnd s o U L kc ks
def oFW (s : State) (kc ks : Nat) (o : Outcome) (U : State) (L : List Loc) : Prop := ReturnedEndW s o U L kc ks
def oMet (l : Launch) (Z : State) (h0 : Heap) (lo : Nat) (y : MethodName) (bytes : ByteArray) (maxL : Nat) (ret : Option FieldType) (ws : List Jvm.Cond) (rm : Room) (as : Array Value) (ds : oDs) (Q : Option Value → oDs → Prop) : Prop :=
  ∀ h, oHP Z h0 lo h ds → MetFree l y (head1 (Jvm.Cond.code y bytes maxL ret :: ws) rm) (fun a U => a = as ∧ Z.Warmed39 U.vm ∧ U.heap = h) (fun _ _ _ _ _ => True) (fun _ U o U' => ∃ v L, o = .returned v ∧ (Fr h0.size L ∧ ∃ ds', oHP Z h0 lo U'.heap ds' ∧ Q v ds') ∧ FrameEnd U o U' L rm.cells rm.slots)
def oMetW (l : Launch) (Z : State) (h0 : Heap) (lo : Nat) (y : MethodName) (bytes : ByteArray) (maxL : Nat) (ret : Option FieldType) (ws : List Jvm.Cond) (rm : Room) (as : Array Value) (ds : oDs) (Q : Option Value → oDs → Prop) : Prop :=
  ∀ h, oHP Z h0 lo h ds → MetFree l y (head1 (Jvm.Cond.code y bytes maxL ret :: ws) rm) (fun a U => a = as ∧ Z.Warmed39 U.vm ∧ U.heap = h) (fun _ _ _ _ _ => True) (fun _ U o U' => ∃ v L, o = .returned v ∧ (Fr h0.size L ∧ ∃ lo' ds', oHP Z h0 lo' U'.heap ds' ∧ Q v ds') ∧ ReturnedEndW U o U' L rm.cells rm.slots)
theorem oMet.of_body {l : Launch} {Z : State} {h0 : Heap} {lo : Nat} {y : MethodName} {bytes : ByteArray} {maxL : Nat} {ret : Option FieldType} {ws : List Jvm.Cond} {rm : Room} {as : Array Value} {ds : oDs} {Q : Option Value → oDs → Prop} (hpl : plainFor y = true)
    (body : ∀ p e s m below meth c T, oB p l e rm s m as below meth c Z h0 lo T 0 0 ds → c.code = bytes → c.maxLocals = maxL → s.vm.findClass y.cls = some m.cls → meth.name = y.name → meth.sig.returnType = ret → oWin p e below Z h0 Q (oFE s lo rm.cells rm.slots) (T.setTop (entryFrame m as maxL))) : oMet l Z h0 lo y bytes maxL ret ws rm as ds Q := by
  intro h hH
  refine MetFree.of_bodySF hpl hisR ?_
  intro p e s m args below meth c s₁ Bd hml hP hK
  obtain ⟨rfl, hZ, hh⟩ := hP
  have e0 : s₁.heap = h := by rw [← hh, Bd.state]; rfl
  obtain ⟨U, o, h1, h2, h3, v, L, h4, ⟨h5, lo', ds', h6, h7⟩, h8, h9⟩ := body p e s m below meth c s₁ ⟨Bd.exec, hZ, Bd.notSynchronized, [], Stand.of_body Bd, Fr.nil _, e0 ▸ hH⟩ Bd.bytes hml (findClass_of_methodNamed Bd.named) (name_of_methodNamed Bd.named Bd.method).1 Bd.returns
  exact ⟨U, o, h1, h2, h3, v, L, h4, ⟨h5, ds', ⟨⟨h6.1.1, h8⟩, h6.2⟩, h7⟩, h9⟩
theorem oMetW.of_body {l : Launch} {Z : State} {h0 : Heap} {lo : Nat} {y : MethodName} {bytes : ByteArray} {maxL : Nat} {ret : Option FieldType} {ws : List Jvm.Cond} {rm : Room} {as : Array Value} {ds : oDs} {Q : Option Value → oDs → Prop} (hpl : plainFor y = true)
    (body : ∀ p e s m below meth c T (vm : Vm), oB p l e rm (s.setVm vm) m as below meth c Z h0 lo T 0 0 ds → s.Since vm lo → c.code = bytes → c.maxLocals = maxL → (s.setVm vm).vm.findClass y.cls = some m.cls → meth.name = y.name → meth.sig.returnType = ret → oWin p e below Z h0 Q (oFW s rm.cells rm.slots) (T.setTop (entryFrame m as maxL))) : oMetW l Z h0 lo y bytes maxL ret ws rm as ds Q := by
  intro h hH
  refine MetFree.of_bodySF hpl hisR ?_
  intro p e s m args below meth c s₁ Bd hml hP hK
  obtain ⟨rfl, hZ, hh⟩ := hP
  have e0 : s₁.heap = h := by rw [← hh, Bd.state]; rfl
  exact body p e s m below meth c s₁ s.vm ⟨Bd.exec, hZ, Bd.notSynchronized, [], Stand.of_body Bd, Fr.nil _, e0 ▸ hH⟩ ((State.WarmedH.refl s).since lo) Bd.bytes hml (findClass_of_methodNamed Bd.named) (name_of_methodNamed Bd.named Bd.method).1 Bd.returns
section Wlaws
variable {p : Program} {l : Launch} {e : Env} {R : Room} {s : State} {m : MethodId} {args : Array Value} {below : List Frame} {meth : Method} {c : Code} {Z : State} {a0 : Array Value} {h0 : Heap} {lo : Nat} {T : State} {cells slots : Nat} {ds ds' : oDs} {Q : Option Value → oDs → Prop} {E : Outcome → State → List Loc → Prop} {kc ks : Nat} {pc pc' : Nat} {ls ls' : Array Slot} {st : List Value}
theorem oWin.step {S S' : State} (w : oWin p e below Z h0 Q E S') (k : ∀ t, Steps p.tables e below S' t → Steps p.tables e below S t) : oWin p e below Z h0 Q E S := by
  obtain ⟨U, o, h1, r⟩ := w; exact ⟨U, o, k _ h1, r⟩
theorem oWin.steps {S S' : State} (w : oWin p e below Z h0 Q E S') (k : Steps p.tables e below S S') : oWin p e below Z h0 Q E S := by
  obtain ⟨U, o, h1, r⟩ := w; exact ⟨U, o, k.trans h1, r⟩
theorem W_entry {as : Array Value} {maxL : Nat} (h : entryFrame m as maxL = mkF m 0 ls []) (w : oWin p e below Z h0 Q E (T.setTop (mkF m 0 ls []))) : oWin p e below Z h0 Q E (T.setTop (entryFrame m as maxL)) := by rw [h]; exact w
theorem W_iload (B : oB p l e R s m args below meth c Z h0 lo T cells slots ds) {i : Nat} {v : Int32} (hd : decode c.code pc = .ok (.iload i, 2)) (hp : pc + 2 = pc') (hl : ls[i]? = some (.val (.int v))) (w : oWin p e below Z h0 Q E (T.setTop (mkF m pc' ls (.int v :: st)))) : oWin p e below Z h0 Q E (T.setTop (mkF m pc ls (st))) := by
  subst hp
  obtain ⟨hx, hZ, hlk, locs, X, N, H⟩ := B
  exact w.step fun t k => XS.iload X.here hx rfl hd hl k
theorem W_iloadN (B : oB p l e R s m args below meth c Z h0 lo T cells slots ds) {i : Fin 4} {v : Int32} (hd : decode c.code pc = .ok (.iload_n i, 1)) (hp : pc + 1 = pc') (hl : ls[i.val]? = some (.val (.int v))) (w : oWin p e below Z h0 Q E (T.setTop (mkF m pc' ls (.int v :: st)))) : oWin p e below Z h0 Q E (T.setTop (mkF m pc ls (st))) := by
  subst hp
  obtain ⟨hx, hZ, hlk, locs, X, N, H⟩ := B
  exact w.step fun t k => XS.iloadN X.here hx rfl hd hl k
theorem W_istore (B : oB p l e R s m args below meth c Z h0 lo T cells slots ds) {i : Nat} {x v : Int32} (hd : decode c.code pc = .ok (.istore i, 2)) (hp : pc + 2 = pc') (hz : x = v) (hl : storeLocals ls i (.int v) = some ls') (w : oWin p e below Z h0 Q E (T.setTop (mkF m pc' ls' (st)))) : oWin p e below Z h0 Q E (T.setTop (mkF m pc ls (.int x :: st))) := by
  subst hp hz
  obtain ⟨hx, hZ, hlk, locs, X, N, H⟩ := B
  exact w.step fun t k => XS.istore X.here hx rfl hd rfl hl k
theorem W_istoreN (B : oB p l e R s m args below meth c Z h0 lo T cells slots ds) {i : Fin 4} {x v : Int32} (hd : decode c.code pc = .ok (.istore_n i, 1)) (hp : pc + 1 = pc') (hz : x = v) (hl : storeLocals ls i.val (.int v) = some ls') (w : oWin p e below Z h0 Q E (T.setTop (mkF m pc' ls' (st)))) : oWin p e below Z h0 Q E (T.setTop (mkF m pc ls (.int x :: st))) := by
  subst hp hz
  obtain ⟨hx, hZ, hlk, locs, X, N, H⟩ := B
  exact w.step fun t k => XS.istoreN X.here hx rfl hd rfl hl k
theorem W_iadd (B : oB p l e R s m args below meth c Z h0 lo T cells slots ds) {x y z : Int32} (hd : decode c.code pc = .ok (.iadd, 1)) (hp : pc + 1 = pc') (hz : x + y = z) (w : oWin p e below Z h0 Q E (T.setTop (mkF m pc' ls (.int z :: st)))) : oWin p e below Z h0 Q E (T.setTop (mkF m pc ls (.int y :: .int x :: st))) := by
  subst hp hz
  obtain ⟨hx, hZ, hlk, locs, X, N, H⟩ := B
  exact w.step fun t k => XS.iadd X.here hx rfl hd rfl k
theorem W_isub (B : oB p l e R s m args below meth c Z h0 lo T cells slots ds) {x y z : Int32} (hd : decode c.code pc = .ok (.isub, 1)) (hp : pc + 1 = pc') (hz : x - y = z) (w : oWin p e below Z h0 Q E (T.setTop (mkF m pc' ls (.int z :: st)))) : oWin p e below Z h0 Q E (T.setTop (mkF m pc ls (.int y :: .int x :: st))) := by
  subst hp hz
  obtain ⟨hx, hZ, hlk, locs, X, N, H⟩ := B
  exact w.step fun t k => XS.isub X.here hx rfl hd rfl k
theorem W_imul (B : oB p l e R s m args below meth c Z h0 lo T cells slots ds) {x y z : Int32} (hd : decode c.code pc = .ok (.imul, 1)) (hp : pc + 1 = pc') (hz : x * y = z) (w : oWin p e below Z h0 Q E (T.setTop (mkF m pc' ls (.int z :: st)))) : oWin p e below Z h0 Q E (T.setTop (mkF m pc ls (.int y :: .int x :: st))) := by
  subst hp hz
  obtain ⟨hx, hZ, hlk, locs, X, N, H⟩ := B
  exact w.step fun t k => XS.imul X.here hx rfl hd rfl k
theorem W_iand (B : oB p l e R s m args below meth c Z h0 lo T cells slots ds) {x y z : Int32} (hd : decode c.code pc = .ok (.iand, 1)) (hp : pc + 1 = pc') (hz : x &&& y = z) (w : oWin p e below Z h0 Q E (T.setTop (mkF m pc' ls (.int z :: st)))) : oWin p e below Z h0 Q E (T.setTop (mkF m pc ls (.int y :: .int x :: st))) := by
  subst hp hz
  obtain ⟨hx, hZ, hlk, locs, X, N, H⟩ := B
  exact w.step fun t k => XS.iand X.here hx rfl hd rfl k
theorem W_ior (B : oB p l e R s m args below meth c Z h0 lo T cells slots ds) {x y z : Int32} (hd : decode c.code pc = .ok (.ior, 1)) (hp : pc + 1 = pc') (hz : x ||| y = z) (w : oWin p e below Z h0 Q E (T.setTop (mkF m pc' ls (.int z :: st)))) : oWin p e below Z h0 Q E (T.setTop (mkF m pc ls (.int y :: .int x :: st))) := by
  subst hp hz
  obtain ⟨hx, hZ, hlk, locs, X, N, H⟩ := B
  exact w.step fun t k => XS.ior X.here hx rfl hd rfl k
theorem W_ixor (B : oB p l e R s m args below meth c Z h0 lo T cells slots ds) {x y z : Int32} (hd : decode c.code pc = .ok (.ixor, 1)) (hp : pc + 1 = pc') (hz : x ^^^ y = z) (w : oWin p e below Z h0 Q E (T.setTop (mkF m pc' ls (.int z :: st)))) : oWin p e below Z h0 Q E (T.setTop (mkF m pc ls (.int y :: .int x :: st))) := by
  subst hp hz
  obtain ⟨hx, hZ, hlk, locs, X, N, H⟩ := B
  exact w.step fun t k => XS.ixor X.here hx rfl hd rfl k
theorem W_ineg (B : oB p l e R s m args below meth c Z h0 lo T cells slots ds) {x z : Int32} (hd : decode c.code pc = .ok (.ineg, 1)) (hp : pc + 1 = pc') (hz : -x = z) (w : oWin p e below Z h0 Q E (T.setTop (mkF m pc' ls (.int z :: st)))) : oWin p e below Z h0 Q E (T.setTop (mkF m pc ls (.int x :: st))) := by
  subst hp hz
  obtain ⟨hx, hZ, hlk, locs, X, N, H⟩ := B
  exact w.step fun t k => XS.ineg X.here hx rfl hd rfl k
theorem W_idiv (B : oB p l e R s m args below meth c Z h0 lo T cells slots ds) {x y z : Int32} (hd : decode c.code pc = .ok (.idiv, 1)) (hp : pc + 1 = pc') (hy : y ≠ 0) (hz : x / y = z) (w : oWin p e below Z h0 Q E (T.setTop (mkF m pc' ls (.int z :: st)))) : oWin p e below Z h0 Q E (T.setTop (mkF m pc ls (.int y :: .int x :: st))) := by
  subst hp hz
  obtain ⟨hx, hZ, hlk, locs, X, N, H⟩ := B
  exact w.step fun t k => XS.idiv X.here hx rfl hd rfl hy k
theorem W_lload (B : oB p l e R s m args below meth c Z h0 lo T cells slots ds) {i : Nat} {v : Int64} (hd : decode c.code pc = .ok (.lload i, 2)) (hp : pc + 2 = pc') (hl : ls[i]? = some (.val (.long v))) (w : oWin p e below Z h0 Q E (T.setTop (mkF m pc' ls (.long v :: st)))) : oWin p e below Z h0 Q E (T.setTop (mkF m pc ls (st))) := by
  subst hp
  obtain ⟨hx, hZ, hlk, locs, X, N, H⟩ := B
  exact w.step fun t k => XS.lload X.here hx rfl hd hl k
theorem W_lloadN (B : oB p l e R s m args below meth c Z h0 lo T cells slots ds) {i : Fin 4} {v : Int64} (hd : decode c.code pc = .ok (.lload_n i, 1)) (hp : pc + 1 = pc') (hl : ls[i.val]? = some (.val (.long v))) (w : oWin p e below Z h0 Q E (T.setTop (mkF m pc' ls (.long v :: st)))) : oWin p e below Z h0 Q E (T.setTop (mkF m pc ls (st))) := by
  subst hp
  obtain ⟨hx, hZ, hlk, locs, X, N, H⟩ := B
  exact w.step fun t k => XS.lloadN X.here hx rfl hd hl k
theorem W_lstore (B : oB p l e R s m args below meth c Z h0 lo T cells slots ds) {i : Nat} {x v : Int64} (hd : decode c.code pc = .ok (.lstore i, 2)) (hp : pc + 2 = pc') (hz : x = v) (hl : storeLocals ls i (.long v) = some ls') (w : oWin p e below Z h0 Q E (T.setTop (mkF m pc' ls' (st)))) : oWin p e below Z h0 Q E (T.setTop (mkF m pc ls (.long x :: st))) := by
  subst hp hz
  obtain ⟨hx, hZ, hlk, locs, X, N, H⟩ := B
  exact w.step fun t k => XS.lstore X.here hx rfl hd rfl hl k
theorem W_lstoreN (B : oB p l e R s m args below meth c Z h0 lo T cells slots ds) {i : Fin 4} {x v : Int64} (hd : decode c.code pc = .ok (.lstore_n i, 1)) (hp : pc + 1 = pc') (hz : x = v) (hl : storeLocals ls i.val (.long v) = some ls') (w : oWin p e below Z h0 Q E (T.setTop (mkF m pc' ls' (st)))) : oWin p e below Z h0 Q E (T.setTop (mkF m pc ls (.long x :: st))) := by
  subst hp hz
  obtain ⟨hx, hZ, hlk, locs, X, N, H⟩ := B
  exact w.step fun t k => XS.lstoreN X.here hx rfl hd rfl hl k
theorem W_ladd (B : oB p l e R s m args below meth c Z h0 lo T cells slots ds) {x y z : Int64} (hd : decode c.code pc = .ok (.ladd, 1)) (hp : pc + 1 = pc') (hz : x + y = z) (w : oWin p e below Z h0 Q E (T.setTop (mkF m pc' ls (.long z :: st)))) : oWin p e below Z h0 Q E (T.setTop (mkF m pc ls (.long y :: .long x :: st))) := by
  subst hp hz
  obtain ⟨hx, hZ, hlk, locs, X, N, H⟩ := B
  exact w.step fun t k => XS.ladd X.here hx rfl hd rfl k
theorem W_lsub (B : oB p l e R s m args below meth c Z h0 lo T cells slots ds) {x y z : Int64} (hd : decode c.code pc = .ok (.lsub, 1)) (hp : pc + 1 = pc') (hz : x - y = z) (w : oWin p e below Z h0 Q E (T.setTop (mkF m pc' ls (.long z :: st)))) : oWin p e below Z h0 Q E (T.setTop (mkF m pc ls (.long y :: .long x :: st))) := by
  subst hp hz
  obtain ⟨hx, hZ, hlk, locs, X, N, H⟩ := B
  exact w.step fun t k => XS.lsub X.here hx rfl hd rfl k
theorem W_lmul (B : oB p l e R s m args below meth c Z h0 lo T cells slots ds) {x y z : Int64} (hd : decode c.code pc = .ok (.lmul, 1)) (hp : pc + 1 = pc') (hz : x * y = z) (w : oWin p e below Z h0 Q E (T.setTop (mkF m pc' ls (.long z :: st)))) : oWin p e below Z h0 Q E (T.setTop (mkF m pc ls (.long y :: .long x :: st))) := by
  subst hp hz
  obtain ⟨hx, hZ, hlk, locs, X, N, H⟩ := B
  exact w.step fun t k => XS.lmul X.here hx rfl hd rfl k
theorem W_land (B : oB p l e R s m args below meth c Z h0 lo T cells slots ds) {x y z : Int64} (hd : decode c.code pc = .ok (.land, 1)) (hp : pc + 1 = pc') (hz : x &&& y = z) (w : oWin p e below Z h0 Q E (T.setTop (mkF m pc' ls (.long z :: st)))) : oWin p e below Z h0 Q E (T.setTop (mkF m pc ls (.long y :: .long x :: st))) := by
  subst hp hz
  obtain ⟨hx, hZ, hlk, locs, X, N, H⟩ := B
  exact w.step fun t k => XS.land X.here hx rfl hd rfl k
theorem W_lor (B : oB p l e R s m args below meth c Z h0 lo T cells slots ds) {x y z : Int64} (hd : decode c.code pc = .ok (.lor, 1)) (hp : pc + 1 = pc') (hz : x ||| y = z) (w : oWin p e below Z h0 Q E (T.setTop (mkF m pc' ls (.long z :: st)))) : oWin p e below Z h0 Q E (T.setTop (mkF m pc ls (.long y :: .long x :: st))) := by
  subst hp hz
  obtain ⟨hx, hZ, hlk, locs, X, N, H⟩ := B
  exact w.step fun t k => XS.lor X.here hx rfl hd rfl k
theorem W_lxor (B : oB p l e R s m args below meth c Z h0 lo T cells slots ds) {x y z : Int64} (hd : decode c.code pc = .ok (.lxor, 1)) (hp : pc + 1 = pc') (hz : x ^^^ y = z) (w : oWin p e below Z h0 Q E (T.setTop (mkF m pc' ls (.long z :: st)))) : oWin p e below Z h0 Q E (T.setTop (mkF m pc ls (.long y :: .long x :: st))) := by
  subst hp hz
  obtain ⟨hx, hZ, hlk, locs, X, N, H⟩ := B
  exact w.step fun t k => XS.lxor X.here hx rfl hd rfl k
theorem W_lneg (B : oB p l e R s m args below meth c Z h0 lo T cells slots ds) {x z : Int64} (hd : decode c.code pc = .ok (.lneg, 1)) (hp : pc + 1 = pc') (hz : -x = z) (w : oWin p e below Z h0 Q E (T.setTop (mkF m pc' ls (.long z :: st)))) : oWin p e below Z h0 Q E (T.setTop (mkF m pc ls (.long x :: st))) := by
  subst hp hz
  obtain ⟨hx, hZ, hlk, locs, X, N, H⟩ := B
  exact w.step fun t k => XS.lneg X.here hx rfl hd rfl k
theorem W_ldiv (B : oB p l e R s m args below meth c Z h0 lo T cells slots ds) {x y z : Int64} (hd : decode c.code pc = .ok (.ldiv, 1)) (hp : pc + 1 = pc') (hy : y ≠ 0) (hz : x / y = z) (w : oWin p e below Z h0 Q E (T.setTop (mkF m pc' ls (.long z :: st)))) : oWin p e below Z h0 Q E (T.setTop (mkF m pc ls (.long y :: .long x :: st))) := by
  subst hp hz
  obtain ⟨hx, hZ, hlk, locs, X, N, H⟩ := B
  exact w.step fun t k => XS.ldiv X.here hx rfl hd rfl hy k
theorem W_irem (B : oB p l e R s m args below meth c Z h0 lo T cells slots ds) {x y z : Int32} (hd : decode c.code pc = .ok (.irem, 1)) (hp : pc + 1 = pc') (hy : y ≠ 0) (hz : x % y = z) (w : oWin p e below Z h0 Q E (T.setTop (mkF m pc' ls (.int z :: st)))) : oWin p e below Z h0 Q E (T.setTop (mkF m pc ls (.int y :: .int x :: st))) := by
  subst hp hz
  obtain ⟨hx, hZ, hlk, locs, X, N, H⟩ := B
  exact w.step fun t k => iremM X hx rfl hd rfl hy k
theorem W_lrem (B : oB p l e R s m args below meth c Z h0 lo T cells slots ds) {x y z : Int64} (hd : decode c.code pc = .ok (.lrem, 1)) (hp : pc + 1 = pc') (hy : y ≠ 0) (hz : x - (x / y) * y = z) (w : oWin p e below Z h0 Q E (T.setTop (mkF m pc' ls (.long z :: st)))) : oWin p e below Z h0 Q E (T.setTop (mkF m pc ls (.long y :: .long x :: st))) := by
  subst hp hz
  obtain ⟨hx, hZ, hlk, locs, X, N, H⟩ := B
  exact w.step fun t k => XS.lrem X.here hx rfl hd rfl hy k
theorem W_ishl (B : oB p l e R s m args below meth c Z h0 lo T cells slots ds) {x y z : Int32} (hd : decode c.code pc = .ok (.ishl, 1)) (hp : pc + 1 = pc') (hz : x <<< (y &&& 31) = z) (w : oWin p e below Z h0 Q E (T.setTop (mkF m pc' ls (.int z :: st)))) : oWin p e below Z h0 Q E (T.setTop (mkF m pc ls (.int y :: .int x :: st))) := by
  subst hp hz
  obtain ⟨hx, hZ, hlk, locs, X, N, H⟩ := B
  exact w.step fun t k => XS.ishl X.here hx rfl hd rfl k
theorem W_ishr (B : oB p l e R s m args below meth c Z h0 lo T cells slots ds) {x y z : Int32} (hd : decode c.code pc = .ok (.ishr, 1)) (hp : pc + 1 = pc') (hz : x >>> (y &&& 31) = z) (w : oWin p e below Z h0 Q E (T.setTop (mkF m pc' ls (.int z :: st)))) : oWin p e below Z h0 Q E (T.setTop (mkF m pc ls (.int y :: .int x :: st))) := by
  subst hp hz
  obtain ⟨hx, hZ, hlk, locs, X, N, H⟩ := B
  exact w.step fun t k => XS.ishr X.here hx rfl hd rfl k
theorem W_iushr (B : oB p l e R s m args below meth c Z h0 lo T cells slots ds) {x y z : Int32} (hd : decode c.code pc = .ok (.iushr, 1)) (hp : pc + 1 = pc') (hz : (x.toUInt32 >>> (y &&& 31).toUInt32).toInt32 = z) (w : oWin p e below Z h0 Q E (T.setTop (mkF m pc' ls (.int z :: st)))) : oWin p e below Z h0 Q E (T.setTop (mkF m pc ls (.int y :: .int x :: st))) := by
  subst hp hz
  obtain ⟨hx, hZ, hlk, locs, X, N, H⟩ := B
  exact w.step fun t k => XS.iushr X.here hx rfl hd rfl k
theorem W_lshl (B : oB p l e R s m args below meth c Z h0 lo T cells slots ds) {x : Int64} {y : Int32} {z : Int64} (hd : decode c.code pc = .ok (.lshl, 1)) (hp : pc + 1 = pc') (hz : x <<< (y &&& 0x3f).toInt64 = z) (w : oWin p e below Z h0 Q E (T.setTop (mkF m pc' ls (.long z :: st)))) : oWin p e below Z h0 Q E (T.setTop (mkF m pc ls (.int y :: .long x :: st))) := by
  subst hp hz
  obtain ⟨hx, hZ, hlk, locs, X, N, H⟩ := B
  exact w.step fun t k => XS.lshl X.here hx rfl hd rfl k
theorem W_lshr (B : oB p l e R s m args below meth c Z h0 lo T cells slots ds) {x : Int64} {y : Int32} {z : Int64} (hd : decode c.code pc = .ok (.lshr, 1)) (hp : pc + 1 = pc') (hz : x >>> (y &&& 0x3f).toInt64 = z) (w : oWin p e below Z h0 Q E (T.setTop (mkF m pc' ls (.long z :: st)))) : oWin p e below Z h0 Q E (T.setTop (mkF m pc ls (.int y :: .long x :: st))) := by
  subst hp hz
  obtain ⟨hx, hZ, hlk, locs, X, N, H⟩ := B
  exact w.step fun t k => XS.lshr X.here hx rfl hd rfl k
theorem W_lushr (B : oB p l e R s m args below meth c Z h0 lo T cells slots ds) {x : Int64} {y : Int32} {z : Int64} (hd : decode c.code pc = .ok (.lushr, 1)) (hp : pc + 1 = pc') (hz : (x.toUInt64 >>> (y &&& 0x3f).toInt64.toUInt64).toInt64 = z) (w : oWin p e below Z h0 Q E (T.setTop (mkF m pc' ls (.long z :: st)))) : oWin p e below Z h0 Q E (T.setTop (mkF m pc ls (.int y :: .long x :: st))) := by
  subst hp hz
  obtain ⟨hx, hZ, hlk, locs, X, N, H⟩ := B
  exact w.step fun t k => XS.lushr X.here hx rfl hd rfl k
theorem W_i2b (B : oB p l e R s m args below meth c Z h0 lo T cells slots ds) {x : Int32} {z : Int32} (hd : decode c.code pc = .ok (.i2b, 1)) (hp : pc + 1 = pc') (hz : x.toInt8.toInt32 = z) (w : oWin p e below Z h0 Q E (T.setTop (mkF m pc' ls (.int z :: st)))) : oWin p e below Z h0 Q E (T.setTop (mkF m pc ls (.int x :: st))) := by
  subst hp hz
  obtain ⟨hx, hZ, hlk, locs, X, N, H⟩ := B
  exact w.step fun t k => XS.i2b X.here hx rfl hd rfl k
theorem W_i2c (B : oB p l e R s m args below meth c Z h0 lo T cells slots ds) {x : Int32} {z : Int32} (hd : decode c.code pc = .ok (.i2c, 1)) (hp : pc + 1 = pc') (hz : x.toUInt32.toUInt16.toUInt32.toInt32 = z) (w : oWin p e below Z h0 Q E (T.setTop (mkF m pc' ls (.int z :: st)))) : oWin p e below Z h0 Q E (T.setTop (mkF m pc ls (.int x :: st))) := by
  subst hp hz
  obtain ⟨hx, hZ, hlk, locs, X, N, H⟩ := B
  exact w.step fun t k => XS.i2c X.here hx rfl hd rfl k
theorem W_i2s (B : oB p l e R s m args below meth c Z h0 lo T cells slots ds) {x : Int32} {z : Int32} (hd : decode c.code pc = .ok (.i2s, 1)) (hp : pc + 1 = pc') (hz : x.toInt16.toInt32 = z) (w : oWin p e below Z h0 Q E (T.setTop (mkF m pc' ls (.int z :: st)))) : oWin p e below Z h0 Q E (T.setTop (mkF m pc ls (.int x :: st))) := by
  subst hp hz
  obtain ⟨hx, hZ, hlk, locs, X, N, H⟩ := B
  exact w.step fun t k => XS.i2s X.here hx rfl hd rfl k
theorem W_i2l (B : oB p l e R s m args below meth c Z h0 lo T cells slots ds) {x : Int32} {z : Int64} (hd : decode c.code pc = .ok (.i2l, 1)) (hp : pc + 1 = pc') (hz : x.toInt64 = z) (w : oWin p e below Z h0 Q E (T.setTop (mkF m pc' ls (.long z :: st)))) : oWin p e below Z h0 Q E (T.setTop (mkF m pc ls (.int x :: st))) := by
  subst hp hz
  obtain ⟨hx, hZ, hlk, locs, X, N, H⟩ := B
  exact w.step fun t k => XS.i2l X.here hx rfl hd rfl k
theorem W_l2i (B : oB p l e R s m args below meth c Z h0 lo T cells slots ds) {x : Int64} {z : Int32} (hd : decode c.code pc = .ok (.l2i, 1)) (hp : pc + 1 = pc') (hz : x.toInt32 = z) (w : oWin p e below Z h0 Q E (T.setTop (mkF m pc' ls (.int z :: st)))) : oWin p e below Z h0 Q E (T.setTop (mkF m pc ls (.long x :: st))) := by
  subst hp hz
  obtain ⟨hx, hZ, hlk, locs, X, N, H⟩ := B
  exact w.step fun t k => XS.l2i X.here hx rfl hd rfl k
theorem W_iconst (B : oB p l e R s m args below meth c Z h0 lo T cells slots ds) {i : Int} {z : Int32} (hd : decode c.code pc = .ok (.iconst i, 1)) (hp : pc + 1 = pc') (hz : Int32.ofInt i = z) (w : oWin p e below Z h0 Q E (T.setTop (mkF m pc' ls (.int z :: st)))) : oWin p e below Z h0 Q E (T.setTop (mkF m pc ls (st))) := by
  subst hp hz
  obtain ⟨hx, hZ, hlk, locs, X, N, H⟩ := B
  exact w.step fun t k => XS.iconst X.here hx rfl hd k
theorem W_bipush (B : oB p l e R s m args below meth c Z h0 lo T cells slots ds) {i : Int} {z : Int32} (hd : decode c.code pc = .ok (.bipush i, 2)) (hp : pc + 2 = pc') (hz : (Int8.ofInt i).toInt32 = z) (w : oWin p e below Z h0 Q E (T.setTop (mkF m pc' ls (.int z :: st)))) : oWin p e below Z h0 Q E (T.setTop (mkF m pc ls (st))) := by
  subst hp hz
  obtain ⟨hx, hZ, hlk, locs, X, N, H⟩ := B
  exact w.step fun t k => XS.bipush X.here hx rfl hd k
theorem W_sipush (B : oB p l e R s m args below meth c Z h0 lo T cells slots ds) {i : Int} {z : Int32} (hd : decode c.code pc = .ok (.sipush i, 3)) (hp : pc + 3 = pc') (hz : (Int16.ofInt i).toInt32 = z) (w : oWin p e below Z h0 Q E (T.setTop (mkF m pc' ls (.int z :: st)))) : oWin p e below Z h0 Q E (T.setTop (mkF m pc ls (st))) := by
  subst hp hz
  obtain ⟨hx, hZ, hlk, locs, X, N, H⟩ := B
  exact w.step fun t k => XS.sipush X.here hx rfl hd k
theorem W_lconst (B : oB p l e R s m args below meth c Z h0 lo T cells slots ds) {i : Fin 2} {z : Int64} (hd : decode c.code pc = .ok (.lconst i, 1)) (hp : pc + 1 = pc') (hz : Int64.ofNat i = z) (w : oWin p e below Z h0 Q E (T.setTop (mkF m pc' ls (.long z :: st)))) : oWin p e below Z h0 Q E (T.setTop (mkF m pc ls (st))) := by
  subst hp hz
  obtain ⟨hx, hZ, hlk, locs, X, N, H⟩ := B
  exact w.step fun t k => XS.lconst X.here hx rfl hd k
theorem W_aconstNull (B : oB p l e R s m args below meth c Z h0 lo T cells slots ds)  (hd : decode c.code pc = .ok (.aconst_null, 1)) (hp : pc + 1 = pc')  (w : oWin p e below Z h0 Q E (T.setTop (mkF m pc' ls (.null :: st)))) : oWin p e below Z h0 Q E (T.setTop (mkF m pc ls (st))) := by
  subst hp
  obtain ⟨hx, hZ, hlk, locs, X, N, H⟩ := B
  exact w.step fun t k => XS.aconstNull X.here hx rfl hd k
theorem W_aload (B : oB p l e R s m args below meth c Z h0 lo T cells slots ds) {i : Nat} {v : Value} (hd : decode c.code pc = .ok (.aload i, 2)) (hp : pc + 2 = pc') (hl : ls[i]? = some (.val v)) (hv : v.isRef = true) (w : oWin p e below Z h0 Q E (T.setTop (mkF m pc' ls (v :: st)))) : oWin p e below Z h0 Q E (T.setTop (mkF m pc ls (st))) := by
  subst hp
  obtain ⟨hx, hZ, hlk, locs, X, N, H⟩ := B
  exact w.step fun t k => XS.aload X.here hx rfl hd hl hv k
theorem W_aloadN (B : oB p l e R s m args below meth c Z h0 lo T cells slots ds) {i : Fin 4} {v : Value} (hd : decode c.code pc = .ok (.aload_n i, 1)) (hp : pc + 1 = pc') (hl : ls[i.val]? = some (.val v)) (hv : v.isRef = true) (w : oWin p e below Z h0 Q E (T.setTop (mkF m pc' ls (v :: st)))) : oWin p e below Z h0 Q E (T.setTop (mkF m pc ls (st))) := by
  subst hp
  obtain ⟨hx, hZ, hlk, locs, X, N, H⟩ := B
  exact w.step fun t k => XS.aloadN X.here hx rfl hd hl hv k
theorem W_astore (B : oB p l e R s m args below meth c Z h0 lo T cells slots ds) {i : Nat} {x : Value} (hd : decode c.code pc = .ok (.astore i, 2)) (hp : pc + 2 = pc') (hv : x.isRef = true) (hl : storeLocals ls i x = some ls') (w : oWin p e below Z h0 Q E (T.setTop (mkF m pc' ls' (st)))) : oWin p e below Z h0 Q E (T.setTop (mkF m pc ls (x :: st))) := by
  subst hp
  obtain ⟨hx, hZ, hlk, locs, X, N, H⟩ := B
  exact w.step fun t k => XS.astore X.here hx rfl hd rfl hv hl k
theorem W_astoreN (B : oB p l e R s m args below meth c Z h0 lo T cells slots ds) {i : Fin 4} {x : Value} (hd : decode c.code pc = .ok (.astore_n i, 1)) (hp : pc + 1 = pc') (hv : x.isRef = true) (hl : storeLocals ls i.val x = some ls') (w : oWin p e below Z h0 Q E (T.setTop (mkF m pc' ls' (st)))) : oWin p e below Z h0 Q E (T.setTop (mkF m pc ls (x :: st))) := by
  subst hp
  obtain ⟨hx, hZ, hlk, locs, X, N, H⟩ := B
  exact w.step fun t k => XS.astoreN X.here hx rfl hd rfl hv hl k
theorem W_dup (B : oB p l e R s m args below meth c Z h0 lo T cells slots ds) {x : Value} (hd : decode c.code pc = .ok (.dup, 1)) (hp : pc + 1 = pc') (hc : x.category = 1) (w : oWin p e below Z h0 Q E (T.setTop (mkF m pc' ls (x :: x :: st)))) : oWin p e below Z h0 Q E (T.setTop (mkF m pc ls (x :: st))) := by
  subst hp
  obtain ⟨hx, hZ, hlk, locs, X, N, H⟩ := B
  exact w.step fun t k => XS.dup X.here hx rfl hd rfl hc k
theorem W_pop (B : oB p l e R s m args below meth c Z h0 lo T cells slots ds) {x : Value} (hd : decode c.code pc = .ok (.pop, 1)) (hp : pc + 1 = pc') (hc : x.category = 1) (w : oWin p e below Z h0 Q E (T.setTop (mkF m pc' ls (st)))) : oWin p e below Z h0 Q E (T.setTop (mkF m pc ls (x :: st))) := by
  subst hp
  obtain ⟨hx, hZ, hlk, locs, X, N, H⟩ := B
  exact w.step fun t k => XS.pop X.here hx rfl hd rfl hc k
theorem W_dupX1 (B : oB p l e R s m args below meth c Z h0 lo T cells slots ds) {x y : Value} (hd : decode c.code pc = .ok (.dup_x1, 1)) (hp : pc + 1 = pc') (hc : x.category = 1) (hc2 : y.category = 1) (w : oWin p e below Z h0 Q E (T.setTop (mkF m pc' ls (x :: y :: x :: st)))) : oWin p e below Z h0 Q E (T.setTop (mkF m pc ls (x :: y :: st))) := by
  subst hp
  obtain ⟨hx, hZ, hlk, locs, X, N, H⟩ := B
  exact w.step fun t k => XS.dupX1 X.here hx rfl hd rfl hc hc2 k
theorem W_dup2 (B : oB p l e R s m args below meth c Z h0 lo T cells slots ds) {x y : Value} (hd : decode c.code pc = .ok (.dup2, 1)) (hp : pc + 1 = pc') (hc : x.category = 1) (hc2 : y.category = 1) (w : oWin p e below Z h0 Q E (T.setTop (mkF m pc' ls (x :: y :: x :: y :: st)))) : oWin p e below Z h0 Q E (T.setTop (mkF m pc ls (x :: y :: st))) := by
  subst hp
  obtain ⟨hx, hZ, hlk, locs, X, N, H⟩ := B
  refine w.step fun t k => ?_
  show Steps p.tables e below (T.setTop { method := m, pc := pc, locals := ls, stack := x :: y :: st, locked := none }) _
  jvm_step X.here [X.here.top, hx, hd, hc, hc2]
  exact k
theorem W_iinc (B : oB p l e R s m args below meth c Z h0 lo T cells slots ds) {i : Nat} {d : Int} {x z : Int32} (hd : decode c.code pc = .ok (.iinc i d, 3)) (hp : pc + 3 = pc') (hl : ls[i]? = some (.val (.int x))) (hz : x + Int32.ofInt d = z) (hl' : storeLocals ls i (.int z) = some ls') (w : oWin p e below Z h0 Q E (T.setTop (mkF m pc' ls' (st)))) : oWin p e below Z h0 Q E (T.setTop (mkF m pc ls (st))) := by
  subst hp hz
  obtain ⟨hx, hZ, hlk, locs, X, N, H⟩ := B
  exact w.step fun t k => XS.iinc X.here hx rfl hd hl hl' k
theorem W_goto (B : oB p l e R s m args below meth c Z h0 lo T cells slots ds) {o : Int} (hd : decode c.code pc = .ok (.goto o, 3)) (ho : 0 ≤ (pc : Int) + o) (hp : ((pc : Int) + o).toNat = pc') (w : oWin p e below Z h0 Q E (T.setTop (mkF m pc' ls st))) : oWin p e below Z h0 Q E (T.setTop (mkF m pc ls st)) := by
  obtain ⟨hx, hZ, hlk, locs, X, N, H⟩ := B
  exact w.step fun t k => XS.goto X.here hx rfl rfl hd ho hp k
theorem W_icmpY (B : oB p l e R s m args below meth c Z h0 lo T cells slots ds) {cd : ClassFile.Cond} {x y : Int32} {o : Int} (hd : decode c.code pc = .ok (.if_icmp cd o, 3)) (ho : 0 ≤ (pc : Int) + o) (hp : ((pc : Int) + o).toNat = pc') (hc : if_icmp.holds cd x y = true) (w : oWin p e below Z h0 Q E (T.setTop (mkF m pc' ls st))) : oWin p e below Z h0 Q E (T.setTop (mkF m pc ls (.int y :: .int x :: st))) := by
  obtain ⟨hx, hZ, hlk, locs, X, N, H⟩ := B
  exact w.step fun t k => XS.icmpYes X.here hx rfl rfl hd rfl hc ho hp k
theorem W_icmpN (B : oB p l e R s m args below meth c Z h0 lo T cells slots ds) {cd : ClassFile.Cond} {x y : Int32} {o : Int} (hd : decode c.code pc = .ok (.if_icmp cd o, 3)) (hp : pc + 3 = pc') (hc : if_icmp.holds cd x y = false) (w : oWin p e below Z h0 Q E (T.setTop (mkF m pc' ls st))) : oWin p e below Z h0 Q E (T.setTop (mkF m pc ls (.int y :: .int x :: st))) := by
  subst hp
  obtain ⟨hx, hZ, hlk, locs, X, N, H⟩ := B
  exact w.step fun t k => XS.icmpNo X.here hx rfl hd rfl hc k
theorem W_ifY (B : oB p l e R s m args below meth c Z h0 lo T cells slots ds) {cd : ClassFile.Cond} {x : Int32} {o : Int} (hd : decode c.code pc = .ok (.ifCond cd o, 3)) (ho : 0 ≤ (pc : Int) + o) (hp : ((pc : Int) + o).toNat = pc') (hc : if_icmp.holds cd x 0 = true) (w : oWin p e below Z h0 Q E (T.setTop (mkF m pc' ls st))) : oWin p e below Z h0 Q E (T.setTop (mkF m pc ls (.int x :: st))) := by
  obtain ⟨hx, hZ, hlk, locs, X, N, H⟩ := B
  exact w.step fun t k => XS.ifYes X.here hx rfl rfl hd rfl ((if0 _ _).trans hc) ho hp k
theorem W_ifN (B : oB p l e R s m args below meth c Z h0 lo T cells slots ds) {cd : ClassFile.Cond} {x : Int32} {o : Int} (hd : decode c.code pc = .ok (.ifCond cd o, 3)) (hp : pc + 3 = pc') (hc : if_icmp.holds cd x 0 = false) (w : oWin p e below Z h0 Q E (T.setTop (mkF m pc' ls st))) : oWin p e below Z h0 Q E (T.setTop (mkF m pc ls (.int x :: st))) := by
  subst hp
  obtain ⟨hx, hZ, hlk, locs, X, N, H⟩ := B
  exact w.step fun t k => XS.ifNo X.here hx rfl hd rfl ((if0 _ _).trans hc) k
theorem W_icmp_eq (B : oB p l e R s m args below meth c Z h0 lo T cells slots ds) {x y : Int32} {o : Int} {pt : Nat} (hd : decode c.code pc = .ok (.if_icmp .eq o, 3)) (ho : 0 ≤ (pc : Int) + o) (ht : ((pc : Int) + o).toNat = pt) (hp : pc + 3 = pc') (w1 : x = y → oWin p e below Z h0 Q E (T.setTop (mkF m pt ls st))) (w2 : ¬ x = y → oWin p e below Z h0 Q E (T.setTop (mkF m pc' ls st))) : oWin p e below Z h0 Q E (T.setTop (mkF m pc ls (.int y :: .int x :: st))) := by
  by_cases h : x = y
  · exact W_icmpY B hd ho ht (teq h).1 (w1 h)
  · exact W_icmpN B hd hp (feq h).1 (w2 h)
theorem W_if_eq (B : oB p l e R s m args below meth c Z h0 lo T cells slots ds) {x : Int32} {o : Int} {pt : Nat} (hd : decode c.code pc = .ok (.ifCond .eq o, 3)) (ho : 0 ≤ (pc : Int) + o) (ht : ((pc : Int) + o).toNat = pt) (hp : pc + 3 = pc') (w1 : x = 0 → oWin p e below Z h0 Q E (T.setTop (mkF m pt ls st))) (w2 : ¬ x = 0 → oWin p e below Z h0 Q E (T.setTop (mkF m pc' ls st))) : oWin p e below Z h0 Q E (T.setTop (mkF m pc ls (.int x :: st))) := by
  by_cases h : x = 0
  · exact W_ifY B hd ho ht (teq h).1 (w1 h)
  · exact W_ifN B hd hp (feq h).1 (w2 h)
theorem W_lcmpY_eq (B : oB p l e R s m args below meth c Z h0 lo T cells slots ds) {x y : Int64} {o : Int} (hd : decode c.code pc = .ok (.lcmp, 1)) (hd' : decode c.code (pc + 1) = .ok (.ifCond .eq o, 3)) (ho : 0 ≤ ((pc + 1 : Nat) : Int) + o) (ht : (((pc + 1 : Nat) : Int) + o).toNat = pc') (hc : x = y) (w : oWin p e below Z h0 Q E (T.setTop (mkF m pc' ls st))) : oWin p e below Z h0 Q E (T.setTop (mkF m pc ls (.long y :: .long x :: st))) := by
  have w' := W_ifY (x := lcmpV x y) (st := st) B hd' ho ht (by have h : lcmpV x y = 0 := (lc_eq x y).mpr hc; exact (teq h).1) w
  obtain ⟨hx, hZ, hlk, locs, X, N, H⟩ := B
  exact w'.step fun t k => XS.lcmp X.here hx rfl hd rfl (by show Steps p.tables e below (T.setTop (mkF m (pc + 1) ls (.int (lcmpW x y) :: st))) t; rw [lcW]; exact k)
theorem W_lcmpN_eq (B : oB p l e R s m args below meth c Z h0 lo T cells slots ds) {x y : Int64} {o : Int} (hd : decode c.code pc = .ok (.lcmp, 1)) (hd' : decode c.code (pc + 1) = .ok (.ifCond .eq o, 3)) (hp : pc + 1 + 3 = pc') (hc : ¬ x = y) (w : oWin p e below Z h0 Q E (T.setTop (mkF m pc' ls st))) : oWin p e below Z h0 Q E (T.setTop (mkF m pc ls (.long y :: .long x :: st))) := by
  have w' := W_ifN (x := lcmpV x y) (st := st) B hd' hp (by have h : ¬ lcmpV x y = 0 := fun q => hc ((lc_eq x y).mp q); exact (feq h).1) w
  obtain ⟨hx, hZ, hlk, locs, X, N, H⟩ := B
  exact w'.step fun t k => XS.lcmp X.here hx rfl hd rfl (by show Steps p.tables e below (T.setTop (mkF m (pc + 1) ls (.int (lcmpW x y) :: st))) t; rw [lcW]; exact k)
theorem W_lcmp_eq (B : oB p l e R s m args below meth c Z h0 lo T cells slots ds) {x y : Int64} {o : Int} {pt : Nat} (hd : decode c.code pc = .ok (.lcmp, 1)) (hd' : decode c.code (pc + 1) = .ok (.ifCond .eq o, 3)) (ho : 0 ≤ ((pc + 1 : Nat) : Int) + o) (ht : (((pc + 1 : Nat) : Int) + o).toNat = pt) (hp : pc + 1 + 3 = pc') (w1 : x = y → oWin p e below Z h0 Q E (T.setTop (mkF m pt ls st))) (w2 : ¬ x = y → oWin p e below Z h0 Q E (T.setTop (mkF m pc' ls st))) : oWin p e below Z h0 Q E (T.setTop (mkF m pc ls (.long y :: .long x :: st))) := by
  by_cases h : x = y
  · exact W_lcmpY_eq B hd hd' ho ht h (w1 h)
  · exact W_lcmpN_eq B hd hd' hp h (w2 h)
theorem W_icmp_ne (B : oB p l e R s m args below meth c Z h0 lo T cells slots ds) {x y : Int32} {o : Int} {pt : Nat} (hd : decode c.code pc = .ok (.if_icmp .ne o, 3)) (ho : 0 ≤ (pc : Int) + o) (ht : ((pc : Int) + o).toNat = pt) (hp : pc + 3 = pc') (w1 : ¬ x = y → oWin p e below Z h0 Q E (T.setTop (mkF m pt ls st))) (w2 : x = y → oWin p e below Z h0 Q E (T.setTop (mkF m pc' ls st))) : oWin p e below Z h0 Q E (T.setTop (mkF m pc ls (.int y :: .int x :: st))) := by
  by_cases h : x = y
  · exact W_icmpN B hd hp (teq h).2 (w2 h)
  · exact W_icmpY B hd ho ht (feq h).2 (w1 h)
theorem W_if_ne (B : oB p l e R s m args below meth c Z h0 lo T cells slots ds) {x : Int32} {o : Int} {pt : Nat} (hd : decode c.code pc = .ok (.ifCond .ne o, 3)) (ho : 0 ≤ (pc : Int) + o) (ht : ((pc : Int) + o).toNat = pt) (hp : pc + 3 = pc') (w1 : ¬ x = 0 → oWin p e below Z h0 Q E (T.setTop (mkF m pt ls st))) (w2 : x = 0 → oWin p e below Z h0 Q E (T.setTop (mkF m pc' ls st))) : oWin p e below Z h0 Q E (T.setTop (mkF m pc ls (.int x :: st))) := by
  by_cases h : x = 0
  · exact W_ifN B hd hp (teq h).2 (w2 h)
  · exact W_ifY B hd ho ht (feq h).2 (w1 h)
theorem W_lcmpY_ne (B : oB p l e R s m args below meth c Z h0 lo T cells slots ds) {x y : Int64} {o : Int} (hd : decode c.code pc = .ok (.lcmp, 1)) (hd' : decode c.code (pc + 1) = .ok (.ifCond .ne o, 3)) (ho : 0 ≤ ((pc + 1 : Nat) : Int) + o) (ht : (((pc + 1 : Nat) : Int) + o).toNat = pc') (hc : ¬ x = y) (w : oWin p e below Z h0 Q E (T.setTop (mkF m pc' ls st))) : oWin p e below Z h0 Q E (T.setTop (mkF m pc ls (.long y :: .long x :: st))) := by
  have w' := W_ifY (x := lcmpV x y) (st := st) B hd' ho ht (by have h : ¬ lcmpV x y = 0 := fun q => hc ((lc_eq x y).mp q); exact (feq h).2) w
  obtain ⟨hx, hZ, hlk, locs, X, N, H⟩ := B
  exact w'.step fun t k => XS.lcmp X.here hx rfl hd rfl (by show Steps p.tables e below (T.setTop (mkF m (pc + 1) ls (.int (lcmpW x y) :: st))) t; rw [lcW]; exact k)
theorem W_lcmpN_ne (B : oB p l e R s m args below meth c Z h0 lo T cells slots ds) {x y : Int64} {o : Int} (hd : decode c.code pc = .ok (.lcmp, 1)) (hd' : decode c.code (pc + 1) = .ok (.ifCond .ne o, 3)) (hp : pc + 1 + 3 = pc') (hc : x = y) (w : oWin p e below Z h0 Q E (T.setTop (mkF m pc' ls st))) : oWin p e below Z h0 Q E (T.setTop (mkF m pc ls (.long y :: .long x :: st))) := by
  have w' := W_ifN (x := lcmpV x y) (st := st) B hd' hp (by have h : lcmpV x y = 0 := (lc_eq x y).mpr hc; exact (teq h).2) w
  obtain ⟨hx, hZ, hlk, locs, X, N, H⟩ := B
  exact w'.step fun t k => XS.lcmp X.here hx rfl hd rfl (by show Steps p.tables e below (T.setTop (mkF m (pc + 1) ls (.int (lcmpW x y) :: st))) t; rw [lcW]; exact k)
theorem W_lcmp_ne (B : oB p l e R s m args below meth c Z h0 lo T cells slots ds) {x y : Int64} {o : Int} {pt : Nat} (hd : decode c.code pc = .ok (.lcmp, 1)) (hd' : decode c.code (pc + 1) = .ok (.ifCond .ne o, 3)) (ho : 0 ≤ ((pc + 1 : Nat) : Int) + o) (ht : (((pc + 1 : Nat) : Int) + o).toNat = pt) (hp : pc + 1 + 3 = pc') (w1 : ¬ x = y → oWin p e below Z h0 Q E (T.setTop (mkF m pt ls st))) (w2 : x = y → oWin p e below Z h0 Q E (T.setTop (mkF m pc' ls st))) : oWin p e below Z h0 Q E (T.setTop (mkF m pc ls (.long y :: .long x :: st))) := by
  by_cases h : x = y
  · exact W_lcmpN_ne B hd hd' hp h (w2 h)
  · exact W_lcmpY_ne B hd hd' ho ht h (w1 h)
theorem W_icmp_lt (B : oB p l e R s m args below meth c Z h0 lo T cells slots ds) {x y : Int32} {o : Int} {pt : Nat} (hd : decode c.code pc = .ok (.if_icmp .lt o, 3)) (ho : 0 ≤ (pc : Int) + o) (ht : ((pc : Int) + o).toNat = pt) (hp : pc + 3 = pc') (w1 : x < y → oWin p e below Z h0 Q E (T.setTop (mkF m pt ls st))) (w2 : ¬ x < y → oWin p e below Z h0 Q E (T.setTop (mkF m pc' ls st))) : oWin p e below Z h0 Q E (T.setTop (mkF m pc ls (.int y :: .int x :: st))) := by
  by_cases h : x < y
  · exact W_icmpY B hd ho ht (tlt h).1 (w1 h)
  · exact W_icmpN B hd hp (flt h).1 (w2 h)
theorem W_if_lt (B : oB p l e R s m args below meth c Z h0 lo T cells slots ds) {x : Int32} {o : Int} {pt : Nat} (hd : decode c.code pc = .ok (.ifCond .lt o, 3)) (ho : 0 ≤ (pc : Int) + o) (ht : ((pc : Int) + o).toNat = pt) (hp : pc + 3 = pc') (w1 : x < 0 → oWin p e below Z h0 Q E (T.setTop (mkF m pt ls st))) (w2 : ¬ x < 0 → oWin p e below Z h0 Q E (T.setTop (mkF m pc' ls st))) : oWin p e below Z h0 Q E (T.setTop (mkF m pc ls (.int x :: st))) := by
  by_cases h : x < 0
  · exact W_ifY B hd ho ht (tlt h).1 (w1 h)
  · exact W_ifN B hd hp (flt h).1 (w2 h)
theorem W_lcmpY_lt (B : oB p l e R s m args below meth c Z h0 lo T cells slots ds) {x y : Int64} {o : Int} (hd : decode c.code pc = .ok (.lcmp, 1)) (hd' : decode c.code (pc + 1) = .ok (.ifCond .lt o, 3)) (ho : 0 ≤ ((pc + 1 : Nat) : Int) + o) (ht : (((pc + 1 : Nat) : Int) + o).toNat = pc') (hc : x < y) (w : oWin p e below Z h0 Q E (T.setTop (mkF m pc' ls st))) : oWin p e below Z h0 Q E (T.setTop (mkF m pc ls (.long y :: .long x :: st))) := by
  have w' := W_ifY (x := lcmpV x y) (st := st) B hd' ho ht (by have h : lcmpV x y < 0 := (lc_lt x y).mpr hc; exact (tlt h).1) w
  obtain ⟨hx, hZ, hlk, locs, X, N, H⟩ := B
  exact w'.step fun t k => XS.lcmp X.here hx rfl hd rfl (by show Steps p.tables e below (T.setTop (mkF m (pc + 1) ls (.int (lcmpW x y) :: st))) t; rw [lcW]; exact k)
theorem W_lcmpN_lt (B : oB p l e R s m args below meth c Z h0 lo T cells slots ds) {x y : Int64} {o : Int} (hd : decode c.code pc = .ok (.lcmp, 1)) (hd' : decode c.code (pc + 1) = .ok (.ifCond .lt o, 3)) (hp : pc + 1 + 3 = pc') (hc : ¬ x < y) (w : oWin p e below Z h0 Q E (T.setTop (mkF m pc' ls st))) : oWin p e below Z h0 Q E (T.setTop (mkF m pc ls (.long y :: .long x :: st))) := by
  have w' := W_ifN (x := lcmpV x y) (st := st) B hd' hp (by have h : ¬ lcmpV x y < 0 := fun q => hc ((lc_lt x y).mp q); exact (flt h).1) w
  obtain ⟨hx, hZ, hlk, locs, X, N, H⟩ := B
  exact w'.step fun t k => XS.lcmp X.here hx rfl hd rfl (by show Steps p.tables e below (T.setTop (mkF m (pc + 1) ls (.int (lcmpW x y) :: st))) t; rw [lcW]; exact k)
theorem W_lcmp_lt (B : oB p l e R s m args below meth c Z h0 lo T cells slots ds) {x y : Int64} {o : Int} {pt : Nat} (hd : decode c.code pc = .ok (.lcmp, 1)) (hd' : decode c.code (pc + 1) = .ok (.ifCond .lt o, 3)) (ho : 0 ≤ ((pc + 1 : Nat) : Int) + o) (ht : (((pc + 1 : Nat) : Int) + o).toNat = pt) (hp : pc + 1 + 3 = pc') (w1 : x < y → oWin p e below Z h0 Q E (T.setTop (mkF m pt ls st))) (w2 : ¬ x < y → oWin p e below Z h0 Q E (T.setTop (mkF m pc' ls st))) : oWin p e below Z h0 Q E (T.setTop (mkF m pc ls (.long y :: .long x :: st))) := by
  by_cases h : x < y
  · exact W_lcmpY_lt B hd hd' ho ht h (w1 h)
  · exact W_lcmpN_lt B hd hd' hp h (w2 h)
theorem W_icmp_ge (B : oB p l e R s m args below meth c Z h0 lo T cells slots ds) {x y : Int32} {o : Int} {pt : Nat} (hd : decode c.code pc = .ok (.if_icmp .ge o, 3)) (ho : 0 ≤ (pc : Int) + o) (ht : ((pc : Int) + o).toNat = pt) (hp : pc + 3 = pc') (w1 : ¬ x < y → oWin p e below Z h0 Q E (T.setTop (mkF m pt ls st))) (w2 : x < y → oWin p e below Z h0 Q E (T.setTop (mkF m pc' ls st))) : oWin p e below Z h0 Q E (T.setTop (mkF m pc ls (.int y :: .int x :: st))) := by
  by_cases h : x < y
  · exact W_icmpN B hd hp (tlt h).2.1 (w2 h)
  · exact W_icmpY B hd ho ht (flt h).2.1 (w1 h)
theorem W_if_ge (B : oB p l e R s m args below meth c Z h0 lo T cells slots ds) {x : Int32} {o : Int} {pt : Nat} (hd : decode c.code pc = .ok (.ifCond .ge o, 3)) (ho : 0 ≤ (pc : Int) + o) (ht : ((pc : Int) + o).toNat = pt) (hp : pc + 3 = pc') (w1 : ¬ x < 0 → oWin p e below Z h0 Q E (T.setTop (mkF m pt ls st))) (w2 : x < 0 → oWin p e below Z h0 Q E (T.setTop (mkF m pc' ls st))) : oWin p e below Z h0 Q E (T.setTop (mkF m pc ls (.int x :: st))) := by
  by_cases h : x < 0
  · exact W_ifN B hd hp (tlt h).2.1 (w2 h)
  · exact W_ifY B hd ho ht (flt h).2.1 (w1 h)
theorem W_lcmpY_ge (B : oB p l e R s m args below meth c Z h0 lo T cells slots ds) {x y : Int64} {o : Int} (hd : decode c.code pc = .ok (.lcmp, 1)) (hd' : decode c.code (pc + 1) = .ok (.ifCond .ge o, 3)) (ho : 0 ≤ ((pc + 1 : Nat) : Int) + o) (ht : (((pc + 1 : Nat) : Int) + o).toNat = pc') (hc : ¬ x < y) (w : oWin p e below Z h0 Q E (T.setTop (mkF m pc' ls st))) : oWin p e below Z h0 Q E (T.setTop (mkF m pc ls (.long y :: .long x :: st))) := by
  have w' := W_ifY (x := lcmpV x y) (st := st) B hd' ho ht (by have h : ¬ lcmpV x y < 0 := fun q => hc ((lc_lt x y).mp q); exact (flt h).2.1) w
  obtain ⟨hx, hZ, hlk, locs, X, N, H⟩ := B
  exact w'.step fun t k => XS.lcmp X.here hx rfl hd rfl (by show Steps p.tables e below (T.setTop (mkF m (pc + 1) ls (.int (lcmpW x y) :: st))) t; rw [lcW]; exact k)
theorem W_lcmpN_ge (B : oB p l e R s m args below meth c Z h0 lo T cells slots ds) {x y : Int64} {o : Int} (hd : decode c.code pc = .ok (.lcmp, 1)) (hd' : decode c.code (pc + 1) = .ok (.ifCond .ge o, 3)) (hp : pc + 1 + 3 = pc') (hc : x < y) (w : oWin p e below Z h0 Q E (T.setTop (mkF m pc' ls st))) : oWin p e below Z h0 Q E (T.setTop (mkF m pc ls (.long y :: .long x :: st))) := by
  have w' := W_ifN (x := lcmpV x y) (st := st) B hd' hp (by have h : lcmpV x y < 0 := (lc_lt x y).mpr hc; exact (tlt h).2.1) w
  obtain ⟨hx, hZ, hlk, locs, X, N, H⟩ := B
  exact w'.step fun t k => XS.lcmp X.here hx rfl hd rfl (by show Steps p.tables e below (T.setTop (mkF m (pc + 1) ls (.int (lcmpW x y) :: st))) t; rw [lcW]; exact k)
theorem W_lcmp_ge (B : oB p l e R s m args below meth c Z h0 lo T cells slots ds) {x y : Int64} {o : Int} {pt : Nat} (hd : decode c.code pc = .ok (.lcmp, 1)) (hd' : decode c.code (pc + 1) = .ok (.ifCond .ge o, 3)) (ho : 0 ≤ ((pc + 1 : Nat) : Int) + o) (ht : (((pc + 1 : Nat) : Int) + o).toNat = pt) (hp : pc + 1 + 3 = pc') (w1 : ¬ x < y → oWin p e below Z h0 Q E (T.setTop (mkF m pt ls st))) (w2 : x < y → oWin p e below Z h0 Q E (T.setTop (mkF m pc' ls st))) : oWin p e below Z h0 Q E (T.setTop (mkF m pc ls (.long y :: .long x :: st))) := by
  by_cases h : x < y
  · exact W_lcmpN_ge B hd hd' hp h (w2 h)
  · exact W_lcmpY_ge B hd hd' ho ht h (w1 h)
theorem W_icmp_gt (B : oB p l e R s m args below meth c Z h0 lo T cells slots ds) {x y : Int32} {o : Int} {pt : Nat} (hd : decode c.code pc = .ok (.if_icmp .gt o, 3)) (ho : 0 ≤ (pc : Int) + o) (ht : ((pc : Int) + o).toNat = pt) (hp : pc + 3 = pc') (w1 : y < x → oWin p e below Z h0 Q E (T.setTop (mkF m pt ls st))) (w2 : ¬ y < x → oWin p e below Z h0 Q E (T.setTop (mkF m pc' ls st))) : oWin p e below Z h0 Q E (T.setTop (mkF m pc ls (.int y :: .int x :: st))) := by
  by_cases h : y < x
  · exact W_icmpY B hd ho ht (tlt h).2.2.1 (w1 h)
  · exact W_icmpN B hd hp (flt h).2.2.1 (w2 h)
theorem W_if_gt (B : oB p l e R s m args below meth c Z h0 lo T cells slots ds) {x : Int32} {o : Int} {pt : Nat} (hd : decode c.code pc = .ok (.ifCond .gt o, 3)) (ho : 0 ≤ (pc : Int) + o) (ht : ((pc : Int) + o).toNat = pt) (hp : pc + 3 = pc') (w1 : 0 < x → oWin p e below Z h0 Q E (T.setTop (mkF m pt ls st))) (w2 : ¬ 0 < x → oWin p e below Z h0 Q E (T.setTop (mkF m pc' ls st))) : oWin p e below Z h0 Q E (T.setTop (mkF m pc ls (.int x :: st))) := by
  by_cases h : 0 < x
  · exact W_ifY B hd ho ht (tlt h).2.2.1 (w1 h)
  · exact W_ifN B hd hp (flt h).2.2.1 (w2 h)
theorem W_lcmpY_gt (B : oB p l e R s m args below meth c Z h0 lo T cells slots ds) {x y : Int64} {o : Int} (hd : decode c.code pc = .ok (.lcmp, 1)) (hd' : decode c.code (pc + 1) = .ok (.ifCond .gt o, 3)) (ho : 0 ≤ ((pc + 1 : Nat) : Int) + o) (ht : (((pc + 1 : Nat) : Int) + o).toNat = pc') (hc : y < x) (w : oWin p e below Z h0 Q E (T.setTop (mkF m pc' ls st))) : oWin p e below Z h0 Q E (T.setTop (mkF m pc ls (.long y :: .long x :: st))) := by
  have w' := W_ifY (x := lcmpV x y) (st := st) B hd' ho ht (by have h : 0 < lcmpV x y := (lc_gt x y).mpr hc; exact (tlt h).2.2.1) w
  obtain ⟨hx, hZ, hlk, locs, X, N, H⟩ := B
  exact w'.step fun t k => XS.lcmp X.here hx rfl hd rfl (by show Steps p.tables e below (T.setTop (mkF m (pc + 1) ls (.int (lcmpW x y) :: st))) t; rw [lcW]; exact k)
theorem W_lcmpN_gt (B : oB p l e R s m args below meth c Z h0 lo T cells slots ds) {x y : Int64} {o : Int} (hd : decode c.code pc = .ok (.lcmp, 1)) (hd' : decode c.code (pc + 1) = .ok (.ifCond .gt o, 3)) (hp : pc + 1 + 3 = pc') (hc : ¬ y < x) (w : oWin p e below Z h0 Q E (T.setTop (mkF m pc' ls st))) : oWin p e below Z h0 Q E (T.setTop (mkF m pc ls (.long y :: .long x :: st))) := by
  have w' := W_ifN (x := lcmpV x y) (st := st) B hd' hp (by have h : ¬ 0 < lcmpV x y := fun q => hc ((lc_gt x y).mp q); exact (flt h).2.2.1) w
  obtain ⟨hx, hZ, hlk, locs, X, N, H⟩ := B
  exact w'.step fun t k => XS.lcmp X.here hx rfl hd rfl (by show Steps p.tables e below (T.setTop (mkF m (pc + 1) ls (.int (lcmpW x y) :: st))) t; rw [lcW]; exact k)
theorem W_lcmp_gt (B : oB p l e R s m args below meth c Z h0 lo T cells slots ds) {x y : Int64} {o : Int} {pt : Nat} (hd : decode c.code pc = .ok (.lcmp, 1)) (hd' : decode c.code (pc + 1) = .ok (.ifCond .gt o, 3)) (ho : 0 ≤ ((pc + 1 : Nat) : Int) + o) (ht : (((pc + 1 : Nat) : Int) + o).toNat = pt) (hp : pc + 1 + 3 = pc') (w1 : y < x → oWin p e below Z h0 Q E (T.setTop (mkF m pt ls st))) (w2 : ¬ y < x → oWin p e below Z h0 Q E (T.setTop (mkF m pc' ls st))) : oWin p e below Z h0 Q E (T.setTop (mkF m pc ls (.long y :: .long x :: st))) := by
  by_cases h : y < x
  · exact W_lcmpY_gt B hd hd' ho ht h (w1 h)
  · exact W_lcmpN_gt B hd hd' hp h (w2 h)
theorem W_icmp_le (B : oB p l e R s m args below meth c Z h0 lo T cells slots ds) {x y : Int32} {o : Int} {pt : Nat} (hd : decode c.code pc = .ok (.if_icmp .le o, 3)) (ho : 0 ≤ (pc : Int) + o) (ht : ((pc : Int) + o).toNat = pt) (hp : pc + 3 = pc') (w1 : ¬ y < x → oWin p e below Z h0 Q E (T.setTop (mkF m pt ls st))) (w2 : y < x → oWin p e below Z h0 Q E (T.setTop (mkF m pc' ls st))) : oWin p e below Z h0 Q E (T.setTop (mkF m pc ls (.int y :: .int x :: st))) := by
  by_cases h : y < x
  · exact W_icmpN B hd hp (tlt h).2.2.2 (w2 h)
  · exact W_icmpY B hd ho ht (flt h).2.2.2 (w1 h)
theorem W_if_le (B : oB p l e R s m args below meth c Z h0 lo T cells slots ds) {x : Int32} {o : Int} {pt : Nat} (hd : decode c.code pc = .ok (.ifCond .le o, 3)) (ho : 0 ≤ (pc : Int) + o) (ht : ((pc : Int) + o).toNat = pt) (hp : pc + 3 = pc') (w1 : ¬ 0 < x → oWin p e below Z h0 Q E (T.setTop (mkF m pt ls st))) (w2 : 0 < x → oWin p e below Z h0 Q E (T.setTop (mkF m pc' ls st))) : oWin p e below Z h0 Q E (T.setTop (mkF m pc ls (.int x :: st))) := by
  by_cases h : 0 < x
  · exact W_ifN B hd hp (tlt h).2.2.2 (w2 h)
  · exact W_ifY B hd ho ht (flt h).2.2.2 (w1 h)
theorem W_lcmpY_le (B : oB p l e R s m args below meth c Z h0 lo T cells slots ds) {x y : Int64} {o : Int} (hd : decode c.code pc = .ok (.lcmp, 1)) (hd' : decode c.code (pc + 1) = .ok (.ifCond .le o, 3)) (ho : 0 ≤ ((pc + 1 : Nat) : Int) + o) (ht : (((pc + 1 : Nat) : Int) + o).toNat = pc') (hc : ¬ y < x) (w : oWin p e below Z h0 Q E (T.setTop (mkF m pc' ls st))) : oWin p e below Z h0 Q E (T.setTop (mkF m pc ls (.long y :: .long x :: st))) := by
  have w' := W_ifY (x := lcmpV x y) (st := st) B hd' ho ht (by have h : ¬ 0 < lcmpV x y := fun q => hc ((lc_gt x y).mp q); exact (flt h).2.2.2) w
  obtain ⟨hx, hZ, hlk, locs, X, N, H⟩ := B
  exact w'.step fun t k => XS.lcmp X.here hx rfl hd rfl (by show Steps p.tables e below (T.setTop (mkF m (pc + 1) ls (.int (lcmpW x y) :: st))) t; rw [lcW]; exact k)
theorem W_lcmpN_le (B : oB p l e R s m args below meth c Z h0 lo T cells slots ds) {x y : Int64} {o : Int} (hd : decode c.code pc = .ok (.lcmp, 1)) (hd' : decode c.code (pc + 1) = .ok (.ifCond .le o, 3)) (hp : pc + 1 + 3 = pc') (hc : y < x) (w : oWin p e below Z h0 Q E (T.setTop (mkF m pc' ls st))) : oWin p e below Z h0 Q E (T.setTop (mkF m pc ls (.long y :: .long x :: st))) := by
  have w' := W_ifN (x := lcmpV x y) (st := st) B hd' hp (by have h : 0 < lcmpV x y := (lc_gt x y).mpr hc; exact (tlt h).2.2.2) w
  obtain ⟨hx, hZ, hlk, locs, X, N, H⟩ := B
  exact w'.step fun t k => XS.lcmp X.here hx rfl hd rfl (by show Steps p.tables e below (T.setTop (mkF m (pc + 1) ls (.int (lcmpW x y) :: st))) t; rw [lcW]; exact k)
theorem W_lcmp_le (B : oB p l e R s m args below meth c Z h0 lo T cells slots ds) {x y : Int64} {o : Int} {pt : Nat} (hd : decode c.code pc = .ok (.lcmp, 1)) (hd' : decode c.code (pc + 1) = .ok (.ifCond .le o, 3)) (ho : 0 ≤ ((pc + 1 : Nat) : Int) + o) (ht : (((pc + 1 : Nat) : Int) + o).toNat = pt) (hp : pc + 1 + 3 = pc') (w1 : ¬ y < x → oWin p e below Z h0 Q E (T.setTop (mkF m pt ls st))) (w2 : y < x → oWin p e below Z h0 Q E (T.setTop (mkF m pc' ls st))) : oWin p e below Z h0 Q E (T.setTop (mkF m pc ls (.long y :: .long x :: st))) := by
  by_cases h : y < x
  · exact W_lcmpN_le B hd hd' hp h (w2 h)
  · exact W_lcmpY_le B hd hd' ho ht h (w1 h)
theorem W_ifnullY (B : oB p l e R s m args below meth c Z h0 lo T cells slots ds) {o : Int} (hd : decode c.code pc = .ok (.ifnull o, 3)) (ho : 0 ≤ (pc : Int) + o) (hp : ((pc : Int) + o).toNat = pc') (w : oWin p e below Z h0 Q E (T.setTop (mkF m pc' ls st))) : oWin p e below Z h0 Q E (T.setTop (mkF m pc ls (.null :: st))) := by
  obtain ⟨hx, hZ, hlk, locs, X, N, H⟩ := B
  exact w.step fun t k => XS.ifnullYes X.here hx rfl rfl hd rfl ho hp k
theorem W_ifnullN (B : oB p l e R s m args below meth c Z h0 lo T cells slots ds) {o : Int} {a : Addr} (hd : decode c.code pc = .ok (.ifnull o, 3)) (hp : pc + 3 = pc') (w : oWin p e below Z h0 Q E (T.setTop (mkF m pc' ls st))) : oWin p e below Z h0 Q E (T.setTop (mkF m pc ls (.ref a :: st))) := by
  subst hp
  obtain ⟨hx, hZ, hlk, locs, X, N, H⟩ := B
  exact w.step fun t k => XS.ifnullNo X.here hx rfl hd rfl k
theorem W_ifnonnullY (B : oB p l e R s m args below meth c Z h0 lo T cells slots ds) {o : Int} {a : Addr} (hd : decode c.code pc = .ok (.ifnonnull o, 3)) (ho : 0 ≤ (pc : Int) + o) (hp : ((pc : Int) + o).toNat = pc') (w : oWin p e below Z h0 Q E (T.setTop (mkF m pc' ls st))) : oWin p e below Z h0 Q E (T.setTop (mkF m pc ls (.ref a :: st))) := by
  obtain ⟨hx, hZ, hlk, locs, X, N, H⟩ := B
  exact w.step fun t k => XS.ifnonnullYes X.here hx rfl rfl hd rfl ho hp k
theorem W_ifnonnullN (B : oB p l e R s m args below meth c Z h0 lo T cells slots ds) {o : Int} (hd : decode c.code pc = .ok (.ifnonnull o, 3)) (hp : pc + 3 = pc') (w : oWin p e below Z h0 Q E (T.setTop (mkF m pc' ls st))) : oWin p e below Z h0 Q E (T.setTop (mkF m pc ls (.null :: st))) := by
  subst hp
  obtain ⟨hx, hZ, hlk, locs, X, N, H⟩ := B
  exact w.step fun t k => XS.ifnonnullNo X.here hx rfl hd rfl k
theorem W_acmp (B : oB p l e R s m args below meth c Z h0 lo T cells slots ds) {cd : ACond} {o : Int} {x y : Value} {same : Bool} (hd : decode c.code pc = .ok (.if_acmp cd o, 3)) (h1 : x.isRef = true) (h2 : y.isRef = true) (hq : decide (x = y) = same) (ho : 0 ≤ (pc : Int) + o) (hp : pc' = if acV cd same = true then ((pc : Int) + o).toNat else pc + 3) (w : oWin p e below Z h0 Q E (T.setTop (mkF m pc' ls st))) : oWin p e below Z h0 Q E (T.setTop (mkF m pc ls (y :: x :: st))) := by
  obtain ⟨hx, hZ, hlk, locs, X, N, H⟩ := B
  exact w.step fun t k => Jvm.RoadKit.acmp (g := mkF m pc ls (y :: x :: st)) X hx rfl h1 h2 rfl hd rfl hq ho hp k
theorem W_ldcInt (B : oB p l e R s m args below meth c Z h0 lo T cells slots ds) {own : String} {i : Nat} {v : Int32} (hown : s.vm.findClass own = some m.cls) (w : (Jvm.Cond.constant own i v).before a0 Z = true) (hd : decode c.code pc = .ok (.ldc i, 2)) (hp : pc + 2 = pc') (k : oWin p e below Z h0 Q E (T.setTop (mkF m pc' ls (.int v :: st)))) : oWin p e below Z h0 Q E (T.setTop (mkF m pc ls st)) := by
  subst hp
  obtain ⟨hx, hZ, hlk, locs, X, N, H⟩ := B
  exact k.step (X.ldcInt hx hown (mvT hZ w) (g := mkF m pc ls st) rfl hd)
theorem W_ldc2Long (B : oB p l e R s m args below meth c Z h0 lo T cells slots ds) {own : String} {i : Nat} {v : Int64} (hown : s.vm.findClass own = some m.cls) (w : (Jvm.Cond.constantLong own i v).before a0 Z = true) (hd : decode c.code pc = .ok (.ldc2_w i, 3)) (hp : pc + 3 = pc') (k : oWin p e below Z h0 Q E (T.setTop (mkF m pc' ls (.long v :: st)))) : oWin p e below Z h0 Q E (T.setTop (mkF m pc ls st)) := by
  subst hp
  obtain ⟨hx, hZ, hlk, locs, X, N, H⟩ := B
  exact k.step (X.ldc2Long hx hown (mvT hZ w) (g := mkF m pc ls st) rfl hd)
theorem W_getstatic (B : oB p l e R s m args below meth c Z h0 lo T cells slots ds) {own R0 O n d host : String} {i : Nat} {v : Value} (hown : s.vm.findClass own = some m.cls) (w : (Jvm.Cond.fieldLink own i R0 n d).before a0 Z = true ∨ (Jvm.Cond.fieldLinkNest own i R0 n d host).before a0 Z = true) (via : Via Z R0 O n d) (F : Sta Z h0 O n d v) (hd : decode c.code pc = .ok (.getstatic i, 3)) (hp : pc + 3 = pc')
    (k : ∀ T, oB p l e R s m args below meth c Z h0 lo T cells slots ds → oWin p e below Z h0 Q E (T.setTop (mkF m pc' ls (v :: st)))) : oWin p e below Z h0 Q E (T.setTop (mkF m pc ls st)) := by
  subst hp
  obtain ⟨hx, hZ, hlk, locs, X, N, H⟩ := B
  obtain ⟨T', X', e', stp⟩ := getS2 X hx hZ hown w via rfl (F.ext H.1.1) (g := mkF m pc ls st) rfl hd
  exact (k T' ⟨hx, hZ, hlk, locs, X', N, e' ▸ H⟩).step stp
theorem W_getfield (B : oB p l e R s m args below meth c Z h0 lo T cells slots ds) {own R0 O n d host : String} {i j q : Nat} {a : Addr} {C : String} {fs : List (oFK × Value)} {v : Value} (hown : s.vm.findClass own = some m.cls) (w : (Jvm.Cond.fieldLink own i R0 n d).before a0 Z = true ∨ (Jvm.Cond.fieldLinkNest own i R0 n d host).before a0 Z = true) (via : Via Z R0 O n d) (hd : decode c.code pc = .ok (.getfield i, 3)) (hp : pc + 3 = pc')
    (hi : ds[j]? = some (a, oO C fs)) (hf : fs[q]? = some ((O, n, d), v))
    (k : ∀ T, oB p l e R s m args below meth c Z h0 lo T cells slots ds → oWin p e below Z h0 Q E (T.setTop (mkF m pc' ls (v :: st)))) : oWin p e below Z h0 Q E (T.setTop (mkF m pc ls (.ref a :: st))) := by
  subst hp
  obtain ⟨hx, hZ, hlk, locs, X, N, H⟩ := B
  have F := (H.at hi).2.2.1 _ (List.mem_of_getElem? hf)
  obtain ⟨T', X', e', stp⟩ := getF X hx hZ hown w via rfl F (g := mkF m pc ls (.ref a :: st)) rfl rfl hd
  exact (k T' ⟨hx, hZ, hlk, locs, X', N, e' ▸ H⟩).step stp
theorem oIs.put {h h' : Heap} {a : Addr} {C : String} {fs : List (oFK × Value)} {q : Nat} {f : oFK} {old v : Value} (I : oIs Z h a (oO C fs)) (hf : fs[q]? = some (f, old)) (W : Wr h h' a (oSl Z f) v) : oIs Z h' a (oO C (fs.set q (f, v))) := by
  obtain ⟨E, F, P⟩ := I
  have hq : q < fs.length := (List.getElem?_eq_some_iff.mp hf).1
  refine ⟨E.wr W, fun g hg => ?_, ?_⟩
  · obtain ⟨j, hj⟩ := List.mem_iff_getElem?.mp hg
    rw [List.getElem?_set] at hj
    by_cases e : q = j
    · rw [if_pos e, if_pos hq] at hj
      cases hj
      exact Fld.same (Z := Z) (C := f.1) (n := f.2.1) (d := f.2.2) W (F _ (List.mem_of_getElem? hf))
    · rw [if_neg e] at hj
      refine (F g (List.mem_of_getElem? hj)).other W (Or.inr ?_)
      obtain ⟨lj, ej⟩ := List.getElem?_eq_some_iff.mp hj
      obtain ⟨lq, eq⟩ := List.getElem?_eq_some_iff.mp hf
      have P' := List.pairwise_iff_getElem.mp P
      rcases Nat.lt_or_gt_of_ne e with r | r
      · have := P' q j lq lj r
        rw [ej, eq] at this; exact fun z => this z.symm
      · have := P' j q lj lq r
        rw [ej, eq] at this; exact this
  · refine List.pairwise_iff_getElem.mpr fun i j li lj r => ?_
    rw [List.length_set] at li lj
    have P' := List.pairwise_iff_getElem.mp P i j li lj r
    have key : ∀ k (lk : k < fs.length) (lk' : k < (fs.set q (f, v)).length), ((fs.set q (f, v))[k]'lk').1 = (fs[k]).1 := fun k lk lk' => by
      rw [List.getElem_set]
      split
      · rename_i hk; subst hk; obtain ⟨_, eq⟩ := List.getElem?_eq_some_iff.mp hf; rw [eq]
      · rfl
    rw [key i li, key j lj]; exact P'
theorem W_putfield (B : oB p l e R s m args below meth c Z h0 lo T cells slots ds) {own R0 O n d host : String} {i j q kk : Nat} {a : Addr} {C : String} {fs : List (oFK × Value)} {old v : Value} {ty : FieldType} (hown : s.vm.findClass own = some m.cls) (w : (Jvm.Cond.fieldLink own i R0 n d).before a0 Z = true ∨ (Jvm.Cond.fieldLinkNest own i R0 n d host).before a0 Z = true) (via : Via Z R0 O n d) (hd : decode c.code pc = .ok (.putfield i, 3)) (hp : pc + 3 = pc')
    (L : (Jvm.Cond.lays C O n d).before a0 Z = true ∨ ((Jvm.Cond.laysFinal C O n d).before a0 Z = true ∧ own = O ∧ meth.name = "<init>")) (wi : (Jvm.Cond.instantiable C kk).before a0 Z = true) (hty : parseFieldDescriptor d = some ty) (hn : narrow ty v = v) (hft : fits ty v = true)
    (hi : ds[j]? = some (a, oO C fs)) (hf : fs[q]? = some ((O, n, d), old)) (hds : ds.set j (a, oO C (fs.set q ((O, n, d), v))) = ds')
    (k : ∀ T, oB p l e R s m args below meth c Z h0 lo T cells slots ds' → oWin p e below Z h0 Q E (T.setTop (mkF m pc' ls st))) : oWin p e below Z h0 Q E (T.setTop (mkF m pc ls (v :: .ref a :: st))) := by
  subst hp hds
  obtain ⟨hx, hZ, hlk, locs, X, N, H⟩ := B
  obtain ⟨ha, I⟩ := H.at hi
  obtain ⟨T', h', X', e', W, stp⟩ := putF X hx hZ hown w via rfl (I.2.1 _ (List.mem_of_getElem? hf)) I.1 L wi hty hn hft (g := mkF m pc ls (v :: .ref a :: st)) rfl rfl hd
  subst e'
  exact (k T' ⟨hx, hZ, hlk, _, X', Fr.snoc X' N ha, H.wr hi W (I.put hf W)⟩).step stp
def oLaid (Z : State) (a0 : Array Value) (C : String) (f : oFK × Value) : Prop := Laid Z a0 C f.1.1 f.1.2.1 f.1.2.2 ∧ ∃ ty, parseFieldDescriptor f.1.2.2 = some ty ∧ f.2 = defaultValue ty
theorem oAll_nil {P : oFK × Value → Prop} : ∀ f ∈ ([] : List (oFK × Value)), P f := fun _ h => nomatch h
theorem oAll_cons {P : oFK × Value → Prop} {f : oFK × Value} {fs : List (oFK × Value)} (h : P f) (h' : ∀ g ∈ fs, P g) : ∀ g ∈ f :: fs, P g := fun g hg => (List.mem_cons.mp hg).elim (fun e => e ▸ h) (h' g)
theorem W_new (B : oB p l e R s m args below meth c Z h0 lo T cells slots ds) {own C : String} {i n : Nat} {fs : List (oFK × Value)} (hown : s.vm.findClass own = some m.cls) (w : (Jvm.Cond.classLink own i C).before a0 Z = true) (wi : (Jvm.Cond.instantiable C n).before a0 Z = true) (wz : (Jvm.Cond.initialized C).before a0 Z = true) (hd : decode c.code pc = .ok (.new i, 3)) (hp : pc + 3 = pc')
    (hr : cells + 1 ≤ R.cells ∧ slots + n ≤ R.slots) {cells' slots' : Nat} (hc' : cells + 1 = cells') (hs' : slots + n = slots')
    (hfs : ∀ f ∈ fs, oLaid Z a0 C f) (hnd : (fs.map fun f => f.1.2.1).Nodup)
    (k : ∀ T a, oB p l e R s m args below meth c Z h0 lo T cells' slots' ((a, oO C fs) :: ds) → oWin p e below Z h0 Q E (T.setTop (mkF m pc' ls (.ref a :: st)))) : oWin p e below Z h0 Q E (T.setTop (mkF m pc ls st)) := by
  subst hp hc' hs'
  obtain ⟨hx, hZ, hlk, locs, X, N, H⟩ := B
  obtain ⟨T', h', X', e', E, A, D, -, stp⟩ := newO X hx hZ hown w wi wz rfl (g := mkF m pc ls st) rfl hd hr.1 hr.2
  subst e'
  refine (k T' T.heap.size ⟨hx, hZ, hlk, _, X', N, H.new E ⟨A, fun f hf => ?_, ?_⟩⟩).step stp
  · obtain ⟨L, ty, h1, h2⟩ := hfs f hf
    rw [h2]; exact D L h1
  · have P := List.pairwise_map.mp (List.nodup_iff_pairwise_ne.mp hnd)
    refine P.imp_of_mem fun {f g} hf hg ne => ?_
    obtain ⟨L, ty, h1, h2⟩ := hfs f hf
    obtain ⟨L', ty', h1', h2'⟩ := hfs g hg
    exact Jvm.RoadKit.slot_ne L L' ne h1 h1'
theorem W_newarray (B : oB p l e R s m args below meth c Z h0 lo T cells slots ds) {aty : ArrayType} {n : Int32} {cap : Nat} {vs : List Value} (w : (Jvm.Cond.arrayClass (newarray.typeOf aty)).before a0 Z = true) (hd : decode c.code pc = .ok (.newarray aty, 2)) (hp : pc + 2 = pc') (hn : ¬ n < 0) (hcap : n.toNatClampNeg ≤ cap)
    (hr : cap * 8 ≤ 536870912 ∧ cells + 1 ≤ R.cells ∧ slots + cap ≤ R.slots) {cells' slots' : Nat} (hc' : cells + 1 = cells') (hs' : slots + cap = slots') (hvs : List.replicate n.toNatClampNeg (defaultValue (newarray.typeOf aty)) = vs) {ty : FieldType} (hty : newarray.typeOf aty = ty)
    (k : ∀ T a, oB p l e R s m args below meth c Z h0 lo T cells' slots' ((a, oA ty vs) :: ds) → oWin p e below Z h0 Q E (T.setTop (mkF m pc' ls (.ref a :: st)))) : oWin p e below Z h0 Q E (T.setTop (mkF m pc ls (.int n :: st))) := by
  subst hp hc' hs' hvs hty
  obtain ⟨hx, hZ, hlk, locs, X, N, H⟩ := B
  obtain ⟨T', h', cA, X', e', E, A, EA, stp⟩ := newPE X hx hZ w rfl (g := mkF m pc ls (.int n :: st)) rfl hd rfl hn hcap hr.1 hr.2.1 hr.2.2 rfl
  subst e'
  exact (k T' T.heap.size ⟨hx, hZ, hlk, _, X', N, H.new E ⟨_, A, by simp [newA], (fun C hC => by cases aty <;> cases hC), EA, fun v hv => by rw [(List.mem_replicate.mp hv).2]; cases aty <;> rfl⟩⟩).step stp
theorem W_anewarray (B : oB p l e R s m args below meth c Z h0 lo T cells slots ds) {own C : String} {i : Nat} {n : Int32} {cap : Nat} {vs : List Value} (hown : s.vm.findClass own = some m.cls) (w : (Jvm.Cond.classLink own i C).before a0 Z = true) (w2 : (Jvm.Cond.arrayOver (.object C)).before a0 Z = true) (hd : decode c.code pc = .ok (.anewarray i, 3)) (hp : pc + 3 = pc') (hn : ¬ n < 0) (hcap : n.toNatClampNeg ≤ cap)
    (hr : cap * 8 ≤ 536870912 ∧ cells + 1 ≤ R.cells ∧ slots + cap ≤ R.slots) {cells' slots' : Nat} (hc' : cells + 1 = cells') (hs' : slots + cap = slots') (hvs : List.replicate n.toNatClampNeg Value.null = vs)
    (k : ∀ T a, oB p l e R s m args below meth c Z h0 lo T cells' slots' ((a, oA (.object C) vs) :: ds) → oWin p e below Z h0 Q E (T.setTop (mkF m pc' ls (.ref a :: st)))) : oWin p e below Z h0 Q E (T.setTop (mkF m pc ls (.int n :: st))) := by
  subst hp hc' hs' hvs
  obtain ⟨hx, hZ, hlk, locs, X, N, H⟩ := B
  obtain ⟨T', h', cA, X', e', E, A, EA, O, stp⟩ := newRE X hx hZ hown w w2 rfl (g := mkF m pc ls (.int n :: st)) rfl hd rfl hn hcap hr.1 hr.2.1 hr.2.2 rfl
  subst e'
  exact (k T' T.heap.size ⟨hx, hZ, hlk, _, X', N, H.new E ⟨_, A, by simp [newA, defaultValue], (fun C' hC => by cases hC; exact O), EA, fun v hv => by rw [(List.mem_replicate.mp hv).2]; rfl⟩⟩).step stp
theorem W_arraylength (B : oB p l e R s m args below meth c Z h0 lo T cells slots ds) {j : Nat} {a : Addr} {ty : FieldType} {vs : List Value} {z : Int32} (hd : decode c.code pc = .ok (.arraylength, 1)) (hp : pc + 1 = pc') (hi : ds[j]? = some (a, oA ty vs)) (hz : vs.length.toInt32 = z) (w : oWin p e below Z h0 Q E (T.setTop (mkF m pc' ls (.int z :: st)))) : oWin p e below Z h0 Q E (T.setTop (mkF m pc ls (.ref a :: st))) := by
  subst hp hz
  obtain ⟨hx, hZ, hlk, locs, X, N, H⟩ := B
  obtain ⟨-, c', A, e, -⟩ := H.at hi
  have e2 : c'.slots.size = vs.length := by rw [e]; simp
  refine w.step fun t k => X.arraylength hx A.1 (State.isArrayOf_alike hZ.alike A.2.1) (g := mkF m pc ls (.ref a :: st)) rfl rfl hd t ?_
  rw [e2]; exact k
theorem oIn {vs : List Value} {j : Int32} {v : Value} {c' : Cell} (e : c'.slots = vs.toArray) (hj : ¬ j < 0) (hv : vs[j.toNatClampNeg]? = some v) : ¬ (j < 0 ∨ c'.slots.size ≤ j.toNatClampNeg) ∧ c'.slots[j.toNatClampNeg]? = some v := by
  have h1 : j.toNatClampNeg < vs.length := (List.getElem?_eq_some_iff.mp hv).1
  refine ⟨fun q => ?_, by rw [e]; simpa using hv⟩
  rcases q with q | q
  · exact hj q
  · rw [e] at q; simp at q; omega
theorem oIs.store {h h' : Heap} {a : Addr} {ty : FieldType} {vs : List Value} {i : Nat} {v : Value} (I : oIs Z h a (oA ty vs)) (W : Wr h h' a i v) (hv : fits ty v = true) : oIs Z h' a (oA ty (vs.set i v)) := by
  obtain ⟨c', A, e, O, E, F⟩ := I
  refine ⟨_, A.same W, ?_, O, E.wr W, fun w hw => ?_⟩
  · show c'.slots.setIfInBounds i v = _
    rw [e]; simp
  · rcases List.mem_or_eq_of_mem_set hw with q | q
    · exact F w q
    · rw [q]; exact hv
theorem W_clone (B : oB p l e R s m args below meth c Z h0 lo T cells slots ds) {own ad : String} {i j : Nat} {a : Addr} {ty : FieldType} {vs : List Value} {cap W : Nat} (hown : s.vm.findClass own = some m.cls) (w1 : (Jvm.Cond.methodLink own i ⟨ad, "clone", "()Ljava/lang/Object;"⟩).before a0 Z = true) (w2 : (Jvm.Cond.sameMethod ad "java/lang/Object" "clone" "()Ljava/lang/Object;").before a0 Z = true) (w3 : (Jvm.Cond.native ⟨"java/lang/Object", "clone", "()Ljava/lang/Object;"⟩).before a0 Z = true)
    (w4 : (Jvm.Cond.instanceMethod ⟨"java/lang/Object", "clone", "()Ljava/lang/Object;"⟩).before a0 Z = true) (w5 : (Jvm.Cond.selects ad ⟨ad, "clone", "()Ljava/lang/Object;"⟩ ⟨"java/lang/Object", "clone", "()Ljava/lang/Object;"⟩).before a0 Z = true) (w6 : (Jvm.Cond.castable ad "java/lang/Cloneable").before a0 Z = true)
    (had : "[" ++ ty.toString = ad) (hi : ds[j]? = some (a, oA ty vs)) (hd : decode c.code pc = .ok (.invokevirtual i, 3)) (hp : pc + 3 = pc') (hsz : ls.size = c.maxLocals) (hW : (st.map fun v => v.category).sum ≤ W) (hcap : vs.length ≤ cap) (hr : 1 ≤ R.frames ∧ W + 14 ≤ R.locals ∧ cells + 1 ≤ R.cells ∧ slots + cap ≤ R.slots) {cells' slots' : Nat} (hc' : cells + 1 = cells') (hs' : slots + cap = slots')
    (k : ∀ T b, oB p l e R s m args below meth c Z h0 lo T cells' slots' ((b, oA ty vs) :: ds) → oWin p e below Z h0 Q E (T.setTop (mkF m pc' ls (.ref b :: st)))) : oWin p e below Z h0 Q E (T.setTop (mkF m pc ls (.ref a :: st))) := by
  subst hp hc' hs' had
  obtain ⟨hx, hZ, hlk, locs, X, N, H⟩ := B
  obtain ⟨-, c', A, e1, O, E, F⟩ := H.at hi
  have FC : FitC Z c' := fitC_of A fun i hi v hv => F v (by rw [e1] at hv; simpa using List.mem_of_getElem? (l := vs) (by simpa using hv))
  obtain ⟨T', h', X', e', ex, A', E', stp⟩ := cloneA X hx hZ hown w1 w2 w3 w4 w5 w6 rfl A E FC (g := mkF m pc ls (.ref a :: st)) rfl hsz rfl hd hr.1 (W := W) (cap := cap) (by simpa using hW) hr.2.1 (by rw [e1]; simpa using hcap) hr.2.2.1 hr.2.2.2
  subst e'
  exact (k T' T.heap.size ⟨hx, hZ, hlk, _, X', N, H.new ex ⟨_, A', e1, O, E', F⟩⟩).step stp
theorem W_castArr (B : oB p l e R s m args below meth c Z h0 lo T cells slots ds) {own ad : String} {i j : Nat} {a : Addr} {ty : FieldType} {vs : List Value} (hown : s.vm.findClass own = some m.cls) (w : (Jvm.Cond.classLink own i ad).before a0 Z = true) (had : "[" ++ ty.toString = ad) (hi : ds[j]? = some (a, oA ty vs)) (hd : decode c.code pc = .ok (.checkcast i, 3)) (hp : pc + 3 = pc')
    (k : ∀ T, oB p l e R s m args below meth c Z h0 lo T cells slots ds → oWin p e below Z h0 Q E (T.setTop (mkF m pc' ls (.ref a :: st)))) : oWin p e below Z h0 Q E (T.setTop (mkF m pc ls (.ref a :: st))) := by
  subst hp had
  obtain ⟨hx, hZ, hlk, locs, X, N, H⟩ := B
  obtain ⟨-, c', A, e1, O, E, F⟩ := H.at hi
  obtain ⟨T', X', e', stp⟩ := castY X hx hZ hown w rfl (Ins.self E) (g := mkF m pc ls (.ref a :: st)) rfl rfl hd
  exact (k T' ⟨hx, hZ, hlk, locs, X', N, e' ▸ H⟩).step stp
theorem W_iaload (B : oB p l e R s m args below meth c Z h0 lo T cells slots ds) {i : Nat} {a : Addr} {vs : List Value} {j : Int32} {v : Value} (hd : decode c.code pc = .ok (.iaload, 1)) (hp : pc + 1 = pc') (hi : ds[i]? = some (a, oA .int vs)) (hj : ¬ j < 0) (hv : vs[j.toNatClampNeg]? = some v) (w : oWin p e below Z h0 Q E (T.setTop (mkF m pc' ls (v :: st)))) : oWin p e below Z h0 Q E (T.setTop (mkF m pc ls (.int j :: .ref a :: st))) := by
  subst hp
  obtain ⟨hx, hZ, hlk, locs, X, N, H⟩ := B
  obtain ⟨-, c', A, e, -⟩ := H.at hi
  obtain ⟨q1, q2⟩ := oIn e hj hv
  exact w.step fun t k => X.iaload hx A.1 (State.isArrayOf_alike hZ.alike A.2.1) A.2.2 q1 q2 (g := mkF m pc ls (.int j :: .ref a :: st)) rfl rfl hd t k
theorem W_laload (B : oB p l e R s m args below meth c Z h0 lo T cells slots ds) {i : Nat} {a : Addr} {vs : List Value} {j : Int32} {v : Value} (hd : decode c.code pc = .ok (.laload, 1)) (hp : pc + 1 = pc') (hi : ds[i]? = some (a, oA .long vs)) (hj : ¬ j < 0) (hv : vs[j.toNatClampNeg]? = some v) (w : oWin p e below Z h0 Q E (T.setTop (mkF m pc' ls (v :: st)))) : oWin p e below Z h0 Q E (T.setTop (mkF m pc ls (.int j :: .ref a :: st))) := by
  subst hp
  obtain ⟨hx, hZ, hlk, locs, X, N, H⟩ := B
  obtain ⟨-, c', A, e, -⟩ := H.at hi
  obtain ⟨q1, q2⟩ := oIn e hj hv
  exact w.step fun t k => X.laload hx A.1 (State.isArrayOf_alike hZ.alike A.2.1) A.2.2 q1 q2 (g := mkF m pc ls (.int j :: .ref a :: st)) rfl rfl hd t k
theorem W_baload (B : oB p l e R s m args below meth c Z h0 lo T cells slots ds) {i : Nat} {a : Addr} {vs : List Value} {j : Int32} {v : Value} (hd : decode c.code pc = .ok (.baload, 1)) (hp : pc + 1 = pc') (hi : ds[i]? = some (a, oA .byte vs)) (hj : ¬ j < 0) (hv : vs[j.toNatClampNeg]? = some v) (w : oWin p e below Z h0 Q E (T.setTop (mkF m pc' ls (v :: st)))) : oWin p e below Z h0 Q E (T.setTop (mkF m pc ls (.int j :: .ref a :: st))) := by
  subst hp
  obtain ⟨hx, hZ, hlk, locs, X, N, H⟩ := B
  obtain ⟨-, c', A, e, -⟩ := H.at hi
  obtain ⟨q1, q2⟩ := oIn e hj hv
  exact w.step fun t k => X.baloadBytes hx A.1 (State.isArrayOf_alike hZ.alike A.2.1) A.2.2 q1 q2 (g := mkF m pc ls (.int j :: .ref a :: st)) rfl rfl hd t k
theorem W_caload (B : oB p l e R s m args below meth c Z h0 lo T cells slots ds) {i : Nat} {a : Addr} {vs : List Value} {j : Int32} {v : Value} (hd : decode c.code pc = .ok (.caload, 1)) (hp : pc + 1 = pc') (hi : ds[i]? = some (a, oA .char vs)) (hj : ¬ j < 0) (hv : vs[j.toNatClampNeg]? = some v) (w : oWin p e below Z h0 Q E (T.setTop (mkF m pc' ls (v :: st)))) : oWin p e below Z h0 Q E (T.setTop (mkF m pc ls (.int j :: .ref a :: st))) := by
  subst hp
  obtain ⟨hx, hZ, hlk, locs, X, N, H⟩ := B
  obtain ⟨-, c', A, e, -⟩ := H.at hi
  obtain ⟨q1, q2⟩ := oIn e hj hv
  exact w.step fun t k => X.caload hx A.1 (State.isArrayOf_alike hZ.alike A.2.1) A.2.2 q1 q2 (g := mkF m pc ls (.int j :: .ref a :: st)) rfl rfl hd t k
theorem W_aaload (B : oB p l e R s m args below meth c Z h0 lo T cells slots ds) {i : Nat} {a : Addr} {ty : FieldType} {vs : List Value} {j : Int32} {v : Value} (hd : decode c.code pc = .ok (.aaload, 1)) (hp : pc + 1 = pc') (hi : ds[i]? = some (a, oA ty vs)) (hty : ty.isReference = true) (hj : ¬ j < 0) (hv : vs[j.toNatClampNeg]? = some v) (w : oWin p e below Z h0 Q E (T.setTop (mkF m pc' ls (v :: st)))) : oWin p e below Z h0 Q E (T.setTop (mkF m pc ls (.int j :: .ref a :: st))) := by
  subst hp
  obtain ⟨hx, hZ, hlk, locs, X, N, H⟩ := B
  obtain ⟨-, c', A, e, -⟩ := H.at hi
  obtain ⟨q1, q2⟩ := oIn e hj hv
  exact w.step fun t k => X.aaload hx A.1 (State.isArrayOf_alike hZ.alike A.2.1) hty A.2.2 q1 q2 (g := mkF m pc ls (.int j :: .ref a :: st)) rfl rfl hd t k
theorem W_iastore (B : oB p l e R s m args below meth c Z h0 lo T cells slots ds) {i : Nat} {a : Addr} {vs : List Value} {j : Int32} {x : Int32} (hd : decode c.code pc = .ok (.iastore, 1)) (hp : pc + 1 = pc') (hi : ds[i]? = some (a, oA .int vs)) (hj : ¬ j < 0) (hv : j.toNatClampNeg < vs.length) (hds : ds.set i (a, oA .int (vs.set j.toNatClampNeg (.int x))) = ds') (k : ∀ T, oB p l e R s m args below meth c Z h0 lo T cells slots ds' → oWin p e below Z h0 Q E (T.setTop (mkF m pc' ls st))) : oWin p e below Z h0 Q E (T.setTop (mkF m pc ls (.int x :: .int j :: .ref a :: st))) := by
  subst hp hds
  obtain ⟨hx, hZ, hlk, locs, X, N, H⟩ := B
  obtain ⟨ha, I⟩ := H.at hi
  have I' := I
  obtain ⟨c', A, e, -⟩ := I'
  obtain ⟨q1, -⟩ := oIn e hj (List.getElem?_eq_getElem hv)
  obtain ⟨T', h', X', e', W, stp⟩ := stI X hx hZ rfl A q1 (g := mkF m pc ls (.int x :: .int j :: .ref a :: st)) rfl rfl hd
  subst e'
  exact (k T' ⟨hx, hZ, hlk, _, X', Fr.snoc X' N ha, H.wr hi W (I.store W rfl)⟩).step stp
theorem W_lastore (B : oB p l e R s m args below meth c Z h0 lo T cells slots ds) {i : Nat} {a : Addr} {vs : List Value} {j : Int32} {x : Int64} (hd : decode c.code pc = .ok (.lastore, 1)) (hp : pc + 1 = pc') (hi : ds[i]? = some (a, oA .long vs)) (hj : ¬ j < 0) (hv : j.toNatClampNeg < vs.length) (hds : ds.set i (a, oA .long (vs.set j.toNatClampNeg (.long x))) = ds') (k : ∀ T, oB p l e R s m args below meth c Z h0 lo T cells slots ds' → oWin p e below Z h0 Q E (T.setTop (mkF m pc' ls st))) : oWin p e below Z h0 Q E (T.setTop (mkF m pc ls (.long x :: .int j :: .ref a :: st))) := by
  subst hp hds
  obtain ⟨hx, hZ, hlk, locs, X, N, H⟩ := B
  obtain ⟨ha, I⟩ := H.at hi
  have I' := I
  obtain ⟨c', A, e, -⟩ := I'
  obtain ⟨q1, -⟩ := oIn e hj (List.getElem?_eq_getElem hv)
  obtain ⟨T', h', X', e', W, stp⟩ := stJ X hx hZ rfl A q1 (g := mkF m pc ls (.long x :: .int j :: .ref a :: st)) rfl rfl hd
  subst e'
  exact (k T' ⟨hx, hZ, hlk, _, X', Fr.snoc X' N ha, H.wr hi W (I.store W rfl)⟩).step stp
theorem W_bastore (B : oB p l e R s m args below meth c Z h0 lo T cells slots ds) {i : Nat} {a : Addr} {vs : List Value} {j : Int32} {x : Int32} (hd : decode c.code pc = .ok (.bastore, 1)) (hp : pc + 1 = pc') (hi : ds[i]? = some (a, oA .byte vs)) (hj : ¬ j < 0) (hv : j.toNatClampNeg < vs.length) (hds : ds.set i (a, oA .byte (vs.set j.toNatClampNeg (.int (nar .byte x)))) = ds') (k : ∀ T, oB p l e R s m args below meth c Z h0 lo T cells slots ds' → oWin p e below Z h0 Q E (T.setTop (mkF m pc' ls st))) : oWin p e below Z h0 Q E (T.setTop (mkF m pc ls (.int x :: .int j :: .ref a :: st))) := by
  subst hp hds
  obtain ⟨hx, hZ, hlk, locs, X, N, H⟩ := B
  obtain ⟨ha, I⟩ := H.at hi
  have I' := I
  obtain ⟨c', A, e, -⟩ := I'
  obtain ⟨q1, -⟩ := oIn e hj (List.getElem?_eq_getElem hv)
  obtain ⟨T', h', X', e', W, stp⟩ := stB X hx hZ rfl A q1 (g := mkF m pc ls (.int x :: .int j :: .ref a :: st)) rfl rfl hd
  subst e'
  exact (k T' ⟨hx, hZ, hlk, _, X', Fr.snoc X' N ha, H.wr hi W (I.store W (fits_nar_byte x))⟩).step stp
theorem W_castore (B : oB p l e R s m args below meth c Z h0 lo T cells slots ds) {i : Nat} {a : Addr} {vs : List Value} {j : Int32} {x : Int32} (hd : decode c.code pc = .ok (.castore, 1)) (hp : pc + 1 = pc') (hi : ds[i]? = some (a, oA .char vs)) (hj : ¬ j < 0) (hv : j.toNatClampNeg < vs.length) (hds : ds.set i (a, oA .char (vs.set j.toNatClampNeg (.int (nar .char x)))) = ds') (k : ∀ T, oB p l e R s m args below meth c Z h0 lo T cells slots ds' → oWin p e below Z h0 Q E (T.setTop (mkF m pc' ls st))) : oWin p e below Z h0 Q E (T.setTop (mkF m pc ls (.int x :: .int j :: .ref a :: st))) := by
  subst hp hds
  obtain ⟨hx, hZ, hlk, locs, X, N, H⟩ := B
  obtain ⟨ha, I⟩ := H.at hi
  have I' := I
  obtain ⟨c', A, e, -⟩ := I'
  obtain ⟨q1, -⟩ := oIn e hj (List.getElem?_eq_getElem hv)
  obtain ⟨T', h', X', e', W, stp⟩ := stC X hx hZ rfl A q1 (g := mkF m pc ls (.int x :: .int j :: .ref a :: st)) rfl rfl hd
  subst e'
  exact (k T' ⟨hx, hZ, hlk, _, X', Fr.snoc X' N ha, H.wr hi W (I.store W (fits_nar_char x))⟩).step stp
theorem W_aastore (B : oB p l e R s m args below meth c Z h0 lo T cells slots ds) {i i2 : Nat} {a b : Addr} {C C2 : String} {fs : List (oFK × Value)} {vs : List Value} {j : Int32} (hd : decode c.code pc = .ok (.aastore, 1)) (hp : pc + 1 = pc') (hi : ds[i]? = some (a, oA (.object C) vs)) (hj : ¬ j < 0) (hv : j.toNatClampNeg < vs.length) (hb : ds[i2]? = some (b, oO C2 fs)) (hins : C2 = C ∨ (Jvm.Cond.castable C2 C).before a0 Z = true) (hds : ds.set i (a, oA (.object C) (vs.set j.toNatClampNeg (.ref b))) = ds') (k : ∀ T, oB p l e R s m args below meth c Z h0 lo T cells slots ds' → oWin p e below Z h0 Q E (T.setTop (mkF m pc' ls st))) : oWin p e below Z h0 Q E (T.setTop (mkF m pc ls (.ref b :: .int j :: .ref a :: st))) := by
  subst hp hds
  obtain ⟨hx, hZ, hlk, locs, X, N, H⟩ := B
  obtain ⟨ha, I⟩ := H.at hi
  have I' := I
  obtain ⟨c', A, e, O, -⟩ := I'
  obtain ⟨q1, -⟩ := oIn e hj (List.getElem?_eq_getElem hv)
  have E2 := (H.at hb).2.1
  have J : Ins Z T.heap b C true := by
    rcases hins with q | q
    · subst q; exact Ins.self E2
    · exact Ins.of_exa E2 q
  obtain ⟨T', h', X', e', W, stp⟩ := stR X hx hZ rfl A q1 rfl (Sto.of A (O C rfl) J) (g := mkF m pc ls (.ref b :: .int j :: .ref a :: st)) rfl rfl hd
  subst e'
  exact (k T' ⟨hx, hZ, hlk, _, X', Fr.snoc X' N ha, H.wr hi W (I.store W rfl)⟩).step stp
theorem W_initO (B : oB p l e R s m args below meth c Z h0 lo T cells slots ds) {own : String} {i : Nat} {a : Addr} {W : Nat} (hown : s.vm.findClass own = some m.cls) (w1 : (Jvm.Cond.methodLink own i Lib.objectInit).before a0 Z = true) (w2 : (Jvm.Cond.instanceMethod Lib.objectInit).before a0 Z = true) (w3 : (Jvm.Cond.code Lib.objectInit ⟨#[0xb1]⟩ 1 none).before a0 Z = true) (hd : decode c.code pc = .ok (.invokespecial i, 3)) (hp : pc + 3 = pc') (hsz : ls.size = c.maxLocals) (hW : (st.map fun v => v.category).sum ≤ W) (hr : 1 ≤ R.frames ∧ W + 12 ≤ R.locals)
    (k : ∀ T, oB p l e R s m args below meth c Z h0 lo T cells slots ds → oWin p e below Z h0 Q E (T.setTop (mkF m pc' ls st))) : oWin p e below Z h0 Q E (T.setTop (mkF m pc ls (.ref a :: st))) := by
  subst hp
  obtain ⟨hx, hZ, hlk, locs, X, N, H⟩ := B
  obtain ⟨T', X', e', stp⟩ := initO X hx hZ hown w1 w2 w3 rfl (g := mkF m pc ls (.ref a :: st)) rfl hsz rfl hd hr.1 (W := W) (by simpa using hW) hr.2
  exact (k T' ⟨hx, hZ, hlk, locs, X', N, e' ▸ H⟩).step stp
theorem W_callS (B : oB p l e R s m args below meth c Z h0 lo T cells slots ds) {own : String} {i : Nat} {y : MethodName} {bytes : ByteArray} {maxL : Nat} {ret : Option FieldType} {rm : Room} {Q' : Option Value → oDs → Prop} {argsL rest : List Value} {W : Nat} (hown : s.vm.findClass own = some m.cls) (w1 : (Jvm.Cond.methodLink own i y).before a0 Z = true) (w2 : (Jvm.Cond.static y).before a0 Z = true) (w3 : (Jvm.Cond.initialized y.cls).before a0 Z = true) (w4 : (Jvm.Cond.code y bytes maxL ret).before a0 Z = true) (hy : y.cls ≠ "java/lang/invoke/MethodHandle" ∧ y.cls ≠ "java/lang/invoke/VarHandle")
    (hM : oMet l Z h0 lo y bytes maxL ret [] rm argsL.toArray ds Q') (hlen : ∀ sig, parseMethodDescriptor y.desc = some sig → argsL.length = sig.parameters.length) (hd : decode c.code pc = .ok (.invokestatic i, 3)) (hp : pc + 3 = pc') (hst : st = argsL.reverse ++ rest) (hsz : ls.size = c.maxLocals) (hW : (rest.map fun v => v.category).sum ≤ W)
    (hr : rm.frames + 1 ≤ R.frames ∧ W + (maxL + 11) + rm.locals ≤ R.locals ∧ cells + rm.cells ≤ R.cells ∧ slots + rm.slots ≤ R.slots) {cells' slots' : Nat} (hc' : cells + rm.cells = cells') (hs' : slots + rm.slots = slots')
    (k : ∀ T v ds', Q' v ds' → oB p l e R s m args below meth c Z h0 lo T cells' slots' ds' → oWin p e below Z h0 Q E (T.setTop (mkF m pc' ls (v.toList ++ rest)))) : oWin p e below Z h0 Q E (T.setTop (mkF m pc ls st)) := by
  subst hp hst hc' hs'
  obtain ⟨hx, hZ, hlk, locs, X, N, H⟩ := B
  obtain ⟨v, vm1, ⟨T', L', k', n'⟩, -, X', ⟨Lc, ⟨N', ds', H', hQ⟩, e1, e2, e3⟩, stp⟩ := Jvm.LawKit.callS X hx (y := y) hown (mvT hZ w1) (mvT hZ w2) (mvT hZ w3) (mvT hZ w4) hy (backOf (W := W) (Q := fun v h L => Fr h0.size L ∧ ∃ ds', oHP Z h0 lo h ds' ∧ Q' v ds') (hM _ H) hZ w4 w3 hr.1 hr.2.1) (g := mkF m pc ls (argsL.reverse ++ rest)) rfl hsz hlen rfl (by simpa using hW) hd (fun _ _ => ⟨rfl, rfl, hr.2.2.1, hr.2.2.2⟩)
  dsimp only [Pt.U, Pt.locs, Pt.cells, Pt.slots] at X' e1 e2 e3 stp H'
  subst e1 e2 e3
  exact (k T' v ds' hQ ⟨hx, hZ, hlk, _, X', N.app N', H'⟩).step stp
theorem W_init (B : oB p l e R s m args below meth c Z h0 lo T cells slots ds) {own : String} {i : Nat} {y : MethodName} {bytes : ByteArray} {maxL : Nat} {rm : Room} {Q' : Option Value → oDs → Prop} {a : Addr} {argsL rest : List Value} {W : Nat} (hown : s.vm.findClass own = some m.cls) (hy1 : y.name = "<init>") (w1 : (Jvm.Cond.methodLink own i y).before a0 Z = true) (w2 : (Jvm.Cond.instanceMethod y).before a0 Z = true) (w3 : (Jvm.Cond.initialized y.cls).before a0 Z = true) (w4 : (Jvm.Cond.code y bytes maxL none).before a0 Z = true) (hy : y.cls ≠ "java/lang/invoke/MethodHandle" ∧ y.cls ≠ "java/lang/invoke/VarHandle")
    (hM : oMet l Z h0 lo y bytes maxL none [] rm (.ref a :: argsL).toArray ds Q') (hlen : ∀ sig, parseMethodDescriptor y.desc = some sig → argsL.length = sig.parameters.length) (hd : decode c.code pc = .ok (.invokespecial i, 3)) (hp : pc + 3 = pc') (hst : st = argsL.reverse ++ .ref a :: rest) (hsz : ls.size = c.maxLocals) (hW : (rest.map fun v => v.category).sum ≤ W)
    (hr : rm.frames + 1 ≤ R.frames ∧ W + (maxL + 11) + rm.locals ≤ R.locals ∧ cells + rm.cells ≤ R.cells ∧ slots + rm.slots ≤ R.slots) {cells' slots' : Nat} (hc' : cells + rm.cells = cells') (hs' : slots + rm.slots = slots')
    (k : ∀ T v ds', Q' v ds' → oB p l e R s m args below meth c Z h0 lo T cells' slots' ds' → oWin p e below Z h0 Q E (T.setTop (mkF m pc' ls (v.toList ++ rest)))) : oWin p e below Z h0 Q E (T.setTop (mkF m pc ls st)) := by
  subst hp hst hc' hs'
  obtain ⟨hx, hZ, hlk, locs, X, N, H⟩ := B
  obtain ⟨v, vm1, ⟨T', L', k', n'⟩, -, X', ⟨Lc, ⟨N', ds', H', hQ⟩, e1, e2, e3⟩, stp⟩ := X.specialBack hx (y := y) hy1 hown (mvT hZ w1) (mvT hZ w2) (mvT hZ w4) hy (backOf (W := W) (Q := fun v h L => Fr h0.size L ∧ ∃ ds', oHP Z h0 lo h ds' ∧ Q' v ds') (hM _ H) hZ w4 w3 hr.1 hr.2.1) (g := mkF m pc ls (argsL.reverse ++ .ref a :: rest)) rfl hsz (Steps.refl _) (a := a) hlen rfl (by simpa using hW) hd (fun _ _ => ⟨rfl, rfl, hr.2.2.1, hr.2.2.2⟩)
  dsimp only [Pt.U, Pt.locs, Pt.cells, Pt.slots] at X' e1 e2 e3 stp H'
  subst e1 e2 e3
  exact (k T' v ds' hQ ⟨hx, hZ, hlk, _, X', N.app N', H'⟩).steps stp
theorem W_virtual (B : oB p l e R s m args below meth c Z h0 lo T cells slots ds) {own C : String} {i j : Nat} {y z : MethodName} {bytes : ByteArray} {maxL : Nat} {ret : Option FieldType} {rm : Room} {Q' : Option Value → oDs → Prop} {a : Addr} {fs : List (oFK × Value)} {argsL rest : List Value} {W : Nat} (hown : s.vm.findClass own = some m.cls) (w1 : (Jvm.Cond.methodLink own i y).before a0 Z = true) (w2 : (Jvm.Cond.declares y).before a0 Z = true) (hnf : NotFace s y) (ws : (Jvm.Cond.selects C y z).before a0 Z = true) (wm : (Jvm.Cond.instanceMethod z).before a0 Z = true) (w3 : (Jvm.Cond.initialized z.cls).before a0 Z = true) (w4 : (Jvm.Cond.code z bytes maxL ret).before a0 Z = true) (hy : y.cls ≠ "java/lang/invoke/MethodHandle" ∧ y.cls ≠ "java/lang/invoke/VarHandle")
    (hM : oMet l Z h0 lo z bytes maxL ret [] rm (.ref a :: argsL).toArray ds Q') (hlen : ∀ sig, parseMethodDescriptor y.desc = some sig → argsL.length = sig.parameters.length) (hd : decode c.code pc = .ok (.invokevirtual i, 3)) (hp : pc + 3 = pc') (hst : st = argsL.reverse ++ .ref a :: rest) (hsz : ls.size = c.maxLocals) (hW : (rest.map fun v => v.category).sum ≤ W) (hi : ds[j]? = some (a, oO C fs))
    (hr : rm.frames + 1 ≤ R.frames ∧ W + (maxL + 11) + rm.locals ≤ R.locals ∧ cells + rm.cells ≤ R.cells ∧ slots + rm.slots ≤ R.slots) {cells' slots' : Nat} (hc' : cells + rm.cells = cells') (hs' : slots + rm.slots = slots')
    (k : ∀ T v ds', Q' v ds' → oB p l e R s m args below meth c Z h0 lo T cells' slots' ds' → oWin p e below Z h0 Q E (T.setTop (mkF m pc' ls (v.toList ++ rest)))) : oWin p e below Z h0 Q E (T.setTop (mkF m pc ls st)) := by
  subst hp hst hc' hs'
  obtain ⟨hx, hZ, hlk, locs, X, N, H⟩ := B
  obtain ⟨cq, kq, q1, q2, q3⟩ := isOf (T := T) hZ rfl (H.at hi).2.1
  obtain ⟨v, vm1, ⟨T', L', k', n'⟩, -, X', ⟨Lc, ⟨N', ds', H', hQ⟩, e1, e2, e3⟩, stp⟩ := X.virtualBack hx (y := y) (z := z) hown (mvT hZ w1) (mvT hZ w2) hnf (mvT hZ ws) (mvT hZ wm) hy (backOf (W := W) (Q := fun v h L => Fr h0.size L ∧ ∃ ds', oHP Z h0 lo h ds' ∧ Q' v ds') (hM _ H) hZ w4 w3 hr.1 hr.2.1) q1 q3 (g := mkF m pc ls (argsL.reverse ++ .ref a :: rest)) rfl hsz (Steps.refl _) hlen rfl (by simpa using hW) hd (fun _ _ => ⟨rfl, rfl, hr.2.2.1, hr.2.2.2⟩)
  dsimp only [Pt.U, Pt.locs, Pt.cells, Pt.slots] at X' e1 e2 e3 stp H'
  subst e1 e2 e3
  exact (k T' v ds' hQ ⟨hx, hZ, hlk, _, X', N.app N', H'⟩).steps stp
theorem oNotFace (B : oB p l e R s m args below meth c Z h0 lo T cells slots ds) {C : String} {y z : MethodName} (ws : (Jvm.Cond.selects C y z).before a0 Z = true) (hyz : y = z) : NotFace s y := by
  subst hyz; exact notFace_of_selects (args := #[]) (mvT B.2.1 ws)
theorem oWin.leave (B : oB p l e R s m args below meth c Z h0 lo T cells slots ds) {v : Option Value} {S : State} (hv : meth.sig.returnType = none → v = none) (hq : Q v ds) (hr : cells ≤ kc ∧ slots ≤ ks) (hstep : ∀ fs, (∀ (f : JFrame) (acts : List Action), f.method = m → f.locked = none → f.entered = [] → (doReturn e (T.setTop f) acts v).1 = T.setFrames fs) → Steps p.tables e below S (T.setFrames fs)) : oWin p e below Z h0 Q (oFE s lo kc ks) S := by
  obtain ⟨hx, hZ, hlk, locs, X, N, H⟩ := B
  obtain ⟨fs, hrr, hrun, hended, hW, hsame⟩ := X.leave (v := v) hv hlk
  exact ⟨_, _, hstep fs hrr, hrun, hended, v, locs, rfl, ⟨N, lo, ds, H, hq⟩, H.1.2, ⟨_, rfl⟩, hW, hsame.mono hr.1 hr.2⟩
theorem oWin.leaveW {vm₁ : Vm} (B : oB p l e R (s.setVm vm₁) m args below meth c Z h0 lo T cells slots ds) (hS : s.Since vm₁ lo) {v : Option Value} {S : State} (hv : meth.sig.returnType = none → v = none) (hq : Q v ds) (hr : cells ≤ kc ∧ slots ≤ ks) (hstep : ∀ fs, (∀ (f : JFrame) (acts : List Action), f.method = m → f.locked = none → f.entered = [] → (doReturn e (T.setTop f) acts v).1 = T.setFrames fs) → Steps p.tables e below S (T.setFrames fs)) : oWin p e below Z h0 Q (oFW s kc ks) S := by
  obtain ⟨hx, hZ, hlk, locs, X, N, H⟩ := B
  obtain ⟨fs, hrr, hrun, hended, h1, h2, h3, h4⟩ := X.leaveW hS H.1.2 (v := v) hv hlk
  exact ⟨_, _, hstep fs hrr, hrun, hended, v, locs, rfl, ⟨N, lo, ds, H, hq⟩, h1, h2, h3, h4.mono hr.1 hr.2⟩
theorem W_retNW {vm₁ : Vm} (B : oB p l e R (s.setVm vm₁) m args below meth c Z h0 lo T cells slots ds) (hS : s.Since vm₁ lo) {z : Int32} {t : FieldType} (hret : meth.sig.returnType = some t) (ht : t = .boolean ∨ t = .byte ∨ t = .char ∨ t = .short) (hd : decode c.code pc = .ok (.ireturn, 1)) (hr : cells ≤ kc ∧ slots ≤ ks) (hq : Q (some (.int (nar t z))) ds) : oWin p e below Z h0 Q (oFW s kc ks) (T.setTop (mkF m pc ls (.int z :: st))) := by
  have B' := B
  obtain ⟨hx, hZ, hlk, locs, X, N, H⟩ := B'
  exact oWin.leaveW B hS (v := some (.int (nar t z))) (fun h => by rw [hret] at h; cases h) hq hr fun fs hl => retN X hx hret ht hd hl
theorem W_ldcStr {vm₀ : Vm} (B : oB p l e R (s.setVm vm₀) m args below meth c Z h0 lo T cells slots ds) (hS : s.Since vm₀ lo) {own text : String} {i n : Nat} (hown : (s.setVm vm₀).vm.findClass own = some m.cls) (w : (Jvm.Cond.stringLink own i text).before a0 Z = true) (wS : ∀ a ∈ Bundle.stringAtoms, a.before a0 Z = true) (hd : decode c.code pc = .ok (.ldc i, 2)) (hp : pc + 2 = pc') (hn : 4 * text.toList.length ≤ n) (hr : n ≤ 536870912 ∧ cells + 2 ≤ R.cells ∧ slots + (n + 4) ≤ R.slots) {cells' slots' : Nat} (hc' : cells + 2 = cells') (hs' : slots + (n + 4) = slots')
    (k : ∀ T a vm₁ lo', oB p l e R (s.setVm vm₁) m args below meth c Z h0 lo' T cells' slots' ds → s.Since vm₁ lo' → (s.setVm vm₁).vm.findClass own = some m.cls → oWin p e below Z h0 Q E (T.setTop (mkF m pc' ls (.ref a :: st)))) : oWin p e below Z h0 Q E (T.setTop (mkF m pc ls st)) := by
  subst hp hc' hs'
  obtain ⟨hx, hZ, hlk, locs, X, N, H⟩ := B
  obtain ⟨a, T', h', k1, X', e', E1, hS', hk1, hZ', hown', stp⟩ := ldcS X hx hZ hown w wS rfl hS H.1.2 (g := mkF m pc ls st) rfl hd hn hr.1 hr.2.1 hr.2.2
  subst e'
  exact (k T' a T'.vm k1 ⟨hx, hZ', hlk, locs, X', N, H.more E1 hk1⟩ hS' hown').step stp
theorem W_retI (B : oB p l e R s m args below meth c Z h0 lo T cells slots ds) {z : Int32} (hret : meth.sig.returnType = some .int) (hd : decode c.code pc = .ok (.ireturn, 1)) (hr : cells ≤ kc ∧ slots ≤ ks) (hq : Q (some (.int z)) ds) : oWin p e below Z h0 Q (oFE s lo kc ks) (T.setTop (mkF m pc ls (.int z :: st))) := by
  have B' := B
  obtain ⟨hx, hZ, hlk, locs, X, N, H⟩ := B'
  refine oWin.leave B (v := some (.int z)) (fun h => by rw [hret] at h; cases h) hq hr fun fs hl => ?_
  have hm' : T.vm.method? m = some meth := X.method'
  have hn : narrow .int (.int z) = .int z := rfl
  show Steps p.tables e below (T.setTop { method := m, pc := pc, locals := ls, stack := _ :: st, locked := none }) _
  jvm_step X.here [X.here.top, hx, hd, hm', hret, hn]
  first | (intro acts; rw [hl _ acts rfl rfl rfl]) | rw [hl _ _ rfl rfl rfl]
  exact Steps.refl _
theorem W_retL (B : oB p l e R s m args below meth c Z h0 lo T cells slots ds) {z : Int64} (hret : meth.sig.returnType = some .long) (hd : decode c.code pc = .ok (.lreturn, 1)) (hr : cells ≤ kc ∧ slots ≤ ks) (hq : Q (some (.long z)) ds) : oWin p e below Z h0 Q (oFE s lo kc ks) (T.setTop (mkF m pc ls (.long z :: st))) := by
  have B' := B
  obtain ⟨hx, hZ, hlk, locs, X, N, H⟩ := B'
  refine oWin.leave B (v := some (.long z)) (fun h => by rw [hret] at h; cases h) hq hr fun fs hl => ?_
  have hm' : T.vm.method? m = some meth := X.method'
  show Steps p.tables e below (T.setTop { method := m, pc := pc, locals := ls, stack := _ :: st, locked := none }) _
  jvm_step X.here [X.here.top, hx, hd, hm', hret, narrow]
  first | (intro acts; rw [hl _ acts rfl rfl rfl]) | rw [hl _ _ rfl rfl rfl]
  exact Steps.refl _
theorem W_retN (B : oB p l e R s m args below meth c Z h0 lo T cells slots ds) {z : Int32} {t : FieldType} (hret : meth.sig.returnType = some t) (ht : t = .boolean ∨ t = .byte ∨ t = .char ∨ t = .short) (hd : decode c.code pc = .ok (.ireturn, 1)) (hr : cells ≤ kc ∧ slots ≤ ks) (hq : Q (some (.int (nar t z))) ds) : oWin p e below Z h0 Q (oFE s lo kc ks) (T.setTop (mkF m pc ls (.int z :: st))) := by
  have B' := B
  obtain ⟨hx, hZ, hlk, locs, X, N, H⟩ := B'
  exact oWin.leave B (v := some (.int (nar t z))) (fun h => by rw [hret] at h; cases h) hq hr fun fs hl => retN X hx hret ht hd hl
theorem W_retV (B : oB p l e R s m args below meth c Z h0 lo T cells slots ds) (hret : meth.sig.returnType = none) (hd : decode c.code pc = .ok (.return_, 1)) (hr : cells ≤ kc ∧ slots ≤ ks) (hq : Q none ds) : oWin p e below Z h0 Q (oFE s lo kc ks) (T.setTop (mkF m pc ls [])) := by
  have B' := B
  obtain ⟨hx, hZ, hlk, locs, X, N, H⟩ := B'
  exact oWin.leave B (v := none) (fun _ => rfl) hq hr fun fs hl => X.returnOut hx hret hd hl
theorem W_retA (B : oB p l e R s m args below meth c Z h0 lo T cells slots ds) {v : Value} {t : FieldType} (hret : meth.sig.returnType = some t) (ht : t.isReference = true) (hv : v.isRef = true) (hd : decode c.code pc = .ok (.areturn, 1)) (hr : cells ≤ kc ∧ slots ≤ ks) (hq : Q (some v) ds) : oWin p e below Z h0 Q (oFE s lo kc ks) (T.setTop (mkF m pc ls (v :: st))) := by
  have B' := B
  obtain ⟨hx, hZ, hlk, locs, X, N, H⟩ := B'
  refine oWin.leave B (v := some v) (fun h => by rw [hret] at h; cases h) hq hr fun fs hl => ?_
  have hm' : T.vm.method? m = some meth := X.method'
  show Steps p.tables e below (T.setTop { method := m, pc := pc, locals := ls, stack := _ :: st, locked := none }) _
  cases v <;> simp [Value.isRef] at hv
  all_goals
    jvm_step X.here [X.here.top, hx, hd, hm', hret, Value.isRef, FieldType.isReference, ht]
    refine ⟨ht, fun acts => ?_⟩
    rw [hl _ acts rfl rfl rfl]
    exact Steps.refl _
theorem oB_ne (B : oB p l e R s m args below meth c Z h0 lo T cells slots ds) {i j : Nat} {x y : Addr × oD} (hi : ds[i]? = some x) (hj : ds[j]? = some y) (ne : i ≠ j) : x.1 ≠ y.1 := by
  obtain ⟨hx, hZ, hlk, locs, X, N, H⟩ := B
  exact H.ne hi hj ne
theorem oB_new (B : oB p l e R s m args below meth c Z h0 lo T cells slots ds) {i : Nat} {x : Addr × oD} (hi : ds[i]? = some x) : h0.size ≤ x.1 := by
  obtain ⟨hx, hZ, hlk, locs, X, N, H⟩ := B
  exact (H.at (a := x.1) (d := x.2) hi).1
theorem oJoin (B : oB p l e R s m args below meth c Z h0 lo T cells slots ds) {α : Type} (P : α → Prop) (f : α → JFrame) {g : JFrame} (h1 : (∀ z T', P z → oB p l e R s m args below meth c Z h0 lo T' cells slots ds → oWin p e below Z h0 Q E (T'.setTop (f z))) → oWin p e below Z h0 Q E (T.setTop g)) (h2 : ∀ z T', P z → oB p l e R s m args below meth c Z h0 lo T' cells slots ds → oWin p e below Z h0 Q E (T'.setTop (f z))) : oWin p e below Z h0 Q E (T.setTop g) := h1 h2
theorem oJoinD (B : oB p l e R s m args below meth c Z h0 lo T cells slots ds) {α : Type} (cells' slots' : Nat) (P : α → Prop) (f : α → JFrame) (D : α → oDs) {g : JFrame} (h1 : (∀ z T', P z → oB p l e R s m args below meth c Z h0 lo T' cells' slots' (D z) → oWin p e below Z h0 Q E (T'.setTop (f z))) → oWin p e below Z h0 Q E (T.setTop g)) (h2 : ∀ z T', P z → oB p l e R s m args below meth c Z h0 lo T' cells' slots' (D z) → oWin p e below Z h0 Q E (T'.setTop (f z))) : oWin p e below Z h0 Q E (T.setTop g) := h1 h2
theorem oNatLt {x : Int32} {k : Nat} (h : x.toInt < k) (hk : 0 < k) : x.toNatClampNeg < k := by
  show x.toInt.toNat < k
  omega
theorem W_virtualOld (B : oB p l e R s m args below meth c Z h0 lo T cells slots ds) {own C : String} {i : Nat} {y z : MethodName} {bytes : ByteArray} {maxL : Nat} {ret : Option FieldType} {rm : Room} {Q' : Option Value → oDs → Prop} {a : Addr} {argsL rest : List Value} {W : Nat} (hown : s.vm.findClass own = some m.cls) (w1 : (Jvm.Cond.methodLink own i y).before a0 Z = true) (w2 : (Jvm.Cond.declares y).before a0 Z = true) (hnf : NotFace s y) (ws : (Jvm.Cond.selects C y z).before a0 Z = true) (wm : (Jvm.Cond.instanceMethod z).before a0 Z = true) (w3 : (Jvm.Cond.initialized z.cls).before a0 Z = true) (w4 : (Jvm.Cond.code z bytes maxL ret).before a0 Z = true) (hy : y.cls ≠ "java/lang/invoke/MethodHandle" ∧ y.cls ≠ "java/lang/invoke/VarHandle")
    (hM : oMet l Z h0 lo z bytes maxL ret [] rm (.ref a :: argsL).toArray ds Q') (hlen : ∀ sig, parseMethodDescriptor y.desc = some sig → argsL.length = sig.parameters.length) (hd : decode c.code pc = .ok (.invokevirtual i, 3)) (hp : pc + 3 = pc') (hst : st = argsL.reverse ++ .ref a :: rest) (hsz : ls.size = c.maxLocals) (hW : (rest.map fun v => v.category).sum ≤ W) (hE : Exa Z h0 a C)
    (hr : rm.frames + 1 ≤ R.frames ∧ W + (maxL + 11) + rm.locals ≤ R.locals ∧ cells + rm.cells ≤ R.cells ∧ slots + rm.slots ≤ R.slots) {cells' slots' : Nat} (hc' : cells + rm.cells = cells') (hs' : slots + rm.slots = slots')
    (k : ∀ T v ds', Q' v ds' → oB p l e R s m args below meth c Z h0 lo T cells' slots' ds' → oWin p e below Z h0 Q E (T.setTop (mkF m pc' ls (v.toList ++ rest)))) : oWin p e below Z h0 Q E (T.setTop (mkF m pc ls st)) := by
  subst hp hst hc' hs'
  obtain ⟨hx, hZ, hlk, locs, X, N, H⟩ := B
  obtain ⟨cq, kq, q1, q2, q3⟩ := isOf (T := T) hZ rfl (hE.ext H.1.1)
  obtain ⟨v, vm1, ⟨T', L', k', n'⟩, -, X', ⟨Lc, ⟨N', ds', H', hQ⟩, e1, e2, e3⟩, stp⟩ := X.virtualBack hx (y := y) (z := z) hown (mvT hZ w1) (mvT hZ w2) hnf (mvT hZ ws) (mvT hZ wm) hy (backOf (W := W) (Q := fun v h L => Fr h0.size L ∧ ∃ ds', oHP Z h0 lo h ds' ∧ Q' v ds') (hM _ H) hZ w4 w3 hr.1 hr.2.1) q1 q3 (g := mkF m pc ls (argsL.reverse ++ .ref a :: rest)) rfl hsz (Steps.refl _) hlen rfl (by simpa using hW) hd (fun _ _ => ⟨rfl, rfl, hr.2.2.1, hr.2.2.2⟩)
  dsimp only [Pt.U, Pt.locs, Pt.cells, Pt.slots] at X' e1 e2 e3 stp H'
  subst e1 e2 e3
  exact (k T' v ds' hQ ⟨hx, hZ, hlk, _, X', N.app N', H'⟩).steps stp
theorem W_private (B : oB p l e R s m args below meth c Z h0 lo T cells slots ds) {own C : String} {i j : Nat} {y : MethodName} {bytes : ByteArray} {maxL : Nat} {ret : Option FieldType} {rm : Room} {Q' : Option Value → oDs → Prop} {a : Addr} {fs : List (oFK × Value)} {argsL rest : List Value} {W : Nat} (hown : s.vm.findClass own = some m.cls) (w1 : (Jvm.Cond.methodLink own i y).before a0 Z = true) (w2 : (Jvm.Cond.instanceMethod y).before a0 Z = true) (ws : (Jvm.Cond.selects y.cls y y).before a0 Z = true) (wp : (Jvm.Cond.privateMethod y).before a0 Z = true) (w3 : (Jvm.Cond.initialized y.cls).before a0 Z = true) (w4 : (Jvm.Cond.code y bytes maxL ret).before a0 Z = true) (hy : y.cls ≠ "java/lang/invoke/MethodHandle" ∧ y.cls ≠ "java/lang/invoke/VarHandle")
    (hM : oMet l Z h0 lo y bytes maxL ret [] rm (.ref a :: argsL).toArray ds Q') (hlen : ∀ sig, parseMethodDescriptor y.desc = some sig → argsL.length = sig.parameters.length) (hd : decode c.code pc = .ok (.invokevirtual i, 3)) (hp : pc + 3 = pc') (hst : st = argsL.reverse ++ .ref a :: rest) (hsz : ls.size = c.maxLocals) (hW : (rest.map fun v => v.category).sum ≤ W) (hi : ds[j]? = some (a, oO C fs))
    (hr : rm.frames + 1 ≤ R.frames ∧ W + (maxL + 11) + rm.locals ≤ R.locals ∧ cells + rm.cells ≤ R.cells ∧ slots + rm.slots ≤ R.slots) {cells' slots' : Nat} (hc' : cells + rm.cells = cells') (hs' : slots + rm.slots = slots')
    (k : ∀ T v ds', Q' v ds' → oB p l e R s m args below meth c Z h0 lo T cells' slots' ds' → oWin p e below Z h0 Q E (T.setTop (mkF m pc' ls (v.toList ++ rest)))) : oWin p e below Z h0 Q E (T.setTop (mkF m pc ls st)) := by
  subst hp hst hc' hs'
  obtain ⟨hx, hZ, hlk, locs, X, N, H⟩ := B
  obtain ⟨cq, q1, q2⟩ := (H.at hi).2.1.cell
  obtain ⟨v, vm1, ⟨T', L', k', n'⟩, -, X', ⟨Lc, ⟨N', ds', H', hQ⟩, e1, e2, e3⟩, stp⟩ := X.privateBack hx (y := y) hown (mvT hZ w1) (mvT hZ w2) (mvT hZ ws) (Cond.privateMethod_at (mvP hZ wp (args := #[]))) (mvT hZ w4) hy (backOf (W := W) (Q := fun v h L => Fr h0.size L ∧ ∃ ds', oHP Z h0 lo h ds' ∧ Q' v ds') (hM _ H) hZ w4 w3 hr.1 hr.2.1) (g := mkF m pc ls (argsL.reverse ++ .ref a :: rest)) rfl hsz (Steps.refl _) (a := a) q1 q2 hlen rfl (by simpa using hW) hd (fun _ _ => ⟨rfl, rfl, hr.2.2.1, hr.2.2.2⟩)
  dsimp only [Pt.U, Pt.locs, Pt.cells, Pt.slots] at X' e1 e2 e3 stp H'
  subst e1 e2 e3
  exact (k T' v ds' hQ ⟨hx, hZ, hlk, _, X', N.app N', H'⟩).steps stp
end Wlaws
section WlawsD
open Jvm.Free.Fl
variable {p : Program} {l : Launch} {e : Env} {R : Room} {s : State} {m : MethodId} {args : Array Value} {below : List Frame} {meth : Method} {c : Code} {Z : State} {a0 : Array Value} {h0 : Heap} {lo : Nat} {T : State} {cells slots : Nat} {ds ds' : oDs} {Q : Option Value → oDs → Prop} {E : Outcome → State → List Loc → Prop} {kc ks : Nat} {pc pc' : Nat} {ls ls' : Array Slot} {st : List Value}
theorem W_i2d (B : oB p l e R s m args below meth c Z h0 lo T cells slots ds) {x : Int32} {z : UInt64} (hd : decode c.code pc = .ok (.i2d, 1)) (hp : pc + 1 = pc') (hz : FP.i2d x = z) (w : oWin p e below Z h0 Q E (T.setTop (mkF m pc' ls (.double z :: st)))) : oWin p e below Z h0 Q E (T.setTop (mkF m pc ls (.int x :: st))) := by
  subst hp hz
  obtain ⟨hx, hZ, hlk, locs, X, N, H⟩ := B
  exact w.step fun t k => XS.i2dS X.here hx rfl hd rfl rfl k
theorem W_dneg (B : oB p l e R s m args below meth c Z h0 lo T cells slots ds) {x z : UInt64} (hd : decode c.code pc = .ok (.dneg, 1)) (hp : pc + 1 = pc') (hz : FP.dneg x = z) (w : oWin p e below Z h0 Q E (T.setTop (mkF m pc' ls (.double z :: st)))) : oWin p e below Z h0 Q E (T.setTop (mkF m pc ls (.double x :: st))) := by
  subst hp hz
  obtain ⟨hx, hZ, hlk, locs, X, N, H⟩ := B
  exact w.step fun t k => XS.dnegS X.here hx rfl hd rfl rfl k
theorem W_dcmp (B : oB p l e R s m args below meth c Z h0 lo T cells slots ds) {o : CmpOp} {x y : UInt64} {z : Int32} (hd : decode c.code pc = .ok (.dcmp o, 1)) (hp : pc + 1 = pc') (hz : cmpValue (FP.dcmp x y) o = z) (w : oWin p e below Z h0 Q E (T.setTop (mkF m pc' ls (.int z :: st)))) : oWin p e below Z h0 Q E (T.setTop (mkF m pc ls (.double y :: .double x :: st))) := by
  subst hp hz
  obtain ⟨hx, hZ, hlk, locs, X, N, H⟩ := B
  exact w.step fun t k => XS.dcmpS X.here hx rfl hd rfl rfl k
theorem W_ldc2Double (B : oB p l e R s m args below meth c Z h0 lo T cells slots ds) {own : String} {i : Nat} {v : UInt64} (hown : s.vm.findClass own = some m.cls) (w : (Jvm.Cond.constantDouble own i v).before a0 Z = true) (hd : decode c.code pc = .ok (.ldc2_w i, 3)) (hp : pc + 3 = pc') (k : oWin p e below Z h0 Q E (T.setTop (mkF m pc' ls (.double v :: st)))) : oWin p e below Z h0 Q E (T.setTop (mkF m pc ls st)) := by
  subst hp
  obtain ⟨hx, hZ, hlk, locs, X, N, H⟩ := B
  exact k.step (X.ldc2DoubleC hx hown (mvT hZ w) (g := mkF m pc ls st) rfl hd)
theorem W_retD (B : oB p l e R s m args below meth c Z h0 lo T cells slots ds) {z : UInt64} (hret : meth.sig.returnType = some .double) (hd : decode c.code pc = .ok (.dreturn, 1)) (hr : cells ≤ kc ∧ slots ≤ ks) (hq : Q (some (.double z)) ds) : oWin p e below Z h0 Q (oFE s lo kc ks) (T.setTop (mkF m pc ls (.double z :: st))) := by
  have B' := B
  obtain ⟨hx, hZ, hlk, locs, X, N, H⟩ := B'
  refine oWin.leave B (v := some (.double z)) (fun h => by rw [hret] at h; cases h) hq hr fun fs hl => ?_
  have hm' : T.vm.method? m = some meth := X.method'
  show Steps p.tables e below (T.setTop { method := m, pc := pc, locals := ls, stack := _ :: st, locked := none }) _
  jvm_step X.here [X.here.top, hx, hd, hm', hret, narrow]
  first | (intro acts; rw [hl _ acts rfl rfl rfl]) | rw [hl _ _ rfl rfl rfl]
  exact Steps.refl _
theorem W_daload (B : oB p l e R s m args below meth c Z h0 lo T cells slots ds) {i : Nat} {a : Addr} {vs : List Value} {j : Int32} {v : Value} (hd : decode c.code pc = .ok (.daload, 1)) (hp : pc + 1 = pc') (hi : ds[i]? = some (a, oA .double vs)) (hj : ¬ j < 0) (hv : vs[j.toNatClampNeg]? = some v) (w : oWin p e below Z h0 Q E (T.setTop (mkF m pc' ls (v :: st)))) : oWin p e below Z h0 Q E (T.setTop (mkF m pc ls (.int j :: .ref a :: st))) := by
  subst hp
  obtain ⟨hx, hZ, hlk, locs, X, N, H⟩ := B
  obtain ⟨-, c', A, e, -⟩ := H.at hi
  obtain ⟨q1, q2⟩ := oIn e hj hv
  exact w.step fun t k => X.daload hx A.1 (State.isArrayOf_alike hZ.alike A.2.1) A.2.2 q1 q2 (g := mkF m pc ls (.int j :: .ref a :: st)) rfl rfl hd t k
theorem W_dastore (B : oB p l e R s m args below meth c Z h0 lo T cells slots ds) {i : Nat} {a : Addr} {vs : List Value} {j : Int32} {x : UInt64} (hd : decode c.code pc = .ok (.dastore, 1)) (hp : pc + 1 = pc') (hi : ds[i]? = some (a, oA .double vs)) (hj : ¬ j < 0) (hv : j.toNatClampNeg < vs.length) (hds : ds.set i (a, oA .double (vs.set j.toNatClampNeg (.double x))) = ds') (k : ∀ T, oB p l e R s m args below meth c Z h0 lo T cells slots ds' → oWin p e below Z h0 Q E (T.setTop (mkF m pc' ls st))) : oWin p e below Z h0 Q E (T.setTop (mkF m pc ls (.double x :: .int j :: .ref a :: st))) := by
  subst hp hds
  obtain ⟨hx, hZ, hlk, locs, X, N, H⟩ := B
  obtain ⟨ha, I⟩ := H.at hi
  have I' := I
  obtain ⟨c', A, e, -⟩ := I'
  obtain ⟨q1, -⟩ := oIn e hj (List.getElem?_eq_getElem hv)
  obtain ⟨T', h', X', e', W, stp⟩ := stD X hx hZ rfl A q1 (g := mkF m pc ls (.double x :: .int j :: .ref a :: st)) rfl rfl hd
  subst e'
  exact (k T' ⟨hx, hZ, hlk, _, X', Fr.snoc X' N ha, H.wr hi W (I.store W rfl)⟩).step stp
end WlawsD
theorem own_fin_neg {x : UInt64} (h : Jvm.Free.Fl.Fin64 x) : Jvm.Free.Fl.Fin64 (FP.dneg x) := by
  unfold Jvm.Free.Fl.Fin64 at h ⊢
  have e : (FP.dneg x) &&& 0x7fffffffffffffff = x &&& 0x7fffffffffffffff := by
    show (x ^^^ 0x8000000000000000) &&& 0x7fffffffffffffff = _
    apply UInt64.toBitVec_inj.mp
    rw [UInt64.toBitVec_and, UInt64.toBitVec_xor, UInt64.toBitVec_and]
    apply BitVec.eq_of_getLsbD_eq
    intro i hi
    rw [BitVec.getLsbD_and, BitVec.getLsbD_xor, BitVec.getLsbD_and]
    have key : ∀ i : Fin 64, ((0x8000000000000000 : UInt64).toBitVec.getLsbD i.1 && (0x7fffffffffffffff : UInt64).toBitVec.getLsbD i.1) = false := by decide +kernel
    have k := key ⟨i, hi⟩
    revert k
    cases (0x8000000000000000 : UInt64).toBitVec.getLsbD i <;> cases (0x7fffffffffffffff : UInt64).toBitVec.getLsbD i <;> cases x.toBitVec.getLsbD i <;> simp
  rw [e]; exact h
theorem own_fin_i2d (x : Int32) : Jvm.Free.Fl.Fin64 (FP.i2d x) := by rw [Jvm.RoadKit.i2d_w]; exact Jvm.Free.Fl.l2d_fin _
theorem own_fin_max : Jvm.Free.Fl.Fin64 (18442240474082181119 : UInt64) := by unfold Jvm.Free.Fl.Fin64; decide
theorem own_nn_inf : Jvm.Free.Fl.NoNaN64 (18442240474082181120 : UInt64) := by unfold Jvm.Free.Fl.NoNaN64; decide
theorem d1_0 : decode method_4_code 0 = .ok (.iload_n 0, 1) := by decide +kernel
theorem d1_1 : decode method_4_code 1 = .ok (.iconst 3, 1) := by decide +kernel
theorem d1_2 : decode method_4_code 2 = .ok (.iand, 1) := by decide +kernel
theorem d1_3 : decode method_4_code 3 = .ok (.istore_n 1, 1) := by decide +kernel
theorem d1_4 : decode method_4_code 4 = .ok (.iload_n 1, 1) := by decide +kernel
theorem d1_5 : decode method_4_code 5 = .ok (.ifCond .ne 7, 3) := by decide +kernel
theorem d1_12 : decode method_4_code 12 = .ok (.iload_n 1, 1) := by decide +kernel
theorem d1_13 : decode method_4_code 13 = .ok (.iconst 1, 1) := by decide +kernel
theorem d1_14 : decode method_4_code 14 = .ok (.if_icmp .ne 8, 3) := by decide +kernel
theorem d1_22 : decode method_4_code 22 = .ok (.iload_n 1, 1) := by decide +kernel
theorem d1_23 : decode method_4_code 23 = .ok (.iconst 2, 1) := by decide +kernel
theorem d1_24 : decode method_4_code 24 = .ok (.if_icmp .ne 7, 3) := by decide +kernel
theorem d1_31 : decode method_4_code 31 = .ok (.iload_n 0, 1) := by decide +kernel
theorem d1_32 : decode method_4_code 32 = .ok (.iconst 2, 1) := by decide +kernel
theorem d1_33 : decode method_4_code 33 = .ok (.iushr, 1) := by decide +kernel
theorem d1_34 : decode method_4_code 34 = .ok (.i2d, 1) := by decide +kernel
theorem d1_35 : decode method_4_code 35 = .ok (.dneg, 1) := by decide +kernel
theorem d1_36 : decode method_4_code 36 = .ok (.dreturn, 1) := by decide +kernel
theorem d1_27 : decode method_4_code 27 = .ok (.ldc2_w 29, 3) := by decide +kernel
theorem d1_30 : decode method_4_code 30 = .ok (.dreturn, 1) := by decide +kernel
theorem d1_17 : decode method_4_code 17 = .ok (.iload_n 0, 1) := by decide +kernel
theorem d1_18 : decode method_4_code 18 = .ok (.iconst 2, 1) := by decide +kernel
theorem d1_19 : decode method_4_code 19 = .ok (.ishr, 1) := by decide +kernel
theorem d1_20 : decode method_4_code 20 = .ok (.i2d, 1) := by decide +kernel
theorem d1_21 : decode method_4_code 21 = .ok (.dreturn, 1) := by decide +kernel
theorem d1_8 : decode method_4_code 8 = .ok (.ldc2_w 27, 3) := by decide +kernel
theorem d1_11 : decode method_4_code 11 = .ok (.dreturn, 1) := by decide +kernel
theorem ef_rm1 (m : MethodId) (x0 : Int32) : entryFrame m #[(.int x0)] 2 = mkF m 0 #[.val (.int x0), .unset] [] := by first | (simp [entryFrame, mkF, argsToLocals, Value.category]; done) | rfl
theorem pn_0 : plainName "com/example/bucketry/bucketry/table/TableIsZeroPinLaw" = true := by first | (simp [plainName, overriddenIn]; done) | decide +kernel
set_option maxRecDepth 65536 in
set_option maxHeartbeats 40000000 in
theorem rm1 (l : Launch) (Z : State) (a0 : Array Value) (hw : ∀ d ∈ tables_1, d.before a0 Z = true) (h0 : Heap) {lo : Nat} (a1 : Int32) (ds : oDs) :
    oMet l Z h0 lo (⟨"com/example/bucketry/bucketry/table/TableIsZeroPinLaw", "entry", "(I)D"⟩ : MethodName) method_4_code 2 (some .double) [] ({ frames := 0, cells := 0, slots := 0, locals := 0 } : Room) #[(.int a1)] (ds) (fun (v : Option Value) (d : oDs) => (((a1 &&& (3 : Int32)) = (0 : Int32)) ∧ v = some (.double (18442240474082181120 : UInt64)) ∧ (ds) = d) ∨ (∃ (w : UInt64), (¬ (a1 &&& (3 : Int32)) = (0 : Int32)) ∧ (Jvm.Free.Fl.Fin64 w) ∧ v = some (.double w) ∧ (ds) = d)) := by
  refine oMet.of_body (plainFor_of_name pn_0) ?_
  intro p e s m below meth c T B hby hml hown hnm hret
  refine W_entry (ef_rm1 m a1) ?_
  refine W_iloadN B (hb hby d1_0) (pc' := 1) rfl rfl ?_
  refine W_iconst B (hb hby d1_1) (pc' := 2) rfl (z := (3 : Int32)) (by decide) ?_
  refine W_iand B (hb hby d1_2) (pc' := 3) rfl (z := (a1 &&& (3 : Int32))) rfl ?_
  obtain ⟨v1, hv1⟩ : ∃ z : Int32, z = (a1 &&& (3 : Int32)) := ⟨_, rfl⟩
  refine W_istoreN B (hb hby d1_3) (pc' := 4) rfl (v := v1) hv1.symm (ls' := #[.val (.int a1), .val (.int v1)]) rfl ?_
  refine W_iloadN B (hb hby d1_4) (pc' := 5) rfl rfl ?_
  refine W_if_ne B (hb hby d1_5) (by decide) (pt := 12) (by decide) (pc' := 8) rfl (fun (c2 : ¬ v1 = (0 : Int32)) => ?_) (fun (c2 : v1 = (0 : Int32)) => ?_)
  · refine W_iloadN B (hb hby d1_12) (pc' := 13) rfl rfl ?_
    refine W_iconst B (hb hby d1_13) (pc' := 14) rfl (z := (1 : Int32)) (by decide) ?_
    refine W_icmp_ne B (hb hby d1_14) (by decide) (pt := 22) (by decide) (pc' := 17) rfl (fun (c3 : ¬ v1 = (1 : Int32)) => ?_) (fun (c3 : v1 = (1 : Int32)) => ?_)
    · refine W_iloadN B (hb hby d1_22) (pc' := 23) rfl rfl ?_
      refine W_iconst B (hb hby d1_23) (pc' := 24) rfl (z := (2 : Int32)) (by decide) ?_
      refine W_icmp_ne B (hb hby d1_24) (by decide) (pt := 31) (by decide) (pc' := 27) rfl (fun (c4 : ¬ v1 = (2 : Int32)) => ?_) (fun (c4 : v1 = (2 : Int32)) => ?_)
      · refine W_iloadN B (hb hby d1_31) (pc' := 32) rfl rfl ?_
        refine W_iconst B (hb hby d1_32) (pc' := 33) rfl (z := (2 : Int32)) (by decide) ?_
        refine W_iushr B (hb hby d1_33) (pc' := 34) rfl (z := ((a1.toUInt32 >>> ((2 : Int32) &&& 31).toUInt32).toInt32)) rfl ?_
        refine W_i2d B (hb hby d1_34) (pc' := 35) rfl (z := (FP.i2d ((a1.toUInt32 >>> ((2 : Int32) &&& 31).toUInt32).toInt32))) rfl ?_
        refine W_dneg B (hb hby d1_35) (pc' := 36) rfl (z := (FP.dneg (FP.i2d ((a1.toUInt32 >>> ((2 : Int32) &&& 31).toUInt32).toInt32)))) rfl ?_
        refine W_retD B hret (hb hby d1_36) (by decide) ?_
        exact Or.inr ⟨_, fun q => c2 (hv1.trans q), own_fin_neg (own_fin_i2d _), rfl, rfl⟩
      refine W_ldc2Double B hown (ow hw (i := 6) rfl) (hb hby d1_27) (pc' := 30) rfl ?_
      refine W_retD B hret (hb hby d1_30) (by decide) ?_
      exact Or.inr ⟨_, fun q => c2 (hv1.trans q), own_fin_max, rfl, rfl⟩
    refine W_iloadN B (hb hby d1_17) (pc' := 18) rfl rfl ?_
    refine W_iconst B (hb hby d1_18) (pc' := 19) rfl (z := (2 : Int32)) (by decide) ?_
    refine W_ishr B (hb hby d1_19) (pc' := 20) rfl (z := (a1 >>> ((2 : Int32) &&& 31))) rfl ?_
    refine W_i2d B (hb hby d1_20) (pc' := 21) rfl (z := (FP.i2d (a1 >>> ((2 : Int32) &&& 31)))) rfl ?_
    refine W_retD B hret (hb hby d1_21) (by decide) ?_
    exact Or.inr ⟨_, fun q => c2 (hv1.trans q), own_fin_i2d _, rfl, rfl⟩
  refine W_ldc2Double B hown (ow hw (i := 5) rfl) (hb hby d1_8) (pc' := 11) rfl ?_
  refine W_retD B hret (hb hby d1_11) (by decide) ?_
  exact Or.inl ⟨hv1.symm.trans c2, rfl, rfl⟩
theorem d2_0 : decode prog_56_method_1_code 0 = .ok (.aload_n 0, 1) := by decide +kernel
theorem d2_1 : decode prog_56_method_1_code 1 = .ok (.invokespecial 3, 3) := by decide +kernel
theorem d2_4 : decode prog_56_method_1_code 4 = .ok (.aload_n 0, 1) := by decide +kernel
theorem d2_5 : decode prog_56_method_1_code 5 = .ok (.aload_n 1, 1) := by decide +kernel
theorem d2_6 : decode prog_56_method_1_code 6 = .ok (.putfield 9, 3) := by decide +kernel
abbrev cn0 : String := "com/example/bucketry/bucketry/table/Table"
abbrev fk0 : oFK := ("com/example/bucketry/bucketry/table/Table", "scope", "[I")
abbrev fk1 : oFK := ("com/example/bucketry/bucketry/table/Table", "sizes", "[I")
abbrev fk2 : oFK := ("com/example/bucketry/bucketry/table/Table", "entries", "[D")
theorem d2_9 : decode prog_56_method_1_code 9 = .ok (.aload_n 0, 1) := by decide +kernel
theorem d2_10 : decode prog_56_method_1_code 10 = .ok (.aload_n 2, 1) := by decide +kernel
theorem d2_11 : decode prog_56_method_1_code 11 = .ok (.putfield 15, 3) := by decide +kernel
theorem d2_14 : decode prog_56_method_1_code 14 = .ok (.aload_n 0, 1) := by decide +kernel
theorem d2_15 : decode prog_56_method_1_code 15 = .ok (.aload_n 3, 1) := by decide +kernel
theorem d2_16 : decode prog_56_method_1_code 16 = .ok (.putfield 18, 3) := by decide +kernel
theorem d2_19 : decode prog_56_method_1_code 19 = .ok (.return_, 1) := by decide +kernel
theorem ef_rm2 (m : MethodId) (x0 : Addr) (x1 : Addr) (x2 : Addr) (x3 : Addr) : entryFrame m #[(.ref x0), (.ref x1), (.ref x2), (.ref x3)] 4 = mkF m 0 #[.val (.ref x0), .val (.ref x1), .val (.ref x2), .val (.ref x3)] [] := by first | (simp [entryFrame, mkF, argsToLocals, Value.category]; done) | rfl
theorem pn_1 : plainName "com/example/bucketry/bucketry/table/Table" = true := by first | (simp [plainName, overriddenIn]; done) | decide +kernel
set_option maxRecDepth 65536 in
set_option maxHeartbeats 40000000 in
theorem rm2 (l : Launch) (Z : State) (a0 : Array Value) (hw : ∀ d ∈ tables_1, d.before a0 Z = true) (h0 : Heap) {lo : Nat} (a1 : Addr) (k1 : Addr) (k2 : Addr) (k3 : Addr) (e1 : Addr × oD) (e2 : Addr × oD) (ds : oDs) :
    oMet l Z h0 lo (⟨"com/example/bucketry/bucketry/table/Table", "<init>", "([I[I[D)V"⟩ : MethodName) prog_56_method_1_code 4 none [] ({ frames := 1, cells := 0, slots := 0, locals := 12 } : Room) #[(.ref a1), (.ref k1), (.ref k2), (.ref k3)] (e1 :: e2 :: (a1, oO cn0 [(fk0, .null), (fk1, .null), (fk2, .null)]) :: ds) (fun (v : Option Value) (d : oDs) => (v = none ∧ (e1 :: e2 :: (a1, oO cn0 [(fk0, (.ref k1)), (fk1, (.ref k2)), (fk2, (.ref k3))]) :: ds) = d)) := by
  refine oMet.of_body (plainFor_of_name pn_1) ?_
  intro p e s m below meth c T B hby hml hown hnm hret
  refine W_entry (ef_rm2 m a1 k1 k2 k3) ?_
  refine W_aloadN B (hb hby d2_0) (pc' := 1) rfl rfl rfl ?_
  refine W_initO B hown (ow hw (i := 14) rfl) (ow hw (i := 15) rfl) (ow hw (i := 16) rfl) (hb hby d2_1) (pc' := 4) rfl (by rw [hml]; rfl) (W := 0) (oLe rfl) (by decide) ?_
  intro T B
  refine W_aloadN B (hb hby d2_4) (pc' := 5) rfl rfl rfl ?_
  refine W_aloadN B (hb hby d2_5) (pc' := 6) rfl rfl rfl ?_
  refine W_putfield B hown (host := "") (Or.inl (ow hw (i := 17) rfl)) Via.refl (hb hby d2_6) (pc' := 9) rfl (Or.inr ⟨(ow hw (i := 18) rfl), rfl, hnm⟩) (ow hw (i := 8) rfl) (ty := (.array .int)) (by decide) rfl rfl (j := 2) rfl (q := 0) rfl (ds' := (e1 :: e2 :: (a1, oO cn0 [(fk0, (.ref k1)), (fk1, .null), (fk2, .null)]) :: ds)) rfl ?_
  intro T B
  refine W_aloadN B (hb hby d2_9) (pc' := 10) rfl rfl rfl ?_
  refine W_aloadN B (hb hby d2_10) (pc' := 11) rfl rfl rfl ?_
  refine W_putfield B hown (host := "") (Or.inl (ow hw (i := 19) rfl)) Via.refl (hb hby d2_11) (pc' := 14) rfl (Or.inr ⟨(ow hw (i := 20) rfl), rfl, hnm⟩) (ow hw (i := 8) rfl) (ty := (.array .int)) (by decide) rfl rfl (j := 2) rfl (q := 1) rfl (ds' := (e1 :: e2 :: (a1, oO cn0 [(fk0, (.ref k1)), (fk1, (.ref k2)), (fk2, .null)]) :: ds)) rfl ?_
  intro T B
  refine W_aloadN B (hb hby d2_14) (pc' := 15) rfl rfl rfl ?_
  refine W_aloadN B (hb hby d2_15) (pc' := 16) rfl rfl rfl ?_
  refine W_putfield B hown (host := "") (Or.inl (ow hw (i := 21) rfl)) Via.refl (hb hby d2_16) (pc' := 19) rfl (Or.inr ⟨(ow hw (i := 22) rfl), rfl, hnm⟩) (ow hw (i := 8) rfl) (ty := (.array .double)) (by decide) rfl rfl (j := 2) rfl (q := 2) rfl (ds' := (e1 :: e2 :: (a1, oO cn0 [(fk0, (.ref k1)), (fk1, (.ref k2)), (fk2, (.ref k3))]) :: ds)) rfl ?_
  intro T B
  refine W_retV B hret (hb hby d2_19) (by decide) ?_
  exact ⟨rfl, rfl⟩
theorem d4_0 : decode prog_56_method_22_code 0 = .ok (.aload_n 0, 1) := by decide +kernel
theorem d4_1 : decode prog_56_method_22_code 1 = .ok (.getfield 18, 3) := by decide +kernel
theorem d4_4 : decode prog_56_method_22_code 4 = .ok (.iload_n 1, 1) := by decide +kernel
theorem d4_5 : decode prog_56_method_22_code 5 = .ok (.daload, 1) := by decide +kernel
theorem d4_6 : decode prog_56_method_22_code 6 = .ok (.ldc2_w 156, 3) := by decide +kernel
theorem d4_9 : decode prog_56_method_22_code 9 = .ok (.dcmp .l, 1) := by decide +kernel
theorem d4_10 : decode prog_56_method_22_code 10 = .ok (.ifCond .ne 7, 3) := by decide +kernel
theorem d4_13 : decode prog_56_method_22_code 13 = .ok (.iconst 1, 1) := by decide +kernel
theorem d4_14 : decode prog_56_method_22_code 14 = .ok (.goto 4, 3) := by decide +kernel
theorem d4_18 : decode prog_56_method_22_code 18 = .ok (.ireturn, 1) := by decide +kernel
theorem ef_rm4_inf (m : MethodId) (x0 : Addr) (x1 : Int32) : entryFrame m #[(.ref x0), (.int x1)] 2 = mkF m 0 #[.val (.ref x0), .val (.int x1)] [] := by first | (simp [entryFrame, mkF, argsToLocals, Value.category]; done) | rfl
set_option maxRecDepth 65536 in
set_option maxHeartbeats 40000000 in
theorem rm4_inf (l : Launch) (Z : State) (a0 : Array Value) (hw : ∀ d ∈ tables_1, d.before a0 Z = true) (h0 : Heap) {lo : Nat} (a1 : Addr) (i1 : Int32) (k1 : Addr) (k2 : Addr) (k3 : Addr) (vs : List Value) (e1 : Addr × oD) (e2 : Addr × oD) (ds : oDs) (hj : ¬ i1 < 0) (hv : vs[i1.toNatClampNeg]? = some (.double (18442240474082181120 : UInt64))) :
    oMet l Z h0 lo (⟨"com/example/bucketry/bucketry/table/Table", "isZero", "(I)Z"⟩ : MethodName) prog_56_method_22_code 2 (some .boolean) [] ({ frames := 0, cells := 0, slots := 0, locals := 0 } : Room) #[(.ref a1), (.int i1)] (e1 :: e2 :: (a1, oO cn0 [(fk0, (.ref k1)), (fk1, (.ref k2)), (fk2, (.ref k3))]) :: (k3, oA .double vs) :: ds) (fun (v : Option Value) (d : oDs) => (v = some (.int (1 : Int32)) ∧ (e1 :: e2 :: (a1, oO cn0 [(fk0, (.ref k1)), (fk1, (.ref k2)), (fk2, (.ref k3))]) :: (k3, oA .double vs) :: ds) = d)) := by
  refine oMet.of_body (plainFor_of_name pn_1) ?_
  intro p e s m below meth c T B hby hml hown hnm hret
  refine W_entry (ef_rm4_inf m a1 i1) ?_
  refine W_aloadN B (hb hby d4_0) (pc' := 1) rfl rfl rfl ?_
  refine W_getfield B hown (host := "") (Or.inl (ow hw (i := 21) rfl)) Via.refl (hb hby d4_1) (pc' := 4) rfl (j := 2) rfl (q := 2) rfl ?_
  intro T B
  refine W_iloadN B (hb hby d4_4) (pc' := 5) rfl rfl ?_
  refine W_daload B (hb hby d4_5) (pc' := 6) rfl (i := 3) rfl hj (v := (.double (18442240474082181120 : UInt64))) hv ?_
  refine W_ldc2Double B hown (ow hw (i := 28) rfl) (hb hby d4_6) (pc' := 9) rfl ?_
  refine W_dcmp B (hb hby d4_9) (pc' := 10) rfl (z := (0 : Int32)) (Jvm.RoadKit.dcmpV_self own_nn_inf _) ?_
  refine W_ifN B (hb hby d4_10) (pc' := 13) rfl (by decide) ?_
  refine W_iconst B (hb hby d4_13) (pc' := 14) rfl (z := (1 : Int32)) (by decide) ?_
  refine W_goto B (hb hby d4_14) (by decide) (pc' := 18) (by decide) ?_
  refine W_retN B hret (by simp) (hb hby d4_18) (by decide) ?_
  exact ⟨rfl, rfl⟩
theorem d4_17 : decode prog_56_method_22_code 17 = .ok (.iconst 0, 1) := by decide +kernel
theorem ef_rm4_fin (m : MethodId) (x0 : Addr) (x1 : Int32) : entryFrame m #[(.ref x0), (.int x1)] 2 = mkF m 0 #[.val (.ref x0), .val (.int x1)] [] := by first | (simp [entryFrame, mkF, argsToLocals, Value.category]; done) | rfl
set_option maxRecDepth 65536 in
set_option maxHeartbeats 40000000 in
theorem rm4_fin (l : Launch) (Z : State) (a0 : Array Value) (hw : ∀ d ∈ tables_1, d.before a0 Z = true) (h0 : Heap) {lo : Nat} (a1 : Addr) (i1 : Int32) (k1 : Addr) (k2 : Addr) (k3 : Addr) (vs : List Value) (w : UInt64) (e1 : Addr × oD) (e2 : Addr × oD) (ds : oDs) (hj : ¬ i1 < 0) (hv : vs[i1.toNatClampNeg]? = some (.double w)) (hf : Jvm.Free.Fl.Fin64 w) :
    oMet l Z h0 lo (⟨"com/example/bucketry/bucketry/table/Table", "isZero", "(I)Z"⟩ : MethodName) prog_56_method_22_code 2 (some .boolean) [] ({ frames := 0, cells := 0, slots := 0, locals := 0 } : Room) #[(.ref a1), (.int i1)] (e1 :: e2 :: (a1, oO cn0 [(fk0, (.ref k1)), (fk1, (.ref k2)), (fk2, (.ref k3))]) :: (k3, oA .double vs) :: ds) (fun (v : Option Value) (d : oDs) => (v = some (.int (0 : Int32)) ∧ (e1 :: e2 :: (a1, oO cn0 [(fk0, (.ref k1)), (fk1, (.ref k2)), (fk2, (.ref k3))]) :: (k3, oA .double vs) :: ds) = d)) := by
  refine oMet.of_body (plainFor_of_name pn_1) ?_
  intro p e s m below meth c T B hby hml hown hnm hret
  refine W_entry (ef_rm4_fin m a1 i1) ?_
  refine W_aloadN B (hb hby d4_0) (pc' := 1) rfl rfl rfl ?_
  refine W_getfield B hown (host := "") (Or.inl (ow hw (i := 21) rfl)) Via.refl (hb hby d4_1) (pc' := 4) rfl (j := 2) rfl (q := 2) rfl ?_
  intro T B
  refine W_iloadN B (hb hby d4_4) (pc' := 5) rfl rfl ?_
  refine W_daload B (hb hby d4_5) (pc' := 6) rfl (i := 3) rfl hj (v := (.double w)) hv ?_
  refine W_ldc2Double B hown (ow hw (i := 28) rfl) (hb hby d4_6) (pc' := 9) rfl ?_
  refine W_dcmp B (hb hby d4_9) (pc' := 10) rfl (z := (1 : Int32)) (Jvm.RoadKit.dcmp_ninf hf _) ?_
  refine W_ifY B (hb hby d4_10) (by decide) (pc' := 17) (by decide) (by decide) ?_
  refine W_iconst B (hb hby d4_17) (pc' := 18) rfl (z := (0 : Int32)) (by decide) ?_
  refine W_retN B hret (by simp) (hb hby d4_18) (by decide) ?_
  exact ⟨rfl, rfl⟩
theorem d5_0 : decode method_3_code 0 = .ok (.iload_n 0, 1) := by decide +kernel
theorem d5_1 : decode method_3_code 1 = .ok (.iconst 3, 1) := by decide +kernel
theorem d5_2 : decode method_3_code 2 = .ok (.iand, 1) := by decide +kernel
theorem d5_3 : decode method_3_code 3 = .ok (.ifCond .ne 7, 3) := by decide +kernel
theorem d5_10 : decode method_3_code 10 = .ok (.iconst 0, 1) := by decide +kernel
theorem d5_11 : decode method_3_code 11 = .ok (.ireturn, 1) := by decide +kernel
theorem d5_6 : decode method_3_code 6 = .ok (.iconst 1, 1) := by decide +kernel
theorem d5_7 : decode method_3_code 7 = .ok (.goto 4, 3) := by decide +kernel
theorem ef_rm5 (m : MethodId) (x0 : Int32) : entryFrame m #[(.int x0)] 1 = mkF m 0 #[.val (.int x0)] [] := by first | (simp [entryFrame, mkF, argsToLocals, Value.category]; done) | rfl
set_option maxRecDepth 65536 in
set_option maxHeartbeats 40000000 in
theorem rm5 (l : Launch) (Z : State) (a0 : Array Value) (hw : ∀ d ∈ tables_1, d.before a0 Z = true) (h0 : Heap) {lo : Nat} (a1 : Int32) (ds : oDs) :
    oMet l Z h0 lo (⟨"com/example/bucketry/bucketry/table/TableIsZeroPinLaw", "zero", "(I)Z"⟩ : MethodName) method_3_code 1 (some .boolean) [] ({ frames := 0, cells := 0, slots := 0, locals := 0 } : Room) #[(.int a1)] (ds) (fun (v : Option Value) (d : oDs) => (((a1 &&& (3 : Int32)) = (0 : Int32)) ∧ v = some (.int (1 : Int32)) ∧ (ds) = d) ∨ ((¬ (a1 &&& (3 : Int32)) = (0 : Int32)) ∧ v = some (.int (0 : Int32)) ∧ (ds) = d)) := by
  refine oMet.of_body (plainFor_of_name pn_0) ?_
  intro p e s m below meth c T B hby hml hown hnm hret
  refine W_entry (ef_rm5 m a1) ?_
  refine W_iloadN B (hb hby d5_0) (pc' := 1) rfl rfl ?_
  refine W_iconst B (hb hby d5_1) (pc' := 2) rfl (z := (3 : Int32)) (by decide) ?_
  refine W_iand B (hb hby d5_2) (pc' := 3) rfl (z := (a1 &&& (3 : Int32))) rfl ?_
  refine W_if_ne B (hb hby d5_3) (by decide) (pt := 10) (by decide) (pc' := 6) rfl (fun (c5 : ¬ (a1 &&& (3 : Int32)) = (0 : Int32)) => ?_) (fun (c5 : (a1 &&& (3 : Int32)) = (0 : Int32)) => ?_)
  · refine W_iconst B (hb hby d5_10) (pc' := 11) rfl (z := (0 : Int32)) (by decide) ?_
    refine W_retN B hret (by simp) (hb hby d5_11) (by decide) ?_
    exact Or.inr ⟨c5, rfl, rfl⟩
  refine W_iconst B (hb hby d5_6) (pc' := 7) rfl (z := (1 : Int32)) (by decide) ?_
  refine W_goto B (hb hby d5_7) (by decide) (pc' := 11) (by decide) ?_
  refine W_retN B hret (by simp) (hb hby d5_11) (by decide) ?_
  exact Or.inl ⟨c5, rfl, rfl⟩
theorem pd_0 : parseMethodDescriptor "(I)D" = some ⟨[.int], some .double⟩ := by decide +kernel
theorem pd_1 : parseMethodDescriptor "([I[I[D)V" = some ⟨[(.array .int), (.array .int), (.array .double)], none⟩ := by decide +kernel
theorem pd_2 : parseMethodDescriptor "(I)Z" = some ⟨[.int], some .boolean⟩ := by decide +kernel
theorem ef_rm0 (m : MethodId) (x0 : Int32) (x1 : Int32) (x2 : Int32) (x3 : Int32) : entryFrame m #[(.int x0), (.int x1), (.int x2), (.int x3)] maxLocals = mkF m 0 #[.val (.int x0), .val (.int x1), .val (.int x2), .val (.int x3), .unset, .unset] [] := by first | (simp [entryFrame, mkF, argsToLocals, Value.category, maxLocals]; done) | rfl
set_option maxRecDepth 65536 in
set_option maxHeartbeats 40000000 in
theorem rm0 (l : Launch) (Z : State) (a0 : Array Value) (hw : ∀ d ∈ tables_1, d.before a0 Z = true) (h0 : Heap) {lo : Nat} (a1 : Int32) (a2 : Int32) (a3 : Int32) (a4 : Int32) :
    oMet l Z h0 lo x code maxLocals ret tables_1 room_1 #[(.int a1), (.int a2), (.int a3), (.int a4)] [] (fun (v : Option Value) (_ : oDs) => v = some (.int 1)) := by
  refine oMet.of_body (plainFor_of_name pn_0) ?_
  intro p e s m below meth c T B hby hml hown hnm hret
  refine W_entry (ef_rm0 m a1 a2 a3 a4) ?_
  have hml : c.maxLocals = 6 := hml
  refine W_iconst B (hb hby at_0) (pc' := 1) rfl (z := (4 : Int32)) (by decide) ?_
  refine W_newarray B (ow hw (i := 0) rfl) (hb hby at_1) (pc' := 3) rfl (by decide) (cap := 4) (by decide) (by decide) (cells' := 1) rfl (slots' := 4) rfl (vs := [(.double 0), (.double 0), (.double 0), (.double 0)]) rfl (ty := .double) rfl ?_
  intro T b6 B
  refine W_dup B (hb hby at_3) (pc' := 4) rfl rfl ?_
  refine W_iconst B (hb hby at_4) (pc' := 5) rfl (z := (0 : Int32)) (by decide) ?_
  refine W_iloadN B (hb hby at_5) (pc' := 6) rfl rfl ?_
  refine W_callS B (y := (⟨"com/example/bucketry/bucketry/table/TableIsZeroPinLaw", "entry", "(I)D"⟩ : MethodName)) hown (ow hw (i := 1) rfl) (ow hw (i := 2) rfl) (ow hw (i := 3) rfl) (ow hw (i := 4) rfl) (by decide) (rm1 l Z a0 hw h0 a1 [(b6, oA .double [(.double 0), (.double 0), (.double 0), (.double 0)])]) (lenOf pd_0 rfl) (hb hby at_6) (pc' := 9) rfl (argsL := [(.int a1)]) (rest := [(.int (0 : Int32)), (.ref b6), (.ref b6)]) rfl (by rw [hml]; rfl) (W := 3) (oLe rfl) (by decide) (cells' := 1) rfl (slots' := 4) rfl ?_
  intro T v_ d_ q_ B
  rcases q_ with ⟨q8, rfl, rfl⟩ | ⟨w7, q9, q10, rfl, rfl⟩
  · show oWin p e below Z h0 _ _ (T.setTop (mkF m 9 #[.val (.int a1), .val (.int a2), .val (.int a3), .val (.int a4), .unset, .unset] [(.double (18442240474082181120 : UInt64)), (.int (0 : Int32)), (.ref b6), (.ref b6)]))
    refine W_dastore B (hb hby at_9) (pc' := 10) rfl (i := 0) rfl (by decide) (oLt rfl) (ds' := [(b6, oA .double [(.double (18442240474082181120 : UInt64)), (.double 0), (.double 0), (.double 0)])]) rfl ?_
    intro T B
    refine W_dup B (hb hby at_10) (pc' := 11) rfl rfl ?_
    refine W_iconst B (hb hby at_11) (pc' := 12) rfl (z := (1 : Int32)) (by decide) ?_
    refine W_iloadN B (hb hby at_12) (pc' := 13) rfl rfl ?_
    refine W_callS B (y := (⟨"com/example/bucketry/bucketry/table/TableIsZeroPinLaw", "entry", "(I)D"⟩ : MethodName)) hown (ow hw (i := 1) rfl) (ow hw (i := 2) rfl) (ow hw (i := 3) rfl) (ow hw (i := 4) rfl) (by decide) (rm1 l Z a0 hw h0 a2 [(b6, oA .double [(.double (18442240474082181120 : UInt64)), (.double 0), (.double 0), (.double 0)])]) (lenOf pd_0 rfl) (hb hby at_13) (pc' := 16) rfl (argsL := [(.int a2)]) (rest := [(.int (1 : Int32)), (.ref b6), (.ref b6)]) rfl (by rw [hml]; rfl) (W := 3) (oLe rfl) (by decide) (cells' := 1) rfl (slots' := 4) rfl ?_
    intro T v_ d_ q_ B
    rcases q_ with ⟨q12, rfl, rfl⟩ | ⟨w11, q13, q14, rfl, rfl⟩
    · show oWin p e below Z h0 _ _ (T.setTop (mkF m 16 #[.val (.int a1), .val (.int a2), .val (.int a3), .val (.int a4), .unset, .unset] [(.double (18442240474082181120 : UInt64)), (.int (1 : Int32)), (.ref b6), (.ref b6)]))
      refine W_dastore B (hb hby at_16) (pc' := 17) rfl (i := 0) rfl (by decide) (oLt rfl) (ds' := [(b6, oA .double [(.double (18442240474082181120 : UInt64)), (.double (18442240474082181120 : UInt64)), (.double 0), (.double 0)])]) rfl ?_
      intro T B
      refine W_dup B (hb hby at_17) (pc' := 18) rfl rfl ?_
      refine W_iconst B (hb hby at_18) (pc' := 19) rfl (z := (2 : Int32)) (by decide) ?_
      refine W_iloadN B (hb hby at_19) (pc' := 20) rfl rfl ?_
      refine W_callS B (y := (⟨"com/example/bucketry/bucketry/table/TableIsZeroPinLaw", "entry", "(I)D"⟩ : MethodName)) hown (ow hw (i := 1) rfl) (ow hw (i := 2) rfl) (ow hw (i := 3) rfl) (ow hw (i := 4) rfl) (by decide) (rm1 l Z a0 hw h0 a3 [(b6, oA .double [(.double (18442240474082181120 : UInt64)), (.double (18442240474082181120 : UInt64)), (.double 0), (.double 0)])]) (lenOf pd_0 rfl) (hb hby at_20) (pc' := 23) rfl (argsL := [(.int a3)]) (rest := [(.int (2 : Int32)), (.ref b6), (.ref b6)]) rfl (by rw [hml]; rfl) (W := 3) (oLe rfl) (by decide) (cells' := 1) rfl (slots' := 4) rfl ?_
      intro T v_ d_ q_ B
      rcases q_ with ⟨q16, rfl, rfl⟩ | ⟨w15, q17, q18, rfl, rfl⟩
      · show oWin p e below Z h0 _ _ (T.setTop (mkF m 23 #[.val (.int a1), .val (.int a2), .val (.int a3), .val (.int a4), .unset, .unset] [(.double (18442240474082181120 : UInt64)), (.int (2 : Int32)), (.ref b6), (.ref b6)]))
        refine W_dastore B (hb hby at_23) (pc' := 24) rfl (i := 0) rfl (by decide) (oLt rfl) (ds' := [(b6, oA .double [(.double (18442240474082181120 : UInt64)), (.double (18442240474082181120 : UInt64)), (.double (18442240474082181120 : UInt64)), (.double 0)])]) rfl ?_
        intro T B
        refine W_dup B (hb hby at_24) (pc' := 25) rfl rfl ?_
        refine W_iconst B (hb hby at_25) (pc' := 26) rfl (z := (3 : Int32)) (by decide) ?_
        refine W_iloadN B (hb hby at_26) (pc' := 27) rfl rfl ?_
        refine W_callS B (y := (⟨"com/example/bucketry/bucketry/table/TableIsZeroPinLaw", "entry", "(I)D"⟩ : MethodName)) hown (ow hw (i := 1) rfl) (ow hw (i := 2) rfl) (ow hw (i := 3) rfl) (ow hw (i := 4) rfl) (by decide) (rm1 l Z a0 hw h0 a4 [(b6, oA .double [(.double (18442240474082181120 : UInt64)), (.double (18442240474082181120 : UInt64)), (.double (18442240474082181120 : UInt64)), (.double 0)])]) (lenOf pd_0 rfl) (hb hby at_27) (pc' := 30) rfl (argsL := [(.int a4)]) (rest := [(.int (3 : Int32)), (.ref b6), (.ref b6)]) rfl (by rw [hml]; rfl) (W := 3) (oLe rfl) (by decide) (cells' := 1) rfl (slots' := 4) rfl ?_
        intro T v_ d_ q_ B
        rcases q_ with ⟨q20, rfl, rfl⟩ | ⟨w19, q21, q22, rfl, rfl⟩
        · show oWin p e below Z h0 _ _ (T.setTop (mkF m 30 #[.val (.int a1), .val (.int a2), .val (.int a3), .val (.int a4), .unset, .unset] [(.double (18442240474082181120 : UInt64)), (.int (3 : Int32)), (.ref b6), (.ref b6)]))
          refine W_dastore B (hb hby at_30) (pc' := 31) rfl (i := 0) rfl (by decide) (oLt rfl) (ds' := [(b6, oA .double [(.double (18442240474082181120 : UInt64)), (.double (18442240474082181120 : UInt64)), (.double (18442240474082181120 : UInt64)), (.double (18442240474082181120 : UInt64))])]) rfl ?_
          intro T B
          refine W_astore B (hb hby at_31) (pc' := 33) rfl rfl (ls' := #[.val (.int a1), .val (.int a2), .val (.int a3), .val (.int a4), .val (.ref b6), .unset]) rfl ?_
          refine W_new B hown (ow hw (i := 7) rfl) (ow hw (i := 8) rfl) (ow hw (i := 9) rfl) (hb hby at_33) (pc' := 36) rfl (by decide) (cells' := 2) rfl (slots' := 7) rfl (fs := [(fk0, .null), (fk1, .null), (fk2, .null)]) (oAll_cons ⟨Or.inr (ow hw (i := 18) rfl), (.array .int), by decide, rfl⟩ (oAll_cons ⟨Or.inr (ow hw (i := 20) rfl), (.array .int), by decide, rfl⟩ (oAll_cons ⟨Or.inr (ow hw (i := 22) rfl), (.array .double), by decide, rfl⟩ oAll_nil))) (by decide) ?_
          intro T b23 B
          refine W_dup B (hb hby at_36) (pc' := 37) rfl rfl ?_
          refine W_iconst B (hb hby at_37) (pc' := 38) rfl (z := (1 : Int32)) (by decide) ?_
          refine W_newarray B (ow hw (i := 10) rfl) (hb hby at_38) (pc' := 40) rfl (by decide) (cap := 1) (by decide) (by decide) (cells' := 3) rfl (slots' := 8) rfl (vs := [(.int (0 : Int32))]) rfl (ty := .int) rfl ?_
          intro T b24 B
          refine W_dup B (hb hby at_40) (pc' := 41) rfl rfl ?_
          refine W_iconst B (hb hby at_41) (pc' := 42) rfl (z := (0 : Int32)) (by decide) ?_
          refine W_iconst B (hb hby at_42) (pc' := 43) rfl (z := (0 : Int32)) (by decide) ?_
          refine W_iastore B (hb hby at_43) (pc' := 44) rfl (i := 0) rfl (by decide) (oLt rfl) (ds' := [(b24, oA .int [o0]), (b23, oO cn0 [(fk0, .null), (fk1, .null), (fk2, .null)]), (b6, oA .double [(.double (18442240474082181120 : UInt64)), (.double (18442240474082181120 : UInt64)), (.double (18442240474082181120 : UInt64)), (.double (18442240474082181120 : UInt64))])]) rfl ?_
          intro T B
          refine W_iconst B (hb hby at_44) (pc' := 45) rfl (z := (1 : Int32)) (by decide) ?_
          refine W_newarray B (ow hw (i := 10) rfl) (hb hby at_45) (pc' := 47) rfl (by decide) (cap := 1) (by decide) (by decide) (cells' := 4) rfl (slots' := 9) rfl (vs := [(.int (0 : Int32))]) rfl (ty := .int) rfl ?_
          intro T b25 B
          refine W_dup B (hb hby at_47) (pc' := 48) rfl rfl ?_
          refine W_iconst B (hb hby at_48) (pc' := 49) rfl (z := (0 : Int32)) (by decide) ?_
          refine W_iconst B (hb hby at_49) (pc' := 50) rfl (z := (4 : Int32)) (by decide) ?_
          refine W_iastore B (hb hby at_50) (pc' := 51) rfl (i := 0) rfl (by decide) (oLt rfl) (ds' := [(b25, oA .int [(.int (4 : Int32))]), (b24, oA .int [o0]), (b23, oO cn0 [(fk0, .null), (fk1, .null), (fk2, .null)]), (b6, oA .double [(.double (18442240474082181120 : UInt64)), (.double (18442240474082181120 : UInt64)), (.double (18442240474082181120 : UInt64)), (.double (18442240474082181120 : UInt64))])]) rfl ?_
          intro T B
          refine W_aload B (hb hby at_51) (pc' := 53) rfl rfl rfl ?_
          refine W_init B (y := (⟨"com/example/bucketry/bucketry/table/Table", "<init>", "([I[I[D)V"⟩ : MethodName)) hown rfl (ow hw (i := 11) rfl) (ow hw (i := 12) rfl) (ow hw (i := 9) rfl) (ow hw (i := 13) rfl) (by decide) (a := b23) (rm2 l Z a0 hw h0 b23 b24 b25 b6 (b25, oA .int [(.int (4 : Int32))]) (b24, oA .int [o0]) [(b6, oA .double [(.double (18442240474082181120 : UInt64)), (.double (18442240474082181120 : UInt64)), (.double (18442240474082181120 : UInt64)), (.double (18442240474082181120 : UInt64))])]) (lenOf pd_1 rfl) (hb hby at_53) (pc' := 56) rfl (argsL := [(.ref b24), (.ref b25), (.ref b6)]) (rest := [(.ref b23)]) rfl (by rw [hml]; rfl) (W := 1) (oLe rfl) (by decide) (cells' := 4) rfl (slots' := 9) rfl ?_
          intro T v_ d_ q_ B
          obtain ⟨rfl, rfl⟩ := q_
          show oWin p e below Z h0 _ _ (T.setTop (mkF m 56 #[.val (.int a1), .val (.int a2), .val (.int a3), .val (.int a4), .val (.ref b6), .unset] [(.ref b23)]))
          refine W_astore B (hb hby at_56) (pc' := 58) rfl rfl (ls' := #[.val (.int a1), .val (.int a2), .val (.int a3), .val (.int a4), .val (.ref b6), .val (.ref b23)]) rfl ?_
          refine W_aload B (hb hby at_58) (pc' := 60) rfl rfl rfl ?_
          refine W_iconst B (hb hby at_60) (pc' := 61) rfl (z := (0 : Int32)) (by decide) ?_
          refine W_virtual B (y := (⟨"com/example/bucketry/bucketry/table/Table", "isZero", "(I)Z"⟩ : MethodName)) (z := (⟨"com/example/bucketry/bucketry/table/Table", "isZero", "(I)Z"⟩ : MethodName)) hown (ow hw (i := 23) rfl) (ow hw (i := 24) rfl) (oNotFace B (ow hw (i := 26) rfl) rfl) (ow hw (i := 26) rfl) (ow hw (i := 25) rfl) (ow hw (i := 9) rfl) (ow hw (i := 27) rfl) (by decide) (a := b23) (rm4_inf l Z a0 hw h0 b23 (0 : Int32) b24 b25 b6 [(.double (18442240474082181120 : UInt64)), (.double (18442240474082181120 : UInt64)), (.double (18442240474082181120 : UInt64)), (.double (18442240474082181120 : UInt64))] (b25, oA .int [(.int (4 : Int32))]) (b24, oA .int [o0]) [] (by decide) rfl) (lenOf pd_2 rfl) (hb hby at_61) (pc' := 64) rfl (argsL := [(.int (0 : Int32))]) (rest := []) rfl (by rw [hml]; rfl) (W := 0) (oLe rfl) (j := 2) rfl (by decide) (cells' := 4) rfl (slots' := 9) rfl ?_
          intro T v_ d_ q_ B
          obtain ⟨rfl, rfl⟩ := q_
          show oWin p e below Z h0 _ _ (T.setTop (mkF m 64 #[.val (.int a1), .val (.int a2), .val (.int a3), .val (.int a4), .val (.ref b6), .val (.ref b23)] [(.int (1 : Int32))]))
          refine W_iloadN B (hb hby at_64) (pc' := 65) rfl rfl ?_
          refine W_callS B (y := (⟨"com/example/bucketry/bucketry/table/TableIsZeroPinLaw", "zero", "(I)Z"⟩ : MethodName)) hown (ow hw (i := 29) rfl) (ow hw (i := 30) rfl) (ow hw (i := 3) rfl) (ow hw (i := 31) rfl) (by decide) (rm5 l Z a0 hw h0 a1 [(b25, oA .int [(.int (4 : Int32))]), (b24, oA .int [o0]), (b23, oO cn0 [(fk0, (.ref b24)), (fk1, (.ref b25)), (fk2, (.ref b6))]), (b6, oA .double [(.double (18442240474082181120 : UInt64)), (.double (18442240474082181120 : UInt64)), (.double (18442240474082181120 : UInt64)), (.double (18442240474082181120 : UInt64))])]) (lenOf pd_2 rfl) (hb hby at_65) (pc' := 68) rfl (argsL := [(.int a1)]) (rest := [(.int (1 : Int32))]) rfl (by rw [hml]; rfl) (W := 1) (oLe rfl) (by decide) (cells' := 4) rfl (slots' := 9) rfl ?_
          intro T v_ d_ q_ B
          rcases q_ with ⟨q26, rfl, rfl⟩ | ⟨q27, rfl, rfl⟩
          · show oWin p e below Z h0 _ _ (T.setTop (mkF m 68 #[.val (.int a1), .val (.int a2), .val (.int a3), .val (.int a4), .val (.ref b6), .val (.ref b23)] [(.int (1 : Int32)), (.int (1 : Int32))]))
            refine W_icmpN B (hb hby at_68) (pc' := 71) rfl (by decide) ?_
            refine W_aload B (hb hby at_71) (pc' := 73) rfl rfl rfl ?_
            refine W_iconst B (hb hby at_73) (pc' := 74) rfl (z := (1 : Int32)) (by decide) ?_
            refine W_virtual B (y := (⟨"com/example/bucketry/bucketry/table/Table", "isZero", "(I)Z"⟩ : MethodName)) (z := (⟨"com/example/bucketry/bucketry/table/Table", "isZero", "(I)Z"⟩ : MethodName)) hown (ow hw (i := 23) rfl) (ow hw (i := 24) rfl) (oNotFace B (ow hw (i := 26) rfl) rfl) (ow hw (i := 26) rfl) (ow hw (i := 25) rfl) (ow hw (i := 9) rfl) (ow hw (i := 27) rfl) (by decide) (a := b23) (rm4_inf l Z a0 hw h0 b23 (1 : Int32) b24 b25 b6 [(.double (18442240474082181120 : UInt64)), (.double (18442240474082181120 : UInt64)), (.double (18442240474082181120 : UInt64)), (.double (18442240474082181120 : UInt64))] (b25, oA .int [(.int (4 : Int32))]) (b24, oA .int [o0]) [] (by decide) rfl) (lenOf pd_2 rfl) (hb hby at_74) (pc' := 77) rfl (argsL := [(.int (1 : Int32))]) (rest := []) rfl (by rw [hml]; rfl) (W := 0) (oLe rfl) (j := 2) rfl (by decide) (cells' := 4) rfl (slots' := 9) rfl ?_
            intro T v_ d_ q_ B
            obtain ⟨rfl, rfl⟩ := q_
            show oWin p e below Z h0 _ _ (T.setTop (mkF m 77 #[.val (.int a1), .val (.int a2), .val (.int a3), .val (.int a4), .val (.ref b6), .val (.ref b23)] [(.int (1 : Int32))]))
            refine W_iloadN B (hb hby at_77) (pc' := 78) rfl rfl ?_
            refine W_callS B (y := (⟨"com/example/bucketry/bucketry/table/TableIsZeroPinLaw", "zero", "(I)Z"⟩ : MethodName)) hown (ow hw (i := 29) rfl) (ow hw (i := 30) rfl) (ow hw (i := 3) rfl) (ow hw (i := 31) rfl) (by decide) (rm5 l Z a0 hw h0 a2 [(b25, oA .int [(.int (4 : Int32))]), (b24, oA .int [o0]), (b23, oO cn0 [(fk0, (.ref b24)), (fk1, (.ref b25)), (fk2, (.ref b6))]), (b6, oA .double [(.double (18442240474082181120 : UInt64)), (.double (18442240474082181120 : UInt64)), (.double (18442240474082181120 : UInt64)), (.double (18442240474082181120 : UInt64))])]) (lenOf pd_2 rfl) (hb hby at_78) (pc' := 81) rfl (argsL := [(.int a2)]) (rest := [(.int (1 : Int32))]) rfl (by rw [hml]; rfl) (W := 1) (oLe rfl) (by decide) (cells' := 4) rfl (slots' := 9) rfl ?_
            intro T v_ d_ q_ B
            rcases q_ with ⟨q28, rfl, rfl⟩ | ⟨q29, rfl, rfl⟩
            · show oWin p e below Z h0 _ _ (T.setTop (mkF m 81 #[.val (.int a1), .val (.int a2), .val (.int a3), .val (.int a4), .val (.ref b6), .val (.ref b23)] [(.int (1 : Int32)), (.int (1 : Int32))]))
              refine W_icmpN B (hb hby at_81) (pc' := 84) rfl (by decide) ?_
              refine W_aload B (hb hby at_84) (pc' := 86) rfl rfl rfl ?_
              refine W_iconst B (hb hby at_86) (pc' := 87) rfl (z := (2 : Int32)) (by decide) ?_
              refine W_virtual B (y := (⟨"com/example/bucketry/bucketry/table/Table", "isZero", "(I)Z"⟩ : MethodName)) (z := (⟨"com/example/bucketry/bucketry/table/Table", "isZero", "(I)Z"⟩ : MethodName)) hown (ow hw (i := 23) rfl) (ow hw (i := 24) rfl) (oNotFace B (ow hw (i := 26) rfl) rfl) (ow hw (i := 26) rfl) (ow hw (i := 25) rfl) (ow hw (i := 9) rfl) (ow hw (i := 27) rfl) (by decide) (a := b23) (rm4_inf l Z a0 hw h0 b23 (2 : Int32) b24 b25 b6 [(.double (18442240474082181120 : UInt64)), (.double (18442240474082181120 : UInt64)), (.double (18442240474082181120 : UInt64)), (.double (18442240474082181120 : UInt64))] (b25, oA .int [(.int (4 : Int32))]) (b24, oA .int [o0]) [] (by decide) rfl) (lenOf pd_2 rfl) (hb hby at_87) (pc' := 90) rfl (argsL := [(.int (2 : Int32))]) (rest := []) rfl (by rw [hml]; rfl) (W := 0) (oLe rfl) (j := 2) rfl (by decide) (cells' := 4) rfl (slots' := 9) rfl ?_
              intro T v_ d_ q_ B
              obtain ⟨rfl, rfl⟩ := q_
              show oWin p e below Z h0 _ _ (T.setTop (mkF m 90 #[.val (.int a1), .val (.int a2), .val (.int a3), .val (.int a4), .val (.ref b6), .val (.ref b23)] [(.int (1 : Int32))]))
              refine W_iloadN B (hb hby at_90) (pc' := 91) rfl rfl ?_
              refine W_callS B (y := (⟨"com/example/bucketry/bucketry/table/TableIsZeroPinLaw", "zero", "(I)Z"⟩ : MethodName)) hown (ow hw (i := 29) rfl) (ow hw (i := 30) rfl) (ow hw (i := 3) rfl) (ow hw (i := 31) rfl) (by decide) (rm5 l Z a0 hw h0 a3 [(b25, oA .int [(.int (4 : Int32))]), (b24, oA .int [o0]), (b23, oO cn0 [(fk0, (.ref b24)), (fk1, (.ref b25)), (fk2, (.ref b6))]), (b6, oA .double [(.double (18442240474082181120 : UInt64)), (.double (18442240474082181120 : UInt64)), (.double (18442240474082181120 : UInt64)), (.double (18442240474082181120 : UInt64))])]) (lenOf pd_2 rfl) (hb hby at_91) (pc' := 94) rfl (argsL := [(.int a3)]) (rest := [(.int (1 : Int32))]) rfl (by rw [hml]; rfl) (W := 1) (oLe rfl) (by decide) (cells' := 4) rfl (slots' := 9) rfl ?_
              intro T v_ d_ q_ B
              rcases q_ with ⟨q30, rfl, rfl⟩ | ⟨q31, rfl, rfl⟩
              · show oWin p e below Z h0 _ _ (T.setTop (mkF m 94 #[.val (.int a1), .val (.int a2), .val (.int a3), .val (.int a4), .val (.ref b6), .val (.ref b23)] [(.int (1 : Int32)), (.int (1 : Int32))]))
                refine W_icmpN B (hb hby at_94) (pc' := 97) rfl (by decide) ?_
                refine W_aload B (hb hby at_97) (pc' := 99) rfl rfl rfl ?_
                refine W_iconst B (hb hby at_99) (pc' := 100) rfl (z := (3 : Int32)) (by decide) ?_
                refine W_virtual B (y := (⟨"com/example/bucketry/bucketry/table/Table", "isZero", "(I)Z"⟩ : MethodName)) (z := (⟨"com/example/bucketry/bucketry/table/Table", "isZero", "(I)Z"⟩ : MethodName)) hown (ow hw (i := 23) rfl) (ow hw (i := 24) rfl) (oNotFace B (ow hw (i := 26) rfl) rfl) (ow hw (i := 26) rfl) (ow hw (i := 25) rfl) (ow hw (i := 9) rfl) (ow hw (i := 27) rfl) (by decide) (a := b23) (rm4_inf l Z a0 hw h0 b23 (3 : Int32) b24 b25 b6 [(.double (18442240474082181120 : UInt64)), (.double (18442240474082181120 : UInt64)), (.double (18442240474082181120 : UInt64)), (.double (18442240474082181120 : UInt64))] (b25, oA .int [(.int (4 : Int32))]) (b24, oA .int [o0]) [] (by decide) rfl) (lenOf pd_2 rfl) (hb hby at_100) (pc' := 103) rfl (argsL := [(.int (3 : Int32))]) (rest := []) rfl (by rw [hml]; rfl) (W := 0) (oLe rfl) (j := 2) rfl (by decide) (cells' := 4) rfl (slots' := 9) rfl ?_
                intro T v_ d_ q_ B
                obtain ⟨rfl, rfl⟩ := q_
                show oWin p e below Z h0 _ _ (T.setTop (mkF m 103 #[.val (.int a1), .val (.int a2), .val (.int a3), .val (.int a4), .val (.ref b6), .val (.ref b23)] [(.int (1 : Int32))]))
                refine W_iloadN B (hb hby at_103) (pc' := 104) rfl rfl ?_
                refine W_callS B (y := (⟨"com/example/bucketry/bucketry/table/TableIsZeroPinLaw", "zero", "(I)Z"⟩ : MethodName)) hown (ow hw (i := 29) rfl) (ow hw (i := 30) rfl) (ow hw (i := 3) rfl) (ow hw (i := 31) rfl) (by decide) (rm5 l Z a0 hw h0 a4 [(b25, oA .int [(.int (4 : Int32))]), (b24, oA .int [o0]), (b23, oO cn0 [(fk0, (.ref b24)), (fk1, (.ref b25)), (fk2, (.ref b6))]), (b6, oA .double [(.double (18442240474082181120 : UInt64)), (.double (18442240474082181120 : UInt64)), (.double (18442240474082181120 : UInt64)), (.double (18442240474082181120 : UInt64))])]) (lenOf pd_2 rfl) (hb hby at_104) (pc' := 107) rfl (argsL := [(.int a4)]) (rest := [(.int (1 : Int32))]) rfl (by rw [hml]; rfl) (W := 1) (oLe rfl) (by decide) (cells' := 4) rfl (slots' := 9) rfl ?_
                intro T v_ d_ q_ B
                rcases q_ with ⟨q32, rfl, rfl⟩ | ⟨q33, rfl, rfl⟩
                · show oWin p e below Z h0 _ _ (T.setTop (mkF m 107 #[.val (.int a1), .val (.int a2), .val (.int a3), .val (.int a4), .val (.ref b6), .val (.ref b23)] [(.int (1 : Int32)), (.int (1 : Int32))]))
                  refine W_icmpN B (hb hby at_107) (pc' := 110) rfl (by decide) ?_
                  refine W_iconst B (hb hby at_110) (pc' := 111) rfl (z := (1 : Int32)) (by decide) ?_
                  refine W_goto B (hb hby at_111) (by decide) (pc' := 115) (by decide) ?_
                  refine W_retN B hret (by simp) (hb hby at_115) (by decide) ?_
                  rfl
                show oWin p e below Z h0 _ _ (T.setTop (mkF m 107 #[.val (.int a1), .val (.int a2), .val (.int a3), .val (.int a4), .val (.ref b6), .val (.ref b23)] [(.int (0 : Int32)), (.int (1 : Int32))]))
                exact absurd q20 q33
              show oWin p e below Z h0 _ _ (T.setTop (mkF m 94 #[.val (.int a1), .val (.int a2), .val (.int a3), .val (.int a4), .val (.ref b6), .val (.ref b23)] [(.int (0 : Int32)), (.int (1 : Int32))]))
              exact absurd q16 q31
            show oWin p e below Z h0 _ _ (T.setTop (mkF m 81 #[.val (.int a1), .val (.int a2), .val (.int a3), .val (.int a4), .val (.ref b6), .val (.ref b23)] [(.int (0 : Int32)), (.int (1 : Int32))]))
            exact absurd q12 q29
          show oWin p e below Z h0 _ _ (T.setTop (mkF m 68 #[.val (.int a1), .val (.int a2), .val (.int a3), .val (.int a4), .val (.ref b6), .val (.ref b23)] [(.int (0 : Int32)), (.int (1 : Int32))]))
          exact absurd q8 q27
        show oWin p e below Z h0 _ _ (T.setTop (mkF m 30 #[.val (.int a1), .val (.int a2), .val (.int a3), .val (.int a4), .unset, .unset] [(.double w19), (.int (3 : Int32)), (.ref b6), (.ref b6)]))
        refine W_dastore B (hb hby at_30) (pc' := 31) rfl (i := 0) rfl (by decide) (oLt rfl) (ds' := [(b6, oA .double [(.double (18442240474082181120 : UInt64)), (.double (18442240474082181120 : UInt64)), (.double (18442240474082181120 : UInt64)), (.double w19)])]) rfl ?_
        intro T B
        refine W_astore B (hb hby at_31) (pc' := 33) rfl rfl (ls' := #[.val (.int a1), .val (.int a2), .val (.int a3), .val (.int a4), .val (.ref b6), .unset]) rfl ?_
        refine W_new B hown (ow hw (i := 7) rfl) (ow hw (i := 8) rfl) (ow hw (i := 9) rfl) (hb hby at_33) (pc' := 36) rfl (by decide) (cells' := 2) rfl (slots' := 7) rfl (fs := [(fk0, .null), (fk1, .null), (fk2, .null)]) (oAll_cons ⟨Or.inr (ow hw (i := 18) rfl), (.array .int), by decide, rfl⟩ (oAll_cons ⟨Or.inr (ow hw (i := 20) rfl), (.array .int), by decide, rfl⟩ (oAll_cons ⟨Or.inr (ow hw (i := 22) rfl), (.array .double), by decide, rfl⟩ oAll_nil))) (by decide) ?_
        intro T b34 B
        refine W_dup B (hb hby at_36) (pc' := 37) rfl rfl ?_
        refine W_iconst B (hb hby at_37) (pc' := 38) rfl (z := (1 : Int32)) (by decide) ?_
        refine W_newarray B (ow hw (i := 10) rfl) (hb hby at_38) (pc' := 40) rfl (by decide) (cap := 1) (by decide) (by decide) (cells' := 3) rfl (slots' := 8) rfl (vs := [(.int (0 : Int32))]) rfl (ty := .int) rfl ?_
        intro T b35 B
        refine W_dup B (hb hby at_40) (pc' := 41) rfl rfl ?_
        refine W_iconst B (hb hby at_41) (pc' := 42) rfl (z := (0 : Int32)) (by decide) ?_
        refine W_iconst B (hb hby at_42) (pc' := 43) rfl (z := (0 : Int32)) (by decide) ?_
        refine W_iastore B (hb hby at_43) (pc' := 44) rfl (i := 0) rfl (by decide) (oLt rfl) (ds' := [(b35, oA .int [o0]), (b34, oO cn0 [(fk0, .null), (fk1, .null), (fk2, .null)]), (b6, oA .double [(.double (18442240474082181120 : UInt64)), (.double (18442240474082181120 : UInt64)), (.double (18442240474082181120 : UInt64)), (.double w19)])]) rfl ?_
        intro T B
        refine W_iconst B (hb hby at_44) (pc' := 45) rfl (z := (1 : Int32)) (by decide) ?_
        refine W_newarray B (ow hw (i := 10) rfl) (hb hby at_45) (pc' := 47) rfl (by decide) (cap := 1) (by decide) (by decide) (cells' := 4) rfl (slots' := 9) rfl (vs := [(.int (0 : Int32))]) rfl (ty := .int) rfl ?_
        intro T b36 B
        refine W_dup B (hb hby at_47) (pc' := 48) rfl rfl ?_
        refine W_iconst B (hb hby at_48) (pc' := 49) rfl (z := (0 : Int32)) (by decide) ?_
        refine W_iconst B (hb hby at_49) (pc' := 50) rfl (z := (4 : Int32)) (by decide) ?_
        refine W_iastore B (hb hby at_50) (pc' := 51) rfl (i := 0) rfl (by decide) (oLt rfl) (ds' := [(b36, oA .int [(.int (4 : Int32))]), (b35, oA .int [o0]), (b34, oO cn0 [(fk0, .null), (fk1, .null), (fk2, .null)]), (b6, oA .double [(.double (18442240474082181120 : UInt64)), (.double (18442240474082181120 : UInt64)), (.double (18442240474082181120 : UInt64)), (.double w19)])]) rfl ?_
        intro T B
        refine W_aload B (hb hby at_51) (pc' := 53) rfl rfl rfl ?_
        refine W_init B (y := (⟨"com/example/bucketry/bucketry/table/Table", "<init>", "([I[I[D)V"⟩ : MethodName)) hown rfl (ow hw (i := 11) rfl) (ow hw (i := 12) rfl) (ow hw (i := 9) rfl) (ow hw (i := 13) rfl) (by decide) (a := b34) (rm2 l Z a0 hw h0 b34 b35 b36 b6 (b36, oA .int [(.int (4 : Int32))]) (b35, oA .int [o0]) [(b6, oA .double [(.double (18442240474082181120 : UInt64)), (.double (18442240474082181120 : UInt64)), (.double (18442240474082181120 : UInt64)), (.double w19)])]) (lenOf pd_1 rfl) (hb hby at_53) (pc' := 56) rfl (argsL := [(.ref b35), (.ref b36), (.ref b6)]) (rest := [(.ref b34)]) rfl (by rw [hml]; rfl) (W := 1) (oLe rfl) (by decide) (cells' := 4) rfl (slots' := 9) rfl ?_
        intro T v_ d_ q_ B
        obtain ⟨rfl, rfl⟩ := q_
        show oWin p e below Z h0 _ _ (T.setTop (mkF m 56 #[.val (.int a1), .val (.int a2), .val (.int a3), .val (.int a4), .val (.ref b6), .unset] [(.ref b34)]))
        refine W_astore B (hb hby at_56) (pc' := 58) rfl rfl (ls' := #[.val (.int a1), .val (.int a2), .val (.int a3), .val (.int a4), .val (.ref b6), .val (.ref b34)]) rfl ?_
        refine W_aload B (hb hby at_58) (pc' := 60) rfl rfl rfl ?_
        refine W_iconst B (hb hby at_60) (pc' := 61) rfl (z := (0 : Int32)) (by decide) ?_
        refine W_virtual B (y := (⟨"com/example/bucketry/bucketry/table/Table", "isZero", "(I)Z"⟩ : MethodName)) (z := (⟨"com/example/bucketry/bucketry/table/Table", "isZero", "(I)Z"⟩ : MethodName)) hown (ow hw (i := 23) rfl) (ow hw (i := 24) rfl) (oNotFace B (ow hw (i := 26) rfl) rfl) (ow hw (i := 26) rfl) (ow hw (i := 25) rfl) (ow hw (i := 9) rfl) (ow hw (i := 27) rfl) (by decide) (a := b34) (rm4_inf l Z a0 hw h0 b34 (0 : Int32) b35 b36 b6 [(.double (18442240474082181120 : UInt64)), (.double (18442240474082181120 : UInt64)), (.double (18442240474082181120 : UInt64)), (.double w19)] (b36, oA .int [(.int (4 : Int32))]) (b35, oA .int [o0]) [] (by decide) rfl) (lenOf pd_2 rfl) (hb hby at_61) (pc' := 64) rfl (argsL := [(.int (0 : Int32))]) (rest := []) rfl (by rw [hml]; rfl) (W := 0) (oLe rfl) (j := 2) rfl (by decide) (cells' := 4) rfl (slots' := 9) rfl ?_
        intro T v_ d_ q_ B
        obtain ⟨rfl, rfl⟩ := q_
        show oWin p e below Z h0 _ _ (T.setTop (mkF m 64 #[.val (.int a1), .val (.int a2), .val (.int a3), .val (.int a4), .val (.ref b6), .val (.ref b34)] [(.int (1 : Int32))]))
        refine W_iloadN B (hb hby at_64) (pc' := 65) rfl rfl ?_
        refine W_callS B (y := (⟨"com/example/bucketry/bucketry/table/TableIsZeroPinLaw", "zero", "(I)Z"⟩ : MethodName)) hown (ow hw (i := 29) rfl) (ow hw (i := 30) rfl) (ow hw (i := 3) rfl) (ow hw (i := 31) rfl) (by decide) (rm5 l Z a0 hw h0 a1 [(b36, oA .int [(.int (4 : Int32))]), (b35, oA .int [o0]), (b34, oO cn0 [(fk0, (.ref b35)), (fk1, (.ref b36)), (fk2, (.ref b6))]), (b6, oA .double [(.double (18442240474082181120 : UInt64)), (.double (18442240474082181120 : UInt64)), (.double (18442240474082181120 : UInt64)), (.double w19)])]) (lenOf pd_2 rfl) (hb hby at_65) (pc' := 68) rfl (argsL := [(.int a1)]) (rest := [(.int (1 : Int32))]) rfl (by rw [hml]; rfl) (W := 1) (oLe rfl) (by decide) (cells' := 4) rfl (slots' := 9) rfl ?_
        intro T v_ d_ q_ B
        rcases q_ with ⟨q37, rfl, rfl⟩ | ⟨q38, rfl, rfl⟩
        · show oWin p e below Z h0 _ _ (T.setTop (mkF m 68 #[.val (.int a1), .val (.int a2), .val (.int a3), .val (.int a4), .val (.ref b6), .val (.ref b34)] [(.int (1 : Int32)), (.int (1 : Int32))]))
          refine W_icmpN B (hb hby at_68) (pc' := 71) rfl (by decide) ?_
          refine W_aload B (hb hby at_71) (pc' := 73) rfl rfl rfl ?_
          refine W_iconst B (hb hby at_73) (pc' := 74) rfl (z := (1 : Int32)) (by decide) ?_
          refine W_virtual B (y := (⟨"com/example/bucketry/bucketry/table/Table", "isZero", "(I)Z"⟩ : MethodName)) (z := (⟨"com/example/bucketry/bucketry/table/Table", "isZero", "(I)Z"⟩ : MethodName)) hown (ow hw (i := 23) rfl) (ow hw (i := 24) rfl) (oNotFace B (ow hw (i := 26) rfl) rfl) (ow hw (i := 26) rfl) (ow hw (i := 25) rfl) (ow hw (i := 9) rfl) (ow hw (i := 27) rfl) (by decide) (a := b34) (rm4_inf l Z a0 hw h0 b34 (1 : Int32) b35 b36 b6 [(.double (18442240474082181120 : UInt64)), (.double (18442240474082181120 : UInt64)), (.double (18442240474082181120 : UInt64)), (.double w19)] (b36, oA .int [(.int (4 : Int32))]) (b35, oA .int [o0]) [] (by decide) rfl) (lenOf pd_2 rfl) (hb hby at_74) (pc' := 77) rfl (argsL := [(.int (1 : Int32))]) (rest := []) rfl (by rw [hml]; rfl) (W := 0) (oLe rfl) (j := 2) rfl (by decide) (cells' := 4) rfl (slots' := 9) rfl ?_
          intro T v_ d_ q_ B
          obtain ⟨rfl, rfl⟩ := q_
          show oWin p e below Z h0 _ _ (T.setTop (mkF m 77 #[.val (.int a1), .val (.int a2), .val (.int a3), .val (.int a4), .val (.ref b6), .val (.ref b34)] [(.int (1 : Int32))]))
          refine W_iloadN B (hb hby at_77) (pc' := 78) rfl rfl ?_
          refine W_callS B (y := (⟨"com/example/bucketry/bucketry/table/TableIsZeroPinLaw", "zero", "(I)Z"⟩ : MethodName)) hown (ow hw (i := 29) rfl) (ow hw (i := 30) rfl) (ow hw (i := 3) rfl) (ow hw (i := 31) rfl) (by decide) (rm5 l Z a0 hw h0 a2 [(b36, oA .int [(.int (4 : Int32))]), (b35, oA .int [o0]), (b34, oO cn0 [(fk0, (.ref b35)), (fk1, (.ref b36)), (fk2, (.ref b6))]), (b6, oA .double [(.double (18442240474082181120 : UInt64)), (.double (18442240474082181120 : UInt64)), (.double (18442240474082181120 : UInt64)), (.double w19)])]) (lenOf pd_2 rfl) (hb hby at_78) (pc' := 81) rfl (argsL := [(.int a2)]) (rest := [(.int (1 : Int32))]) rfl (by rw [hml]; rfl) (W := 1) (oLe rfl) (by decide) (cells' := 4) rfl (slots' := 9) rfl ?_
          intro T v_ d_ q_ B
          rcases q_ with ⟨q39, rfl, rfl⟩ | ⟨q40, rfl, rfl⟩
          · show oWin p e below Z h0 _ _ (T.setTop (mkF m 81 #[.val (.int a1), .val (.int a2), .val (.int a3), .val (.int a4), .val (.ref b6), .val (.ref b34)] [(.int (1 : Int32)), (.int (1 : Int32))]))
            refine W_icmpN B (hb hby at_81) (pc' := 84) rfl (by decide) ?_
            refine W_aload B (hb hby at_84) (pc' := 86) rfl rfl rfl ?_
            refine W_iconst B (hb hby at_86) (pc' := 87) rfl (z := (2 : Int32)) (by decide) ?_
            refine W_virtual B (y := (⟨"com/example/bucketry/bucketry/table/Table", "isZero", "(I)Z"⟩ : MethodName)) (z := (⟨"com/example/bucketry/bucketry/table/Table", "isZero", "(I)Z"⟩ : MethodName)) hown (ow hw (i := 23) rfl) (ow hw (i := 24) rfl) (oNotFace B (ow hw (i := 26) rfl) rfl) (ow hw (i := 26) rfl) (ow hw (i := 25) rfl) (ow hw (i := 9) rfl) (ow hw (i := 27) rfl) (by decide) (a := b34) (rm4_inf l Z a0 hw h0 b34 (2 : Int32) b35 b36 b6 [(.double (18442240474082181120 : UInt64)), (.double (18442240474082181120 : UInt64)), (.double (18442240474082181120 : UInt64)), (.double w19)] (b36, oA .int [(.int (4 : Int32))]) (b35, oA .int [o0]) [] (by decide) rfl) (lenOf pd_2 rfl) (hb hby at_87) (pc' := 90) rfl (argsL := [(.int (2 : Int32))]) (rest := []) rfl (by rw [hml]; rfl) (W := 0) (oLe rfl) (j := 2) rfl (by decide) (cells' := 4) rfl (slots' := 9) rfl ?_
            intro T v_ d_ q_ B
            obtain ⟨rfl, rfl⟩ := q_
            show oWin p e below Z h0 _ _ (T.setTop (mkF m 90 #[.val (.int a1), .val (.int a2), .val (.int a3), .val (.int a4), .val (.ref b6), .val (.ref b34)] [(.int (1 : Int32))]))
            refine W_iloadN B (hb hby at_90) (pc' := 91) rfl rfl ?_
            refine W_callS B (y := (⟨"com/example/bucketry/bucketry/table/TableIsZeroPinLaw", "zero", "(I)Z"⟩ : MethodName)) hown (ow hw (i := 29) rfl) (ow hw (i := 30) rfl) (ow hw (i := 3) rfl) (ow hw (i := 31) rfl) (by decide) (rm5 l Z a0 hw h0 a3 [(b36, oA .int [(.int (4 : Int32))]), (b35, oA .int [o0]), (b34, oO cn0 [(fk0, (.ref b35)), (fk1, (.ref b36)), (fk2, (.ref b6))]), (b6, oA .double [(.double (18442240474082181120 : UInt64)), (.double (18442240474082181120 : UInt64)), (.double (18442240474082181120 : UInt64)), (.double w19)])]) (lenOf pd_2 rfl) (hb hby at_91) (pc' := 94) rfl (argsL := [(.int a3)]) (rest := [(.int (1 : Int32))]) rfl (by rw [hml]; rfl) (W := 1) (oLe rfl) (by decide) (cells' := 4) rfl (slots' := 9) rfl ?_
            intro T v_ d_ q_ B
            rcases q_ with ⟨q41, rfl, rfl⟩ | ⟨q42, rfl, rfl⟩
            · show oWin p e below Z h0 _ _ (T.setTop (mkF m 94 #[.val (.int a1), .val (.int a2), .val (.int a3), .val (.int a4), .val (.ref b6), .val (.ref b34)] [(.int (1 : Int32)), (.int (1 : Int32))]))
              refine W_icmpN B (hb hby at_94) (pc' := 97) rfl (by decide) ?_
              refine W_aload B (hb hby at_97) (pc' := 99) rfl rfl rfl ?_
              refine W_iconst B (hb hby at_99) (pc' := 100) rfl (z := (3 : Int32)) (by decide) ?_
              refine W_virtual B (y := (⟨"com/example/bucketry/bucketry/table/Table", "isZero", "(I)Z"⟩ : MethodName)) (z := (⟨"com/example/bucketry/bucketry/table/Table", "isZero", "(I)Z"⟩ : MethodName)) hown (ow hw (i := 23) rfl) (ow hw (i := 24) rfl) (oNotFace B (ow hw (i := 26) rfl) rfl) (ow hw (i := 26) rfl) (ow hw (i := 25) rfl) (ow hw (i := 9) rfl) (ow hw (i := 27) rfl) (by decide) (a := b34) (rm4_fin l Z a0 hw h0 b34 (3 : Int32) b35 b36 b6 [(.double (18442240474082181120 : UInt64)), (.double (18442240474082181120 : UInt64)), (.double (18442240474082181120 : UInt64)), (.double w19)] w19 (b36, oA .int [(.int (4 : Int32))]) (b35, oA .int [o0]) [] (by decide) rfl q22) (lenOf pd_2 rfl) (hb hby at_100) (pc' := 103) rfl (argsL := [(.int (3 : Int32))]) (rest := []) rfl (by rw [hml]; rfl) (W := 0) (oLe rfl) (j := 2) rfl (by decide) (cells' := 4) rfl (slots' := 9) rfl ?_
              intro T v_ d_ q_ B
              obtain ⟨rfl, rfl⟩ := q_
              show oWin p e below Z h0 _ _ (T.setTop (mkF m 103 #[.val (.int a1), .val (.int a2), .val (.int a3), .val (.int a4), .val (.ref b6), .val (.ref b34)] [(.int (0 : Int32))]))
              refine W_iloadN B (hb hby at_103) (pc' := 104) rfl rfl ?_
              refine W_callS B (y := (⟨"com/example/bucketry/bucketry/table/TableIsZeroPinLaw", "zero", "(I)Z"⟩ : MethodName)) hown (ow hw (i := 29) rfl) (ow hw (i := 30) rfl) (ow hw (i := 3) rfl) (ow hw (i := 31) rfl) (by decide) (rm5 l Z a0 hw h0 a4 [(b36, oA .int [(.int (4 : Int32))]), (b35, oA .int [o0]), (b34, oO cn0 [(fk0, (.ref b35)), (fk1, (.ref b36)), (fk2, (.ref b6))]), (b6, oA .double [(.double (18442240474082181120 : UInt64)), (.double (18442240474082181120 : UInt64)), (.double (18442240474082181120 : UInt64)), (.double w19)])]) (lenOf pd_2 rfl) (hb hby at_104) (pc' := 107) rfl (argsL := [(.int a4)]) (rest := [(.int (0 : Int32))]) rfl (by rw [hml]; rfl) (W := 1) (oLe rfl) (by decide) (cells' := 4) rfl (slots' := 9) rfl ?_
              intro T v_ d_ q_ B
              rcases q_ with ⟨q43, rfl, rfl⟩ | ⟨q44, rfl, rfl⟩
              · show oWin p e below Z h0 _ _ (T.setTop (mkF m 107 #[.val (.int a1), .val (.int a2), .val (.int a3), .val (.int a4), .val (.ref b6), .val (.ref b34)] [(.int (1 : Int32)), (.int (0 : Int32))]))
                exact absurd q43 q21
              show oWin p e below Z h0 _ _ (T.setTop (mkF m 107 #[.val (.int a1), .val (.int a2), .val (.int a3), .val (.int a4), .val (.ref b6), .val (.ref b34)] [(.int (0 : Int32)), (.int (0 : Int32))]))
              refine W_icmpN B (hb hby at_107) (pc' := 110) rfl (by decide) ?_
              refine W_iconst B (hb hby at_110) (pc' := 111) rfl (z := (1 : Int32)) (by decide) ?_
              refine W_goto B (hb hby at_111) (by decide) (pc' := 115) (by decide) ?_
              refine W_retN B hret (by simp) (hb hby at_115) (by decide) ?_
              rfl
            show oWin p e below Z h0 _ _ (T.setTop (mkF m 94 #[.val (.int a1), .val (.int a2), .val (.int a3), .val (.int a4), .val (.ref b6), .val (.ref b34)] [(.int (0 : Int32)), (.int (1 : Int32))]))
            exact absurd q16 q42
          show oWin p e below Z h0 _ _ (T.setTop (mkF m 81 #[.val (.int a1), .val (.int a2), .val (.int a3), .val (.int a4), .val (.ref b6), .val (.ref b34)] [(.int (0 : Int32)), (.int (1 : Int32))]))
          exact absurd q12 q40
        show oWin p e below Z h0 _ _ (T.setTop (mkF m 68 #[.val (.int a1), .val (.int a2), .val (.int a3), .val (.int a4), .val (.ref b6), .val (.ref b34)] [(.int (0 : Int32)), (.int (1 : Int32))]))
        exact absurd q8 q38
      show oWin p e below Z h0 _ _ (T.setTop (mkF m 23 #[.val (.int a1), .val (.int a2), .val (.int a3), .val (.int a4), .unset, .unset] [(.double w15), (.int (2 : Int32)), (.ref b6), (.ref b6)]))
      refine W_dastore B (hb hby at_23) (pc' := 24) rfl (i := 0) rfl (by decide) (oLt rfl) (ds' := [(b6, oA .double [(.double (18442240474082181120 : UInt64)), (.double (18442240474082181120 : UInt64)), (.double w15), (.double 0)])]) rfl ?_
      intro T B
      refine W_dup B (hb hby at_24) (pc' := 25) rfl rfl ?_
      refine W_iconst B (hb hby at_25) (pc' := 26) rfl (z := (3 : Int32)) (by decide) ?_
      refine W_iloadN B (hb hby at_26) (pc' := 27) rfl rfl ?_
      refine W_callS B (y := (⟨"com/example/bucketry/bucketry/table/TableIsZeroPinLaw", "entry", "(I)D"⟩ : MethodName)) hown (ow hw (i := 1) rfl) (ow hw (i := 2) rfl) (ow hw (i := 3) rfl) (ow hw (i := 4) rfl) (by decide) (rm1 l Z a0 hw h0 a4 [(b6, oA .double [(.double (18442240474082181120 : UInt64)), (.double (18442240474082181120 : UInt64)), (.double w15), (.double 0)])]) (lenOf pd_0 rfl) (hb hby at_27) (pc' := 30) rfl (argsL := [(.int a4)]) (rest := [(.int (3 : Int32)), (.ref b6), (.ref b6)]) rfl (by rw [hml]; rfl) (W := 3) (oLe rfl) (by decide) (cells' := 1) rfl (slots' := 4) rfl ?_
      intro T v_ d_ q_ B
      rcases q_ with ⟨q46, rfl, rfl⟩ | ⟨w45, q47, q48, rfl, rfl⟩
      · show oWin p e below Z h0 _ _ (T.setTop (mkF m 30 #[.val (.int a1), .val (.int a2), .val (.int a3), .val (.int a4), .unset, .unset] [(.double (18442240474082181120 : UInt64)), (.int (3 : Int32)), (.ref b6), (.ref b6)]))
        refine W_dastore B (hb hby at_30) (pc' := 31) rfl (i := 0) rfl (by decide) (oLt rfl) (ds' := [(b6, oA .double [(.double (18442240474082181120 : UInt64)), (.double (18442240474082181120 : UInt64)), (.double w15), (.double (18442240474082181120 : UInt64))])]) rfl ?_
        intro T B
        refine W_astore B (hb hby at_31) (pc' := 33) rfl rfl (ls' := #[.val (.int a1), .val (.int a2), .val (.int a3), .val (.int a4), .val (.ref b6), .unset]) rfl ?_
        refine W_new B hown (ow hw (i := 7) rfl) (ow hw (i := 8) rfl) (ow hw (i := 9) rfl) (hb hby at_33) (pc' := 36) rfl (by decide) (cells' := 2) rfl (slots' := 7) rfl (fs := [(fk0, .null), (fk1, .null), (fk2, .null)]) (oAll_cons ⟨Or.inr (ow hw (i := 18) rfl), (.array .int), by decide, rfl⟩ (oAll_cons ⟨Or.inr (ow hw (i := 20) rfl), (.array .int), by decide, rfl⟩ (oAll_cons ⟨Or.inr (ow hw (i := 22) rfl), (.array .double), by decide, rfl⟩ oAll_nil))) (by decide) ?_
        intro T b49 B
        refine W_dup B (hb hby at_36) (pc' := 37) rfl rfl ?_
        refine W_iconst B (hb hby at_37) (pc' := 38) rfl (z := (1 : Int32)) (by decide) ?_
        refine W_newarray B (ow hw (i := 10) rfl) (hb hby at_38) (pc' := 40) rfl (by decide) (cap := 1) (by decide) (by decide) (cells' := 3) rfl (slots' := 8) rfl (vs := [(.int (0 : Int32))]) rfl (ty := .int) rfl ?_
        intro T b50 B
        refine W_dup B (hb hby at_40) (pc' := 41) rfl rfl ?_
        refine W_iconst B (hb hby at_41) (pc' := 42) rfl (z := (0 : Int32)) (by decide) ?_
        refine W_iconst B (hb hby at_42) (pc' := 43) rfl (z := (0 : Int32)) (by decide) ?_
        refine W_iastore B (hb hby at_43) (pc' := 44) rfl (i := 0) rfl (by decide) (oLt rfl) (ds' := [(b50, oA .int [o0]), (b49, oO cn0 [(fk0, .null), (fk1, .null), (fk2, .null)]), (b6, oA .double [(.double (18442240474082181120 : UInt64)), (.double (18442240474082181120 : UInt64)), (.double w15), (.double (18442240474082181120 : UInt64))])]) rfl ?_
        intro T B
        refine W_iconst B (hb hby at_44) (pc' := 45) rfl (z := (1 : Int32)) (by decide) ?_
        refine W_newarray B (ow hw (i := 10) rfl) (hb hby at_45) (pc' := 47) rfl (by decide) (cap := 1) (by decide) (by decide) (cells' := 4) rfl (slots' := 9) rfl (vs := [(.int (0 : Int32))]) rfl (ty := .int) rfl ?_
        intro T b51 B
        refine W_dup B (hb hby at_47) (pc' := 48) rfl rfl ?_
        refine W_iconst B (hb hby at_48) (pc' := 49) rfl (z := (0 : Int32)) (by decide) ?_
        refine W_iconst B (hb hby at_49) (pc' := 50) rfl (z := (4 : Int32)) (by decide) ?_
        refine W_iastore B (hb hby at_50) (pc' := 51) rfl (i := 0) rfl (by decide) (oLt rfl) (ds' := [(b51, oA .int [(.int (4 : Int32))]), (b50, oA .int [o0]), (b49, oO cn0 [(fk0, .null), (fk1, .null), (fk2, .null)]), (b6, oA .double [(.double (18442240474082181120 : UInt64)), (.double (18442240474082181120 : UInt64)), (.double w15), (.double (18442240474082181120 : UInt64))])]) rfl ?_
        intro T B
        refine W_aload B (hb hby at_51) (pc' := 53) rfl rfl rfl ?_
        refine W_init B (y := (⟨"com/example/bucketry/bucketry/table/Table", "<init>", "([I[I[D)V"⟩ : MethodName)) hown rfl (ow hw (i := 11) rfl) (ow hw (i := 12) rfl) (ow hw (i := 9) rfl) (ow hw (i := 13) rfl) (by decide) (a := b49) (rm2 l Z a0 hw h0 b49 b50 b51 b6 (b51, oA .int [(.int (4 : Int32))]) (b50, oA .int [o0]) [(b6, oA .double [(.double (18442240474082181120 : UInt64)), (.double (18442240474082181120 : UInt64)), (.double w15), (.double (18442240474082181120 : UInt64))])]) (lenOf pd_1 rfl) (hb hby at_53) (pc' := 56) rfl (argsL := [(.ref b50), (.ref b51), (.ref b6)]) (rest := [(.ref b49)]) rfl (by rw [hml]; rfl) (W := 1) (oLe rfl) (by decide) (cells' := 4) rfl (slots' := 9) rfl ?_
        intro T v_ d_ q_ B
        obtain ⟨rfl, rfl⟩ := q_
        show oWin p e below Z h0 _ _ (T.setTop (mkF m 56 #[.val (.int a1), .val (.int a2), .val (.int a3), .val (.int a4), .val (.ref b6), .unset] [(.ref b49)]))
        refine W_astore B (hb hby at_56) (pc' := 58) rfl rfl (ls' := #[.val (.int a1), .val (.int a2), .val (.int a3), .val (.int a4), .val (.ref b6), .val (.ref b49)]) rfl ?_
        refine W_aload B (hb hby at_58) (pc' := 60) rfl rfl rfl ?_
        refine W_iconst B (hb hby at_60) (pc' := 61) rfl (z := (0 : Int32)) (by decide) ?_
        refine W_virtual B (y := (⟨"com/example/bucketry/bucketry/table/Table", "isZero", "(I)Z"⟩ : MethodName)) (z := (⟨"com/example/bucketry/bucketry/table/Table", "isZero", "(I)Z"⟩ : MethodName)) hown (ow hw (i := 23) rfl) (ow hw (i := 24) rfl) (oNotFace B (ow hw (i := 26) rfl) rfl) (ow hw (i := 26) rfl) (ow hw (i := 25) rfl) (ow hw (i := 9) rfl) (ow hw (i := 27) rfl) (by decide) (a := b49) (rm4_inf l Z a0 hw h0 b49 (0 : Int32) b50 b51 b6 [(.double (18442240474082181120 : UInt64)), (.double (18442240474082181120 : UInt64)), (.double w15), (.double (18442240474082181120 : UInt64))] (b51, oA .int [(.int (4 : Int32))]) (b50, oA .int [o0]) [] (by decide) rfl) (lenOf pd_2 rfl) (hb hby at_61) (pc' := 64) rfl (argsL := [(.int (0 : Int32))]) (rest := []) rfl (by rw [hml]; rfl) (W := 0) (oLe rfl) (j := 2) rfl (by decide) (cells' := 4) rfl (slots' := 9) rfl ?_
        intro T v_ d_ q_ B
        obtain ⟨rfl, rfl⟩ := q_
        show oWin p e below Z h0 _ _ (T.setTop (mkF m 64 #[.val (.int a1), .val (.int a2), .val (.int a3), .val (.int a4), .val (.ref b6), .val (.ref b49)] [(.int (1 : Int32))]))
        refine W_iloadN B (hb hby at_64) (pc' := 65) rfl rfl ?_
        refine W_callS B (y := (⟨"com/example/bucketry/bucketry/table/TableIsZeroPinLaw", "zero", "(I)Z"⟩ : MethodName)) hown (ow hw (i := 29) rfl) (ow hw (i := 30) rfl) (ow hw (i := 3) rfl) (ow hw (i := 31) rfl) (by decide) (rm5 l Z a0 hw h0 a1 [(b51, oA .int [(.int (4 : Int32))]), (b50, oA .int [o0]), (b49, oO cn0 [(fk0, (.ref b50)), (fk1, (.ref b51)), (fk2, (.ref b6))]), (b6, oA .double [(.double (18442240474082181120 : UInt64)), (.double (18442240474082181120 : UInt64)), (.double w15), (.double (18442240474082181120 : UInt64))])]) (lenOf pd_2 rfl) (hb hby at_65) (pc' := 68) rfl (argsL := [(.int a1)]) (rest := [(.int (1 : Int32))]) rfl (by rw [hml]; rfl) (W := 1) (oLe rfl) (by decide) (cells' := 4) rfl (slots' := 9) rfl ?_
        intro T v_ d_ q_ B
        rcases q_ with ⟨q52, rfl, rfl⟩ | ⟨q53, rfl, rfl⟩
        · show oWin p e below Z h0 _ _ (T.setTop (mkF m 68 #[.val (.int a1), .val (.int a2), .val (.int a3), .val (.int a4), .val (.ref b6), .val (.ref b49)] [(.int (1 : Int32)), (.int (1 : Int32))]))
          refine W_icmpN B (hb hby at_68) (pc' := 71) rfl (by decide) ?_
          refine W_aload B (hb hby at_71) (pc' := 73) rfl rfl rfl ?_
          refine W_iconst B (hb hby at_73) (pc' := 74) rfl (z := (1 : Int32)) (by decide) ?_
          refine W_virtual B (y := (⟨"com/example/bucketry/bucketry/table/Table", "isZero", "(I)Z"⟩ : MethodName)) (z := (⟨"com/example/bucketry/bucketry/table/Table", "isZero", "(I)Z"⟩ : MethodName)) hown (ow hw (i := 23) rfl) (ow hw (i := 24) rfl) (oNotFace B (ow hw (i := 26) rfl) rfl) (ow hw (i := 26) rfl) (ow hw (i := 25) rfl) (ow hw (i := 9) rfl) (ow hw (i := 27) rfl) (by decide) (a := b49) (rm4_inf l Z a0 hw h0 b49 (1 : Int32) b50 b51 b6 [(.double (18442240474082181120 : UInt64)), (.double (18442240474082181120 : UInt64)), (.double w15), (.double (18442240474082181120 : UInt64))] (b51, oA .int [(.int (4 : Int32))]) (b50, oA .int [o0]) [] (by decide) rfl) (lenOf pd_2 rfl) (hb hby at_74) (pc' := 77) rfl (argsL := [(.int (1 : Int32))]) (rest := []) rfl (by rw [hml]; rfl) (W := 0) (oLe rfl) (j := 2) rfl (by decide) (cells' := 4) rfl (slots' := 9) rfl ?_
          intro T v_ d_ q_ B
          obtain ⟨rfl, rfl⟩ := q_
          show oWin p e below Z h0 _ _ (T.setTop (mkF m 77 #[.val (.int a1), .val (.int a2), .val (.int a3), .val (.int a4), .val (.ref b6), .val (.ref b49)] [(.int (1 : Int32))]))
          refine W_iloadN B (hb hby at_77) (pc' := 78) rfl rfl ?_
          refine W_callS B (y := (⟨"com/example/bucketry/bucketry/table/TableIsZeroPinLaw", "zero", "(I)Z"⟩ : MethodName)) hown (ow hw (i := 29) rfl) (ow hw (i := 30) rfl) (ow hw (i := 3) rfl) (ow hw (i := 31) rfl) (by decide) (rm5 l Z a0 hw h0 a2 [(b51, oA .int [(.int (4 : Int32))]), (b50, oA .int [o0]), (b49, oO cn0 [(fk0, (.ref b50)), (fk1, (.ref b51)), (fk2, (.ref b6))]), (b6, oA .double [(.double (18442240474082181120 : UInt64)), (.double (18442240474082181120 : UInt64)), (.double w15), (.double (18442240474082181120 : UInt64))])]) (lenOf pd_2 rfl) (hb hby at_78) (pc' := 81) rfl (argsL := [(.int a2)]) (rest := [(.int (1 : Int32))]) rfl (by rw [hml]; rfl) (W := 1) (oLe rfl) (by decide) (cells' := 4) rfl (slots' := 9) rfl ?_
          intro T v_ d_ q_ B
          rcases q_ with ⟨q54, rfl, rfl⟩ | ⟨q55, rfl, rfl⟩
          · show oWin p e below Z h0 _ _ (T.setTop (mkF m 81 #[.val (.int a1), .val (.int a2), .val (.int a3), .val (.int a4), .val (.ref b6), .val (.ref b49)] [(.int (1 : Int32)), (.int (1 : Int32))]))
            refine W_icmpN B (hb hby at_81) (pc' := 84) rfl (by decide) ?_
            refine W_aload B (hb hby at_84) (pc' := 86) rfl rfl rfl ?_
            refine W_iconst B (hb hby at_86) (pc' := 87) rfl (z := (2 : Int32)) (by decide) ?_
            refine W_virtual B (y := (⟨"com/example/bucketry/bucketry/table/Table", "isZero", "(I)Z"⟩ : MethodName)) (z := (⟨"com/example/bucketry/bucketry/table/Table", "isZero", "(I)Z"⟩ : MethodName)) hown (ow hw (i := 23) rfl) (ow hw (i := 24) rfl) (oNotFace B (ow hw (i := 26) rfl) rfl) (ow hw (i := 26) rfl) (ow hw (i := 25) rfl) (ow hw (i := 9) rfl) (ow hw (i := 27) rfl) (by decide) (a := b49) (rm4_fin l Z a0 hw h0 b49 (2 : Int32) b50 b51 b6 [(.double (18442240474082181120 : UInt64)), (.double (18442240474082181120 : UInt64)), (.double w15), (.double (18442240474082181120 : UInt64))] w15 (b51, oA .int [(.int (4 : Int32))]) (b50, oA .int [o0]) [] (by decide) rfl q18) (lenOf pd_2 rfl) (hb hby at_87) (pc' := 90) rfl (argsL := [(.int (2 : Int32))]) (rest := []) rfl (by rw [hml]; rfl) (W := 0) (oLe rfl) (j := 2) rfl (by decide) (cells' := 4) rfl (slots' := 9) rfl ?_
            intro T v_ d_ q_ B
            obtain ⟨rfl, rfl⟩ := q_
            show oWin p e below Z h0 _ _ (T.setTop (mkF m 90 #[.val (.int a1), .val (.int a2), .val (.int a3), .val (.int a4), .val (.ref b6), .val (.ref b49)] [(.int (0 : Int32))]))
            refine W_iloadN B (hb hby at_90) (pc' := 91) rfl rfl ?_
            refine W_callS B (y := (⟨"com/example/bucketry/bucketry/table/TableIsZeroPinLaw", "zero", "(I)Z"⟩ : MethodName)) hown (ow hw (i := 29) rfl) (ow hw (i := 30) rfl) (ow hw (i := 3) rfl) (ow hw (i := 31) rfl) (by decide) (rm5 l Z a0 hw h0 a3 [(b51, oA .int [(.int (4 : Int32))]), (b50, oA .int [o0]), (b49, oO cn0 [(fk0, (.ref b50)), (fk1, (.ref b51)), (fk2, (.ref b6))]), (b6, oA .double [(.double (18442240474082181120 : UInt64)), (.double (18442240474082181120 : UInt64)), (.double w15), (.double (18442240474082181120 : UInt64))])]) (lenOf pd_2 rfl) (hb hby at_91) (pc' := 94) rfl (argsL := [(.int a3)]) (rest := [(.int (0 : Int32))]) rfl (by rw [hml]; rfl) (W := 1) (oLe rfl) (by decide) (cells' := 4) rfl (slots' := 9) rfl ?_
            intro T v_ d_ q_ B
            rcases q_ with ⟨q56, rfl, rfl⟩ | ⟨q57, rfl, rfl⟩
            · show oWin p e below Z h0 _ _ (T.setTop (mkF m 94 #[.val (.int a1), .val (.int a2), .val (.int a3), .val (.int a4), .val (.ref b6), .val (.ref b49)] [(.int (1 : Int32)), (.int (0 : Int32))]))
              exact absurd q56 q17
            show oWin p e below Z h0 _ _ (T.setTop (mkF m 94 #[.val (.int a1), .val (.int a2), .val (.int a3), .val (.int a4), .val (.ref b6), .val (.ref b49)] [(.int (0 : Int32)), (.int (0 : Int32))]))
            refine W_icmpN B (hb hby at_94) (pc' := 97) rfl (by decide) ?_
            refine W_aload B (hb hby at_97) (pc' := 99) rfl rfl rfl ?_
            refine W_iconst B (hb hby at_99) (pc' := 100) rfl (z := (3 : Int32)) (by decide) ?_
            refine W_virtual B (y := (⟨"com/example/bucketry/bucketry/table/Table", "isZero", "(I)Z"⟩ : MethodName)) (z := (⟨"com/example/bucketry/bucketry/table/Table", "isZero", "(I)Z"⟩ : MethodName)) hown (ow hw (i := 23) rfl) (ow hw (i := 24) rfl) (oNotFace B (ow hw (i := 26) rfl) rfl) (ow hw (i := 26) rfl) (ow hw (i := 25) rfl) (ow hw (i := 9) rfl) (ow hw (i := 27) rfl) (by decide) (a := b49) (rm4_inf l Z a0 hw h0 b49 (3 : Int32) b50 b51 b6 [(.double (18442240474082181120 : UInt64)), (.double (18442240474082181120 : UInt64)), (.double w15), (.double (18442240474082181120 : UInt64))] (b51, oA .int [(.int (4 : Int32))]) (b50, oA .int [o0]) [] (by decide) rfl) (lenOf pd_2 rfl) (hb hby at_100) (pc' := 103) rfl (argsL := [(.int (3 : Int32))]) (rest := []) rfl (by rw [hml]; rfl) (W := 0) (oLe rfl) (j := 2) rfl (by decide) (cells' := 4) rfl (slots' := 9) rfl ?_
            intro T v_ d_ q_ B
            obtain ⟨rfl, rfl⟩ := q_
            show oWin p e below Z h0 _ _ (T.setTop (mkF m 103 #[.val (.int a1), .val (.int a2), .val (.int a3), .val (.int a4), .val (.ref b6), .val (.ref b49)] [(.int (1 : Int32))]))
            refine W_iloadN B (hb hby at_103) (pc' := 104) rfl rfl ?_
            refine W_callS B (y := (⟨"com/example/bucketry/bucketry/table/TableIsZeroPinLaw", "zero", "(I)Z"⟩ : MethodName)) hown (ow hw (i := 29) rfl) (ow hw (i := 30) rfl) (ow hw (i := 3) rfl) (ow hw (i := 31) rfl) (by decide) (rm5 l Z a0 hw h0 a4 [(b51, oA .int [(.int (4 : Int32))]), (b50, oA .int [o0]), (b49, oO cn0 [(fk0, (.ref b50)), (fk1, (.ref b51)), (fk2, (.ref b6))]), (b6, oA .double [(.double (18442240474082181120 : UInt64)), (.double (18442240474082181120 : UInt64)), (.double w15), (.double (18442240474082181120 : UInt64))])]) (lenOf pd_2 rfl) (hb hby at_104) (pc' := 107) rfl (argsL := [(.int a4)]) (rest := [(.int (1 : Int32))]) rfl (by rw [hml]; rfl) (W := 1) (oLe rfl) (by decide) (cells' := 4) rfl (slots' := 9) rfl ?_
            intro T v_ d_ q_ B
            rcases q_ with ⟨q58, rfl, rfl⟩ | ⟨q59, rfl, rfl⟩
            · show oWin p e below Z h0 _ _ (T.setTop (mkF m 107 #[.val (.int a1), .val (.int a2), .val (.int a3), .val (.int a4), .val (.ref b6), .val (.ref b49)] [(.int (1 : Int32)), (.int (1 : Int32))]))
              refine W_icmpN B (hb hby at_107) (pc' := 110) rfl (by decide) ?_
              refine W_iconst B (hb hby at_110) (pc' := 111) rfl (z := (1 : Int32)) (by decide) ?_
              refine W_goto B (hb hby at_111) (by decide) (pc' := 115) (by decide) ?_
              refine W_retN B hret (by simp) (hb hby at_115) (by decide) ?_
              rfl
            show oWin p e below Z h0 _ _ (T.setTop (mkF m 107 #[.val (.int a1), .val (.int a2), .val (.int a3), .val (.int a4), .val (.ref b6), .val (.ref b49)] [(.int (0 : Int32)), (.int (1 : Int32))]))
            exact absurd q46 q59
          show oWin p e below Z h0 _ _ (T.setTop (mkF m 81 #[.val (.int a1), .val (.int a2), .val (.int a3), .val (.int a4), .val (.ref b6), .val (.ref b49)] [(.int (0 : Int32)), (.int (1 : Int32))]))
          exact absurd q12 q55
        show oWin p e below Z h0 _ _ (T.setTop (mkF m 68 #[.val (.int a1), .val (.int a2), .val (.int a3), .val (.int a4), .val (.ref b6), .val (.ref b49)] [(.int (0 : Int32)), (.int (1 : Int32))]))
        exact absurd q8 q53
      show oWin p e below Z h0 _ _ (T.setTop (mkF m 30 #[.val (.int a1), .val (.int a2), .val (.int a3), .val (.int a4), .unset, .unset] [(.double w45), (.int (3 : Int32)), (.ref b6), (.ref b6)]))
      refine W_dastore B (hb hby at_30) (pc' := 31) rfl (i := 0) rfl (by decide) (oLt rfl) (ds' := [(b6, oA .double [(.double (18442240474082181120 : UInt64)), (.double (18442240474082181120 : UInt64)), (.double w15), (.double w45)])]) rfl ?_
      intro T B
      refine W_astore B (hb hby at_31) (pc' := 33) rfl rfl (ls' := #[.val (.int a1), .val (.int a2), .val (.int a3), .val (.int a4), .val (.ref b6), .unset]) rfl ?_
      refine W_new B hown (ow hw (i := 7) rfl) (ow hw (i := 8) rfl) (ow hw (i := 9) rfl) (hb hby at_33) (pc' := 36) rfl (by decide) (cells' := 2) rfl (slots' := 7) rfl (fs := [(fk0, .null), (fk1, .null), (fk2, .null)]) (oAll_cons ⟨Or.inr (ow hw (i := 18) rfl), (.array .int), by decide, rfl⟩ (oAll_cons ⟨Or.inr (ow hw (i := 20) rfl), (.array .int), by decide, rfl⟩ (oAll_cons ⟨Or.inr (ow hw (i := 22) rfl), (.array .double), by decide, rfl⟩ oAll_nil))) (by decide) ?_
      intro T b60 B
      refine W_dup B (hb hby at_36) (pc' := 37) rfl rfl ?_
      refine W_iconst B (hb hby at_37) (pc' := 38) rfl (z := (1 : Int32)) (by decide) ?_
      refine W_newarray B (ow hw (i := 10) rfl) (hb hby at_38) (pc' := 40) rfl (by decide) (cap := 1) (by decide) (by decide) (cells' := 3) rfl (slots' := 8) rfl (vs := [(.int (0 : Int32))]) rfl (ty := .int) rfl ?_
      intro T b61 B
      refine W_dup B (hb hby at_40) (pc' := 41) rfl rfl ?_
      refine W_iconst B (hb hby at_41) (pc' := 42) rfl (z := (0 : Int32)) (by decide) ?_
      refine W_iconst B (hb hby at_42) (pc' := 43) rfl (z := (0 : Int32)) (by decide) ?_
      refine W_iastore B (hb hby at_43) (pc' := 44) rfl (i := 0) rfl (by decide) (oLt rfl) (ds' := [(b61, oA .int [o0]), (b60, oO cn0 [(fk0, .null), (fk1, .null), (fk2, .null)]), (b6, oA .double [(.double (18442240474082181120 : UInt64)), (.double (18442240474082181120 : UInt64)), (.double w15), (.double w45)])]) rfl ?_
      intro T B
      refine W_iconst B (hb hby at_44) (pc' := 45) rfl (z := (1 : Int32)) (by decide) ?_
      refine W_newarray B (ow hw (i := 10) rfl) (hb hby at_45) (pc' := 47) rfl (by decide) (cap := 1) (by decide) (by decide) (cells' := 4) rfl (slots' := 9) rfl (vs := [(.int (0 : Int32))]) rfl (ty := .int) rfl ?_
      intro T b62 B
      refine W_dup B (hb hby at_47) (pc' := 48) rfl rfl ?_
      refine W_iconst B (hb hby at_48) (pc' := 49) rfl (z := (0 : Int32)) (by decide) ?_
      refine W_iconst B (hb hby at_49) (pc' := 50) rfl (z := (4 : Int32)) (by decide) ?_
      refine W_iastore B (hb hby at_50) (pc' := 51) rfl (i := 0) rfl (by decide) (oLt rfl) (ds' := [(b62, oA .int [(.int (4 : Int32))]), (b61, oA .int [o0]), (b60, oO cn0 [(fk0, .null), (fk1, .null), (fk2, .null)]), (b6, oA .double [(.double (18442240474082181120 : UInt64)), (.double (18442240474082181120 : UInt64)), (.double w15), (.double w45)])]) rfl ?_
      intro T B
      refine W_aload B (hb hby at_51) (pc' := 53) rfl rfl rfl ?_
      refine W_init B (y := (⟨"com/example/bucketry/bucketry/table/Table", "<init>", "([I[I[D)V"⟩ : MethodName)) hown rfl (ow hw (i := 11) rfl) (ow hw (i := 12) rfl) (ow hw (i := 9) rfl) (ow hw (i := 13) rfl) (by decide) (a := b60) (rm2 l Z a0 hw h0 b60 b61 b62 b6 (b62, oA .int [(.int (4 : Int32))]) (b61, oA .int [o0]) [(b6, oA .double [(.double (18442240474082181120 : UInt64)), (.double (18442240474082181120 : UInt64)), (.double w15), (.double w45)])]) (lenOf pd_1 rfl) (hb hby at_53) (pc' := 56) rfl (argsL := [(.ref b61), (.ref b62), (.ref b6)]) (rest := [(.ref b60)]) rfl (by rw [hml]; rfl) (W := 1) (oLe rfl) (by decide) (cells' := 4) rfl (slots' := 9) rfl ?_
      intro T v_ d_ q_ B
      obtain ⟨rfl, rfl⟩ := q_
      show oWin p e below Z h0 _ _ (T.setTop (mkF m 56 #[.val (.int a1), .val (.int a2), .val (.int a3), .val (.int a4), .val (.ref b6), .unset] [(.ref b60)]))
      refine W_astore B (hb hby at_56) (pc' := 58) rfl rfl (ls' := #[.val (.int a1), .val (.int a2), .val (.int a3), .val (.int a4), .val (.ref b6), .val (.ref b60)]) rfl ?_
      refine W_aload B (hb hby at_58) (pc' := 60) rfl rfl rfl ?_
      refine W_iconst B (hb hby at_60) (pc' := 61) rfl (z := (0 : Int32)) (by decide) ?_
      refine W_virtual B (y := (⟨"com/example/bucketry/bucketry/table/Table", "isZero", "(I)Z"⟩ : MethodName)) (z := (⟨"com/example/bucketry/bucketry/table/Table", "isZero", "(I)Z"⟩ : MethodName)) hown (ow hw (i := 23) rfl) (ow hw (i := 24) rfl) (oNotFace B (ow hw (i := 26) rfl) rfl) (ow hw (i := 26) rfl) (ow hw (i := 25) rfl) (ow hw (i := 9) rfl) (ow hw (i := 27) rfl) (by decide) (a := b60) (rm4_inf l Z a0 hw h0 b60 (0 : Int32) b61 b62 b6 [(.double (18442240474082181120 : UInt64)), (.double (18442240474082181120 : UInt64)), (.double w15), (.double w45)] (b62, oA .int [(.int (4 : Int32))]) (b61, oA .int [o0]) [] (by decide) rfl) (lenOf pd_2 rfl) (hb hby at_61) (pc' := 64) rfl (argsL := [(.int (0 : Int32))]) (rest := []) rfl (by rw [hml]; rfl) (W := 0) (oLe rfl) (j := 2) rfl (by decide) (cells' := 4) rfl (slots' := 9) rfl ?_
      intro T v_ d_ q_ B
      obtain ⟨rfl, rfl⟩ := q_
      show oWin p e below Z h0 _ _ (T.setTop (mkF m 64 #[.val (.int a1), .val (.int a2), .val (.int a3), .val (.int a4), .val (.ref b6), .val (.ref b60)] [(.int (1 : Int32))]))
      refine W_iloadN B (hb hby at_64) (pc' := 65) rfl rfl ?_
      refine W_callS B (y := (⟨"com/example/bucketry/bucketry/table/TableIsZeroPinLaw", "zero", "(I)Z"⟩ : MethodName)) hown (ow hw (i := 29) rfl) (ow hw (i := 30) rfl) (ow hw (i := 3) rfl) (ow hw (i := 31) rfl) (by decide) (rm5 l Z a0 hw h0 a1 [(b62, oA .int [(.int (4 : Int32))]), (b61, oA .int [o0]), (b60, oO cn0 [(fk0, (.ref b61)), (fk1, (.ref b62)), (fk2, (.ref b6))]), (b6, oA .double [(.double (18442240474082181120 : UInt64)), (.double (18442240474082181120 : UInt64)), (.double w15), (.double w45)])]) (lenOf pd_2 rfl) (hb hby at_65) (pc' := 68) rfl (argsL := [(.int a1)]) (rest := [(.int (1 : Int32))]) rfl (by rw [hml]; rfl) (W := 1) (oLe rfl) (by decide) (cells' := 4) rfl (slots' := 9) rfl ?_
      intro T v_ d_ q_ B
      rcases q_ with ⟨q63, rfl, rfl⟩ | ⟨q64, rfl, rfl⟩
      · show oWin p e below Z h0 _ _ (T.setTop (mkF m 68 #[.val (.int a1), .val (.int a2), .val (.int a3), .val (.int a4), .val (.ref b6), .val (.ref b60)] [(.int (1 : Int32)), (.int (1 : Int32))]))
        refine W_icmpN B (hb hby at_68) (pc' := 71) rfl (by decide) ?_
        refine W_aload B (hb hby at_71) (pc' := 73) rfl rfl rfl ?_
        refine W_iconst B (hb hby at_73) (pc' := 74) rfl (z := (1 : Int32)) (by decide) ?_
        refine W_virtual B (y := (⟨"com/example/bucketry/bucketry/table/Table", "isZero", "(I)Z"⟩ : MethodName)) (z := (⟨"com/example/bucketry/bucketry/table/Table", "isZero", "(I)Z"⟩ : MethodName)) hown (ow hw (i := 23) rfl) (ow hw (i := 24) rfl) (oNotFace B (ow hw (i := 26) rfl) rfl) (ow hw (i := 26) rfl) (ow hw (i := 25) rfl) (ow hw (i := 9) rfl) (ow hw (i := 27) rfl) (by decide) (a := b60) (rm4_inf l Z a0 hw h0 b60 (1 : Int32) b61 b62 b6 [(.double (18442240474082181120 : UInt64)), (.double (18442240474082181120 : UInt64)), (.double w15), (.double w45)] (b62, oA .int [(.int (4 : Int32))]) (b61, oA .int [o0]) [] (by decide) rfl) (lenOf pd_2 rfl) (hb hby at_74) (pc' := 77) rfl (argsL := [(.int (1 : Int32))]) (rest := []) rfl (by rw [hml]; rfl) (W := 0) (oLe rfl) (j := 2) rfl (by decide) (cells' := 4) rfl (slots' := 9) rfl ?_
        intro T v_ d_ q_ B
        obtain ⟨rfl, rfl⟩ := q_
        show oWin p e below Z h0 _ _ (T.setTop (mkF m 77 #[.val (.int a1), .val (.int a2), .val (.int a3), .val (.int a4), .val (.ref b6), .val (.ref b60)] [(.int (1 : Int32))]))
        refine W_iloadN B (hb hby at_77) (pc' := 78) rfl rfl ?_
        refine W_callS B (y := (⟨"com/example/bucketry/bucketry/table/TableIsZeroPinLaw", "zero", "(I)Z"⟩ : MethodName)) hown (ow hw (i := 29) rfl) (ow hw (i := 30) rfl) (ow hw (i := 3) rfl) (ow hw (i := 31) rfl) (by decide) (rm5 l Z a0 hw h0 a2 [(b62, oA .int [(.int (4 : Int32))]), (b61, oA .int [o0]), (b60, oO cn0 [(fk0, (.ref b61)), (fk1, (.ref b62)), (fk2, (.ref b6))]), (b6, oA .double [(.double (18442240474082181120 : UInt64)), (.double (18442240474082181120 : UInt64)), (.double w15), (.double w45)])]) (lenOf pd_2 rfl) (hb hby at_78) (pc' := 81) rfl (argsL := [(.int a2)]) (rest := [(.int (1 : Int32))]) rfl (by rw [hml]; rfl) (W := 1) (oLe rfl) (by decide) (cells' := 4) rfl (slots' := 9) rfl ?_
        intro T v_ d_ q_ B
        rcases q_ with ⟨q65, rfl, rfl⟩ | ⟨q66, rfl, rfl⟩
        · show oWin p e below Z h0 _ _ (T.setTop (mkF m 81 #[.val (.int a1), .val (.int a2), .val (.int a3), .val (.int a4), .val (.ref b6), .val (.ref b60)] [(.int (1 : Int32)), (.int (1 : Int32))]))
          refine W_icmpN B (hb hby at_81) (pc' := 84) rfl (by decide) ?_
          refine W_aload B (hb hby at_84) (pc' := 86) rfl rfl rfl ?_
          refine W_iconst B (hb hby at_86) (pc' := 87) rfl (z := (2 : Int32)) (by decide) ?_
          refine W_virtual B (y := (⟨"com/example/bucketry/bucketry/table/Table", "isZero", "(I)Z"⟩ : MethodName)) (z := (⟨"com/example/bucketry/bucketry/table/Table", "isZero", "(I)Z"⟩ : MethodName)) hown (ow hw (i := 23) rfl) (ow hw (i := 24) rfl) (oNotFace B (ow hw (i := 26) rfl) rfl) (ow hw (i := 26) rfl) (ow hw (i := 25) rfl) (ow hw (i := 9) rfl) (ow hw (i := 27) rfl) (by decide) (a := b60) (rm4_fin l Z a0 hw h0 b60 (2 : Int32) b61 b62 b6 [(.double (18442240474082181120 : UInt64)), (.double (18442240474082181120 : UInt64)), (.double w15), (.double w45)] w15 (b62, oA .int [(.int (4 : Int32))]) (b61, oA .int [o0]) [] (by decide) rfl q18) (lenOf pd_2 rfl) (hb hby at_87) (pc' := 90) rfl (argsL := [(.int (2 : Int32))]) (rest := []) rfl (by rw [hml]; rfl) (W := 0) (oLe rfl) (j := 2) rfl (by decide) (cells' := 4) rfl (slots' := 9) rfl ?_
          intro T v_ d_ q_ B
          obtain ⟨rfl, rfl⟩ := q_
          show oWin p e below Z h0 _ _ (T.setTop (mkF m 90 #[.val (.int a1), .val (.int a2), .val (.int a3), .val (.int a4), .val (.ref b6), .val (.ref b60)] [(.int (0 : Int32))]))
          refine W_iloadN B (hb hby at_90) (pc' := 91) rfl rfl ?_
          refine W_callS B (y := (⟨"com/example/bucketry/bucketry/table/TableIsZeroPinLaw", "zero", "(I)Z"⟩ : MethodName)) hown (ow hw (i := 29) rfl) (ow hw (i := 30) rfl) (ow hw (i := 3) rfl) (ow hw (i := 31) rfl) (by decide) (rm5 l Z a0 hw h0 a3 [(b62, oA .int [(.int (4 : Int32))]), (b61, oA .int [o0]), (b60, oO cn0 [(fk0, (.ref b61)), (fk1, (.ref b62)), (fk2, (.ref b6))]), (b6, oA .double [(.double (18442240474082181120 : UInt64)), (.double (18442240474082181120 : UInt64)), (.double w15), (.double w45)])]) (lenOf pd_2 rfl) (hb hby at_91) (pc' := 94) rfl (argsL := [(.int a3)]) (rest := [(.int (0 : Int32))]) rfl (by rw [hml]; rfl) (W := 1) (oLe rfl) (by decide) (cells' := 4) rfl (slots' := 9) rfl ?_
          intro T v_ d_ q_ B
          rcases q_ with ⟨q67, rfl, rfl⟩ | ⟨q68, rfl, rfl⟩
          · show oWin p e below Z h0 _ _ (T.setTop (mkF m 94 #[.val (.int a1), .val (.int a2), .val (.int a3), .val (.int a4), .val (.ref b6), .val (.ref b60)] [(.int (1 : Int32)), (.int (0 : Int32))]))
            exact absurd q67 q17
          show oWin p e below Z h0 _ _ (T.setTop (mkF m 94 #[.val (.int a1), .val (.int a2), .val (.int a3), .val (.int a4), .val (.ref b6), .val (.ref b60)] [(.int (0 : Int32)), (.int (0 : Int32))]))
          refine W_icmpN B (hb hby at_94) (pc' := 97) rfl (by decide) ?_
          refine W_aload B (hb hby at_97) (pc' := 99) rfl rfl rfl ?_
          refine W_iconst B (hb hby at_99) (pc' := 100) rfl (z := (3 : Int32)) (by decide) ?_
          refine W_virtual B (y := (⟨"com/example/bucketry/bucketry/table/Table", "isZero", "(I)Z"⟩ : MethodName)) (z := (⟨"com/example/bucketry/bucketry/table/Table", "isZero", "(I)Z"⟩ : MethodName)) hown (ow hw (i := 23) rfl) (ow hw (i := 24) rfl) (oNotFace B (ow hw (i := 26) rfl) rfl) (ow hw (i := 26) rfl) (ow hw (i := 25) rfl) (ow hw (i := 9) rfl) (ow hw (i := 27) rfl) (by decide) (a := b60) (rm4_fin l Z a0 hw h0 b60 (3 : Int32) b61 b62 b6 [(.double (18442240474082181120 : UInt64)), (.double (18442240474082181120 : UInt64)), (.double w15), (.double w45)] w45 (b62, oA .int [(.int (4 : Int32))]) (b61, oA .int [o0]) [] (by decide) rfl q48) (lenOf pd_2 rfl) (hb hby at_100) (pc' := 103) rfl (argsL := [(.int (3 : Int32))]) (rest := []) rfl (by rw [hml]; rfl) (W := 0) (oLe rfl) (j := 2) rfl (by decide) (cells' := 4) rfl (slots' := 9) rfl ?_
          intro T v_ d_ q_ B
          obtain ⟨rfl, rfl⟩ := q_
          show oWin p e below Z h0 _ _ (T.setTop (mkF m 103 #[.val (.int a1), .val (.int a2), .val (.int a3), .val (.int a4), .val (.ref b6), .val (.ref b60)] [(.int (0 : Int32))]))
          refine W_iloadN B (hb hby at_103) (pc' := 104) rfl rfl ?_
          refine W_callS B (y := (⟨"com/example/bucketry/bucketry/table/TableIsZeroPinLaw", "zero", "(I)Z"⟩ : MethodName)) hown (ow hw (i := 29) rfl) (ow hw (i := 30) rfl) (ow hw (i := 3) rfl) (ow hw (i := 31) rfl) (by decide) (rm5 l Z a0 hw h0 a4 [(b62, oA .int [(.int (4 : Int32))]), (b61, oA .int [o0]), (b60, oO cn0 [(fk0, (.ref b61)), (fk1, (.ref b62)), (fk2, (.ref b6))]), (b6, oA .double [(.double (18442240474082181120 : UInt64)), (.double (18442240474082181120 : UInt64)), (.double w15), (.double w45)])]) (lenOf pd_2 rfl) (hb hby at_104) (pc' := 107) rfl (argsL := [(.int a4)]) (rest := [(.int (0 : Int32))]) rfl (by rw [hml]; rfl) (W := 1) (oLe rfl) (by decide) (cells' := 4) rfl (slots' := 9) rfl ?_
          intro T v_ d_ q_ B
          rcases q_ with ⟨q69, rfl, rfl⟩ | ⟨q70, rfl, rfl⟩
          · show oWin p e below Z h0 _ _ (T.setTop (mkF m 107 #[.val (.int a1), .val (.int a2), .val (.int a3), .val (.int a4), .val (.ref b6), .val (.ref b60)] [(.int (1 : Int32)), (.int (0 : Int32))]))
            exact absurd q69 q47
          show oWin p e below Z h0 _ _ (T.setTop (mkF m 107 #[.val (.int a1), .val (.int a2), .val (.int a3), .val (.int a4), .val (.ref b6), .val (.ref b60)] [(.int (0 : Int32)), (.int (0 : Int32))]))
          refine W_icmpN B (hb hby at_107) (pc' := 110) rfl (by decide) ?_
          refine W_iconst B (hb hby at_110) (pc' := 111) rfl (z := (1 : Int32)) (by decide) ?_
          refine W_goto B (hb hby at_111) (by decide) (pc' := 115) (by decide) ?_
          refine W_retN B hret (by simp) (hb hby at_115) (by decide) ?_
          rfl
        show oWin p e below Z h0 _ _ (T.setTop (mkF m 81 #[.val (.int a1), .val (.int a2), .val (.int a3), .val (.int a4), .val (.ref b6), .val (.ref b60)] [(.int (0 : Int32)), (.int (1 : Int32))]))
        exact absurd q12 q66
      show oWin p e below Z h0 _ _ (T.setTop (mkF m 68 #[.val (.int a1), .val (.int a2), .val (.int a3), .val (.int a4), .val (.ref b6), .val (.ref b60)] [(.int (0 : Int32)), (.int (1 : Int32))]))
      exact absurd q8 q64
    show oWin p e below Z h0 _ _ (T.setTop (mkF m 16 #[.val (.int a1), .val (.int a2), .val (.int a3), .val (.int a4), .unset, .unset] [(.double w11), (.int (1 : Int32)), (.ref b6), (.ref b6)]))
    refine W_dastore B (hb hby at_16) (pc' := 17) rfl (i := 0) rfl (by decide) (oLt rfl) (ds' := [(b6, oA .double [(.double (18442240474082181120 : UInt64)), (.double w11), (.double 0), (.double 0)])]) rfl ?_
    intro T B
    refine W_dup B (hb hby at_17) (pc' := 18) rfl rfl ?_
    refine W_iconst B (hb hby at_18) (pc' := 19) rfl (z := (2 : Int32)) (by decide) ?_
    refine W_iloadN B (hb hby at_19) (pc' := 20) rfl rfl ?_
    refine W_callS B (y := (⟨"com/example/bucketry/bucketry/table/TableIsZeroPinLaw", "entry", "(I)D"⟩ : MethodName)) hown (ow hw (i := 1) rfl) (ow hw (i := 2) rfl) (ow hw (i := 3) rfl) (ow hw (i := 4) rfl) (by decide) (rm1 l Z a0 hw h0 a3 [(b6, oA .double [(.double (18442240474082181120 : UInt64)), (.double w11), (.double 0), (.double 0)])]) (lenOf pd_0 rfl) (hb hby at_20) (pc' := 23) rfl (argsL := [(.int a3)]) (rest := [(.int (2 : Int32)), (.ref b6), (.ref b6)]) rfl (by rw [hml]; rfl) (W := 3) (oLe rfl) (by decide) (cells' := 1) rfl (slots' := 4) rfl ?_
    intro T v_ d_ q_ B
    rcases q_ with ⟨q72, rfl, rfl⟩ | ⟨w71, q73, q74, rfl, rfl⟩
    · show oWin p e below Z h0 _ _ (T.setTop (mkF m 23 #[.val (.int a1), .val (.int a2), .val (.int a3), .val (.int a4), .unset, .unset] [(.double (18442240474082181120 : UInt64)), (.int (2 : Int32)), (.ref b6), (.ref b6)]))
      refine W_dastore B (hb hby at_23) (pc' := 24) rfl (i := 0) rfl (by decide) (oLt rfl) (ds' := [(b6, oA .double [(.double (18442240474082181120 : UInt64)), (.double w11), (.double (18442240474082181120 : UInt64)), (.double 0)])]) rfl ?_
      intro T B
      refine W_dup B (hb hby at_24) (pc' := 25) rfl rfl ?_
      refine W_iconst B (hb hby at_25) (pc' := 26) rfl (z := (3 : Int32)) (by decide) ?_
      refine W_iloadN B (hb hby at_26) (pc' := 27) rfl rfl ?_
      refine W_callS B (y := (⟨"com/example/bucketry/bucketry/table/TableIsZeroPinLaw", "entry", "(I)D"⟩ : MethodName)) hown (ow hw (i := 1) rfl) (ow hw (i := 2) rfl) (ow hw (i := 3) rfl) (ow hw (i := 4) rfl) (by decide) (rm1 l Z a0 hw h0 a4 [(b6, oA .double [(.double (18442240474082181120 : UInt64)), (.double w11), (.double (18442240474082181120 : UInt64)), (.double 0)])]) (lenOf pd_0 rfl) (hb hby at_27) (pc' := 30) rfl (argsL := [(.int a4)]) (rest := [(.int (3 : Int32)), (.ref b6), (.ref b6)]) rfl (by rw [hml]; rfl) (W := 3) (oLe rfl) (by decide) (cells' := 1) rfl (slots' := 4) rfl ?_
      intro T v_ d_ q_ B
      rcases q_ with ⟨q76, rfl, rfl⟩ | ⟨w75, q77, q78, rfl, rfl⟩
      · show oWin p e below Z h0 _ _ (T.setTop (mkF m 30 #[.val (.int a1), .val (.int a2), .val (.int a3), .val (.int a4), .unset, .unset] [(.double (18442240474082181120 : UInt64)), (.int (3 : Int32)), (.ref b6), (.ref b6)]))
        refine W_dastore B (hb hby at_30) (pc' := 31) rfl (i := 0) rfl (by decide) (oLt rfl) (ds' := [(b6, oA .double [(.double (18442240474082181120 : UInt64)), (.double w11), (.double (18442240474082181120 : UInt64)), (.double (18442240474082181120 : UInt64))])]) rfl ?_
        intro T B
        refine W_astore B (hb hby at_31) (pc' := 33) rfl rfl (ls' := #[.val (.int a1), .val (.int a2), .val (.int a3), .val (.int a4), .val (.ref b6), .unset]) rfl ?_
        refine W_new B hown (ow hw (i := 7) rfl) (ow hw (i := 8) rfl) (ow hw (i := 9) rfl) (hb hby at_33) (pc' := 36) rfl (by decide) (cells' := 2) rfl (slots' := 7) rfl (fs := [(fk0, .null), (fk1, .null), (fk2, .null)]) (oAll_cons ⟨Or.inr (ow hw (i := 18) rfl), (.array .int), by decide, rfl⟩ (oAll_cons ⟨Or.inr (ow hw (i := 20) rfl), (.array .int), by decide, rfl⟩ (oAll_cons ⟨Or.inr (ow hw (i := 22) rfl), (.array .double), by decide, rfl⟩ oAll_nil))) (by decide) ?_
        intro T b79 B
        refine W_dup B (hb hby at_36) (pc' := 37) rfl rfl ?_
        refine W_iconst B (hb hby at_37) (pc' := 38) rfl (z := (1 : Int32)) (by decide) ?_
        refine W_newarray B (ow hw (i := 10) rfl) (hb hby at_38) (pc' := 40) rfl (by decide) (cap := 1) (by decide) (by decide) (cells' := 3) rfl (slots' := 8) rfl (vs := [(.int (0 : Int32))]) rfl (ty := .int) rfl ?_
        intro T b80 B
        refine W_dup B (hb hby at_40) (pc' := 41) rfl rfl ?_
        refine W_iconst B (hb hby at_41) (pc' := 42) rfl (z := (0 : Int32)) (by decide) ?_
        refine W_iconst B (hb hby at_42) (pc' := 43) rfl (z := (0 : Int32)) (by decide) ?_
        refine W_iastore B (hb hby at_43) (pc' := 44) rfl (i := 0) rfl (by decide) (oLt rfl) (ds' := [(b80, oA .int [o0]), (b79, oO cn0 [(fk0, .null), (fk1, .null), (fk2, .null)]), (b6, oA .double [(.double (18442240474082181120 : UInt64)), (.double w11), (.double (18442240474082181120 : UInt64)), (.double (18442240474082181120 : UInt64))])]) rfl ?_
        intro T B
        refine W_iconst B (hb hby at_44) (pc' := 45) rfl (z := (1 : Int32)) (by decide) ?_
        refine W_newarray B (ow hw (i := 10) rfl) (hb hby at_45) (pc' := 47) rfl (by decide) (cap := 1) (by decide) (by decide) (cells' := 4) rfl (slots' := 9) rfl (vs := [(.int (0 : Int32))]) rfl (ty := .int) rfl ?_
        intro T b81 B
        refine W_dup B (hb hby at_47) (pc' := 48) rfl rfl ?_
        refine W_iconst B (hb hby at_48) (pc' := 49) rfl (z := (0 : Int32)) (by decide) ?_
        refine W_iconst B (hb hby at_49) (pc' := 50) rfl (z := (4 : Int32)) (by decide) ?_
        refine W_iastore B (hb hby at_50) (pc' := 51) rfl (i := 0) rfl (by decide) (oLt rfl) (ds' := [(b81, oA .int [(.int (4 : Int32))]), (b80, oA .int [o0]), (b79, oO cn0 [(fk0, .null), (fk1, .null), (fk2, .null)]), (b6, oA .double [(.double (18442240474082181120 : UInt64)), (.double w11), (.double (18442240474082181120 : UInt64)), (.double (18442240474082181120 : UInt64))])]) rfl ?_
        intro T B
        refine W_aload B (hb hby at_51) (pc' := 53) rfl rfl rfl ?_
        refine W_init B (y := (⟨"com/example/bucketry/bucketry/table/Table", "<init>", "([I[I[D)V"⟩ : MethodName)) hown rfl (ow hw (i := 11) rfl) (ow hw (i := 12) rfl) (ow hw (i := 9) rfl) (ow hw (i := 13) rfl) (by decide) (a := b79) (rm2 l Z a0 hw h0 b79 b80 b81 b6 (b81, oA .int [(.int (4 : Int32))]) (b80, oA .int [o0]) [(b6, oA .double [(.double (18442240474082181120 : UInt64)), (.double w11), (.double (18442240474082181120 : UInt64)), (.double (18442240474082181120 : UInt64))])]) (lenOf pd_1 rfl) (hb hby at_53) (pc' := 56) rfl (argsL := [(.ref b80), (.ref b81), (.ref b6)]) (rest := [(.ref b79)]) rfl (by rw [hml]; rfl) (W := 1) (oLe rfl) (by decide) (cells' := 4) rfl (slots' := 9) rfl ?_
        intro T v_ d_ q_ B
        obtain ⟨rfl, rfl⟩ := q_
        show oWin p e below Z h0 _ _ (T.setTop (mkF m 56 #[.val (.int a1), .val (.int a2), .val (.int a3), .val (.int a4), .val (.ref b6), .unset] [(.ref b79)]))
        refine W_astore B (hb hby at_56) (pc' := 58) rfl rfl (ls' := #[.val (.int a1), .val (.int a2), .val (.int a3), .val (.int a4), .val (.ref b6), .val (.ref b79)]) rfl ?_
        refine W_aload B (hb hby at_58) (pc' := 60) rfl rfl rfl ?_
        refine W_iconst B (hb hby at_60) (pc' := 61) rfl (z := (0 : Int32)) (by decide) ?_
        refine W_virtual B (y := (⟨"com/example/bucketry/bucketry/table/Table", "isZero", "(I)Z"⟩ : MethodName)) (z := (⟨"com/example/bucketry/bucketry/table/Table", "isZero", "(I)Z"⟩ : MethodName)) hown (ow hw (i := 23) rfl) (ow hw (i := 24) rfl) (oNotFace B (ow hw (i := 26) rfl) rfl) (ow hw (i := 26) rfl) (ow hw (i := 25) rfl) (ow hw (i := 9) rfl) (ow hw (i := 27) rfl) (by decide) (a := b79) (rm4_inf l Z a0 hw h0 b79 (0 : Int32) b80 b81 b6 [(.double (18442240474082181120 : UInt64)), (.double w11), (.double (18442240474082181120 : UInt64)), (.double (18442240474082181120 : UInt64))] (b81, oA .int [(.int (4 : Int32))]) (b80, oA .int [o0]) [] (by decide) rfl) (lenOf pd_2 rfl) (hb hby at_61) (pc' := 64) rfl (argsL := [(.int (0 : Int32))]) (rest := []) rfl (by rw [hml]; rfl) (W := 0) (oLe rfl) (j := 2) rfl (by decide) (cells' := 4) rfl (slots' := 9) rfl ?_
        intro T v_ d_ q_ B
        obtain ⟨rfl, rfl⟩ := q_
        show oWin p e below Z h0 _ _ (T.setTop (mkF m 64 #[.val (.int a1), .val (.int a2), .val (.int a3), .val (.int a4), .val (.ref b6), .val (.ref b79)] [(.int (1 : Int32))]))
        refine W_iloadN B (hb hby at_64) (pc' := 65) rfl rfl ?_
        refine W_callS B (y := (⟨"com/example/bucketry/bucketry/table/TableIsZeroPinLaw", "zero", "(I)Z"⟩ : MethodName)) hown (ow hw (i := 29) rfl) (ow hw (i := 30) rfl) (ow hw (i := 3) rfl) (ow hw (i := 31) rfl) (by decide) (rm5 l Z a0 hw h0 a1 [(b81, oA .int [(.int (4 : Int32))]), (b80, oA .int [o0]), (b79, oO cn0 [(fk0, (.ref b80)), (fk1, (.ref b81)), (fk2, (.ref b6))]), (b6, oA .double [(.double (18442240474082181120 : UInt64)), (.double w11), (.double (18442240474082181120 : UInt64)), (.double (18442240474082181120 : UInt64))])]) (lenOf pd_2 rfl) (hb hby at_65) (pc' := 68) rfl (argsL := [(.int a1)]) (rest := [(.int (1 : Int32))]) rfl (by rw [hml]; rfl) (W := 1) (oLe rfl) (by decide) (cells' := 4) rfl (slots' := 9) rfl ?_
        intro T v_ d_ q_ B
        rcases q_ with ⟨q82, rfl, rfl⟩ | ⟨q83, rfl, rfl⟩
        · show oWin p e below Z h0 _ _ (T.setTop (mkF m 68 #[.val (.int a1), .val (.int a2), .val (.int a3), .val (.int a4), .val (.ref b6), .val (.ref b79)] [(.int (1 : Int32)), (.int (1 : Int32))]))
          refine W_icmpN B (hb hby at_68) (pc' := 71) rfl (by decide) ?_
          refine W_aload B (hb hby at_71) (pc' := 73) rfl rfl rfl ?_
          refine W_iconst B (hb hby at_73) (pc' := 74) rfl (z := (1 : Int32)) (by decide) ?_
          refine W_virtual B (y := (⟨"com/example/bucketry/bucketry/table/Table", "isZero", "(I)Z"⟩ : MethodName)) (z := (⟨"com/example/bucketry/bucketry/table/Table", "isZero", "(I)Z"⟩ : MethodName)) hown (ow hw (i := 23) rfl) (ow hw (i := 24) rfl) (oNotFace B (ow hw (i := 26) rfl) rfl) (ow hw (i := 26) rfl) (ow hw (i := 25) rfl) (ow hw (i := 9) rfl) (ow hw (i := 27) rfl) (by decide) (a := b79) (rm4_fin l Z a0 hw h0 b79 (1 : Int32) b80 b81 b6 [(.double (18442240474082181120 : UInt64)), (.double w11), (.double (18442240474082181120 : UInt64)), (.double (18442240474082181120 : UInt64))] w11 (b81, oA .int [(.int (4 : Int32))]) (b80, oA .int [o0]) [] (by decide) rfl q14) (lenOf pd_2 rfl) (hb hby at_74) (pc' := 77) rfl (argsL := [(.int (1 : Int32))]) (rest := []) rfl (by rw [hml]; rfl) (W := 0) (oLe rfl) (j := 2) rfl (by decide) (cells' := 4) rfl (slots' := 9) rfl ?_
          intro T v_ d_ q_ B
          obtain ⟨rfl, rfl⟩ := q_
          show oWin p e below Z h0 _ _ (T.setTop (mkF m 77 #[.val (.int a1), .val (.int a2), .val (.int a3), .val (.int a4), .val (.ref b6), .val (.ref b79)] [(.int (0 : Int32))]))
          refine W_iloadN B (hb hby at_77) (pc' := 78) rfl rfl ?_
          refine W_callS B (y := (⟨"com/example/bucketry/bucketry/table/TableIsZeroPinLaw", "zero", "(I)Z"⟩ : MethodName)) hown (ow hw (i := 29) rfl) (ow hw (i := 30) rfl) (ow hw (i := 3) rfl) (ow hw (i := 31) rfl) (by decide) (rm5 l Z a0 hw h0 a2 [(b81, oA .int [(.int (4 : Int32))]), (b80, oA .int [o0]), (b79, oO cn0 [(fk0, (.ref b80)), (fk1, (.ref b81)), (fk2, (.ref b6))]), (b6, oA .double [(.double (18442240474082181120 : UInt64)), (.double w11), (.double (18442240474082181120 : UInt64)), (.double (18442240474082181120 : UInt64))])]) (lenOf pd_2 rfl) (hb hby at_78) (pc' := 81) rfl (argsL := [(.int a2)]) (rest := [(.int (0 : Int32))]) rfl (by rw [hml]; rfl) (W := 1) (oLe rfl) (by decide) (cells' := 4) rfl (slots' := 9) rfl ?_
          intro T v_ d_ q_ B
          rcases q_ with ⟨q84, rfl, rfl⟩ | ⟨q85, rfl, rfl⟩
          · show oWin p e below Z h0 _ _ (T.setTop (mkF m 81 #[.val (.int a1), .val (.int a2), .val (.int a3), .val (.int a4), .val (.ref b6), .val (.ref b79)] [(.int (1 : Int32)), (.int (0 : Int32))]))
            exact absurd q84 q13
          show oWin p e below Z h0 _ _ (T.setTop (mkF m 81 #[.val (.int a1), .val (.int a2), .val (.int a3), .val (.int a4), .val (.ref b6), .val (.ref b79)] [(.int (0 : Int32)), (.int (0 : Int32))]))
          refine W_icmpN B (hb hby at_81) (pc' := 84) rfl (by decide) ?_
          refine W_aload B (hb hby at_84) (pc' := 86) rfl rfl rfl ?_
          refine W_iconst B (hb hby at_86) (pc' := 87) rfl (z := (2 : Int32)) (by decide) ?_
          refine W_virtual B (y := (⟨"com/example/bucketry/bucketry/table/Table", "isZero", "(I)Z"⟩ : MethodName)) (z := (⟨"com/example/bucketry/bucketry/table/Table", "isZero", "(I)Z"⟩ : MethodName)) hown (ow hw (i := 23) rfl) (ow hw (i := 24) rfl) (oNotFace B (ow hw (i := 26) rfl) rfl) (ow hw (i := 26) rfl) (ow hw (i := 25) rfl) (ow hw (i := 9) rfl) (ow hw (i := 27) rfl) (by decide) (a := b79) (rm4_inf l Z a0 hw h0 b79 (2 : Int32) b80 b81 b6 [(.double (18442240474082181120 : UInt64)), (.double w11), (.double (18442240474082181120 : UInt64)), (.double (18442240474082181120 : UInt64))] (b81, oA .int [(.int (4 : Int32))]) (b80, oA .int [o0]) [] (by decide) rfl) (lenOf pd_2 rfl) (hb hby at_87) (pc' := 90) rfl (argsL := [(.int (2 : Int32))]) (rest := []) rfl (by rw [hml]; rfl) (W := 0) (oLe rfl) (j := 2) rfl (by decide) (cells' := 4) rfl (slots' := 9) rfl ?_
          intro T v_ d_ q_ B
          obtain ⟨rfl, rfl⟩ := q_
          show oWin p e below Z h0 _ _ (T.setTop (mkF m 90 #[.val (.int a1), .val (.int a2), .val (.int a3), .val (.int a4), .val (.ref b6), .val (.ref b79)] [(.int (1 : Int32))]))
          refine W_iloadN B (hb hby at_90) (pc' := 91) rfl rfl ?_
          refine W_callS B (y := (⟨"com/example/bucketry/bucketry/table/TableIsZeroPinLaw", "zero", "(I)Z"⟩ : MethodName)) hown (ow hw (i := 29) rfl) (ow hw (i := 30) rfl) (ow hw (i := 3) rfl) (ow hw (i := 31) rfl) (by decide) (rm5 l Z a0 hw h0 a3 [(b81, oA .int [(.int (4 : Int32))]), (b80, oA .int [o0]), (b79, oO cn0 [(fk0, (.ref b80)), (fk1, (.ref b81)), (fk2, (.ref b6))]), (b6, oA .double [(.double (18442240474082181120 : UInt64)), (.double w11), (.double (18442240474082181120 : UInt64)), (.double (18442240474082181120 : UInt64))])]) (lenOf pd_2 rfl) (hb hby at_91) (pc' := 94) rfl (argsL := [(.int a3)]) (rest := [(.int (1 : Int32))]) rfl (by rw [hml]; rfl) (W := 1) (oLe rfl) (by decide) (cells' := 4) rfl (slots' := 9) rfl ?_
          intro T v_ d_ q_ B
          rcases q_ with ⟨q86, rfl, rfl⟩ | ⟨q87, rfl, rfl⟩
          · show oWin p e below Z h0 _ _ (T.setTop (mkF m 94 #[.val (.int a1), .val (.int a2), .val (.int a3), .val (.int a4), .val (.ref b6), .val (.ref b79)] [(.int (1 : Int32)), (.int (1 : Int32))]))
            refine W_icmpN B (hb hby at_94) (pc' := 97) rfl (by decide) ?_
            refine W_aload B (hb hby at_97) (pc' := 99) rfl rfl rfl ?_
            refine W_iconst B (hb hby at_99) (pc' := 100) rfl (z := (3 : Int32)) (by decide) ?_
            refine W_virtual B (y := (⟨"com/example/bucketry/bucketry/table/Table", "isZero", "(I)Z"⟩ : MethodName)) (z := (⟨"com/example/bucketry/bucketry/table/Table", "isZero", "(I)Z"⟩ : MethodName)) hown (ow hw (i := 23) rfl) (ow hw (i := 24) rfl) (oNotFace B (ow hw (i := 26) rfl) rfl) (ow hw (i := 26) rfl) (ow hw (i := 25) rfl) (ow hw (i := 9) rfl) (ow hw (i := 27) rfl) (by decide) (a := b79) (rm4_inf l Z a0 hw h0 b79 (3 : Int32) b80 b81 b6 [(.double (18442240474082181120 : UInt64)), (.double w11), (.double (18442240474082181120 : UInt64)), (.double (18442240474082181120 : UInt64))] (b81, oA .int [(.int (4 : Int32))]) (b80, oA .int [o0]) [] (by decide) rfl) (lenOf pd_2 rfl) (hb hby at_100) (pc' := 103) rfl (argsL := [(.int (3 : Int32))]) (rest := []) rfl (by rw [hml]; rfl) (W := 0) (oLe rfl) (j := 2) rfl (by decide) (cells' := 4) rfl (slots' := 9) rfl ?_
            intro T v_ d_ q_ B
            obtain ⟨rfl, rfl⟩ := q_
            show oWin p e below Z h0 _ _ (T.setTop (mkF m 103 #[.val (.int a1), .val (.int a2), .val (.int a3), .val (.int a4), .val (.ref b6), .val (.ref b79)] [(.int (1 : Int32))]))
            refine W_iloadN B (hb hby at_103) (pc' := 104) rfl rfl ?_
            refine W_callS B (y := (⟨"com/example/bucketry/bucketry/table/TableIsZeroPinLaw", "zero", "(I)Z"⟩ : MethodName)) hown (ow hw (i := 29) rfl) (ow hw (i := 30) rfl) (ow hw (i := 3) rfl) (ow hw (i := 31) rfl) (by decide) (rm5 l Z a0 hw h0 a4 [(b81, oA .int [(.int (4 : Int32))]), (b80, oA .int [o0]), (b79, oO cn0 [(fk0, (.ref b80)), (fk1, (.ref b81)), (fk2, (.ref b6))]), (b6, oA .double [(.double (18442240474082181120 : UInt64)), (.double w11), (.double (18442240474082181120 : UInt64)), (.double (18442240474082181120 : UInt64))])]) (lenOf pd_2 rfl) (hb hby at_104) (pc' := 107) rfl (argsL := [(.int a4)]) (rest := [(.int (1 : Int32))]) rfl (by rw [hml]; rfl) (W := 1) (oLe rfl) (by decide) (cells' := 4) rfl (slots' := 9) rfl ?_
            intro T v_ d_ q_ B
            rcases q_ with ⟨q88, rfl, rfl⟩ | ⟨q89, rfl, rfl⟩
            · show oWin p e below Z h0 _ _ (T.setTop (mkF m 107 #[.val (.int a1), .val (.int a2), .val (.int a3), .val (.int a4), .val (.ref b6), .val (.ref b79)] [(.int (1 : Int32)), (.int (1 : Int32))]))
              refine W_icmpN B (hb hby at_107) (pc' := 110) rfl (by decide) ?_
              refine W_iconst B (hb hby at_110) (pc' := 111) rfl (z := (1 : Int32)) (by decide) ?_
              refine W_goto B (hb hby at_111) (by decide) (pc' := 115) (by decide) ?_
              refine W_retN B hret (by simp) (hb hby at_115) (by decide) ?_
              rfl
            show oWin p e below Z h0 _ _ (T.setTop (mkF m 107 #[.val (.int a1), .val (.int a2), .val (.int a3), .val (.int a4), .val (.ref b6), .val (.ref b79)] [(.int (0 : Int32)), (.int (1 : Int32))]))
            exact absurd q76 q89
          show oWin p e below Z h0 _ _ (T.setTop (mkF m 94 #[.val (.int a1), .val (.int a2), .val (.int a3), .val (.int a4), .val (.ref b6), .val (.ref b79)] [(.int (0 : Int32)), (.int (1 : Int32))]))
          exact absurd q72 q87
        show oWin p e below Z h0 _ _ (T.setTop (mkF m 68 #[.val (.int a1), .val (.int a2), .val (.int a3), .val (.int a4), .val (.ref b6), .val (.ref b79)] [(.int (0 : Int32)), (.int (1 : Int32))]))
        exact absurd q8 q83
      show oWin p e below Z h0 _ _ (T.setTop (mkF m 30 #[.val (.int a1), .val (.int a2), .val (.int a3), .val (.int a4), .unset, .unset] [(.double w75), (.int (3 : Int32)), (.ref b6), (.ref b6)]))
      refine W_dastore B (hb hby at_30) (pc' := 31) rfl (i := 0) rfl (by decide) (oLt rfl) (ds' := [(b6, oA .double [(.double (18442240474082181120 : UInt64)), (.double w11), (.double (18442240474082181120 : UInt64)), (.double w75)])]) rfl ?_
      intro T B
      refine W_astore B (hb hby at_31) (pc' := 33) rfl rfl (ls' := #[.val (.int a1), .val (.int a2), .val (.int a3), .val (.int a4), .val (.ref b6), .unset]) rfl ?_
      refine W_new B hown (ow hw (i := 7) rfl) (ow hw (i := 8) rfl) (ow hw (i := 9) rfl) (hb hby at_33) (pc' := 36) rfl (by decide) (cells' := 2) rfl (slots' := 7) rfl (fs := [(fk0, .null), (fk1, .null), (fk2, .null)]) (oAll_cons ⟨Or.inr (ow hw (i := 18) rfl), (.array .int), by decide, rfl⟩ (oAll_cons ⟨Or.inr (ow hw (i := 20) rfl), (.array .int), by decide, rfl⟩ (oAll_cons ⟨Or.inr (ow hw (i := 22) rfl), (.array .double), by decide, rfl⟩ oAll_nil))) (by decide) ?_
      intro T b90 B
      refine W_dup B (hb hby at_36) (pc' := 37) rfl rfl ?_
      refine W_iconst B (hb hby at_37) (pc' := 38) rfl (z := (1 : Int32)) (by decide) ?_
      refine W_newarray B (ow hw (i := 10) rfl) (hb hby at_38) (pc' := 40) rfl (by decide) (cap := 1) (by decide) (by decide) (cells' := 3) rfl (slots' := 8) rfl (vs := [(.int (0 : Int32))]) rfl (ty := .int) rfl ?_
      intro T b91 B
      refine W_dup B (hb hby at_40) (pc' := 41) rfl rfl ?_
      refine W_iconst B (hb hby at_41) (pc' := 42) rfl (z := (0 : Int32)) (by decide) ?_
      refine W_iconst B (hb hby at_42) (pc' := 43) rfl (z := (0 : Int32)) (by decide) ?_
      refine W_iastore B (hb hby at_43) (pc' := 44) rfl (i := 0) rfl (by decide) (oLt rfl) (ds' := [(b91, oA .int [o0]), (b90, oO cn0 [(fk0, .null), (fk1, .null), (fk2, .null)]), (b6, oA .double [(.double (18442240474082181120 : UInt64)), (.double w11), (.double (18442240474082181120 : UInt64)), (.double w75)])]) rfl ?_
      intro T B
      refine W_iconst B (hb hby at_44) (pc' := 45) rfl (z := (1 : Int32)) (by decide) ?_
      refine W_newarray B (ow hw (i := 10) rfl) (hb hby at_45) (pc' := 47) rfl (by decide) (cap := 1) (by decide) (by decide) (cells' := 4) rfl (slots' := 9) rfl (vs := [(.int (0 : Int32))]) rfl (ty := .int) rfl ?_
      intro T b92 B
      refine W_dup B (hb hby at_47) (pc' := 48) rfl rfl ?_
      refine W_iconst B (hb hby at_48) (pc' := 49) rfl (z := (0 : Int32)) (by decide) ?_
      refine W_iconst B (hb hby at_49) (pc' := 50) rfl (z := (4 : Int32)) (by decide) ?_
      refine W_iastore B (hb hby at_50) (pc' := 51) rfl (i := 0) rfl (by decide) (oLt rfl) (ds' := [(b92, oA .int [(.int (4 : Int32))]), (b91, oA .int [o0]), (b90, oO cn0 [(fk0, .null), (fk1, .null), (fk2, .null)]), (b6, oA .double [(.double (18442240474082181120 : UInt64)), (.double w11), (.double (18442240474082181120 : UInt64)), (.double w75)])]) rfl ?_
      intro T B
      refine W_aload B (hb hby at_51) (pc' := 53) rfl rfl rfl ?_
      refine W_init B (y := (⟨"com/example/bucketry/bucketry/table/Table", "<init>", "([I[I[D)V"⟩ : MethodName)) hown rfl (ow hw (i := 11) rfl) (ow hw (i := 12) rfl) (ow hw (i := 9) rfl) (ow hw (i := 13) rfl) (by decide) (a := b90) (rm2 l Z a0 hw h0 b90 b91 b92 b6 (b92, oA .int [(.int (4 : Int32))]) (b91, oA .int [o0]) [(b6, oA .double [(.double (18442240474082181120 : UInt64)), (.double w11), (.double (18442240474082181120 : UInt64)), (.double w75)])]) (lenOf pd_1 rfl) (hb hby at_53) (pc' := 56) rfl (argsL := [(.ref b91), (.ref b92), (.ref b6)]) (rest := [(.ref b90)]) rfl (by rw [hml]; rfl) (W := 1) (oLe rfl) (by decide) (cells' := 4) rfl (slots' := 9) rfl ?_
      intro T v_ d_ q_ B
      obtain ⟨rfl, rfl⟩ := q_
      show oWin p e below Z h0 _ _ (T.setTop (mkF m 56 #[.val (.int a1), .val (.int a2), .val (.int a3), .val (.int a4), .val (.ref b6), .unset] [(.ref b90)]))
      refine W_astore B (hb hby at_56) (pc' := 58) rfl rfl (ls' := #[.val (.int a1), .val (.int a2), .val (.int a3), .val (.int a4), .val (.ref b6), .val (.ref b90)]) rfl ?_
      refine W_aload B (hb hby at_58) (pc' := 60) rfl rfl rfl ?_
      refine W_iconst B (hb hby at_60) (pc' := 61) rfl (z := (0 : Int32)) (by decide) ?_
      refine W_virtual B (y := (⟨"com/example/bucketry/bucketry/table/Table", "isZero", "(I)Z"⟩ : MethodName)) (z := (⟨"com/example/bucketry/bucketry/table/Table", "isZero", "(I)Z"⟩ : MethodName)) hown (ow hw (i := 23) rfl) (ow hw (i := 24) rfl) (oNotFace B (ow hw (i := 26) rfl) rfl) (ow hw (i := 26) rfl) (ow hw (i := 25) rfl) (ow hw (i := 9) rfl) (ow hw (i := 27) rfl) (by decide) (a := b90) (rm4_inf l Z a0 hw h0 b90 (0 : Int32) b91 b92 b6 [(.double (18442240474082181120 : UInt64)), (.double w11), (.double (18442240474082181120 : UInt64)), (.double w75)] (b92, oA .int [(.int (4 : Int32))]) (b91, oA .int [o0]) [] (by decide) rfl) (lenOf pd_2 rfl) (hb hby at_61) (pc' := 64) rfl (argsL := [(.int (0 : Int32))]) (rest := []) rfl (by rw [hml]; rfl) (W := 0) (oLe rfl) (j := 2) rfl (by decide) (cells' := 4) rfl (slots' := 9) rfl ?_
      intro T v_ d_ q_ B
      obtain ⟨rfl, rfl⟩ := q_
      show oWin p e below Z h0 _ _ (T.setTop (mkF m 64 #[.val (.int a1), .val (.int a2), .val (.int a3), .val (.int a4), .val (.ref b6), .val (.ref b90)] [(.int (1 : Int32))]))
      refine W_iloadN B (hb hby at_64) (pc' := 65) rfl rfl ?_
      refine W_callS B (y := (⟨"com/example/bucketry/bucketry/table/TableIsZeroPinLaw", "zero", "(I)Z"⟩ : MethodName)) hown (ow hw (i := 29) rfl) (ow hw (i := 30) rfl) (ow hw (i := 3) rfl) (ow hw (i := 31) rfl) (by decide) (rm5 l Z a0 hw h0 a1 [(b92, oA .int [(.int (4 : Int32))]), (b91, oA .int [o0]), (b90, oO cn0 [(fk0, (.ref b91)), (fk1, (.ref b92)), (fk2, (.ref b6))]), (b6, oA .double [(.double (18442240474082181120 : UInt64)), (.double w11), (.double (18442240474082181120 : UInt64)), (.double w75)])]) (lenOf pd_2 rfl) (hb hby at_65) (pc' := 68) rfl (argsL := [(.int a1)]) (rest := [(.int (1 : Int32))]) rfl (by rw [hml]; rfl) (W := 1) (oLe rfl) (by decide) (cells' := 4) rfl (slots' := 9) rfl ?_
      intro T v_ d_ q_ B
      rcases q_ with ⟨q93, rfl, rfl⟩ | ⟨q94, rfl, rfl⟩
      · show oWin p e below Z h0 _ _ (T.setTop (mkF m 68 #[.val (.int a1), .val (.int a2), .val (.int a3), .val (.int a4), .val (.ref b6), .val (.ref b90)] [(.int (1 : Int32)), (.int (1 : Int32))]))
        refine W_icmpN B (hb hby at_68) (pc' := 71) rfl (by decide) ?_
        refine W_aload B (hb hby at_71) (pc' := 73) rfl rfl rfl ?_
        refine W_iconst B (hb hby at_73) (pc' := 74) rfl (z := (1 : Int32)) (by decide) ?_
        refine W_virtual B (y := (⟨"com/example/bucketry/bucketry/table/Table", "isZero", "(I)Z"⟩ : MethodName)) (z := (⟨"com/example/bucketry/bucketry/table/Table", "isZero", "(I)Z"⟩ : MethodName)) hown (ow hw (i := 23) rfl) (ow hw (i := 24) rfl) (oNotFace B (ow hw (i := 26) rfl) rfl) (ow hw (i := 26) rfl) (ow hw (i := 25) rfl) (ow hw (i := 9) rfl) (ow hw (i := 27) rfl) (by decide) (a := b90) (rm4_fin l Z a0 hw h0 b90 (1 : Int32) b91 b92 b6 [(.double (18442240474082181120 : UInt64)), (.double w11), (.double (18442240474082181120 : UInt64)), (.double w75)] w11 (b92, oA .int [(.int (4 : Int32))]) (b91, oA .int [o0]) [] (by decide) rfl q14) (lenOf pd_2 rfl) (hb hby at_74) (pc' := 77) rfl (argsL := [(.int (1 : Int32))]) (rest := []) rfl (by rw [hml]; rfl) (W := 0) (oLe rfl) (j := 2) rfl (by decide) (cells' := 4) rfl (slots' := 9) rfl ?_
        intro T v_ d_ q_ B
        obtain ⟨rfl, rfl⟩ := q_
        show oWin p e below Z h0 _ _ (T.setTop (mkF m 77 #[.val (.int a1), .val (.int a2), .val (.int a3), .val (.int a4), .val (.ref b6), .val (.ref b90)] [(.int (0 : Int32))]))
        refine W_iloadN B (hb hby at_77) (pc' := 78) rfl rfl ?_
        refine W_callS B (y := (⟨"com/example/bucketry/bucketry/table/TableIsZeroPinLaw", "zero", "(I)Z"⟩ : MethodName)) hown (ow hw (i := 29) rfl) (ow hw (i := 30) rfl) (ow hw (i := 3) rfl) (ow hw (i := 31) rfl) (by decide) (rm5 l Z a0 hw h0 a2 [(b92, oA .int [(.int (4 : Int32))]), (b91, oA .int [o0]), (b90, oO cn0 [(fk0, (.ref b91)), (fk1, (.ref b92)), (fk2, (.ref b6))]), (b6, oA .double [(.double (18442240474082181120 : UInt64)), (.double w11), (.double (18442240474082181120 : UInt64)), (.double w75)])]) (lenOf pd_2 rfl) (hb hby at_78) (pc' := 81) rfl (argsL := [(.int a2)]) (rest := [(.int (0 : Int32))]) rfl (by rw [hml]; rfl) (W := 1) (oLe rfl) (by decide) (cells' := 4) rfl (slots' := 9) rfl ?_
        intro T v_ d_ q_ B
        rcases q_ with ⟨q95, rfl, rfl⟩ | ⟨q96, rfl, rfl⟩
        · show oWin p e below Z h0 _ _ (T.setTop (mkF m 81 #[.val (.int a1), .val (.int a2), .val (.int a3), .val (.int a4), .val (.ref b6), .val (.ref b90)] [(.int (1 : Int32)), (.int (0 : Int32))]))
          exact absurd q95 q13
        show oWin p e below Z h0 _ _ (T.setTop (mkF m 81 #[.val (.int a1), .val (.int a2), .val (.int a3), .val (.int a4), .val (.ref b6), .val (.ref b90)] [(.int (0 : Int32)), (.int (0 : Int32))]))
        refine W_icmpN B (hb hby at_81) (pc' := 84) rfl (by decide) ?_
        refine W_aload B (hb hby at_84) (pc' := 86) rfl rfl rfl ?_
        refine W_iconst B (hb hby at_86) (pc' := 87) rfl (z := (2 : Int32)) (by decide) ?_
        refine W_virtual B (y := (⟨"com/example/bucketry/bucketry/table/Table", "isZero", "(I)Z"⟩ : MethodName)) (z := (⟨"com/example/bucketry/bucketry/table/Table", "isZero", "(I)Z"⟩ : MethodName)) hown (ow hw (i := 23) rfl) (ow hw (i := 24) rfl) (oNotFace B (ow hw (i := 26) rfl) rfl) (ow hw (i := 26) rfl) (ow hw (i := 25) rfl) (ow hw (i := 9) rfl) (ow hw (i := 27) rfl) (by decide) (a := b90) (rm4_inf l Z a0 hw h0 b90 (2 : Int32) b91 b92 b6 [(.double (18442240474082181120 : UInt64)), (.double w11), (.double (18442240474082181120 : UInt64)), (.double w75)] (b92, oA .int [(.int (4 : Int32))]) (b91, oA .int [o0]) [] (by decide) rfl) (lenOf pd_2 rfl) (hb hby at_87) (pc' := 90) rfl (argsL := [(.int (2 : Int32))]) (rest := []) rfl (by rw [hml]; rfl) (W := 0) (oLe rfl) (j := 2) rfl (by decide) (cells' := 4) rfl (slots' := 9) rfl ?_
        intro T v_ d_ q_ B
        obtain ⟨rfl, rfl⟩ := q_
        show oWin p e below Z h0 _ _ (T.setTop (mkF m 90 #[.val (.int a1), .val (.int a2), .val (.int a3), .val (.int a4), .val (.ref b6), .val (.ref b90)] [(.int (1 : Int32))]))
        refine W_iloadN B (hb hby at_90) (pc' := 91) rfl rfl ?_
        refine W_callS B (y := (⟨"com/example/bucketry/bucketry/table/TableIsZeroPinLaw", "zero", "(I)Z"⟩ : MethodName)) hown (ow hw (i := 29) rfl) (ow hw (i := 30) rfl) (ow hw (i := 3) rfl) (ow hw (i := 31) rfl) (by decide) (rm5 l Z a0 hw h0 a3 [(b92, oA .int [(.int (4 : Int32))]), (b91, oA .int [o0]), (b90, oO cn0 [(fk0, (.ref b91)), (fk1, (.ref b92)), (fk2, (.ref b6))]), (b6, oA .double [(.double (18442240474082181120 : UInt64)), (.double w11), (.double (18442240474082181120 : UInt64)), (.double w75)])]) (lenOf pd_2 rfl) (hb hby at_91) (pc' := 94) rfl (argsL := [(.int a3)]) (rest := [(.int (1 : Int32))]) rfl (by rw [hml]; rfl) (W := 1) (oLe rfl) (by decide) (cells' := 4) rfl (slots' := 9) rfl ?_
        intro T v_ d_ q_ B
        rcases q_ with ⟨q97, rfl, rfl⟩ | ⟨q98, rfl, rfl⟩
        · show oWin p e below Z h0 _ _ (T.setTop (mkF m 94 #[.val (.int a1), .val (.int a2), .val (.int a3), .val (.int a4), .val (.ref b6), .val (.ref b90)] [(.int (1 : Int32)), (.int (1 : Int32))]))
          refine W_icmpN B (hb hby at_94) (pc' := 97) rfl (by decide) ?_
          refine W_aload B (hb hby at_97) (pc' := 99) rfl rfl rfl ?_
          refine W_iconst B (hb hby at_99) (pc' := 100) rfl (z := (3 : Int32)) (by decide) ?_
          refine W_virtual B (y := (⟨"com/example/bucketry/bucketry/table/Table", "isZero", "(I)Z"⟩ : MethodName)) (z := (⟨"com/example/bucketry/bucketry/table/Table", "isZero", "(I)Z"⟩ : MethodName)) hown (ow hw (i := 23) rfl) (ow hw (i := 24) rfl) (oNotFace B (ow hw (i := 26) rfl) rfl) (ow hw (i := 26) rfl) (ow hw (i := 25) rfl) (ow hw (i := 9) rfl) (ow hw (i := 27) rfl) (by decide) (a := b90) (rm4_fin l Z a0 hw h0 b90 (3 : Int32) b91 b92 b6 [(.double (18442240474082181120 : UInt64)), (.double w11), (.double (18442240474082181120 : UInt64)), (.double w75)] w75 (b92, oA .int [(.int (4 : Int32))]) (b91, oA .int [o0]) [] (by decide) rfl q78) (lenOf pd_2 rfl) (hb hby at_100) (pc' := 103) rfl (argsL := [(.int (3 : Int32))]) (rest := []) rfl (by rw [hml]; rfl) (W := 0) (oLe rfl) (j := 2) rfl (by decide) (cells' := 4) rfl (slots' := 9) rfl ?_
          intro T v_ d_ q_ B
          obtain ⟨rfl, rfl⟩ := q_
          show oWin p e below Z h0 _ _ (T.setTop (mkF m 103 #[.val (.int a1), .val (.int a2), .val (.int a3), .val (.int a4), .val (.ref b6), .val (.ref b90)] [(.int (0 : Int32))]))
          refine W_iloadN B (hb hby at_103) (pc' := 104) rfl rfl ?_
          refine W_callS B (y := (⟨"com/example/bucketry/bucketry/table/TableIsZeroPinLaw", "zero", "(I)Z"⟩ : MethodName)) hown (ow hw (i := 29) rfl) (ow hw (i := 30) rfl) (ow hw (i := 3) rfl) (ow hw (i := 31) rfl) (by decide) (rm5 l Z a0 hw h0 a4 [(b92, oA .int [(.int (4 : Int32))]), (b91, oA .int [o0]), (b90, oO cn0 [(fk0, (.ref b91)), (fk1, (.ref b92)), (fk2, (.ref b6))]), (b6, oA .double [(.double (18442240474082181120 : UInt64)), (.double w11), (.double (18442240474082181120 : UInt64)), (.double w75)])]) (lenOf pd_2 rfl) (hb hby at_104) (pc' := 107) rfl (argsL := [(.int a4)]) (rest := [(.int (0 : Int32))]) rfl (by rw [hml]; rfl) (W := 1) (oLe rfl) (by decide) (cells' := 4) rfl (slots' := 9) rfl ?_
          intro T v_ d_ q_ B
          rcases q_ with ⟨q99, rfl, rfl⟩ | ⟨q100, rfl, rfl⟩
          · show oWin p e below Z h0 _ _ (T.setTop (mkF m 107 #[.val (.int a1), .val (.int a2), .val (.int a3), .val (.int a4), .val (.ref b6), .val (.ref b90)] [(.int (1 : Int32)), (.int (0 : Int32))]))
            exact absurd q99 q77
          show oWin p e below Z h0 _ _ (T.setTop (mkF m 107 #[.val (.int a1), .val (.int a2), .val (.int a3), .val (.int a4), .val (.ref b6), .val (.ref b90)] [(.int (0 : Int32)), (.int (0 : Int32))]))
          refine W_icmpN B (hb hby at_107) (pc' := 110) rfl (by decide) ?_
          refine W_iconst B (hb hby at_110) (pc' := 111) rfl (z := (1 : Int32)) (by decide) ?_
          refine W_goto B (hb hby at_111) (by decide) (pc' := 115) (by decide) ?_
          refine W_retN B hret (by simp) (hb hby at_115) (by decide) ?_
          rfl
        show oWin p e below Z h0 _ _ (T.setTop (mkF m 94 #[.val (.int a1), .val (.int a2), .val (.int a3), .val (.int a4), .val (.ref b6), .val (.ref b90)] [(.int (0 : Int32)), (.int (1 : Int32))]))
        exact absurd q72 q98
      show oWin p e below Z h0 _ _ (T.setTop (mkF m 68 #[.val (.int a1), .val (.int a2), .val (.int a3), .val (.int a4), .val (.ref b6), .val (.ref b90)] [(.int (0 : Int32)), (.int (1 : Int32))]))
      exact absurd q8 q94
    show oWin p e below Z h0 _ _ (T.setTop (mkF m 23 #[.val (.int a1), .val (.int a2), .val (.int a3), .val (.int a4), .unset, .unset] [(.double w71), (.int (2 : Int32)), (.ref b6), (.ref b6)]))
    refine W_dastore B (hb hby at_23) (pc' := 24) rfl (i := 0) rfl (by decide) (oLt rfl) (ds' := [(b6, oA .double [(.double (18442240474082181120 : UInt64)), (.double w11), (.double w71), (.double 0)])]) rfl ?_
    intro T B
    refine W_dup B (hb hby at_24) (pc' := 25) rfl rfl ?_
    refine W_iconst B (hb hby at_25) (pc' := 26) rfl (z := (3 : Int32)) (by decide) ?_
    refine W_iloadN B (hb hby at_26) (pc' := 27) rfl rfl ?_
    refine W_callS B (y := (⟨"com/example/bucketry/bucketry/table/TableIsZeroPinLaw", "entry", "(I)D"⟩ : MethodName)) hown (ow hw (i := 1) rfl) (ow hw (i := 2) rfl) (ow hw (i := 3) rfl) (ow hw (i := 4) rfl) (by decide) (rm1 l Z a0 hw h0 a4 [(b6, oA .double [(.double (18442240474082181120 : UInt64)), (.double w11), (.double w71), (.double 0)])]) (lenOf pd_0 rfl) (hb hby at_27) (pc' := 30) rfl (argsL := [(.int a4)]) (rest := [(.int (3 : Int32)), (.ref b6), (.ref b6)]) rfl (by rw [hml]; rfl) (W := 3) (oLe rfl) (by decide) (cells' := 1) rfl (slots' := 4) rfl ?_
    intro T v_ d_ q_ B
    rcases q_ with ⟨q102, rfl, rfl⟩ | ⟨w101, q103, q104, rfl, rfl⟩
    · show oWin p e below Z h0 _ _ (T.setTop (mkF m 30 #[.val (.int a1), .val (.int a2), .val (.int a3), .val (.int a4), .unset, .unset] [(.double (18442240474082181120 : UInt64)), (.int (3 : Int32)), (.ref b6), (.ref b6)]))
      refine W_dastore B (hb hby at_30) (pc' := 31) rfl (i := 0) rfl (by decide) (oLt rfl) (ds' := [(b6, oA .double [(.double (18442240474082181120 : UInt64)), (.double w11), (.double w71), (.double (18442240474082181120 : UInt64))])]) rfl ?_
      intro T B
      refine W_astore B (hb hby at_31) (pc' := 33) rfl rfl (ls' := #[.val (.int a1), .val (.int a2), .val (.int a3), .val (.int a4), .val (.ref b6), .unset]) rfl ?_
      refine W_new B hown (ow hw (i := 7) rfl) (ow hw (i := 8) rfl) (ow hw (i := 9) rfl) (hb hby at_33) (pc' := 36) rfl (by decide) (cells' := 2) rfl (slots' := 7) rfl (fs := [(fk0, .null), (fk1, .null), (fk2, .null)]) (oAll_cons ⟨Or.inr (ow hw (i := 18) rfl), (.array .int), by decide, rfl⟩ (oAll_cons ⟨Or.inr (ow hw (i := 20) rfl), (.array .int), by decide, rfl⟩ (oAll_cons ⟨Or.inr (ow hw (i := 22) rfl), (.array .double), by decide, rfl⟩ oAll_nil))) (by decide) ?_
      intro T b105 B
      refine W_dup B (hb hby at_36) (pc' := 37) rfl rfl ?_
      refine W_iconst B (hb hby at_37) (pc' := 38) rfl (z := (1 : Int32)) (by decide) ?_
      refine W_newarray B (ow hw (i := 10) rfl) (hb hby at_38) (pc' := 40) rfl (by decide) (cap := 1) (by decide) (by decide) (cells' := 3) rfl (slots' := 8) rfl (vs := [(.int (0 : Int32))]) rfl (ty := .int) rfl ?_
      intro T b106 B
      refine W_dup B (hb hby at_40) (pc' := 41) rfl rfl ?_
      refine W_iconst B (hb hby at_41) (pc' := 42) rfl (z := (0 : Int32)) (by decide) ?_
      refine W_iconst B (hb hby at_42) (pc' := 43) rfl (z := (0 : Int32)) (by decide) ?_
      refine W_iastore B (hb hby at_43) (pc' := 44) rfl (i := 0) rfl (by decide) (oLt rfl) (ds' := [(b106, oA .int [o0]), (b105, oO cn0 [(fk0, .null), (fk1, .null), (fk2, .null)]), (b6, oA .double [(.double (18442240474082181120 : UInt64)), (.double w11), (.double w71), (.double (18442240474082181120 : UInt64))])]) rfl ?_
      intro T B
      refine W_iconst B (hb hby at_44) (pc' := 45) rfl (z := (1 : Int32)) (by decide) ?_
      refine W_newarray B (ow hw (i := 10) rfl) (hb hby at_45) (pc' := 47) rfl (by decide) (cap := 1) (by decide) (by decide) (cells' := 4) rfl (slots' := 9) rfl (vs := [(.int (0 : Int32))]) rfl (ty := .int) rfl ?_
      intro T b107 B
      refine W_dup B (hb hby at_47) (pc' := 48) rfl rfl ?_
      refine W_iconst B (hb hby at_48) (pc' := 49) rfl (z := (0 : Int32)) (by decide) ?_
      refine W_iconst B (hb hby at_49) (pc' := 50) rfl (z := (4 : Int32)) (by decide) ?_
      refine W_iastore B (hb hby at_50) (pc' := 51) rfl (i := 0) rfl (by decide) (oLt rfl) (ds' := [(b107, oA .int [(.int (4 : Int32))]), (b106, oA .int [o0]), (b105, oO cn0 [(fk0, .null), (fk1, .null), (fk2, .null)]), (b6, oA .double [(.double (18442240474082181120 : UInt64)), (.double w11), (.double w71), (.double (18442240474082181120 : UInt64))])]) rfl ?_
      intro T B
      refine W_aload B (hb hby at_51) (pc' := 53) rfl rfl rfl ?_
      refine W_init B (y := (⟨"com/example/bucketry/bucketry/table/Table", "<init>", "([I[I[D)V"⟩ : MethodName)) hown rfl (ow hw (i := 11) rfl) (ow hw (i := 12) rfl) (ow hw (i := 9) rfl) (ow hw (i := 13) rfl) (by decide) (a := b105) (rm2 l Z a0 hw h0 b105 b106 b107 b6 (b107, oA .int [(.int (4 : Int32))]) (b106, oA .int [o0]) [(b6, oA .double [(.double (18442240474082181120 : UInt64)), (.double w11), (.double w71), (.double (18442240474082181120 : UInt64))])]) (lenOf pd_1 rfl) (hb hby at_53) (pc' := 56) rfl (argsL := [(.ref b106), (.ref b107), (.ref b6)]) (rest := [(.ref b105)]) rfl (by rw [hml]; rfl) (W := 1) (oLe rfl) (by decide) (cells' := 4) rfl (slots' := 9) rfl ?_
      intro T v_ d_ q_ B
      obtain ⟨rfl, rfl⟩ := q_
      show oWin p e below Z h0 _ _ (T.setTop (mkF m 56 #[.val (.int a1), .val (.int a2), .val (.int a3), .val (.int a4), .val (.ref b6), .unset] [(.ref b105)]))
      refine W_astore B (hb hby at_56) (pc' := 58) rfl rfl (ls' := #[.val (.int a1), .val (.int a2), .val (.int a3), .val (.int a4), .val (.ref b6), .val (.ref b105)]) rfl ?_
      refine W_aload B (hb hby at_58) (pc' := 60) rfl rfl rfl ?_
      refine W_iconst B (hb hby at_60) (pc' := 61) rfl (z := (0 : Int32)) (by decide) ?_
      refine W_virtual B (y := (⟨"com/example/bucketry/bucketry/table/Table", "isZero", "(I)Z"⟩ : MethodName)) (z := (⟨"com/example/bucketry/bucketry/table/Table", "isZero", "(I)Z"⟩ : MethodName)) hown (ow hw (i := 23) rfl) (ow hw (i := 24) rfl) (oNotFace B (ow hw (i := 26) rfl) rfl) (ow hw (i := 26) rfl) (ow hw (i := 25) rfl) (ow hw (i := 9) rfl) (ow hw (i := 27) rfl) (by decide) (a := b105) (rm4_inf l Z a0 hw h0 b105 (0 : Int32) b106 b107 b6 [(.double (18442240474082181120 : UInt64)), (.double w11), (.double w71), (.double (18442240474082181120 : UInt64))] (b107, oA .int [(.int (4 : Int32))]) (b106, oA .int [o0]) [] (by decide) rfl) (lenOf pd_2 rfl) (hb hby at_61) (pc' := 64) rfl (argsL := [(.int (0 : Int32))]) (rest := []) rfl (by rw [hml]; rfl) (W := 0) (oLe rfl) (j := 2) rfl (by decide) (cells' := 4) rfl (slots' := 9) rfl ?_
      intro T v_ d_ q_ B
      obtain ⟨rfl, rfl⟩ := q_
      show oWin p e below Z h0 _ _ (T.setTop (mkF m 64 #[.val (.int a1), .val (.int a2), .val (.int a3), .val (.int a4), .val (.ref b6), .val (.ref b105)] [(.int (1 : Int32))]))
      refine W_iloadN B (hb hby at_64) (pc' := 65) rfl rfl ?_
      refine W_callS B (y := (⟨"com/example/bucketry/bucketry/table/TableIsZeroPinLaw", "zero", "(I)Z"⟩ : MethodName)) hown (ow hw (i := 29) rfl) (ow hw (i := 30) rfl) (ow hw (i := 3) rfl) (ow hw (i := 31) rfl) (by decide) (rm5 l Z a0 hw h0 a1 [(b107, oA .int [(.int (4 : Int32))]), (b106, oA .int [o0]), (b105, oO cn0 [(fk0, (.ref b106)), (fk1, (.ref b107)), (fk2, (.ref b6))]), (b6, oA .double [(.double (18442240474082181120 : UInt64)), (.double w11), (.double w71), (.double (18442240474082181120 : UInt64))])]) (lenOf pd_2 rfl) (hb hby at_65) (pc' := 68) rfl (argsL := [(.int a1)]) (rest := [(.int (1 : Int32))]) rfl (by rw [hml]; rfl) (W := 1) (oLe rfl) (by decide) (cells' := 4) rfl (slots' := 9) rfl ?_
      intro T v_ d_ q_ B
      rcases q_ with ⟨q108, rfl, rfl⟩ | ⟨q109, rfl, rfl⟩
      · show oWin p e below Z h0 _ _ (T.setTop (mkF m 68 #[.val (.int a1), .val (.int a2), .val (.int a3), .val (.int a4), .val (.ref b6), .val (.ref b105)] [(.int (1 : Int32)), (.int (1 : Int32))]))
        refine W_icmpN B (hb hby at_68) (pc' := 71) rfl (by decide) ?_
        refine W_aload B (hb hby at_71) (pc' := 73) rfl rfl rfl ?_
        refine W_iconst B (hb hby at_73) (pc' := 74) rfl (z := (1 : Int32)) (by decide) ?_
        refine W_virtual B (y := (⟨"com/example/bucketry/bucketry/table/Table", "isZero", "(I)Z"⟩ : MethodName)) (z := (⟨"com/example/bucketry/bucketry/table/Table", "isZero", "(I)Z"⟩ : MethodName)) hown (ow hw (i := 23) rfl) (ow hw (i := 24) rfl) (oNotFace B (ow hw (i := 26) rfl) rfl) (ow hw (i := 26) rfl) (ow hw (i := 25) rfl) (ow hw (i := 9) rfl) (ow hw (i := 27) rfl) (by decide) (a := b105) (rm4_fin l Z a0 hw h0 b105 (1 : Int32) b106 b107 b6 [(.double (18442240474082181120 : UInt64)), (.double w11), (.double w71), (.double (18442240474082181120 : UInt64))] w11 (b107, oA .int [(.int (4 : Int32))]) (b106, oA .int [o0]) [] (by decide) rfl q14) (lenOf pd_2 rfl) (hb hby at_74) (pc' := 77) rfl (argsL := [(.int (1 : Int32))]) (rest := []) rfl (by rw [hml]; rfl) (W := 0) (oLe rfl) (j := 2) rfl (by decide) (cells' := 4) rfl (slots' := 9) rfl ?_
        intro T v_ d_ q_ B
        obtain ⟨rfl, rfl⟩ := q_
        show oWin p e below Z h0 _ _ (T.setTop (mkF m 77 #[.val (.int a1), .val (.int a2), .val (.int a3), .val (.int a4), .val (.ref b6), .val (.ref b105)] [(.int (0 : Int32))]))
        refine W_iloadN B (hb hby at_77) (pc' := 78) rfl rfl ?_
        refine W_callS B (y := (⟨"com/example/bucketry/bucketry/table/TableIsZeroPinLaw", "zero", "(I)Z"⟩ : MethodName)) hown (ow hw (i := 29) rfl) (ow hw (i := 30) rfl) (ow hw (i := 3) rfl) (ow hw (i := 31) rfl) (by decide) (rm5 l Z a0 hw h0 a2 [(b107, oA .int [(.int (4 : Int32))]), (b106, oA .int [o0]), (b105, oO cn0 [(fk0, (.ref b106)), (fk1, (.ref b107)), (fk2, (.ref b6))]), (b6, oA .double [(.double (18442240474082181120 : UInt64)), (.double w11), (.double w71), (.double (18442240474082181120 : UInt64))])]) (lenOf pd_2 rfl) (hb hby at_78) (pc' := 81) rfl (argsL := [(.int a2)]) (rest := [(.int (0 : Int32))]) rfl (by rw [hml]; rfl) (W := 1) (oLe rfl) (by decide) (cells' := 4) rfl (slots' := 9) rfl ?_
        intro T v_ d_ q_ B
        rcases q_ with ⟨q110, rfl, rfl⟩ | ⟨q111, rfl, rfl⟩
        · show oWin p e below Z h0 _ _ (T.setTop (mkF m 81 #[.val (.int a1), .val (.int a2), .val (.int a3), .val (.int a4), .val (.ref b6), .val (.ref b105)] [(.int (1 : Int32)), (.int (0 : Int32))]))
          exact absurd q110 q13
        show oWin p e below Z h0 _ _ (T.setTop (mkF m 81 #[.val (.int a1), .val (.int a2), .val (.int a3), .val (.int a4), .val (.ref b6), .val (.ref b105)] [(.int (0 : Int32)), (.int (0 : Int32))]))
        refine W_icmpN B (hb hby at_81) (pc' := 84) rfl (by decide) ?_
        refine W_aload B (hb hby at_84) (pc' := 86) rfl rfl rfl ?_
        refine W_iconst B (hb hby at_86) (pc' := 87) rfl (z := (2 : Int32)) (by decide) ?_
        refine W_virtual B (y := (⟨"com/example/bucketry/bucketry/table/Table", "isZero", "(I)Z"⟩ : MethodName)) (z := (⟨"com/example/bucketry/bucketry/table/Table", "isZero", "(I)Z"⟩ : MethodName)) hown (ow hw (i := 23) rfl) (ow hw (i := 24) rfl) (oNotFace B (ow hw (i := 26) rfl) rfl) (ow hw (i := 26) rfl) (ow hw (i := 25) rfl) (ow hw (i := 9) rfl) (ow hw (i := 27) rfl) (by decide) (a := b105) (rm4_fin l Z a0 hw h0 b105 (2 : Int32) b106 b107 b6 [(.double (18442240474082181120 : UInt64)), (.double w11), (.double w71), (.double (18442240474082181120 : UInt64))] w71 (b107, oA .int [(.int (4 : Int32))]) (b106, oA .int [o0]) [] (by decide) rfl q74) (lenOf pd_2 rfl) (hb hby at_87) (pc' := 90) rfl (argsL := [(.int (2 : Int32))]) (rest := []) rfl (by rw [hml]; rfl) (W := 0) (oLe rfl) (j := 2) rfl (by decide) (cells' := 4) rfl (slots' := 9) rfl ?_
        intro T v_ d_ q_ B
        obtain ⟨rfl, rfl⟩ := q_
        show oWin p e below Z h0 _ _ (T.setTop (mkF m 90 #[.val (.int a1), .val (.int a2), .val (.int a3), .val (.int a4), .val (.ref b6), .val (.ref b105)] [(.int (0 : Int32))]))
        refine W_iloadN B (hb hby at_90) (pc' := 91) rfl rfl ?_
        refine W_callS B (y := (⟨"com/example/bucketry/bucketry/table/TableIsZeroPinLaw", "zero", "(I)Z"⟩ : MethodName)) hown (ow hw (i := 29) rfl) (ow hw (i := 30) rfl) (ow hw (i := 3) rfl) (ow hw (i := 31) rfl) (by decide) (rm5 l Z a0 hw h0 a3 [(b107, oA .int [(.int (4 : Int32))]), (b106, oA .int [o0]), (b105, oO cn0 [(fk0, (.ref b106)), (fk1, (.ref b107)), (fk2, (.ref b6))]), (b6, oA .double [(.double (18442240474082181120 : UInt64)), (.double w11), (.double w71), (.double (18442240474082181120 : UInt64))])]) (lenOf pd_2 rfl) (hb hby at_91) (pc' := 94) rfl (argsL := [(.int a3)]) (rest := [(.int (0 : Int32))]) rfl (by rw [hml]; rfl) (W := 1) (oLe rfl) (by decide) (cells' := 4) rfl (slots' := 9) rfl ?_
        intro T v_ d_ q_ B
        rcases q_ with ⟨q112, rfl, rfl⟩ | ⟨q113, rfl, rfl⟩
        · show oWin p e below Z h0 _ _ (T.setTop (mkF m 94 #[.val (.int a1), .val (.int a2), .val (.int a3), .val (.int a4), .val (.ref b6), .val (.ref b105)] [(.int (1 : Int32)), (.int (0 : Int32))]))
          exact absurd q112 q73
        show oWin p e below Z h0 _ _ (T.setTop (mkF m 94 #[.val (.int a1), .val (.int a2), .val (.int a3), .val (.int a4), .val (.ref b6), .val (.ref b105)] [(.int (0 : Int32)), (.int (0 : Int32))]))
        refine W_icmpN B (hb hby at_94) (pc' := 97) rfl (by decide) ?_
        refine W_aload B (hb hby at_97) (pc' := 99) rfl rfl rfl ?_
        refine W_iconst B (hb hby at_99) (pc' := 100) rfl (z := (3 : Int32)) (by decide) ?_
        refine W_virtual B (y := (⟨"com/example/bucketry/bucketry/table/Table", "isZero", "(I)Z"⟩ : MethodName)) (z := (⟨"com/example/bucketry/bucketry/table/Table", "isZero", "(I)Z"⟩ : MethodName)) hown (ow hw (i := 23) rfl) (ow hw (i := 24) rfl) (oNotFace B (ow hw (i := 26) rfl) rfl) (ow hw (i := 26) rfl) (ow hw (i := 25) rfl) (ow hw (i := 9) rfl) (ow hw (i := 27) rfl) (by decide) (a := b105) (rm4_inf l Z a0 hw h0 b105 (3 : Int32) b106 b107 b6 [(.double (18442240474082181120 : UInt64)), (.double w11), (.double w71), (.double (18442240474082181120 : UInt64))] (b107, oA .int [(.int (4 : Int32))]) (b106, oA .int [o0]) [] (by decide) rfl) (lenOf pd_2 rfl) (hb hby at_100) (pc' := 103) rfl (argsL := [(.int (3 : Int32))]) (rest := []) rfl (by rw [hml]; rfl) (W := 0) (oLe rfl) (j := 2) rfl (by decide) (cells' := 4) rfl (slots' := 9) rfl ?_
        intro T v_ d_ q_ B
        obtain ⟨rfl, rfl⟩ := q_
        show oWin p e below Z h0 _ _ (T.setTop (mkF m 103 #[.val (.int a1), .val (.int a2), .val (.int a3), .val (.int a4), .val (.ref b6), .val (.ref b105)] [(.int (1 : Int32))]))
        refine W_iloadN B (hb hby at_103) (pc' := 104) rfl rfl ?_
        refine W_callS B (y := (⟨"com/example/bucketry/bucketry/table/TableIsZeroPinLaw", "zero", "(I)Z"⟩ : MethodName)) hown (ow hw (i := 29) rfl) (ow hw (i := 30) rfl) (ow hw (i := 3) rfl) (ow hw (i := 31) rfl) (by decide) (rm5 l Z a0 hw h0 a4 [(b107, oA .int [(.int (4 : Int32))]), (b106, oA .int [o0]), (b105, oO cn0 [(fk0, (.ref b106)), (fk1, (.ref b107)), (fk2, (.ref b6))]), (b6, oA .double [(.double (18442240474082181120 : UInt64)), (.double w11), (.double w71), (.double (18442240474082181120 : UInt64))])]) (lenOf pd_2 rfl) (hb hby at_104) (pc' := 107) rfl (argsL := [(.int a4)]) (rest := [(.int (1 : Int32))]) rfl (by rw [hml]; rfl) (W := 1) (oLe rfl) (by decide) (cells' := 4) rfl (slots' := 9) rfl ?_
        intro T v_ d_ q_ B
        rcases q_ with ⟨q114, rfl, rfl⟩ | ⟨q115, rfl, rfl⟩
        · show oWin p e below Z h0 _ _ (T.setTop (mkF m 107 #[.val (.int a1), .val (.int a2), .val (.int a3), .val (.int a4), .val (.ref b6), .val (.ref b105)] [(.int (1 : Int32)), (.int (1 : Int32))]))
          refine W_icmpN B (hb hby at_107) (pc' := 110) rfl (by decide) ?_
          refine W_iconst B (hb hby at_110) (pc' := 111) rfl (z := (1 : Int32)) (by decide) ?_
          refine W_goto B (hb hby at_111) (by decide) (pc' := 115) (by decide) ?_
          refine W_retN B hret (by simp) (hb hby at_115) (by decide) ?_
          rfl
        show oWin p e below Z h0 _ _ (T.setTop (mkF m 107 #[.val (.int a1), .val (.int a2), .val (.int a3), .val (.int a4), .val (.ref b6), .val (.ref b105)] [(.int (0 : Int32)), (.int (1 : Int32))]))
        exact absurd q102 q115
      show oWin p e below Z h0 _ _ (T.setTop (mkF m 68 #[.val (.int a1), .val (.int a2), .val (.int a3), .val (.int a4), .val (.ref b6), .val (.ref b105)] [(.int (0 : Int32)), (.int (1 : Int32))]))
      exact absurd q8 q109
    show oWin p e below Z h0 _ _ (T.setTop (mkF m 30 #[.val (.int a1), .val (.int a2), .val (.int a3), .val (.int a4), .unset, .unset] [(.double w101), (.int (3 : Int32)), (.ref b6), (.ref b6)]))
    refine W_dastore B (hb hby at_30) (pc' := 31) rfl (i := 0) rfl (by decide) (oLt rfl) (ds' := [(b6, oA .double [(.double (18442240474082181120 : UInt64)), (.double w11), (.double w71), (.double w101)])]) rfl ?_
    intro T B
    refine W_astore B (hb hby at_31) (pc' := 33) rfl rfl (ls' := #[.val (.int a1), .val (.int a2), .val (.int a3), .val (.int a4), .val (.ref b6), .unset]) rfl ?_
    refine W_new B hown (ow hw (i := 7) rfl) (ow hw (i := 8) rfl) (ow hw (i := 9) rfl) (hb hby at_33) (pc' := 36) rfl (by decide) (cells' := 2) rfl (slots' := 7) rfl (fs := [(fk0, .null), (fk1, .null), (fk2, .null)]) (oAll_cons ⟨Or.inr (ow hw (i := 18) rfl), (.array .int), by decide, rfl⟩ (oAll_cons ⟨Or.inr (ow hw (i := 20) rfl), (.array .int), by decide, rfl⟩ (oAll_cons ⟨Or.inr (ow hw (i := 22) rfl), (.array .double), by decide, rfl⟩ oAll_nil))) (by decide) ?_
    intro T b116 B
    refine W_dup B (hb hby at_36) (pc' := 37) rfl rfl ?_
    refine W_iconst B (hb hby at_37) (pc' := 38) rfl (z := (1 : Int32)) (by decide) ?_
    refine W_newarray B (ow hw (i := 10) rfl) (hb hby at_38) (pc' := 40) rfl (by decide) (cap := 1) (by decide) (by decide) (cells' := 3) rfl (slots' := 8) rfl (vs := [(.int (0 : Int32))]) rfl (ty := .int) rfl ?_
    intro T b117 B
    refine W_dup B (hb hby at_40) (pc' := 41) rfl rfl ?_
    refine W_iconst B (hb hby at_41) (pc' := 42) rfl (z := (0 : Int32)) (by decide) ?_
    refine W_iconst B (hb hby at_42) (pc' := 43) rfl (z := (0 : Int32)) (by decide) ?_
    refine W_iastore B (hb hby at_43) (pc' := 44) rfl (i := 0) rfl (by decide) (oLt rfl) (ds' := [(b117, oA .int [o0]), (b116, oO cn0 [(fk0, .null), (fk1, .null), (fk2, .null)]), (b6, oA .double [(.double (18442240474082181120 : UInt64)), (.double w11), (.double w71), (.double w101)])]) rfl ?_
    intro T B
    refine W_iconst B (hb hby at_44) (pc' := 45) rfl (z := (1 : Int32)) (by decide) ?_
    refine W_newarray B (ow hw (i := 10) rfl) (hb hby at_45) (pc' := 47) rfl (by decide) (cap := 1) (by decide) (by decide) (cells' := 4) rfl (slots' := 9) rfl (vs := [(.int (0 : Int32))]) rfl (ty := .int) rfl ?_
    intro T b118 B
    refine W_dup B (hb hby at_47) (pc' := 48) rfl rfl ?_
    refine W_iconst B (hb hby at_48) (pc' := 49) rfl (z := (0 : Int32)) (by decide) ?_
    refine W_iconst B (hb hby at_49) (pc' := 50) rfl (z := (4 : Int32)) (by decide) ?_
    refine W_iastore B (hb hby at_50) (pc' := 51) rfl (i := 0) rfl (by decide) (oLt rfl) (ds' := [(b118, oA .int [(.int (4 : Int32))]), (b117, oA .int [o0]), (b116, oO cn0 [(fk0, .null), (fk1, .null), (fk2, .null)]), (b6, oA .double [(.double (18442240474082181120 : UInt64)), (.double w11), (.double w71), (.double w101)])]) rfl ?_
    intro T B
    refine W_aload B (hb hby at_51) (pc' := 53) rfl rfl rfl ?_
    refine W_init B (y := (⟨"com/example/bucketry/bucketry/table/Table", "<init>", "([I[I[D)V"⟩ : MethodName)) hown rfl (ow hw (i := 11) rfl) (ow hw (i := 12) rfl) (ow hw (i := 9) rfl) (ow hw (i := 13) rfl) (by decide) (a := b116) (rm2 l Z a0 hw h0 b116 b117 b118 b6 (b118, oA .int [(.int (4 : Int32))]) (b117, oA .int [o0]) [(b6, oA .double [(.double (18442240474082181120 : UInt64)), (.double w11), (.double w71), (.double w101)])]) (lenOf pd_1 rfl) (hb hby at_53) (pc' := 56) rfl (argsL := [(.ref b117), (.ref b118), (.ref b6)]) (rest := [(.ref b116)]) rfl (by rw [hml]; rfl) (W := 1) (oLe rfl) (by decide) (cells' := 4) rfl (slots' := 9) rfl ?_
    intro T v_ d_ q_ B
    obtain ⟨rfl, rfl⟩ := q_
    show oWin p e below Z h0 _ _ (T.setTop (mkF m 56 #[.val (.int a1), .val (.int a2), .val (.int a3), .val (.int a4), .val (.ref b6), .unset] [(.ref b116)]))
    refine W_astore B (hb hby at_56) (pc' := 58) rfl rfl (ls' := #[.val (.int a1), .val (.int a2), .val (.int a3), .val (.int a4), .val (.ref b6), .val (.ref b116)]) rfl ?_
    refine W_aload B (hb hby at_58) (pc' := 60) rfl rfl rfl ?_
    refine W_iconst B (hb hby at_60) (pc' := 61) rfl (z := (0 : Int32)) (by decide) ?_
    refine W_virtual B (y := (⟨"com/example/bucketry/bucketry/table/Table", "isZero", "(I)Z"⟩ : MethodName)) (z := (⟨"com/example/bucketry/bucketry/table/Table", "isZero", "(I)Z"⟩ : MethodName)) hown (ow hw (i := 23) rfl) (ow hw (i := 24) rfl) (oNotFace B (ow hw (i := 26) rfl) rfl) (ow hw (i := 26) rfl) (ow hw (i := 25) rfl) (ow hw (i := 9) rfl) (ow hw (i := 27) rfl) (by decide) (a := b116) (rm4_inf l Z a0 hw h0 b116 (0 : Int32) b117 b118 b6 [(.double (18442240474082181120 : UInt64)), (.double w11), (.double w71), (.double w101)] (b118, oA .int [(.int (4 : Int32))]) (b117, oA .int [o0]) [] (by decide) rfl) (lenOf pd_2 rfl) (hb hby at_61) (pc' := 64) rfl (argsL := [(.int (0 : Int32))]) (rest := []) rfl (by rw [hml]; rfl) (W := 0) (oLe rfl) (j := 2) rfl (by decide) (cells' := 4) rfl (slots' := 9) rfl ?_
    intro T v_ d_ q_ B
    obtain ⟨rfl, rfl⟩ := q_
    show oWin p e below Z h0 _ _ (T.setTop (mkF m 64 #[.val (.int a1), .val (.int a2), .val (.int a3), .val (.int a4), .val (.ref b6), .val (.ref b116)] [(.int (1 : Int32))]))
    refine W_iloadN B (hb hby at_64) (pc' := 65) rfl rfl ?_
    refine W_callS B (y := (⟨"com/example/bucketry/bucketry/table/TableIsZeroPinLaw", "zero", "(I)Z"⟩ : MethodName)) hown (ow hw (i := 29) rfl) (ow hw (i := 30) rfl) (ow hw (i := 3) rfl) (ow hw (i := 31) rfl) (by decide) (rm5 l Z a0 hw h0 a1 [(b118, oA .int [(.int (4 : Int32))]), (b117, oA .int [o0]), (b116, oO cn0 [(fk0, (.ref b117)), (fk1, (.ref b118)), (fk2, (.ref b6))]), (b6, oA .double [(.double (18442240474082181120 : UInt64)), (.double w11), (.double w71), (.double w101)])]) (lenOf pd_2 rfl) (hb hby at_65) (pc' := 68) rfl (argsL := [(.int a1)]) (rest := [(.int (1 : Int32))]) rfl (by rw [hml]; rfl) (W := 1) (oLe rfl) (by decide) (cells' := 4) rfl (slots' := 9) rfl ?_
    intro T v_ d_ q_ B
    rcases q_ with ⟨q119, rfl, rfl⟩ | ⟨q120, rfl, rfl⟩
    · show oWin p e below Z h0 _ _ (T.setTop (mkF m 68 #[.val (.int a1), .val (.int a2), .val (.int a3), .val (.int a4), .val (.ref b6), .val (.ref b116)] [(.int (1 : Int32)), (.int (1 : Int32))]))
      refine W_icmpN B (hb hby at_68) (pc' := 71) rfl (by decide) ?_
      refine W_aload B (hb hby at_71) (pc' := 73) rfl rfl rfl ?_
      refine W_iconst B (hb hby at_73) (pc' := 74) rfl (z := (1 : Int32)) (by decide) ?_
      refine W_virtual B (y := (⟨"com/example/bucketry/bucketry/table/Table", "isZero", "(I)Z"⟩ : MethodName)) (z := (⟨"com/example/bucketry/bucketry/table/Table", "isZero", "(I)Z"⟩ : MethodName)) hown (ow hw (i := 23) rfl) (ow hw (i := 24) rfl) (oNotFace B (ow hw (i := 26) rfl) rfl) (ow hw (i := 26) rfl) (ow hw (i := 25) rfl) (ow hw (i := 9) rfl) (ow hw (i := 27) rfl) (by decide) (a := b116) (rm4_fin l Z a0 hw h0 b116 (1 : Int32) b117 b118 b6 [(.double (18442240474082181120 : UInt64)), (.double w11), (.double w71), (.double w101)] w11 (b118, oA .int [(.int (4 : Int32))]) (b117, oA .int [o0]) [] (by decide) rfl q14) (lenOf pd_2 rfl) (hb hby at_74) (pc' := 77) rfl (argsL := [(.int (1 : Int32))]) (rest := []) rfl (by rw [hml]; rfl) (W := 0) (oLe rfl) (j := 2) rfl (by decide) (cells' := 4) rfl (slots' := 9) rfl ?_
      intro T v_ d_ q_ B
      obtain ⟨rfl, rfl⟩ := q_
      show oWin p e below Z h0 _ _ (T.setTop (mkF m 77 #[.val (.int a1), .val (.int a2), .val (.int a3), .val (.int a4), .val (.ref b6), .val (.ref b116)] [(.int (0 : Int32))]))
      refine W_iloadN B (hb hby at_77) (pc' := 78) rfl rfl ?_
      refine W_callS B (y := (⟨"com/example/bucketry/bucketry/table/TableIsZeroPinLaw", "zero", "(I)Z"⟩ : MethodName)) hown (ow hw (i := 29) rfl) (ow hw (i := 30) rfl) (ow hw (i := 3) rfl) (ow hw (i := 31) rfl) (by decide) (rm5 l Z a0 hw h0 a2 [(b118, oA .int [(.int (4 : Int32))]), (b117, oA .int [o0]), (b116, oO cn0 [(fk0, (.ref b117)), (fk1, (.ref b118)), (fk2, (.ref b6))]), (b6, oA .double [(.double (18442240474082181120 : UInt64)), (.double w11), (.double w71), (.double w101)])]) (lenOf pd_2 rfl) (hb hby at_78) (pc' := 81) rfl (argsL := [(.int a2)]) (rest := [(.int (0 : Int32))]) rfl (by rw [hml]; rfl) (W := 1) (oLe rfl) (by decide) (cells' := 4) rfl (slots' := 9) rfl ?_
      intro T v_ d_ q_ B
      rcases q_ with ⟨q121, rfl, rfl⟩ | ⟨q122, rfl, rfl⟩
      · show oWin p e below Z h0 _ _ (T.setTop (mkF m 81 #[.val (.int a1), .val (.int a2), .val (.int a3), .val (.int a4), .val (.ref b6), .val (.ref b116)] [(.int (1 : Int32)), (.int (0 : Int32))]))
        exact absurd q121 q13
      show oWin p e below Z h0 _ _ (T.setTop (mkF m 81 #[.val (.int a1), .val (.int a2), .val (.int a3), .val (.int a4), .val (.ref b6), .val (.ref b116)] [(.int (0 : Int32)), (.int (0 : Int32))]))
      refine W_icmpN B (hb hby at_81) (pc' := 84) rfl (by decide) ?_
      refine W_aload B (hb hby at_84) (pc' := 86) rfl rfl rfl ?_
      refine W_iconst B (hb hby at_86) (pc' := 87) rfl (z := (2 : Int32)) (by decide) ?_
      refine W_virtual B (y := (⟨"com/example/bucketry/bucketry/table/Table", "isZero", "(I)Z"⟩ : MethodName)) (z := (⟨"com/example/bucketry/bucketry/table/Table", "isZero", "(I)Z"⟩ : MethodName)) hown (ow hw (i := 23) rfl) (ow hw (i := 24) rfl) (oNotFace B (ow hw (i := 26) rfl) rfl) (ow hw (i := 26) rfl) (ow hw (i := 25) rfl) (ow hw (i := 9) rfl) (ow hw (i := 27) rfl) (by decide) (a := b116) (rm4_fin l Z a0 hw h0 b116 (2 : Int32) b117 b118 b6 [(.double (18442240474082181120 : UInt64)), (.double w11), (.double w71), (.double w101)] w71 (b118, oA .int [(.int (4 : Int32))]) (b117, oA .int [o0]) [] (by decide) rfl q74) (lenOf pd_2 rfl) (hb hby at_87) (pc' := 90) rfl (argsL := [(.int (2 : Int32))]) (rest := []) rfl (by rw [hml]; rfl) (W := 0) (oLe rfl) (j := 2) rfl (by decide) (cells' := 4) rfl (slots' := 9) rfl ?_
      intro T v_ d_ q_ B
      obtain ⟨rfl, rfl⟩ := q_
      show oWin p e below Z h0 _ _ (T.setTop (mkF m 90 #[.val (.int a1), .val (.int a2), .val (.int a3), .val (.int a4), .val (.ref b6), .val (.ref b116)] [(.int (0 : Int32))]))
      refine W_iloadN B (hb hby at_90) (pc' := 91) rfl rfl ?_
      refine W_callS B (y := (⟨"com/example/bucketry/bucketry/table/TableIsZeroPinLaw", "zero", "(I)Z"⟩ : MethodName)) hown (ow hw (i := 29) rfl) (ow hw (i := 30) rfl) (ow hw (i := 3) rfl) (ow hw (i := 31) rfl) (by decide) (rm5 l Z a0 hw h0 a3 [(b118, oA .int [(.int (4 : Int32))]), (b117, oA .int [o0]), (b116, oO cn0 [(fk0, (.ref b117)), (fk1, (.ref b118)), (fk2, (.ref b6))]), (b6, oA .double [(.double (18442240474082181120 : UInt64)), (.double w11), (.double w71), (.double w101)])]) (lenOf pd_2 rfl) (hb hby at_91) (pc' := 94) rfl (argsL := [(.int a3)]) (rest := [(.int (0 : Int32))]) rfl (by rw [hml]; rfl) (W := 1) (oLe rfl) (by decide) (cells' := 4) rfl (slots' := 9) rfl ?_
      intro T v_ d_ q_ B
      rcases q_ with ⟨q123, rfl, rfl⟩ | ⟨q124, rfl, rfl⟩
      · show oWin p e below Z h0 _ _ (T.setTop (mkF m 94 #[.val (.int a1), .val (.int a2), .val (.int a3), .val (.int a4), .val (.ref b6), .val (.ref b116)] [(.int (1 : Int32)), (.int (0 : Int32))]))
        exact absurd q123 q73
      show oWin p e below Z h0 _ _ (T.setTop (mkF m 94 #[.val (.int a1), .val (.int a2), .val (.int a3), .val (.int a4), .val (.ref b6), .val (.ref b116)] [(.int (0 : Int32)), (.int (0 : Int32))]))
      refine W_icmpN B (hb hby at_94) (pc' := 97) rfl (by decide) ?_
      refine W_aload B (hb hby at_97) (pc' := 99) rfl rfl rfl ?_
      refine W_iconst B (hb hby at_99) (pc' := 100) rfl (z := (3 : Int32)) (by decide) ?_
      refine W_virtual B (y := (⟨"com/example/bucketry/bucketry/table/Table", "isZero", "(I)Z"⟩ : MethodName)) (z := (⟨"com/example/bucketry/bucketry/table/Table", "isZero", "(I)Z"⟩ : MethodName)) hown (ow hw (i := 23) rfl) (ow hw (i := 24) rfl) (oNotFace B (ow hw (i := 26) rfl) rfl) (ow hw (i := 26) rfl) (ow hw (i := 25) rfl) (ow hw (i := 9) rfl) (ow hw (i := 27) rfl) (by decide) (a := b116) (rm4_fin l Z a0 hw h0 b116 (3 : Int32) b117 b118 b6 [(.double (18442240474082181120 : UInt64)), (.double w11), (.double w71), (.double w101)] w101 (b118, oA .int [(.int (4 : Int32))]) (b117, oA .int [o0]) [] (by decide) rfl q104) (lenOf pd_2 rfl) (hb hby at_100) (pc' := 103) rfl (argsL := [(.int (3 : Int32))]) (rest := []) rfl (by rw [hml]; rfl) (W := 0) (oLe rfl) (j := 2) rfl (by decide) (cells' := 4) rfl (slots' := 9) rfl ?_
      intro T v_ d_ q_ B
      obtain ⟨rfl, rfl⟩ := q_
      show oWin p e below Z h0 _ _ (T.setTop (mkF m 103 #[.val (.int a1), .val (.int a2), .val (.int a3), .val (.int a4), .val (.ref b6), .val (.ref b116)] [(.int (0 : Int32))]))
      refine W_iloadN B (hb hby at_103) (pc' := 104) rfl rfl ?_
      refine W_callS B (y := (⟨"com/example/bucketry/bucketry/table/TableIsZeroPinLaw", "zero", "(I)Z"⟩ : MethodName)) hown (ow hw (i := 29) rfl) (ow hw (i := 30) rfl) (ow hw (i := 3) rfl) (ow hw (i := 31) rfl) (by decide) (rm5 l Z a0 hw h0 a4 [(b118, oA .int [(.int (4 : Int32))]), (b117, oA .int [o0]), (b116, oO cn0 [(fk0, (.ref b117)), (fk1, (.ref b118)), (fk2, (.ref b6))]), (b6, oA .double [(.double (18442240474082181120 : UInt64)), (.double w11), (.double w71), (.double w101)])]) (lenOf pd_2 rfl) (hb hby at_104) (pc' := 107) rfl (argsL := [(.int a4)]) (rest := [(.int (0 : Int32))]) rfl (by rw [hml]; rfl) (W := 1) (oLe rfl) (by decide) (cells' := 4) rfl (slots' := 9) rfl ?_
      intro T v_ d_ q_ B
      rcases q_ with ⟨q125, rfl, rfl⟩ | ⟨q126, rfl, rfl⟩
      · show oWin p e below Z h0 _ _ (T.setTop (mkF m 107 #[.val (.int a1), .val (.int a2), .val (.int a3), .val (.int a4), .val (.ref b6), .val (.ref b116)] [(.int (1 : Int32)), (.int (0 : Int32))]))
        exact absurd q125 q103
      show oWin p e below Z h0 _ _ (T.setTop (mkF m 107 #[.val (.int a1), .val (.int a2), .val (.int a3), .val (.int a4), .val (.ref b6), .val (.ref b116)] [(.int (0 : Int32)), (.int (0 : Int32))]))
      refine W_icmpN B (hb hby at_107) (pc' := 110) rfl (by decide) ?_
      refine W_iconst B (hb hby at_110) (pc' := 111) rfl (z := (1 : Int32)) (by decide) ?_
      refine W_goto B (hb hby at_111) (by decide) (pc' := 115) (by decide) ?_
      refine W_retN B hret (by simp) (hb hby at_115) (by decide) ?_
      rfl
    show oWin p e below Z h0 _ _ (T.setTop (mkF m 68 #[.val (.int a1), .val (.int a2), .val (.int a3), .val (.int a4), .val (.ref b6), .val (.ref b116)] [(.int (0 : Int32)), (.int (1 : Int32))]))
    exact absurd q8 q120
  show oWin p e below Z h0 _ _ (T.setTop (mkF m 9 #[.val (.int a1), .val (.int a2), .val (.int a3), .val (.int a4), .unset, .unset] [(.double w7), (.int (0 : Int32)), (.ref b6), (.ref b6)]))
  refine W_dastore B (hb hby at_9) (pc' := 10) rfl (i := 0) rfl (by decide) (oLt rfl) (ds' := [(b6, oA .double [(.double w7), (.double 0), (.double 0), (.double 0)])]) rfl ?_
  intro T B
  refine W_dup B (hb hby at_10) (pc' := 11) rfl rfl ?_
  refine W_iconst B (hb hby at_11) (pc' := 12) rfl (z := (1 : Int32)) (by decide) ?_
  refine W_iloadN B (hb hby at_12) (pc' := 13) rfl rfl ?_
  refine W_callS B (y := (⟨"com/example/bucketry/bucketry/table/TableIsZeroPinLaw", "entry", "(I)D"⟩ : MethodName)) hown (ow hw (i := 1) rfl) (ow hw (i := 2) rfl) (ow hw (i := 3) rfl) (ow hw (i := 4) rfl) (by decide) (rm1 l Z a0 hw h0 a2 [(b6, oA .double [(.double w7), (.double 0), (.double 0), (.double 0)])]) (lenOf pd_0 rfl) (hb hby at_13) (pc' := 16) rfl (argsL := [(.int a2)]) (rest := [(.int (1 : Int32)), (.ref b6), (.ref b6)]) rfl (by rw [hml]; rfl) (W := 3) (oLe rfl) (by decide) (cells' := 1) rfl (slots' := 4) rfl ?_
  intro T v_ d_ q_ B
  rcases q_ with ⟨q128, rfl, rfl⟩ | ⟨w127, q129, q130, rfl, rfl⟩
  · show oWin p e below Z h0 _ _ (T.setTop (mkF m 16 #[.val (.int a1), .val (.int a2), .val (.int a3), .val (.int a4), .unset, .unset] [(.double (18442240474082181120 : UInt64)), (.int (1 : Int32)), (.ref b6), (.ref b6)]))
    refine W_dastore B (hb hby at_16) (pc' := 17) rfl (i := 0) rfl (by decide) (oLt rfl) (ds' := [(b6, oA .double [(.double w7), (.double (18442240474082181120 : UInt64)), (.double 0), (.double 0)])]) rfl ?_
    intro T B
    refine W_dup B (hb hby at_17) (pc' := 18) rfl rfl ?_
    refine W_iconst B (hb hby at_18) (pc' := 19) rfl (z := (2 : Int32)) (by decide) ?_
    refine W_iloadN B (hb hby at_19) (pc' := 20) rfl rfl ?_
    refine W_callS B (y := (⟨"com/example/bucketry/bucketry/table/TableIsZeroPinLaw", "entry", "(I)D"⟩ : MethodName)) hown (ow hw (i := 1) rfl) (ow hw (i := 2) rfl) (ow hw (i := 3) rfl) (ow hw (i := 4) rfl) (by decide) (rm1 l Z a0 hw h0 a3 [(b6, oA .double [(.double w7), (.double (18442240474082181120 : UInt64)), (.double 0), (.double 0)])]) (lenOf pd_0 rfl) (hb hby at_20) (pc' := 23) rfl (argsL := [(.int a3)]) (rest := [(.int (2 : Int32)), (.ref b6), (.ref b6)]) rfl (by rw [hml]; rfl) (W := 3) (oLe rfl) (by decide) (cells' := 1) rfl (slots' := 4) rfl ?_
    intro T v_ d_ q_ B
    rcases q_ with ⟨q132, rfl, rfl⟩ | ⟨w131, q133, q134, rfl, rfl⟩
    · show oWin p e below Z h0 _ _ (T.setTop (mkF m 23 #[.val (.int a1), .val (.int a2), .val (.int a3), .val (.int a4), .unset, .unset] [(.double (18442240474082181120 : UInt64)), (.int (2 : Int32)), (.ref b6), (.ref b6)]))
      refine W_dastore B (hb hby at_23) (pc' := 24) rfl (i := 0) rfl (by decide) (oLt rfl) (ds' := [(b6, oA .double [(.double w7), (.double (18442240474082181120 : UInt64)), (.double (18442240474082181120 : UInt64)), (.double 0)])]) rfl ?_
      intro T B
      refine W_dup B (hb hby at_24) (pc' := 25) rfl rfl ?_
      refine W_iconst B (hb hby at_25) (pc' := 26) rfl (z := (3 : Int32)) (by decide) ?_
      refine W_iloadN B (hb hby at_26) (pc' := 27) rfl rfl ?_
      refine W_callS B (y := (⟨"com/example/bucketry/bucketry/table/TableIsZeroPinLaw", "entry", "(I)D"⟩ : MethodName)) hown (ow hw (i := 1) rfl) (ow hw (i := 2) rfl) (ow hw (i := 3) rfl) (ow hw (i := 4) rfl) (by decide) (rm1 l Z a0 hw h0 a4 [(b6, oA .double [(.double w7), (.double (18442240474082181120 : UInt64)), (.double (18442240474082181120 : UInt64)), (.double 0)])]) (lenOf pd_0 rfl) (hb hby at_27) (pc' := 30) rfl (argsL := [(.int a4)]) (rest := [(.int (3 : Int32)), (.ref b6), (.ref b6)]) rfl (by rw [hml]; rfl) (W := 3) (oLe rfl) (by decide) (cells' := 1) rfl (slots' := 4) rfl ?_
      intro T v_ d_ q_ B
      rcases q_ with ⟨q136, rfl, rfl⟩ | ⟨w135, q137, q138, rfl, rfl⟩
      · show oWin p e below Z h0 _ _ (T.setTop (mkF m 30 #[.val (.int a1), .val (.int a2), .val (.int a3), .val (.int a4), .unset, .unset] [(.double (18442240474082181120 : UInt64)), (.int (3 : Int32)), (.ref b6), (.ref b6)]))
        refine W_dastore B (hb hby at_30) (pc' := 31) rfl (i := 0) rfl (by decide) (oLt rfl) (ds' := [(b6, oA .double [(.double w7), (.double (18442240474082181120 : UInt64)), (.double (18442240474082181120 : UInt64)), (.double (18442240474082181120 : UInt64))])]) rfl ?_
        intro T B
        refine W_astore B (hb hby at_31) (pc' := 33) rfl rfl (ls' := #[.val (.int a1), .val (.int a2), .val (.int a3), .val (.int a4), .val (.ref b6), .unset]) rfl ?_
        refine W_new B hown (ow hw (i := 7) rfl) (ow hw (i := 8) rfl) (ow hw (i := 9) rfl) (hb hby at_33) (pc' := 36) rfl (by decide) (cells' := 2) rfl (slots' := 7) rfl (fs := [(fk0, .null), (fk1, .null), (fk2, .null)]) (oAll_cons ⟨Or.inr (ow hw (i := 18) rfl), (.array .int), by decide, rfl⟩ (oAll_cons ⟨Or.inr (ow hw (i := 20) rfl), (.array .int), by decide, rfl⟩ (oAll_cons ⟨Or.inr (ow hw (i := 22) rfl), (.array .double), by decide, rfl⟩ oAll_nil))) (by decide) ?_
        intro T b139 B
        refine W_dup B (hb hby at_36) (pc' := 37) rfl rfl ?_
        refine W_iconst B (hb hby at_37) (pc' := 38) rfl (z := (1 : Int32)) (by decide) ?_
        refine W_newarray B (ow hw (i := 10) rfl) (hb hby at_38) (pc' := 40) rfl (by decide) (cap := 1) (by decide) (by decide) (cells' := 3) rfl (slots' := 8) rfl (vs := [(.int (0 : Int32))]) rfl (ty := .int) rfl ?_
        intro T b140 B
        refine W_dup B (hb hby at_40) (pc' := 41) rfl rfl ?_
        refine W_iconst B (hb hby at_41) (pc' := 42) rfl (z := (0 : Int32)) (by decide) ?_
        refine W_iconst B (hb hby at_42) (pc' := 43) rfl (z := (0 : Int32)) (by decide) ?_
        refine W_iastore B (hb hby at_43) (pc' := 44) rfl (i := 0) rfl (by decide) (oLt rfl) (ds' := [(b140, oA .int [o0]), (b139, oO cn0 [(fk0, .null), (fk1, .null), (fk2, .null)]), (b6, oA .double [(.double w7), (.double (18442240474082181120 : UInt64)), (.double (18442240474082181120 : UInt64)), (.double (18442240474082181120 : UInt64))])]) rfl ?_
        intro T B
        refine W_iconst B (hb hby at_44) (pc' := 45) rfl (z := (1 : Int32)) (by decide) ?_
        refine W_newarray B (ow hw (i := 10) rfl) (hb hby at_45) (pc' := 47) rfl (by decide) (cap := 1) (by decide) (by decide) (cells' := 4) rfl (slots' := 9) rfl (vs := [(.int (0 : Int32))]) rfl (ty := .int) rfl ?_
        intro T b141 B
        refine W_dup B (hb hby at_47) (pc' := 48) rfl rfl ?_
        refine W_iconst B (hb hby at_48) (pc' := 49) rfl (z := (0 : Int32)) (by decide) ?_
        refine W_iconst B (hb hby at_49) (pc' := 50) rfl (z := (4 : Int32)) (by decide) ?_
        refine W_iastore B (hb hby at_50) (pc' := 51) rfl (i := 0) rfl (by decide) (oLt rfl) (ds' := [(b141, oA .int [(.int (4 : Int32))]), (b140, oA .int [o0]), (b139, oO cn0 [(fk0, .null), (fk1, .null), (fk2, .null)]), (b6, oA .double [(.double w7), (.double (18442240474082181120 : UInt64)), (.double (18442240474082181120 : UInt64)), (.double (18442240474082181120 : UInt64))])]) rfl ?_
        intro T B
        refine W_aload B (hb hby at_51) (pc' := 53) rfl rfl rfl ?_
        refine W_init B (y := (⟨"com/example/bucketry/bucketry/table/Table", "<init>", "([I[I[D)V"⟩ : MethodName)) hown rfl (ow hw (i := 11) rfl) (ow hw (i := 12) rfl) (ow hw (i := 9) rfl) (ow hw (i := 13) rfl) (by decide) (a := b139) (rm2 l Z a0 hw h0 b139 b140 b141 b6 (b141, oA .int [(.int (4 : Int32))]) (b140, oA .int [o0]) [(b6, oA .double [(.double w7), (.double (18442240474082181120 : UInt64)), (.double (18442240474082181120 : UInt64)), (.double (18442240474082181120 : UInt64))])]) (lenOf pd_1 rfl) (hb hby at_53) (pc' := 56) rfl (argsL := [(.ref b140), (.ref b141), (.ref b6)]) (rest := [(.ref b139)]) rfl (by rw [hml]; rfl) (W := 1) (oLe rfl) (by decide) (cells' := 4) rfl (slots' := 9) rfl ?_
        intro T v_ d_ q_ B
        obtain ⟨rfl, rfl⟩ := q_
        show oWin p e below Z h0 _ _ (T.setTop (mkF m 56 #[.val (.int a1), .val (.int a2), .val (.int a3), .val (.int a4), .val (.ref b6), .unset] [(.ref b139)]))
        refine W_astore B (hb hby at_56) (pc' := 58) rfl rfl (ls' := #[.val (.int a1), .val (.int a2), .val (.int a3), .val (.int a4), .val (.ref b6), .val (.ref b139)]) rfl ?_
        refine W_aload B (hb hby at_58) (pc' := 60) rfl rfl rfl ?_
        refine W_iconst B (hb hby at_60) (pc' := 61) rfl (z := (0 : Int32)) (by decide) ?_
        refine W_virtual B (y := (⟨"com/example/bucketry/bucketry/table/Table", "isZero", "(I)Z"⟩ : MethodName)) (z := (⟨"com/example/bucketry/bucketry/table/Table", "isZero", "(I)Z"⟩ : MethodName)) hown (ow hw (i := 23) rfl) (ow hw (i := 24) rfl) (oNotFace B (ow hw (i := 26) rfl) rfl) (ow hw (i := 26) rfl) (ow hw (i := 25) rfl) (ow hw (i := 9) rfl) (ow hw (i := 27) rfl) (by decide) (a := b139) (rm4_fin l Z a0 hw h0 b139 (0 : Int32) b140 b141 b6 [(.double w7), (.double (18442240474082181120 : UInt64)), (.double (18442240474082181120 : UInt64)), (.double (18442240474082181120 : UInt64))] w7 (b141, oA .int [(.int (4 : Int32))]) (b140, oA .int [o0]) [] (by decide) rfl q10) (lenOf pd_2 rfl) (hb hby at_61) (pc' := 64) rfl (argsL := [(.int (0 : Int32))]) (rest := []) rfl (by rw [hml]; rfl) (W := 0) (oLe rfl) (j := 2) rfl (by decide) (cells' := 4) rfl (slots' := 9) rfl ?_
        intro T v_ d_ q_ B
        obtain ⟨rfl, rfl⟩ := q_
        show oWin p e below Z h0 _ _ (T.setTop (mkF m 64 #[.val (.int a1), .val (.int a2), .val (.int a3), .val (.int a4), .val (.ref b6), .val (.ref b139)] [(.int (0 : Int32))]))
        refine W_iloadN B (hb hby at_64) (pc' := 65) rfl rfl ?_
        refine W_callS B (y := (⟨"com/example/bucketry/bucketry/table/TableIsZeroPinLaw", "zero", "(I)Z"⟩ : MethodName)) hown (ow hw (i := 29) rfl) (ow hw (i := 30) rfl) (ow hw (i := 3) rfl) (ow hw (i := 31) rfl) (by decide) (rm5 l Z a0 hw h0 a1 [(b141, oA .int [(.int (4 : Int32))]), (b140, oA .int [o0]), (b139, oO cn0 [(fk0, (.ref b140)), (fk1, (.ref b141)), (fk2, (.ref b6))]), (b6, oA .double [(.double w7), (.double (18442240474082181120 : UInt64)), (.double (18442240474082181120 : UInt64)), (.double (18442240474082181120 : UInt64))])]) (lenOf pd_2 rfl) (hb hby at_65) (pc' := 68) rfl (argsL := [(.int a1)]) (rest := [(.int (0 : Int32))]) rfl (by rw [hml]; rfl) (W := 1) (oLe rfl) (by decide) (cells' := 4) rfl (slots' := 9) rfl ?_
        intro T v_ d_ q_ B
        rcases q_ with ⟨q142, rfl, rfl⟩ | ⟨q143, rfl, rfl⟩
        · show oWin p e below Z h0 _ _ (T.setTop (mkF m 68 #[.val (.int a1), .val (.int a2), .val (.int a3), .val (.int a4), .val (.ref b6), .val (.ref b139)] [(.int (1 : Int32)), (.int (0 : Int32))]))
          exact absurd q142 q9
        show oWin p e below Z h0 _ _ (T.setTop (mkF m 68 #[.val (.int a1), .val (.int a2), .val (.int a3), .val (.int a4), .val (.ref b6), .val (.ref b139)] [(.int (0 : Int32)), (.int (0 : Int32))]))
        refine W_icmpN B (hb hby at_68) (pc' := 71) rfl (by decide) ?_
        refine W_aload B (hb hby at_71) (pc' := 73) rfl rfl rfl ?_
        refine W_iconst B (hb hby at_73) (pc' := 74) rfl (z := (1 : Int32)) (by decide) ?_
        refine W_virtual B (y := (⟨"com/example/bucketry/bucketry/table/Table", "isZero", "(I)Z"⟩ : MethodName)) (z := (⟨"com/example/bucketry/bucketry/table/Table", "isZero", "(I)Z"⟩ : MethodName)) hown (ow hw (i := 23) rfl) (ow hw (i := 24) rfl) (oNotFace B (ow hw (i := 26) rfl) rfl) (ow hw (i := 26) rfl) (ow hw (i := 25) rfl) (ow hw (i := 9) rfl) (ow hw (i := 27) rfl) (by decide) (a := b139) (rm4_inf l Z a0 hw h0 b139 (1 : Int32) b140 b141 b6 [(.double w7), (.double (18442240474082181120 : UInt64)), (.double (18442240474082181120 : UInt64)), (.double (18442240474082181120 : UInt64))] (b141, oA .int [(.int (4 : Int32))]) (b140, oA .int [o0]) [] (by decide) rfl) (lenOf pd_2 rfl) (hb hby at_74) (pc' := 77) rfl (argsL := [(.int (1 : Int32))]) (rest := []) rfl (by rw [hml]; rfl) (W := 0) (oLe rfl) (j := 2) rfl (by decide) (cells' := 4) rfl (slots' := 9) rfl ?_
        intro T v_ d_ q_ B
        obtain ⟨rfl, rfl⟩ := q_
        show oWin p e below Z h0 _ _ (T.setTop (mkF m 77 #[.val (.int a1), .val (.int a2), .val (.int a3), .val (.int a4), .val (.ref b6), .val (.ref b139)] [(.int (1 : Int32))]))
        refine W_iloadN B (hb hby at_77) (pc' := 78) rfl rfl ?_
        refine W_callS B (y := (⟨"com/example/bucketry/bucketry/table/TableIsZeroPinLaw", "zero", "(I)Z"⟩ : MethodName)) hown (ow hw (i := 29) rfl) (ow hw (i := 30) rfl) (ow hw (i := 3) rfl) (ow hw (i := 31) rfl) (by decide) (rm5 l Z a0 hw h0 a2 [(b141, oA .int [(.int (4 : Int32))]), (b140, oA .int [o0]), (b139, oO cn0 [(fk0, (.ref b140)), (fk1, (.ref b141)), (fk2, (.ref b6))]), (b6, oA .double [(.double w7), (.double (18442240474082181120 : UInt64)), (.double (18442240474082181120 : UInt64)), (.double (18442240474082181120 : UInt64))])]) (lenOf pd_2 rfl) (hb hby at_78) (pc' := 81) rfl (argsL := [(.int a2)]) (rest := [(.int (1 : Int32))]) rfl (by rw [hml]; rfl) (W := 1) (oLe rfl) (by decide) (cells' := 4) rfl (slots' := 9) rfl ?_
        intro T v_ d_ q_ B
        rcases q_ with ⟨q144, rfl, rfl⟩ | ⟨q145, rfl, rfl⟩
        · show oWin p e below Z h0 _ _ (T.setTop (mkF m 81 #[.val (.int a1), .val (.int a2), .val (.int a3), .val (.int a4), .val (.ref b6), .val (.ref b139)] [(.int (1 : Int32)), (.int (1 : Int32))]))
          refine W_icmpN B (hb hby at_81) (pc' := 84) rfl (by decide) ?_
          refine W_aload B (hb hby at_84) (pc' := 86) rfl rfl rfl ?_
          refine W_iconst B (hb hby at_86) (pc' := 87) rfl (z := (2 : Int32)) (by decide) ?_
          refine W_virtual B (y := (⟨"com/example/bucketry/bucketry/table/Table", "isZero", "(I)Z"⟩ : MethodName)) (z := (⟨"com/example/bucketry/bucketry/table/Table", "isZero", "(I)Z"⟩ : MethodName)) hown (ow hw (i := 23) rfl) (ow hw (i := 24) rfl) (oNotFace B (ow hw (i := 26) rfl) rfl) (ow hw (i := 26) rfl) (ow hw (i := 25) rfl) (ow hw (i := 9) rfl) (ow hw (i := 27) rfl) (by decide) (a := b139) (rm4_inf l Z a0 hw h0 b139 (2 : Int32) b140 b141 b6 [(.double w7), (.double (18442240474082181120 : UInt64)), (.double (18442240474082181120 : UInt64)), (.double (18442240474082181120 : UInt64))] (b141, oA .int [(.int (4 : Int32))]) (b140, oA .int [o0]) [] (by decide) rfl) (lenOf pd_2 rfl) (hb hby at_87) (pc' := 90) rfl (argsL := [(.int (2 : Int32))]) (rest := []) rfl (by rw [hml]; rfl) (W := 0) (oLe rfl) (j := 2) rfl (by decide) (cells' := 4) rfl (slots' := 9) rfl ?_
          intro T v_ d_ q_ B
          obtain ⟨rfl, rfl⟩ := q_
          show oWin p e below Z h0 _ _ (T.setTop (mkF m 90 #[.val (.int a1), .val (.int a2), .val (.int a3), .val (.int a4), .val (.ref b6), .val (.ref b139)] [(.int (1 : Int32))]))
          refine W_iloadN B (hb hby at_90) (pc' := 91) rfl rfl ?_
          refine W_callS B (y := (⟨"com/example/bucketry/bucketry/table/TableIsZeroPinLaw", "zero", "(I)Z"⟩ : MethodName)) hown (ow hw (i := 29) rfl) (ow hw (i := 30) rfl) (ow hw (i := 3) rfl) (ow hw (i := 31) rfl) (by decide) (rm5 l Z a0 hw h0 a3 [(b141, oA .int [(.int (4 : Int32))]), (b140, oA .int [o0]), (b139, oO cn0 [(fk0, (.ref b140)), (fk1, (.ref b141)), (fk2, (.ref b6))]), (b6, oA .double [(.double w7), (.double (18442240474082181120 : UInt64)), (.double (18442240474082181120 : UInt64)), (.double (18442240474082181120 : UInt64))])]) (lenOf pd_2 rfl) (hb hby at_91) (pc' := 94) rfl (argsL := [(.int a3)]) (rest := [(.int (1 : Int32))]) rfl (by rw [hml]; rfl) (W := 1) (oLe rfl) (by decide) (cells' := 4) rfl (slots' := 9) rfl ?_
          intro T v_ d_ q_ B
          rcases q_ with ⟨q146, rfl, rfl⟩ | ⟨q147, rfl, rfl⟩
          · show oWin p e below Z h0 _ _ (T.setTop (mkF m 94 #[.val (.int a1), .val (.int a2), .val (.int a3), .val (.int a4), .val (.ref b6), .val (.ref b139)] [(.int (1 : Int32)), (.int (1 : Int32))]))
            refine W_icmpN B (hb hby at_94) (pc' := 97) rfl (by decide) ?_
            refine W_aload B (hb hby at_97) (pc' := 99) rfl rfl rfl ?_
            refine W_iconst B (hb hby at_99) (pc' := 100) rfl (z := (3 : Int32)) (by decide) ?_
            refine W_virtual B (y := (⟨"com/example/bucketry/bucketry/table/Table", "isZero", "(I)Z"⟩ : MethodName)) (z := (⟨"com/example/bucketry/bucketry/table/Table", "isZero", "(I)Z"⟩ : MethodName)) hown (ow hw (i := 23) rfl) (ow hw (i := 24) rfl) (oNotFace B (ow hw (i := 26) rfl) rfl) (ow hw (i := 26) rfl) (ow hw (i := 25) rfl) (ow hw (i := 9) rfl) (ow hw (i := 27) rfl) (by decide) (a := b139) (rm4_inf l Z a0 hw h0 b139 (3 : Int32) b140 b141 b6 [(.double w7), (.double (18442240474082181120 : UInt64)), (.double (18442240474082181120 : UInt64)), (.double (18442240474082181120 : UInt64))] (b141, oA .int [(.int (4 : Int32))]) (b140, oA .int [o0]) [] (by decide) rfl) (lenOf pd_2 rfl) (hb hby at_100) (pc' := 103) rfl (argsL := [(.int (3 : Int32))]) (rest := []) rfl (by rw [hml]; rfl) (W := 0) (oLe rfl) (j := 2) rfl (by decide) (cells' := 4) rfl (slots' := 9) rfl ?_
            intro T v_ d_ q_ B
            obtain ⟨rfl, rfl⟩ := q_
            show oWin p e below Z h0 _ _ (T.setTop (mkF m 103 #[.val (.int a1), .val (.int a2), .val (.int a3), .val (.int a4), .val (.ref b6), .val (.ref b139)] [(.int (1 : Int32))]))
            refine W_iloadN B (hb hby at_103) (pc' := 104) rfl rfl ?_
            refine W_callS B (y := (⟨"com/example/bucketry/bucketry/table/TableIsZeroPinLaw", "zero", "(I)Z"⟩ : MethodName)) hown (ow hw (i := 29) rfl) (ow hw (i := 30) rfl) (ow hw (i := 3) rfl) (ow hw (i := 31) rfl) (by decide) (rm5 l Z a0 hw h0 a4 [(b141, oA .int [(.int (4 : Int32))]), (b140, oA .int [o0]), (b139, oO cn0 [(fk0, (.ref b140)), (fk1, (.ref b141)), (fk2, (.ref b6))]), (b6, oA .double [(.double w7), (.double (18442240474082181120 : UInt64)), (.double (18442240474082181120 : UInt64)), (.double (18442240474082181120 : UInt64))])]) (lenOf pd_2 rfl) (hb hby at_104) (pc' := 107) rfl (argsL := [(.int a4)]) (rest := [(.int (1 : Int32))]) rfl (by rw [hml]; rfl) (W := 1) (oLe rfl) (by decide) (cells' := 4) rfl (slots' := 9) rfl ?_
            intro T v_ d_ q_ B
            rcases q_ with ⟨q148, rfl, rfl⟩ | ⟨q149, rfl, rfl⟩
            · show oWin p e below Z h0 _ _ (T.setTop (mkF m 107 #[.val (.int a1), .val (.int a2), .val (.int a3), .val (.int a4), .val (.ref b6), .val (.ref b139)] [(.int (1 : Int32)), (.int (1 : Int32))]))
              refine W_icmpN B (hb hby at_107) (pc' := 110) rfl (by decide) ?_
              refine W_iconst B (hb hby at_110) (pc' := 111) rfl (z := (1 : Int32)) (by decide) ?_
              refine W_goto B (hb hby at_111) (by decide) (pc' := 115) (by decide) ?_
              refine W_retN B hret (by simp) (hb hby at_115) (by decide) ?_
              rfl
            show oWin p e below Z h0 _ _ (T.setTop (mkF m 107 #[.val (.int a1), .val (.int a2), .val (.int a3), .val (.int a4), .val (.ref b6), .val (.ref b139)] [(.int (0 : Int32)), (.int (1 : Int32))]))
            exact absurd q136 q149
          show oWin p e below Z h0 _ _ (T.setTop (mkF m 94 #[.val (.int a1), .val (.int a2), .val (.int a3), .val (.int a4), .val (.ref b6), .val (.ref b139)] [(.int (0 : Int32)), (.int (1 : Int32))]))
          exact absurd q132 q147
        show oWin p e below Z h0 _ _ (T.setTop (mkF m 81 #[.val (.int a1), .val (.int a2), .val (.int a3), .val (.int a4), .val (.ref b6), .val (.ref b139)] [(.int (0 : Int32)), (.int (1 : Int32))]))
        exact absurd q128 q145
      show oWin p e below Z h0 _ _ (T.setTop (mkF m 30 #[.val (.int a1), .val (.int a2), .val (.int a3), .val (.int a4), .unset, .unset] [(.double w135), (.int (3 : Int32)), (.ref b6), (.ref b6)]))
      refine W_dastore B (hb hby at_30) (pc' := 31) rfl (i := 0) rfl (by decide) (oLt rfl) (ds' := [(b6, oA .double [(.double w7), (.double (18442240474082181120 : UInt64)), (.double (18442240474082181120 : UInt64)), (.double w135)])]) rfl ?_
      intro T B
      refine W_astore B (hb hby at_31) (pc' := 33) rfl rfl (ls' := #[.val (.int a1), .val (.int a2), .val (.int a3), .val (.int a4), .val (.ref b6), .unset]) rfl ?_
      refine W_new B hown (ow hw (i := 7) rfl) (ow hw (i := 8) rfl) (ow hw (i := 9) rfl) (hb hby at_33) (pc' := 36) rfl (by decide) (cells' := 2) rfl (slots' := 7) rfl (fs := [(fk0, .null), (fk1, .null), (fk2, .null)]) (oAll_cons ⟨Or.inr (ow hw (i := 18) rfl), (.array .int), by decide, rfl⟩ (oAll_cons ⟨Or.inr (ow hw (i := 20) rfl), (.array .int), by decide, rfl⟩ (oAll_cons ⟨Or.inr (ow hw (i := 22) rfl), (.array .double), by decide, rfl⟩ oAll_nil))) (by decide) ?_
      intro T b150 B
      refine W_dup B (hb hby at_36) (pc' := 37) rfl rfl ?_
      refine W_iconst B (hb hby at_37) (pc' := 38) rfl (z := (1 : Int32)) (by decide) ?_
      refine W_newarray B (ow hw (i := 10) rfl) (hb hby at_38) (pc' := 40) rfl (by decide) (cap := 1) (by decide) (by decide) (cells' := 3) rfl (slots' := 8) rfl (vs := [(.int (0 : Int32))]) rfl (ty := .int) rfl ?_
      intro T b151 B
      refine W_dup B (hb hby at_40) (pc' := 41) rfl rfl ?_
      refine W_iconst B (hb hby at_41) (pc' := 42) rfl (z := (0 : Int32)) (by decide) ?_
      refine W_iconst B (hb hby at_42) (pc' := 43) rfl (z := (0 : Int32)) (by decide) ?_
      refine W_iastore B (hb hby at_43) (pc' := 44) rfl (i := 0) rfl (by decide) (oLt rfl) (ds' := [(b151, oA .int [o0]), (b150, oO cn0 [(fk0, .null), (fk1, .null), (fk2, .null)]), (b6, oA .double [(.double w7), (.double (18442240474082181120 : UInt64)), (.double (18442240474082181120 : UInt64)), (.double w135)])]) rfl ?_
      intro T B
      refine W_iconst B (hb hby at_44) (pc' := 45) rfl (z := (1 : Int32)) (by decide) ?_
      refine W_newarray B (ow hw (i := 10) rfl) (hb hby at_45) (pc' := 47) rfl (by decide) (cap := 1) (by decide) (by decide) (cells' := 4) rfl (slots' := 9) rfl (vs := [(.int (0 : Int32))]) rfl (ty := .int) rfl ?_
      intro T b152 B
      refine W_dup B (hb hby at_47) (pc' := 48) rfl rfl ?_
      refine W_iconst B (hb hby at_48) (pc' := 49) rfl (z := (0 : Int32)) (by decide) ?_
      refine W_iconst B (hb hby at_49) (pc' := 50) rfl (z := (4 : Int32)) (by decide) ?_
      refine W_iastore B (hb hby at_50) (pc' := 51) rfl (i := 0) rfl (by decide) (oLt rfl) (ds' := [(b152, oA .int [(.int (4 : Int32))]), (b151, oA .int [o0]), (b150, oO cn0 [(fk0, .null), (fk1, .null), (fk2, .null)]), (b6, oA .double [(.double w7), (.double (18442240474082181120 : UInt64)), (.double (18442240474082181120 : UInt64)), (.double w135)])]) rfl ?_
      intro T B
      refine W_aload B (hb hby at_51) (pc' := 53) rfl rfl rfl ?_
      refine W_init B (y := (⟨"com/example/bucketry/bucketry/table/Table", "<init>", "([I[I[D)V"⟩ : MethodName)) hown rfl (ow hw (i := 11) rfl) (ow hw (i := 12) rfl) (ow hw (i := 9) rfl) (ow hw (i := 13) rfl) (by decide) (a := b150) (rm2 l Z a0 hw h0 b150 b151 b152 b6 (b152, oA .int [(.int (4 : Int32))]) (b151, oA .int [o0]) [(b6, oA .double [(.double w7), (.double (18442240474082181120 : UInt64)), (.double (18442240474082181120 : UInt64)), (.double w135)])]) (lenOf pd_1 rfl) (hb hby at_53) (pc' := 56) rfl (argsL := [(.ref b151), (.ref b152), (.ref b6)]) (rest := [(.ref b150)]) rfl (by rw [hml]; rfl) (W := 1) (oLe rfl) (by decide) (cells' := 4) rfl (slots' := 9) rfl ?_
      intro T v_ d_ q_ B
      obtain ⟨rfl, rfl⟩ := q_
      show oWin p e below Z h0 _ _ (T.setTop (mkF m 56 #[.val (.int a1), .val (.int a2), .val (.int a3), .val (.int a4), .val (.ref b6), .unset] [(.ref b150)]))
      refine W_astore B (hb hby at_56) (pc' := 58) rfl rfl (ls' := #[.val (.int a1), .val (.int a2), .val (.int a3), .val (.int a4), .val (.ref b6), .val (.ref b150)]) rfl ?_
      refine W_aload B (hb hby at_58) (pc' := 60) rfl rfl rfl ?_
      refine W_iconst B (hb hby at_60) (pc' := 61) rfl (z := (0 : Int32)) (by decide) ?_
      refine W_virtual B (y := (⟨"com/example/bucketry/bucketry/table/Table", "isZero", "(I)Z"⟩ : MethodName)) (z := (⟨"com/example/bucketry/bucketry/table/Table", "isZero", "(I)Z"⟩ : MethodName)) hown (ow hw (i := 23) rfl) (ow hw (i := 24) rfl) (oNotFace B (ow hw (i := 26) rfl) rfl) (ow hw (i := 26) rfl) (ow hw (i := 25) rfl) (ow hw (i := 9) rfl) (ow hw (i := 27) rfl) (by decide) (a := b150) (rm4_fin l Z a0 hw h0 b150 (0 : Int32) b151 b152 b6 [(.double w7), (.double (18442240474082181120 : UInt64)), (.double (18442240474082181120 : UInt64)), (.double w135)] w7 (b152, oA .int [(.int (4 : Int32))]) (b151, oA .int [o0]) [] (by decide) rfl q10) (lenOf pd_2 rfl) (hb hby at_61) (pc' := 64) rfl (argsL := [(.int (0 : Int32))]) (rest := []) rfl (by rw [hml]; rfl) (W := 0) (oLe rfl) (j := 2) rfl (by decide) (cells' := 4) rfl (slots' := 9) rfl ?_
      intro T v_ d_ q_ B
      obtain ⟨rfl, rfl⟩ := q_
      show oWin p e below Z h0 _ _ (T.setTop (mkF m 64 #[.val (.int a1), .val (.int a2), .val (.int a3), .val (.int a4), .val (.ref b6), .val (.ref b150)] [(.int (0 : Int32))]))
      refine W_iloadN B (hb hby at_64) (pc' := 65) rfl rfl ?_
      refine W_callS B (y := (⟨"com/example/bucketry/bucketry/table/TableIsZeroPinLaw", "zero", "(I)Z"⟩ : MethodName)) hown (ow hw (i := 29) rfl) (ow hw (i := 30) rfl) (ow hw (i := 3) rfl) (ow hw (i := 31) rfl) (by decide) (rm5 l Z a0 hw h0 a1 [(b152, oA .int [(.int (4 : Int32))]), (b151, oA .int [o0]), (b150, oO cn0 [(fk0, (.ref b151)), (fk1, (.ref b152)), (fk2, (.ref b6))]), (b6, oA .double [(.double w7), (.double (18442240474082181120 : UInt64)), (.double (18442240474082181120 : UInt64)), (.double w135)])]) (lenOf pd_2 rfl) (hb hby at_65) (pc' := 68) rfl (argsL := [(.int a1)]) (rest := [(.int (0 : Int32))]) rfl (by rw [hml]; rfl) (W := 1) (oLe rfl) (by decide) (cells' := 4) rfl (slots' := 9) rfl ?_
      intro T v_ d_ q_ B
      rcases q_ with ⟨q153, rfl, rfl⟩ | ⟨q154, rfl, rfl⟩
      · show oWin p e below Z h0 _ _ (T.setTop (mkF m 68 #[.val (.int a1), .val (.int a2), .val (.int a3), .val (.int a4), .val (.ref b6), .val (.ref b150)] [(.int (1 : Int32)), (.int (0 : Int32))]))
        exact absurd q153 q9
      show oWin p e below Z h0 _ _ (T.setTop (mkF m 68 #[.val (.int a1), .val (.int a2), .val (.int a3), .val (.int a4), .val (.ref b6), .val (.ref b150)] [(.int (0 : Int32)), (.int (0 : Int32))]))
      refine W_icmpN B (hb hby at_68) (pc' := 71) rfl (by decide) ?_
      refine W_aload B (hb hby at_71) (pc' := 73) rfl rfl rfl ?_
      refine W_iconst B (hb hby at_73) (pc' := 74) rfl (z := (1 : Int32)) (by decide) ?_
      refine W_virtual B (y := (⟨"com/example/bucketry/bucketry/table/Table", "isZero", "(I)Z"⟩ : MethodName)) (z := (⟨"com/example/bucketry/bucketry/table/Table", "isZero", "(I)Z"⟩ : MethodName)) hown (ow hw (i := 23) rfl) (ow hw (i := 24) rfl) (oNotFace B (ow hw (i := 26) rfl) rfl) (ow hw (i := 26) rfl) (ow hw (i := 25) rfl) (ow hw (i := 9) rfl) (ow hw (i := 27) rfl) (by decide) (a := b150) (rm4_inf l Z a0 hw h0 b150 (1 : Int32) b151 b152 b6 [(.double w7), (.double (18442240474082181120 : UInt64)), (.double (18442240474082181120 : UInt64)), (.double w135)] (b152, oA .int [(.int (4 : Int32))]) (b151, oA .int [o0]) [] (by decide) rfl) (lenOf pd_2 rfl) (hb hby at_74) (pc' := 77) rfl (argsL := [(.int (1 : Int32))]) (rest := []) rfl (by rw [hml]; rfl) (W := 0) (oLe rfl) (j := 2) rfl (by decide) (cells' := 4) rfl (slots' := 9) rfl ?_
      intro T v_ d_ q_ B
      obtain ⟨rfl, rfl⟩ := q_
      show oWin p e below Z h0 _ _ (T.setTop (mkF m 77 #[.val (.int a1), .val (.int a2), .val (.int a3), .val (.int a4), .val (.ref b6), .val (.ref b150)] [(.int (1 : Int32))]))
      refine W_iloadN B (hb hby at_77) (pc' := 78) rfl rfl ?_
      refine W_callS B (y := (⟨"com/example/bucketry/bucketry/table/TableIsZeroPinLaw", "zero", "(I)Z"⟩ : MethodName)) hown (ow hw (i := 29) rfl) (ow hw (i := 30) rfl) (ow hw (i := 3) rfl) (ow hw (i := 31) rfl) (by decide) (rm5 l Z a0 hw h0 a2 [(b152, oA .int [(.int (4 : Int32))]), (b151, oA .int [o0]), (b150, oO cn0 [(fk0, (.ref b151)), (fk1, (.ref b152)), (fk2, (.ref b6))]), (b6, oA .double [(.double w7), (.double (18442240474082181120 : UInt64)), (.double (18442240474082181120 : UInt64)), (.double w135)])]) (lenOf pd_2 rfl) (hb hby at_78) (pc' := 81) rfl (argsL := [(.int a2)]) (rest := [(.int (1 : Int32))]) rfl (by rw [hml]; rfl) (W := 1) (oLe rfl) (by decide) (cells' := 4) rfl (slots' := 9) rfl ?_
      intro T v_ d_ q_ B
      rcases q_ with ⟨q155, rfl, rfl⟩ | ⟨q156, rfl, rfl⟩
      · show oWin p e below Z h0 _ _ (T.setTop (mkF m 81 #[.val (.int a1), .val (.int a2), .val (.int a3), .val (.int a4), .val (.ref b6), .val (.ref b150)] [(.int (1 : Int32)), (.int (1 : Int32))]))
        refine W_icmpN B (hb hby at_81) (pc' := 84) rfl (by decide) ?_
        refine W_aload B (hb hby at_84) (pc' := 86) rfl rfl rfl ?_
        refine W_iconst B (hb hby at_86) (pc' := 87) rfl (z := (2 : Int32)) (by decide) ?_
        refine W_virtual B (y := (⟨"com/example/bucketry/bucketry/table/Table", "isZero", "(I)Z"⟩ : MethodName)) (z := (⟨"com/example/bucketry/bucketry/table/Table", "isZero", "(I)Z"⟩ : MethodName)) hown (ow hw (i := 23) rfl) (ow hw (i := 24) rfl) (oNotFace B (ow hw (i := 26) rfl) rfl) (ow hw (i := 26) rfl) (ow hw (i := 25) rfl) (ow hw (i := 9) rfl) (ow hw (i := 27) rfl) (by decide) (a := b150) (rm4_inf l Z a0 hw h0 b150 (2 : Int32) b151 b152 b6 [(.double w7), (.double (18442240474082181120 : UInt64)), (.double (18442240474082181120 : UInt64)), (.double w135)] (b152, oA .int [(.int (4 : Int32))]) (b151, oA .int [o0]) [] (by decide) rfl) (lenOf pd_2 rfl) (hb hby at_87) (pc' := 90) rfl (argsL := [(.int (2 : Int32))]) (rest := []) rfl (by rw [hml]; rfl) (W := 0) (oLe rfl) (j := 2) rfl (by decide) (cells' := 4) rfl (slots' := 9) rfl ?_
        intro T v_ d_ q_ B
        obtain ⟨rfl, rfl⟩ := q_
        show oWin p e below Z h0 _ _ (T.setTop (mkF m 90 #[.val (.int a1), .val (.int a2), .val (.int a3), .val (.int a4), .val (.ref b6), .val (.ref b150)] [(.int (1 : Int32))]))
        refine W_iloadN B (hb hby at_90) (pc' := 91) rfl rfl ?_
        refine W_callS B (y := (⟨"com/example/bucketry/bucketry/table/TableIsZeroPinLaw", "zero", "(I)Z"⟩ : MethodName)) hown (ow hw (i := 29) rfl) (ow hw (i := 30) rfl) (ow hw (i := 3) rfl) (ow hw (i := 31) rfl) (by decide) (rm5 l Z a0 hw h0 a3 [(b152, oA .int [(.int (4 : Int32))]), (b151, oA .int [o0]), (b150, oO cn0 [(fk0, (.ref b151)), (fk1, (.ref b152)), (fk2, (.ref b6))]), (b6, oA .double [(.double w7), (.double (18442240474082181120 : UInt64)), (.double (18442240474082181120 : UInt64)), (.double w135)])]) (lenOf pd_2 rfl) (hb hby at_91) (pc' := 94) rfl (argsL := [(.int a3)]) (rest := [(.int (1 : Int32))]) rfl (by rw [hml]; rfl) (W := 1) (oLe rfl) (by decide) (cells' := 4) rfl (slots' := 9) rfl ?_
        intro T v_ d_ q_ B
        rcases q_ with ⟨q157, rfl, rfl⟩ | ⟨q158, rfl, rfl⟩
        · show oWin p e below Z h0 _ _ (T.setTop (mkF m 94 #[.val (.int a1), .val (.int a2), .val (.int a3), .val (.int a4), .val (.ref b6), .val (.ref b150)] [(.int (1 : Int32)), (.int (1 : Int32))]))
          refine W_icmpN B (hb hby at_94) (pc' := 97) rfl (by decide) ?_
          refine W_aload B (hb hby at_97) (pc' := 99) rfl rfl rfl ?_
          refine W_iconst B (hb hby at_99) (pc' := 100) rfl (z := (3 : Int32)) (by decide) ?_
          refine W_virtual B (y := (⟨"com/example/bucketry/bucketry/table/Table", "isZero", "(I)Z"⟩ : MethodName)) (z := (⟨"com/example/bucketry/bucketry/table/Table", "isZero", "(I)Z"⟩ : MethodName)) hown (ow hw (i := 23) rfl) (ow hw (i := 24) rfl) (oNotFace B (ow hw (i := 26) rfl) rfl) (ow hw (i := 26) rfl) (ow hw (i := 25) rfl) (ow hw (i := 9) rfl) (ow hw (i := 27) rfl) (by decide) (a := b150) (rm4_fin l Z a0 hw h0 b150 (3 : Int32) b151 b152 b6 [(.double w7), (.double (18442240474082181120 : UInt64)), (.double (18442240474082181120 : UInt64)), (.double w135)] w135 (b152, oA .int [(.int (4 : Int32))]) (b151, oA .int [o0]) [] (by decide) rfl q138) (lenOf pd_2 rfl) (hb hby at_100) (pc' := 103) rfl (argsL := [(.int (3 : Int32))]) (rest := []) rfl (by rw [hml]; rfl) (W := 0) (oLe rfl) (j := 2) rfl (by decide) (cells' := 4) rfl (slots' := 9) rfl ?_
          intro T v_ d_ q_ B
          obtain ⟨rfl, rfl⟩ := q_
          show oWin p e below Z h0 _ _ (T.setTop (mkF m 103 #[.val (.int a1), .val (.int a2), .val (.int a3), .val (.int a4), .val (.ref b6), .val (.ref b150)] [(.int (0 : Int32))]))
          refine W_iloadN B (hb hby at_103) (pc' := 104) rfl rfl ?_
          refine W_callS B (y := (⟨"com/example/bucketry/bucketry/table/TableIsZeroPinLaw", "zero", "(I)Z"⟩ : MethodName)) hown (ow hw (i := 29) rfl) (ow hw (i := 30) rfl) (ow hw (i := 3) rfl) (ow hw (i := 31) rfl) (by decide) (rm5 l Z a0 hw h0 a4 [(b152, oA .int [(.int (4 : Int32))]), (b151, oA .int [o0]), (b150, oO cn0 [(fk0, (.ref b151)), (fk1, (.ref b152)), (fk2, (.ref b6))]), (b6, oA .double [(.double w7), (.double (18442240474082181120 : UInt64)), (.double (18442240474082181120 : UInt64)), (.double w135)])]) (lenOf pd_2 rfl) (hb hby at_104) (pc' := 107) rfl (argsL := [(.int a4)]) (rest := [(.int (0 : Int32))]) rfl (by rw [hml]; rfl) (W := 1) (oLe rfl) (by decide) (cells' := 4) rfl (slots' := 9) rfl ?_
          intro T v_ d_ q_ B
          rcases q_ with ⟨q159, rfl, rfl⟩ | ⟨q160, rfl, rfl⟩
          · show oWin p e below Z h0 _ _ (T.setTop (mkF m 107 #[.val (.int a1), .val (.int a2), .val (.int a3), .val (.int a4), .val (.ref b6), .val (.ref b150)] [(.int (1 : Int32)), (.int (0 : Int32))]))
            exact absurd q159 q137
          show oWin p e below Z h0 _ _ (T.setTop (mkF m 107 #[.val (.int a1), .val (.int a2), .val (.int a3), .val (.int a4), .val (.ref b6), .val (.ref b150)] [(.int (0 : Int32)), (.int (0 : Int32))]))
          refine W_icmpN B (hb hby at_107) (pc' := 110) rfl (by decide) ?_
          refine W_iconst B (hb hby at_110) (pc' := 111) rfl (z := (1 : Int32)) (by decide) ?_
          refine W_goto B (hb hby at_111) (by decide) (pc' := 115) (by decide) ?_
          refine W_retN B hret (by simp) (hb hby at_115) (by decide) ?_
          rfl
        show oWin p e below Z h0 _ _ (T.setTop (mkF m 94 #[.val (.int a1), .val (.int a2), .val (.int a3), .val (.int a4), .val (.ref b6), .val (.ref b150)] [(.int (0 : Int32)), (.int (1 : Int32))]))
        exact absurd q132 q158
      show oWin p e below Z h0 _ _ (T.setTop (mkF m 81 #[.val (.int a1), .val (.int a2), .val (.int a3), .val (.int a4), .val (.ref b6), .val (.ref b150)] [(.int (0 : Int32)), (.int (1 : Int32))]))
      exact absurd q128 q156
    show oWin p e below Z h0 _ _ (T.setTop (mkF m 23 #[.val (.int a1), .val (.int a2), .val (.int a3), .val (.int a4), .unset, .unset] [(.double w131), (.int (2 : Int32)), (.ref b6), (.ref b6)]))
    refine W_dastore B (hb hby at_23) (pc' := 24) rfl (i := 0) rfl (by decide) (oLt rfl) (ds' := [(b6, oA .double [(.double w7), (.double (18442240474082181120 : UInt64)), (.double w131), (.double 0)])]) rfl ?_
    intro T B
    refine W_dup B (hb hby at_24) (pc' := 25) rfl rfl ?_
    refine W_iconst B (hb hby at_25) (pc' := 26) rfl (z := (3 : Int32)) (by decide) ?_
    refine W_iloadN B (hb hby at_26) (pc' := 27) rfl rfl ?_
    refine W_callS B (y := (⟨"com/example/bucketry/bucketry/table/TableIsZeroPinLaw", "entry", "(I)D"⟩ : MethodName)) hown (ow hw (i := 1) rfl) (ow hw (i := 2) rfl) (ow hw (i := 3) rfl) (ow hw (i := 4) rfl) (by decide) (rm1 l Z a0 hw h0 a4 [(b6, oA .double [(.double w7), (.double (18442240474082181120 : UInt64)), (.double w131), (.double 0)])]) (lenOf pd_0 rfl) (hb hby at_27) (pc' := 30) rfl (argsL := [(.int a4)]) (rest := [(.int (3 : Int32)), (.ref b6), (.ref b6)]) rfl (by rw [hml]; rfl) (W := 3) (oLe rfl) (by decide) (cells' := 1) rfl (slots' := 4) rfl ?_
    intro T v_ d_ q_ B
    rcases q_ with ⟨q162, rfl, rfl⟩ | ⟨w161, q163, q164, rfl, rfl⟩
    · show oWin p e below Z h0 _ _ (T.setTop (mkF m 30 #[.val (.int a1), .val (.int a2), .val (.int a3), .val (.int a4), .unset, .unset] [(.double (18442240474082181120 : UInt64)), (.int (3 : Int32)), (.ref b6), (.ref b6)]))
      refine W_dastore B (hb hby at_30) (pc' := 31) rfl (i := 0) rfl (by decide) (oLt rfl) (ds' := [(b6, oA .double [(.double w7), (.double (18442240474082181120 : UInt64)), (.double w131), (.double (18442240474082181120 : UInt64))])]) rfl ?_
      intro T B
      refine W_astore B (hb hby at_31) (pc' := 33) rfl rfl (ls' := #[.val (.int a1), .val (.int a2), .val (.int a3), .val (.int a4), .val (.ref b6), .unset]) rfl ?_
      refine W_new B hown (ow hw (i := 7) rfl) (ow hw (i := 8) rfl) (ow hw (i := 9) rfl) (hb hby at_33) (pc' := 36) rfl (by decide) (cells' := 2) rfl (slots' := 7) rfl (fs := [(fk0, .null), (fk1, .null), (fk2, .null)]) (oAll_cons ⟨Or.inr (ow hw (i := 18) rfl), (.array .int), by decide, rfl⟩ (oAll_cons ⟨Or.inr (ow hw (i := 20) rfl), (.array .int), by decide, rfl⟩ (oAll_cons ⟨Or.inr (ow hw (i := 22) rfl), (.array .double), by decide, rfl⟩ oAll_nil))) (by decide) ?_
      intro T b165 B
      refine W_dup B (hb hby at_36) (pc' := 37) rfl rfl ?_
      refine W_iconst B (hb hby at_37) (pc' := 38) rfl (z := (1 : Int32)) (by decide) ?_
      refine W_newarray B (ow hw (i := 10) rfl) (hb hby at_38) (pc' := 40) rfl (by decide) (cap := 1) (by decide) (by decide) (cells' := 3) rfl (slots' := 8) rfl (vs := [(.int (0 : Int32))]) rfl (ty := .int) rfl ?_
      intro T b166 B
      refine W_dup B (hb hby at_40) (pc' := 41) rfl rfl ?_
      refine W_iconst B (hb hby at_41) (pc' := 42) rfl (z := (0 : Int32)) (by decide) ?_
      refine W_iconst B (hb hby at_42) (pc' := 43) rfl (z := (0 : Int32)) (by decide) ?_
      refine W_iastore B (hb hby at_43) (pc' := 44) rfl (i := 0) rfl (by decide) (oLt rfl) (ds' := [(b166, oA .int [o0]), (b165, oO cn0 [(fk0, .null), (fk1, .null), (fk2, .null)]), (b6, oA .double [(.double w7), (.double (18442240474082181120 : UInt64)), (.double w131), (.double (18442240474082181120 : UInt64))])]) rfl ?_
      intro T B
      refine W_iconst B (hb hby at_44) (pc' := 45) rfl (z := (1 : Int32)) (by decide) ?_
      refine W_newarray B (ow hw (i := 10) rfl) (hb hby at_45) (pc' := 47) rfl (by decide) (cap := 1) (by decide) (by decide) (cells' := 4) rfl (slots' := 9) rfl (vs := [(.int (0 : Int32))]) rfl (ty := .int) rfl ?_
      intro T b167 B
      refine W_dup B (hb hby at_47) (pc' := 48) rfl rfl ?_
      refine W_iconst B (hb hby at_48) (pc' := 49) rfl (z := (0 : Int32)) (by decide) ?_
      refine W_iconst B (hb hby at_49) (pc' := 50) rfl (z := (4 : Int32)) (by decide) ?_
      refine W_iastore B (hb hby at_50) (pc' := 51) rfl (i := 0) rfl (by decide) (oLt rfl) (ds' := [(b167, oA .int [(.int (4 : Int32))]), (b166, oA .int [o0]), (b165, oO cn0 [(fk0, .null), (fk1, .null), (fk2, .null)]), (b6, oA .double [(.double w7), (.double (18442240474082181120 : UInt64)), (.double w131), (.double (18442240474082181120 : UInt64))])]) rfl ?_
      intro T B
      refine W_aload B (hb hby at_51) (pc' := 53) rfl rfl rfl ?_
      refine W_init B (y := (⟨"com/example/bucketry/bucketry/table/Table", "<init>", "([I[I[D)V"⟩ : MethodName)) hown rfl (ow hw (i := 11) rfl) (ow hw (i := 12) rfl) (ow hw (i := 9) rfl) (ow hw (i := 13) rfl) (by decide) (a := b165) (rm2 l Z a0 hw h0 b165 b166 b167 b6 (b167, oA .int [(.int (4 : Int32))]) (b166, oA .int [o0]) [(b6, oA .double [(.double w7), (.double (18442240474082181120 : UInt64)), (.double w131), (.double (18442240474082181120 : UInt64))])]) (lenOf pd_1 rfl) (hb hby at_53) (pc' := 56) rfl (argsL := [(.ref b166), (.ref b167), (.ref b6)]) (rest := [(.ref b165)]) rfl (by rw [hml]; rfl) (W := 1) (oLe rfl) (by decide) (cells' := 4) rfl (slots' := 9) rfl ?_
      intro T v_ d_ q_ B
      obtain ⟨rfl, rfl⟩ := q_
      show oWin p e below Z h0 _ _ (T.setTop (mkF m 56 #[.val (.int a1), .val (.int a2), .val (.int a3), .val (.int a4), .val (.ref b6), .unset] [(.ref b165)]))
      refine W_astore B (hb hby at_56) (pc' := 58) rfl rfl (ls' := #[.val (.int a1), .val (.int a2), .val (.int a3), .val (.int a4), .val (.ref b6), .val (.ref b165)]) rfl ?_
      refine W_aload B (hb hby at_58) (pc' := 60) rfl rfl rfl ?_
      refine W_iconst B (hb hby at_60) (pc' := 61) rfl (z := (0 : Int32)) (by decide) ?_
      refine W_virtual B (y := (⟨"com/example/bucketry/bucketry/table/Table", "isZero", "(I)Z"⟩ : MethodName)) (z := (⟨"com/example/bucketry/bucketry/table/Table", "isZero", "(I)Z"⟩ : MethodName)) hown (ow hw (i := 23) rfl) (ow hw (i := 24) rfl) (oNotFace B (ow hw (i := 26) rfl) rfl) (ow hw (i := 26) rfl) (ow hw (i := 25) rfl) (ow hw (i := 9) rfl) (ow hw (i := 27) rfl) (by decide) (a := b165) (rm4_fin l Z a0 hw h0 b165 (0 : Int32) b166 b167 b6 [(.double w7), (.double (18442240474082181120 : UInt64)), (.double w131), (.double (18442240474082181120 : UInt64))] w7 (b167, oA .int [(.int (4 : Int32))]) (b166, oA .int [o0]) [] (by decide) rfl q10) (lenOf pd_2 rfl) (hb hby at_61) (pc' := 64) rfl (argsL := [(.int (0 : Int32))]) (rest := []) rfl (by rw [hml]; rfl) (W := 0) (oLe rfl) (j := 2) rfl (by decide) (cells' := 4) rfl (slots' := 9) rfl ?_
      intro T v_ d_ q_ B
      obtain ⟨rfl, rfl⟩ := q_
      show oWin p e below Z h0 _ _ (T.setTop (mkF m 64 #[.val (.int a1), .val (.int a2), .val (.int a3), .val (.int a4), .val (.ref b6), .val (.ref b165)] [(.int (0 : Int32))]))
      refine W_iloadN B (hb hby at_64) (pc' := 65) rfl rfl ?_
      refine W_callS B (y := (⟨"com/example/bucketry/bucketry/table/TableIsZeroPinLaw", "zero", "(I)Z"⟩ : MethodName)) hown (ow hw (i := 29) rfl) (ow hw (i := 30) rfl) (ow hw (i := 3) rfl) (ow hw (i := 31) rfl) (by decide) (rm5 l Z a0 hw h0 a1 [(b167, oA .int [(.int (4 : Int32))]), (b166, oA .int [o0]), (b165, oO cn0 [(fk0, (.ref b166)), (fk1, (.ref b167)), (fk2, (.ref b6))]), (b6, oA .double [(.double w7), (.double (18442240474082181120 : UInt64)), (.double w131), (.double (18442240474082181120 : UInt64))])]) (lenOf pd_2 rfl) (hb hby at_65) (pc' := 68) rfl (argsL := [(.int a1)]) (rest := [(.int (0 : Int32))]) rfl (by rw [hml]; rfl) (W := 1) (oLe rfl) (by decide) (cells' := 4) rfl (slots' := 9) rfl ?_
      intro T v_ d_ q_ B
      rcases q_ with ⟨q168, rfl, rfl⟩ | ⟨q169, rfl, rfl⟩
      · show oWin p e below Z h0 _ _ (T.setTop (mkF m 68 #[.val (.int a1), .val (.int a2), .val (.int a3), .val (.int a4), .val (.ref b6), .val (.ref b165)] [(.int (1 : Int32)), (.int (0 : Int32))]))
        exact absurd q168 q9
      show oWin p e below Z h0 _ _ (T.setTop (mkF m 68 #[.val (.int a1), .val (.int a2), .val (.int a3), .val (.int a4), .val (.ref b6), .val (.ref b165)] [(.int (0 : Int32)), (.int (0 : Int32))]))
      refine W_icmpN B (hb hby at_68) (pc' := 71) rfl (by decide) ?_
      refine W_aload B (hb hby at_71) (pc' := 73) rfl rfl rfl ?_
      refine W_iconst B (hb hby at_73) (pc' := 74) rfl (z := (1 : Int32)) (by decide) ?_
      refine W_virtual B (y := (⟨"com/example/bucketry/bucketry/table/Table", "isZero", "(I)Z"⟩ : MethodName)) (z := (⟨"com/example/bucketry/bucketry/table/Table", "isZero", "(I)Z"⟩ : MethodName)) hown (ow hw (i := 23) rfl) (ow hw (i := 24) rfl) (oNotFace B (ow hw (i := 26) rfl) rfl) (ow hw (i := 26) rfl) (ow hw (i := 25) rfl) (ow hw (i := 9) rfl) (ow hw (i := 27) rfl) (by decide) (a := b165) (rm4_inf l Z a0 hw h0 b165 (1 : Int32) b166 b167 b6 [(.double w7), (.double (18442240474082181120 : UInt64)), (.double w131), (.double (18442240474082181120 : UInt64))] (b167, oA .int [(.int (4 : Int32))]) (b166, oA .int [o0]) [] (by decide) rfl) (lenOf pd_2 rfl) (hb hby at_74) (pc' := 77) rfl (argsL := [(.int (1 : Int32))]) (rest := []) rfl (by rw [hml]; rfl) (W := 0) (oLe rfl) (j := 2) rfl (by decide) (cells' := 4) rfl (slots' := 9) rfl ?_
      intro T v_ d_ q_ B
      obtain ⟨rfl, rfl⟩ := q_
      show oWin p e below Z h0 _ _ (T.setTop (mkF m 77 #[.val (.int a1), .val (.int a2), .val (.int a3), .val (.int a4), .val (.ref b6), .val (.ref b165)] [(.int (1 : Int32))]))
      refine W_iloadN B (hb hby at_77) (pc' := 78) rfl rfl ?_
      refine W_callS B (y := (⟨"com/example/bucketry/bucketry/table/TableIsZeroPinLaw", "zero", "(I)Z"⟩ : MethodName)) hown (ow hw (i := 29) rfl) (ow hw (i := 30) rfl) (ow hw (i := 3) rfl) (ow hw (i := 31) rfl) (by decide) (rm5 l Z a0 hw h0 a2 [(b167, oA .int [(.int (4 : Int32))]), (b166, oA .int [o0]), (b165, oO cn0 [(fk0, (.ref b166)), (fk1, (.ref b167)), (fk2, (.ref b6))]), (b6, oA .double [(.double w7), (.double (18442240474082181120 : UInt64)), (.double w131), (.double (18442240474082181120 : UInt64))])]) (lenOf pd_2 rfl) (hb hby at_78) (pc' := 81) rfl (argsL := [(.int a2)]) (rest := [(.int (1 : Int32))]) rfl (by rw [hml]; rfl) (W := 1) (oLe rfl) (by decide) (cells' := 4) rfl (slots' := 9) rfl ?_
      intro T v_ d_ q_ B
      rcases q_ with ⟨q170, rfl, rfl⟩ | ⟨q171, rfl, rfl⟩
      · show oWin p e below Z h0 _ _ (T.setTop (mkF m 81 #[.val (.int a1), .val (.int a2), .val (.int a3), .val (.int a4), .val (.ref b6), .val (.ref b165)] [(.int (1 : Int32)), (.int (1 : Int32))]))
        refine W_icmpN B (hb hby at_81) (pc' := 84) rfl (by decide) ?_
        refine W_aload B (hb hby at_84) (pc' := 86) rfl rfl rfl ?_
        refine W_iconst B (hb hby at_86) (pc' := 87) rfl (z := (2 : Int32)) (by decide) ?_
        refine W_virtual B (y := (⟨"com/example/bucketry/bucketry/table/Table", "isZero", "(I)Z"⟩ : MethodName)) (z := (⟨"com/example/bucketry/bucketry/table/Table", "isZero", "(I)Z"⟩ : MethodName)) hown (ow hw (i := 23) rfl) (ow hw (i := 24) rfl) (oNotFace B (ow hw (i := 26) rfl) rfl) (ow hw (i := 26) rfl) (ow hw (i := 25) rfl) (ow hw (i := 9) rfl) (ow hw (i := 27) rfl) (by decide) (a := b165) (rm4_fin l Z a0 hw h0 b165 (2 : Int32) b166 b167 b6 [(.double w7), (.double (18442240474082181120 : UInt64)), (.double w131), (.double (18442240474082181120 : UInt64))] w131 (b167, oA .int [(.int (4 : Int32))]) (b166, oA .int [o0]) [] (by decide) rfl q134) (lenOf pd_2 rfl) (hb hby at_87) (pc' := 90) rfl (argsL := [(.int (2 : Int32))]) (rest := []) rfl (by rw [hml]; rfl) (W := 0) (oLe rfl) (j := 2) rfl (by decide) (cells' := 4) rfl (slots' := 9) rfl ?_
        intro T v_ d_ q_ B
        obtain ⟨rfl, rfl⟩ := q_
        show oWin p e below Z h0 _ _ (T.setTop (mkF m 90 #[.val (.int a1), .val (.int a2), .val (.int a3), .val (.int a4), .val (.ref b6), .val (.ref b165)] [(.int (0 : Int32))]))
        refine W_iloadN B (hb hby at_90) (pc' := 91) rfl rfl ?_
        refine W_callS B (y := (⟨"com/example/bucketry/bucketry/table/TableIsZeroPinLaw", "zero", "(I)Z"⟩ : MethodName)) hown (ow hw (i := 29) rfl) (ow hw (i := 30) rfl) (ow hw (i := 3) rfl) (ow hw (i := 31) rfl) (by decide) (rm5 l Z a0 hw h0 a3 [(b167, oA .int [(.int (4 : Int32))]), (b166, oA .int [o0]), (b165, oO cn0 [(fk0, (.ref b166)), (fk1, (.ref b167)), (fk2, (.ref b6))]), (b6, oA .double [(.double w7), (.double (18442240474082181120 : UInt64)), (.double w131), (.double (18442240474082181120 : UInt64))])]) (lenOf pd_2 rfl) (hb hby at_91) (pc' := 94) rfl (argsL := [(.int a3)]) (rest := [(.int (0 : Int32))]) rfl (by rw [hml]; rfl) (W := 1) (oLe rfl) (by decide) (cells' := 4) rfl (slots' := 9) rfl ?_
        intro T v_ d_ q_ B
        rcases q_ with ⟨q172, rfl, rfl⟩ | ⟨q173, rfl, rfl⟩
        · show oWin p e below Z h0 _ _ (T.setTop (mkF m 94 #[.val (.int a1), .val (.int a2), .val (.int a3), .val (.int a4), .val (.ref b6), .val (.ref b165)] [(.int (1 : Int32)), (.int (0 : Int32))]))
          exact absurd q172 q133
        show oWin p e below Z h0 _ _ (T.setTop (mkF m 94 #[.val (.int a1), .val (.int a2), .val (.int a3), .val (.int a4), .val (.ref b6), .val (.ref b165)] [(.int (0 : Int32)), (.int (0 : Int32))]))
        refine W_icmpN B (hb hby at_94) (pc' := 97) rfl (by decide) ?_
        refine W_aload B (hb hby at_97) (pc' := 99) rfl rfl rfl ?_
        refine W_iconst B (hb hby at_99) (pc' := 100) rfl (z := (3 : Int32)) (by decide) ?_
        refine W_virtual B (y := (⟨"com/example/bucketry/bucketry/table/Table", "isZero", "(I)Z"⟩ : MethodName)) (z := (⟨"com/example/bucketry/bucketry/table/Table", "isZero", "(I)Z"⟩ : MethodName)) hown (ow hw (i := 23) rfl) (ow hw (i := 24) rfl) (oNotFace B (ow hw (i := 26) rfl) rfl) (ow hw (i := 26) rfl) (ow hw (i := 25) rfl) (ow hw (i := 9) rfl) (ow hw (i := 27) rfl) (by decide) (a := b165) (rm4_inf l Z a0 hw h0 b165 (3 : Int32) b166 b167 b6 [(.double w7), (.double (18442240474082181120 : UInt64)), (.double w131), (.double (18442240474082181120 : UInt64))] (b167, oA .int [(.int (4 : Int32))]) (b166, oA .int [o0]) [] (by decide) rfl) (lenOf pd_2 rfl) (hb hby at_100) (pc' := 103) rfl (argsL := [(.int (3 : Int32))]) (rest := []) rfl (by rw [hml]; rfl) (W := 0) (oLe rfl) (j := 2) rfl (by decide) (cells' := 4) rfl (slots' := 9) rfl ?_
        intro T v_ d_ q_ B
        obtain ⟨rfl, rfl⟩ := q_
        show oWin p e below Z h0 _ _ (T.setTop (mkF m 103 #[.val (.int a1), .val (.int a2), .val (.int a3), .val (.int a4), .val (.ref b6), .val (.ref b165)] [(.int (1 : Int32))]))
        refine W_iloadN B (hb hby at_103) (pc' := 104) rfl rfl ?_
        refine W_callS B (y := (⟨"com/example/bucketry/bucketry/table/TableIsZeroPinLaw", "zero", "(I)Z"⟩ : MethodName)) hown (ow hw (i := 29) rfl) (ow hw (i := 30) rfl) (ow hw (i := 3) rfl) (ow hw (i := 31) rfl) (by decide) (rm5 l Z a0 hw h0 a4 [(b167, oA .int [(.int (4 : Int32))]), (b166, oA .int [o0]), (b165, oO cn0 [(fk0, (.ref b166)), (fk1, (.ref b167)), (fk2, (.ref b6))]), (b6, oA .double [(.double w7), (.double (18442240474082181120 : UInt64)), (.double w131), (.double (18442240474082181120 : UInt64))])]) (lenOf pd_2 rfl) (hb hby at_104) (pc' := 107) rfl (argsL := [(.int a4)]) (rest := [(.int (1 : Int32))]) rfl (by rw [hml]; rfl) (W := 1) (oLe rfl) (by decide) (cells' := 4) rfl (slots' := 9) rfl ?_
        intro T v_ d_ q_ B
        rcases q_ with ⟨q174, rfl, rfl⟩ | ⟨q175, rfl, rfl⟩
        · show oWin p e below Z h0 _ _ (T.setTop (mkF m 107 #[.val (.int a1), .val (.int a2), .val (.int a3), .val (.int a4), .val (.ref b6), .val (.ref b165)] [(.int (1 : Int32)), (.int (1 : Int32))]))
          refine W_icmpN B (hb hby at_107) (pc' := 110) rfl (by decide) ?_
          refine W_iconst B (hb hby at_110) (pc' := 111) rfl (z := (1 : Int32)) (by decide) ?_
          refine W_goto B (hb hby at_111) (by decide) (pc' := 115) (by decide) ?_
          refine W_retN B hret (by simp) (hb hby at_115) (by decide) ?_
          rfl
        show oWin p e below Z h0 _ _ (T.setTop (mkF m 107 #[.val (.int a1), .val (.int a2), .val (.int a3), .val (.int a4), .val (.ref b6), .val (.ref b165)] [(.int (0 : Int32)), (.int (1 : Int32))]))
        exact absurd q162 q175
      show oWin p e below Z h0 _ _ (T.setTop (mkF m 81 #[.val (.int a1), .val (.int a2), .val (.int a3), .val (.int a4), .val (.ref b6), .val (.ref b165)] [(.int (0 : Int32)), (.int (1 : Int32))]))
      exact absurd q128 q171
    show oWin p e below Z h0 _ _ (T.setTop (mkF m 30 #[.val (.int a1), .val (.int a2), .val (.int a3), .val (.int a4), .unset, .unset] [(.double w161), (.int (3 : Int32)), (.ref b6), (.ref b6)]))
    refine W_dastore B (hb hby at_30) (pc' := 31) rfl (i := 0) rfl (by decide) (oLt rfl) (ds' := [(b6, oA .double [(.double w7), (.double (18442240474082181120 : UInt64)), (.double w131), (.double w161)])]) rfl ?_
    intro T B
    refine W_astore B (hb hby at_31) (pc' := 33) rfl rfl (ls' := #[.val (.int a1), .val (.int a2), .val (.int a3), .val (.int a4), .val (.ref b6), .unset]) rfl ?_
    refine W_new B hown (ow hw (i := 7) rfl) (ow hw (i := 8) rfl) (ow hw (i := 9) rfl) (hb hby at_33) (pc' := 36) rfl (by decide) (cells' := 2) rfl (slots' := 7) rfl (fs := [(fk0, .null), (fk1, .null), (fk2, .null)]) (oAll_cons ⟨Or.inr (ow hw (i := 18) rfl), (.array .int), by decide, rfl⟩ (oAll_cons ⟨Or.inr (ow hw (i := 20) rfl), (.array .int), by decide, rfl⟩ (oAll_cons ⟨Or.inr (ow hw (i := 22) rfl), (.array .double), by decide, rfl⟩ oAll_nil))) (by decide) ?_
    intro T b176 B
    refine W_dup B (hb hby at_36) (pc' := 37) rfl rfl ?_
    refine W_iconst B (hb hby at_37) (pc' := 38) rfl (z := (1 : Int32)) (by decide) ?_
    refine W_newarray B (ow hw (i := 10) rfl) (hb hby at_38) (pc' := 40) rfl (by decide) (cap := 1) (by decide) (by decide) (cells' := 3) rfl (slots' := 8) rfl (vs := [(.int (0 : Int32))]) rfl (ty := .int) rfl ?_
    intro T b177 B
    refine W_dup B (hb hby at_40) (pc' := 41) rfl rfl ?_
    refine W_iconst B (hb hby at_41) (pc' := 42) rfl (z := (0 : Int32)) (by decide) ?_
    refine W_iconst B (hb hby at_42) (pc' := 43) rfl (z := (0 : Int32)) (by decide) ?_
    refine W_iastore B (hb hby at_43) (pc' := 44) rfl (i := 0) rfl (by decide) (oLt rfl) (ds' := [(b177, oA .int [o0]), (b176, oO cn0 [(fk0, .null), (fk1, .null), (fk2, .null)]), (b6, oA .double [(.double w7), (.double (18442240474082181120 : UInt64)), (.double w131), (.double w161)])]) rfl ?_
    intro T B
    refine W_iconst B (hb hby at_44) (pc' := 45) rfl (z := (1 : Int32)) (by decide) ?_
    refine W_newarray B (ow hw (i := 10) rfl) (hb hby at_45) (pc' := 47) rfl (by decide) (cap := 1) (by decide) (by decide) (cells' := 4) rfl (slots' := 9) rfl (vs := [(.int (0 : Int32))]) rfl (ty := .int) rfl ?_
    intro T b178 B
    refine W_dup B (hb hby at_47) (pc' := 48) rfl rfl ?_
    refine W_iconst B (hb hby at_48) (pc' := 49) rfl (z := (0 : Int32)) (by decide) ?_
    refine W_iconst B (hb hby at_49) (pc' := 50) rfl (z := (4 : Int32)) (by decide) ?_
    refine W_iastore B (hb hby at_50) (pc' := 51) rfl (i := 0) rfl (by decide) (oLt rfl) (ds' := [(b178, oA .int [(.int (4 : Int32))]), (b177, oA .int [o0]), (b176, oO cn0 [(fk0, .null), (fk1, .null), (fk2, .null)]), (b6, oA .double [(.double w7), (.double (18442240474082181120 : UInt64)), (.double w131), (.double w161)])]) rfl ?_
    intro T B
    refine W_aload B (hb hby at_51) (pc' := 53) rfl rfl rfl ?_
    refine W_init B (y := (⟨"com/example/bucketry/bucketry/table/Table", "<init>", "([I[I[D)V"⟩ : MethodName)) hown rfl (ow hw (i := 11) rfl) (ow hw (i := 12) rfl) (ow hw (i := 9) rfl) (ow hw (i := 13) rfl) (by decide) (a := b176) (rm2 l Z a0 hw h0 b176 b177 b178 b6 (b178, oA .int [(.int (4 : Int32))]) (b177, oA .int [o0]) [(b6, oA .double [(.double w7), (.double (18442240474082181120 : UInt64)), (.double w131), (.double w161)])]) (lenOf pd_1 rfl) (hb hby at_53) (pc' := 56) rfl (argsL := [(.ref b177), (.ref b178), (.ref b6)]) (rest := [(.ref b176)]) rfl (by rw [hml]; rfl) (W := 1) (oLe rfl) (by decide) (cells' := 4) rfl (slots' := 9) rfl ?_
    intro T v_ d_ q_ B
    obtain ⟨rfl, rfl⟩ := q_
    show oWin p e below Z h0 _ _ (T.setTop (mkF m 56 #[.val (.int a1), .val (.int a2), .val (.int a3), .val (.int a4), .val (.ref b6), .unset] [(.ref b176)]))
    refine W_astore B (hb hby at_56) (pc' := 58) rfl rfl (ls' := #[.val (.int a1), .val (.int a2), .val (.int a3), .val (.int a4), .val (.ref b6), .val (.ref b176)]) rfl ?_
    refine W_aload B (hb hby at_58) (pc' := 60) rfl rfl rfl ?_
    refine W_iconst B (hb hby at_60) (pc' := 61) rfl (z := (0 : Int32)) (by decide) ?_
    refine W_virtual B (y := (⟨"com/example/bucketry/bucketry/table/Table", "isZero", "(I)Z"⟩ : MethodName)) (z := (⟨"com/example/bucketry/bucketry/table/Table", "isZero", "(I)Z"⟩ : MethodName)) hown (ow hw (i := 23) rfl) (ow hw (i := 24) rfl) (oNotFace B (ow hw (i := 26) rfl) rfl) (ow hw (i := 26) rfl) (ow hw (i := 25) rfl) (ow hw (i := 9) rfl) (ow hw (i := 27) rfl) (by decide) (a := b176) (rm4_fin l Z a0 hw h0 b176 (0 : Int32) b177 b178 b6 [(.double w7), (.double (18442240474082181120 : UInt64)), (.double w131), (.double w161)] w7 (b178, oA .int [(.int (4 : Int32))]) (b177, oA .int [o0]) [] (by decide) rfl q10) (lenOf pd_2 rfl) (hb hby at_61) (pc' := 64) rfl (argsL := [(.int (0 : Int32))]) (rest := []) rfl (by rw [hml]; rfl) (W := 0) (oLe rfl) (j := 2) rfl (by decide) (cells' := 4) rfl (slots' := 9) rfl ?_
    intro T v_ d_ q_ B
    obtain ⟨rfl, rfl⟩ := q_
    show oWin p e below Z h0 _ _ (T.setTop (mkF m 64 #[.val (.int a1), .val (.int a2), .val (.int a3), .val (.int a4), .val (.ref b6), .val (.ref b176)] [(.int (0 : Int32))]))
    refine W_iloadN B (hb hby at_64) (pc' := 65) rfl rfl ?_
    refine W_callS B (y := (⟨"com/example/bucketry/bucketry/table/TableIsZeroPinLaw", "zero", "(I)Z"⟩ : MethodName)) hown (ow hw (i := 29) rfl) (ow hw (i := 30) rfl) (ow hw (i := 3) rfl) (ow hw (i := 31) rfl) (by decide) (rm5 l Z a0 hw h0 a1 [(b178, oA .int [(.int (4 : Int32))]), (b177, oA .int [o0]), (b176, oO cn0 [(fk0, (.ref b177)), (fk1, (.ref b178)), (fk2, (.ref b6))]), (b6, oA .double [(.double w7), (.double (18442240474082181120 : UInt64)), (.double w131), (.double w161)])]) (lenOf pd_2 rfl) (hb hby at_65) (pc' := 68) rfl (argsL := [(.int a1)]) (rest := [(.int (0 : Int32))]) rfl (by rw [hml]; rfl) (W := 1) (oLe rfl) (by decide) (cells' := 4) rfl (slots' := 9) rfl ?_
    intro T v_ d_ q_ B
    rcases q_ with ⟨q179, rfl, rfl⟩ | ⟨q180, rfl, rfl⟩
    · show oWin p e below Z h0 _ _ (T.setTop (mkF m 68 #[.val (.int a1), .val (.int a2), .val (.int a3), .val (.int a4), .val (.ref b6), .val (.ref b176)] [(.int (1 : Int32)), (.int (0 : Int32))]))
      exact absurd q179 q9
    show oWin p e below Z h0 _ _ (T.setTop (mkF m 68 #[.val (.int a1), .val (.int a2), .val (.int a3), .val (.int a4), .val (.ref b6), .val (.ref b176)] [(.int (0 : Int32)), (.int (0 : Int32))]))
    refine W_icmpN B (hb hby at_68) (pc' := 71) rfl (by decide) ?_
    refine W_aload B (hb hby at_71) (pc' := 73) rfl rfl rfl ?_
    refine W_iconst B (hb hby at_73) (pc' := 74) rfl (z := (1 : Int32)) (by decide) ?_
    refine W_virtual B (y := (⟨"com/example/bucketry/bucketry/table/Table", "isZero", "(I)Z"⟩ : MethodName)) (z := (⟨"com/example/bucketry/bucketry/table/Table", "isZero", "(I)Z"⟩ : MethodName)) hown (ow hw (i := 23) rfl) (ow hw (i := 24) rfl) (oNotFace B (ow hw (i := 26) rfl) rfl) (ow hw (i := 26) rfl) (ow hw (i := 25) rfl) (ow hw (i := 9) rfl) (ow hw (i := 27) rfl) (by decide) (a := b176) (rm4_inf l Z a0 hw h0 b176 (1 : Int32) b177 b178 b6 [(.double w7), (.double (18442240474082181120 : UInt64)), (.double w131), (.double w161)] (b178, oA .int [(.int (4 : Int32))]) (b177, oA .int [o0]) [] (by decide) rfl) (lenOf pd_2 rfl) (hb hby at_74) (pc' := 77) rfl (argsL := [(.int (1 : Int32))]) (rest := []) rfl (by rw [hml]; rfl) (W := 0) (oLe rfl) (j := 2) rfl (by decide) (cells' := 4) rfl (slots' := 9) rfl ?_
    intro T v_ d_ q_ B
    obtain ⟨rfl, rfl⟩ := q_
    show oWin p e below Z h0 _ _ (T.setTop (mkF m 77 #[.val (.int a1), .val (.int a2), .val (.int a3), .val (.int a4), .val (.ref b6), .val (.ref b176)] [(.int (1 : Int32))]))
    refine W_iloadN B (hb hby at_77) (pc' := 78) rfl rfl ?_
    refine W_callS B (y := (⟨"com/example/bucketry/bucketry/table/TableIsZeroPinLaw", "zero", "(I)Z"⟩ : MethodName)) hown (ow hw (i := 29) rfl) (ow hw (i := 30) rfl) (ow hw (i := 3) rfl) (ow hw (i := 31) rfl) (by decide) (rm5 l Z a0 hw h0 a2 [(b178, oA .int [(.int (4 : Int32))]), (b177, oA .int [o0]), (b176, oO cn0 [(fk0, (.ref b177)), (fk1, (.ref b178)), (fk2, (.ref b6))]), (b6, oA .double [(.double w7), (.double (18442240474082181120 : UInt64)), (.double w131), (.double w161)])]) (lenOf pd_2 rfl) (hb hby at_78) (pc' := 81) rfl (argsL := [(.int a2)]) (rest := [(.int (1 : Int32))]) rfl (by rw [hml]; rfl) (W := 1) (oLe rfl) (by decide) (cells' := 4) rfl (slots' := 9) rfl ?_
    intro T v_ d_ q_ B
    rcases q_ with ⟨q181, rfl, rfl⟩ | ⟨q182, rfl, rfl⟩
    · show oWin p e below Z h0 _ _ (T.setTop (mkF m 81 #[.val (.int a1), .val (.int a2), .val (.int a3), .val (.int a4), .val (.ref b6), .val (.ref b176)] [(.int (1 : Int32)), (.int (1 : Int32))]))
      refine W_icmpN B (hb hby at_81) (pc' := 84) rfl (by decide) ?_
      refine W_aload B (hb hby at_84) (pc' := 86) rfl rfl rfl ?_
      refine W_iconst B (hb hby at_86) (pc' := 87) rfl (z := (2 : Int32)) (by decide) ?_
      refine W_virtual B (y := (⟨"com/example/bucketry/bucketry/table/Table", "isZero", "(I)Z"⟩ : MethodName)) (z := (⟨"com/example/bucketry/bucketry/table/Table", "isZero", "(I)Z"⟩ : MethodName)) hown (ow hw (i := 23) rfl) (ow hw (i := 24) rfl) (oNotFace B (ow hw (i := 26) rfl) rfl) (ow hw (i := 26) rfl) (ow hw (i := 25) rfl) (ow hw (i := 9) rfl) (ow hw (i := 27) rfl) (by decide) (a := b176) (rm4_fin l Z a0 hw h0 b176 (2 : Int32) b177 b178 b6 [(.double w7), (.double (18442240474082181120 : UInt64)), (.double w131), (.double w161)] w131 (b178, oA .int [(.int (4 : Int32))]) (b177, oA .int [o0]) [] (by decide) rfl q134) (lenOf pd_2 rfl) (hb hby at_87) (pc' := 90) rfl (argsL := [(.int (2 : Int32))]) (rest := []) rfl (by rw [hml]; rfl) (W := 0) (oLe rfl) (j := 2) rfl (by decide) (cells' := 4) rfl (slots' := 9) rfl ?_
      intro T v_ d_ q_ B
      obtain ⟨rfl, rfl⟩ := q_
      show oWin p e below Z h0 _ _ (T.setTop (mkF m 90 #[.val (.int a1), .val (.int a2), .val (.int a3), .val (.int a4), .val (.ref b6), .val (.ref b176)] [(.int (0 : Int32))]))
      refine W_iloadN B (hb hby at_90) (pc' := 91) rfl rfl ?_
      refine W_callS B (y := (⟨"com/example/bucketry/bucketry/table/TableIsZeroPinLaw", "zero", "(I)Z"⟩ : MethodName)) hown (ow hw (i := 29) rfl) (ow hw (i := 30) rfl) (ow hw (i := 3) rfl) (ow hw (i := 31) rfl) (by decide) (rm5 l Z a0 hw h0 a3 [(b178, oA .int [(.int (4 : Int32))]), (b177, oA .int [o0]), (b176, oO cn0 [(fk0, (.ref b177)), (fk1, (.ref b178)), (fk2, (.ref b6))]), (b6, oA .double [(.double w7), (.double (18442240474082181120 : UInt64)), (.double w131), (.double w161)])]) (lenOf pd_2 rfl) (hb hby at_91) (pc' := 94) rfl (argsL := [(.int a3)]) (rest := [(.int (0 : Int32))]) rfl (by rw [hml]; rfl) (W := 1) (oLe rfl) (by decide) (cells' := 4) rfl (slots' := 9) rfl ?_
      intro T v_ d_ q_ B
      rcases q_ with ⟨q183, rfl, rfl⟩ | ⟨q184, rfl, rfl⟩
      · show oWin p e below Z h0 _ _ (T.setTop (mkF m 94 #[.val (.int a1), .val (.int a2), .val (.int a3), .val (.int a4), .val (.ref b6), .val (.ref b176)] [(.int (1 : Int32)), (.int (0 : Int32))]))
        exact absurd q183 q133
      show oWin p e below Z h0 _ _ (T.setTop (mkF m 94 #[.val (.int a1), .val (.int a2), .val (.int a3), .val (.int a4), .val (.ref b6), .val (.ref b176)] [(.int (0 : Int32)), (.int (0 : Int32))]))
      refine W_icmpN B (hb hby at_94) (pc' := 97) rfl (by decide) ?_
      refine W_aload B (hb hby at_97) (pc' := 99) rfl rfl rfl ?_
      refine W_iconst B (hb hby at_99) (pc' := 100) rfl (z := (3 : Int32)) (by decide) ?_
      refine W_virtual B (y := (⟨"com/example/bucketry/bucketry/table/Table", "isZero", "(I)Z"⟩ : MethodName)) (z := (⟨"com/example/bucketry/bucketry/table/Table", "isZero", "(I)Z"⟩ : MethodName)) hown (ow hw (i := 23) rfl) (ow hw (i := 24) rfl) (oNotFace B (ow hw (i := 26) rfl) rfl) (ow hw (i := 26) rfl) (ow hw (i := 25) rfl) (ow hw (i := 9) rfl) (ow hw (i := 27) rfl) (by decide) (a := b176) (rm4_fin l Z a0 hw h0 b176 (3 : Int32) b177 b178 b6 [(.double w7), (.double (18442240474082181120 : UInt64)), (.double w131), (.double w161)] w161 (b178, oA .int [(.int (4 : Int32))]) (b177, oA .int [o0]) [] (by decide) rfl q164) (lenOf pd_2 rfl) (hb hby at_100) (pc' := 103) rfl (argsL := [(.int (3 : Int32))]) (rest := []) rfl (by rw [hml]; rfl) (W := 0) (oLe rfl) (j := 2) rfl (by decide) (cells' := 4) rfl (slots' := 9) rfl ?_
      intro T v_ d_ q_ B
      obtain ⟨rfl, rfl⟩ := q_
      show oWin p e below Z h0 _ _ (T.setTop (mkF m 103 #[.val (.int a1), .val (.int a2), .val (.int a3), .val (.int a4), .val (.ref b6), .val (.ref b176)] [(.int (0 : Int32))]))
      refine W_iloadN B (hb hby at_103) (pc' := 104) rfl rfl ?_
      refine W_callS B (y := (⟨"com/example/bucketry/bucketry/table/TableIsZeroPinLaw", "zero", "(I)Z"⟩ : MethodName)) hown (ow hw (i := 29) rfl) (ow hw (i := 30) rfl) (ow hw (i := 3) rfl) (ow hw (i := 31) rfl) (by decide) (rm5 l Z a0 hw h0 a4 [(b178, oA .int [(.int (4 : Int32))]), (b177, oA .int [o0]), (b176, oO cn0 [(fk0, (.ref b177)), (fk1, (.ref b178)), (fk2, (.ref b6))]), (b6, oA .double [(.double w7), (.double (18442240474082181120 : UInt64)), (.double w131), (.double w161)])]) (lenOf pd_2 rfl) (hb hby at_104) (pc' := 107) rfl (argsL := [(.int a4)]) (rest := [(.int (0 : Int32))]) rfl (by rw [hml]; rfl) (W := 1) (oLe rfl) (by decide) (cells' := 4) rfl (slots' := 9) rfl ?_
      intro T v_ d_ q_ B
      rcases q_ with ⟨q185, rfl, rfl⟩ | ⟨q186, rfl, rfl⟩
      · show oWin p e below Z h0 _ _ (T.setTop (mkF m 107 #[.val (.int a1), .val (.int a2), .val (.int a3), .val (.int a4), .val (.ref b6), .val (.ref b176)] [(.int (1 : Int32)), (.int (0 : Int32))]))
        exact absurd q185 q163
      show oWin p e below Z h0 _ _ (T.setTop (mkF m 107 #[.val (.int a1), .val (.int a2), .val (.int a3), .val (.int a4), .val (.ref b6), .val (.ref b176)] [(.int (0 : Int32)), (.int (0 : Int32))]))
      refine W_icmpN B (hb hby at_107) (pc' := 110) rfl (by decide) ?_
      refine W_iconst B (hb hby at_110) (pc' := 111) rfl (z := (1 : Int32)) (by decide) ?_
      refine W_goto B (hb hby at_111) (by decide) (pc' := 115) (by decide) ?_
      refine W_retN B hret (by simp) (hb hby at_115) (by decide) ?_
      rfl
    show oWin p e below Z h0 _ _ (T.setTop (mkF m 81 #[.val (.int a1), .val (.int a2), .val (.int a3), .val (.int a4), .val (.ref b6), .val (.ref b176)] [(.int (0 : Int32)), (.int (1 : Int32))]))
    exact absurd q128 q182
  show oWin p e below Z h0 _ _ (T.setTop (mkF m 16 #[.val (.int a1), .val (.int a2), .val (.int a3), .val (.int a4), .unset, .unset] [(.double w127), (.int (1 : Int32)), (.ref b6), (.ref b6)]))
  refine W_dastore B (hb hby at_16) (pc' := 17) rfl (i := 0) rfl (by decide) (oLt rfl) (ds' := [(b6, oA .double [(.double w7), (.double w127), (.double 0), (.double 0)])]) rfl ?_
  intro T B
  refine W_dup B (hb hby at_17) (pc' := 18) rfl rfl ?_
  refine W_iconst B (hb hby at_18) (pc' := 19) rfl (z := (2 : Int32)) (by decide) ?_
  refine W_iloadN B (hb hby at_19) (pc' := 20) rfl rfl ?_
  refine W_callS B (y := (⟨"com/example/bucketry/bucketry/table/TableIsZeroPinLaw", "entry", "(I)D"⟩ : MethodName)) hown (ow hw (i := 1) rfl) (ow hw (i := 2) rfl) (ow hw (i := 3) rfl) (ow hw (i := 4) rfl) (by decide) (rm1 l Z a0 hw h0 a3 [(b6, oA .double [(.double w7), (.double w127), (.double 0), (.double 0)])]) (lenOf pd_0 rfl) (hb hby at_20) (pc' := 23) rfl (argsL := [(.int a3)]) (rest := [(.int (2 : Int32)), (.ref b6), (.ref b6)]) rfl (by rw [hml]; rfl) (W := 3) (oLe rfl) (by decide) (cells' := 1) rfl (slots' := 4) rfl ?_
  intro T v_ d_ q_ B
  rcases q_ with ⟨q188, rfl, rfl⟩ | ⟨w187, q189, q190, rfl, rfl⟩
  · show oWin p e below Z h0 _ _ (T.setTop (mkF m 23 #[.val (.int a1), .val (.int a2), .val (.int a3), .val (.int a4), .unset, .unset] [(.double (18442240474082181120 : UInt64)), (.int (2 : Int32)), (.ref b6), (.ref b6)]))
    refine W_dastore B (hb hby at_23) (pc' := 24) rfl (i := 0) rfl (by decide) (oLt rfl) (ds' := [(b6, oA .double [(.double w7), (.double w127), (.double (18442240474082181120 : UInt64)), (.double 0)])]) rfl ?_
    intro T B
    refine W_dup B (hb hby at_24) (pc' := 25) rfl rfl ?_
    refine W_iconst B (hb hby at_25) (pc' := 26) rfl (z := (3 : Int32)) (by decide) ?_
    refine W_iloadN B (hb hby at_26) (pc' := 27) rfl rfl ?_
    refine W_callS B (y := (⟨"com/example/bucketry/bucketry/table/TableIsZeroPinLaw", "entry", "(I)D"⟩ : MethodName)) hown (ow hw (i := 1) rfl) (ow hw (i := 2) rfl) (ow hw (i := 3) rfl) (ow hw (i := 4) rfl) (by decide) (rm1 l Z a0 hw h0 a4 [(b6, oA .double [(.double w7), (.double w127), (.double (18442240474082181120 : UInt64)), (.double 0)])]) (lenOf pd_0 rfl) (hb hby at_27) (pc' := 30) rfl (argsL := [(.int a4)]) (rest := [(.int (3 : Int32)), (.ref b6), (.ref b6)]) rfl (by rw [hml]; rfl) (W := 3) (oLe rfl) (by decide) (cells' := 1) rfl (slots' := 4) rfl ?_
    intro T v_ d_ q_ B
    rcases q_ with ⟨q192, rfl, rfl⟩ | ⟨w191, q193, q194, rfl, rfl⟩
    · show oWin p e below Z h0 _ _ (T.setTop (mkF m 30 #[.val (.int a1), .val (.int a2), .val (.int a3), .val (.int a4), .unset, .unset] [(.double (18442240474082181120 : UInt64)), (.int (3 : Int32)), (.ref b6), (.ref b6)]))
      refine W_dastore B (hb hby at_30) (pc' := 31) rfl (i := 0) rfl (by decide) (oLt rfl) (ds' := [(b6, oA .double [(.double w7), (.double w127), (.double (18442240474082181120 : UInt64)), (.double (18442240474082181120 : UInt64))])]) rfl ?_
      intro T B
      refine W_astore B (hb hby at_31) (pc' := 33) rfl rfl (ls' := #[.val (.int a1), .val (.int a2), .val (.int a3), .val (.int a4), .val (.ref b6), .unset]) rfl ?_
      refine W_new B hown (ow hw (i := 7) rfl) (ow hw (i := 8) rfl) (ow hw (i := 9) rfl) (hb hby at_33) (pc' := 36) rfl (by decide) (cells' := 2) rfl (slots' := 7) rfl (fs := [(fk0, .null), (fk1, .null), (fk2, .null)]) (oAll_cons ⟨Or.inr (ow hw (i := 18) rfl), (.array .int), by decide, rfl⟩ (oAll_cons ⟨Or.inr (ow hw (i := 20) rfl), (.array .int), by decide, rfl⟩ (oAll_cons ⟨Or.inr (ow hw (i := 22) rfl), (.array .double), by decide, rfl⟩ oAll_nil))) (by decide) ?_
      intro T b195 B
      refine W_dup B (hb hby at_36) (pc' := 37) rfl rfl ?_
      refine W_iconst B (hb hby at_37) (pc' := 38) rfl (z := (1 : Int32)) (by decide) ?_
      refine W_newarray B (ow hw (i := 10) rfl) (hb hby at_38) (pc' := 40) rfl (by decide) (cap := 1) (by decide) (by decide) (cells' := 3) rfl (slots' := 8) rfl (vs := [(.int (0 : Int32))]) rfl (ty := .int) rfl ?_
      intro T b196 B
      refine W_dup B (hb hby at_40) (pc' := 41) rfl rfl ?_
      refine W_iconst B (hb hby at_41) (pc' := 42) rfl (z := (0 : Int32)) (by decide) ?_
      refine W_iconst B (hb hby at_42) (pc' := 43) rfl (z := (0 : Int32)) (by decide) ?_
      refine W_iastore B (hb hby at_43) (pc' := 44) rfl (i := 0) rfl (by decide) (oLt rfl) (ds' := [(b196, oA .int [o0]), (b195, oO cn0 [(fk0, .null), (fk1, .null), (fk2, .null)]), (b6, oA .double [(.double w7), (.double w127), (.double (18442240474082181120 : UInt64)), (.double (18442240474082181120 : UInt64))])]) rfl ?_
      intro T B
      refine W_iconst B (hb hby at_44) (pc' := 45) rfl (z := (1 : Int32)) (by decide) ?_
      refine W_newarray B (ow hw (i := 10) rfl) (hb hby at_45) (pc' := 47) rfl (by decide) (cap := 1) (by decide) (by decide) (cells' := 4) rfl (slots' := 9) rfl (vs := [(.int (0 : Int32))]) rfl (ty := .int) rfl ?_
      intro T b197 B
      refine W_dup B (hb hby at_47) (pc' := 48) rfl rfl ?_
      refine W_iconst B (hb hby at_48) (pc' := 49) rfl (z := (0 : Int32)) (by decide) ?_
      refine W_iconst B (hb hby at_49) (pc' := 50) rfl (z := (4 : Int32)) (by decide) ?_
      refine W_iastore B (hb hby at_50) (pc' := 51) rfl (i := 0) rfl (by decide) (oLt rfl) (ds' := [(b197, oA .int [(.int (4 : Int32))]), (b196, oA .int [o0]), (b195, oO cn0 [(fk0, .null), (fk1, .null), (fk2, .null)]), (b6, oA .double [(.double w7), (.double w127), (.double (18442240474082181120 : UInt64)), (.double (18442240474082181120 : UInt64))])]) rfl ?_
      intro T B
      refine W_aload B (hb hby at_51) (pc' := 53) rfl rfl rfl ?_
      refine W_init B (y := (⟨"com/example/bucketry/bucketry/table/Table", "<init>", "([I[I[D)V"⟩ : MethodName)) hown rfl (ow hw (i := 11) rfl) (ow hw (i := 12) rfl) (ow hw (i := 9) rfl) (ow hw (i := 13) rfl) (by decide) (a := b195) (rm2 l Z a0 hw h0 b195 b196 b197 b6 (b197, oA .int [(.int (4 : Int32))]) (b196, oA .int [o0]) [(b6, oA .double [(.double w7), (.double w127), (.double (18442240474082181120 : UInt64)), (.double (18442240474082181120 : UInt64))])]) (lenOf pd_1 rfl) (hb hby at_53) (pc' := 56) rfl (argsL := [(.ref b196), (.ref b197), (.ref b6)]) (rest := [(.ref b195)]) rfl (by rw [hml]; rfl) (W := 1) (oLe rfl) (by decide) (cells' := 4) rfl (slots' := 9) rfl ?_
      intro T v_ d_ q_ B
      obtain ⟨rfl, rfl⟩ := q_
      show oWin p e below Z h0 _ _ (T.setTop (mkF m 56 #[.val (.int a1), .val (.int a2), .val (.int a3), .val (.int a4), .val (.ref b6), .unset] [(.ref b195)]))
      refine W_astore B (hb hby at_56) (pc' := 58) rfl rfl (ls' := #[.val (.int a1), .val (.int a2), .val (.int a3), .val (.int a4), .val (.ref b6), .val (.ref b195)]) rfl ?_
      refine W_aload B (hb hby at_58) (pc' := 60) rfl rfl rfl ?_
      refine W_iconst B (hb hby at_60) (pc' := 61) rfl (z := (0 : Int32)) (by decide) ?_
      refine W_virtual B (y := (⟨"com/example/bucketry/bucketry/table/Table", "isZero", "(I)Z"⟩ : MethodName)) (z := (⟨"com/example/bucketry/bucketry/table/Table", "isZero", "(I)Z"⟩ : MethodName)) hown (ow hw (i := 23) rfl) (ow hw (i := 24) rfl) (oNotFace B (ow hw (i := 26) rfl) rfl) (ow hw (i := 26) rfl) (ow hw (i := 25) rfl) (ow hw (i := 9) rfl) (ow hw (i := 27) rfl) (by decide) (a := b195) (rm4_fin l Z a0 hw h0 b195 (0 : Int32) b196 b197 b6 [(.double w7), (.double w127), (.double (18442240474082181120 : UInt64)), (.double (18442240474082181120 : UInt64))] w7 (b197, oA .int [(.int (4 : Int32))]) (b196, oA .int [o0]) [] (by decide) rfl q10) (lenOf pd_2 rfl) (hb hby at_61) (pc' := 64) rfl (argsL := [(.int (0 : Int32))]) (rest := []) rfl (by rw [hml]; rfl) (W := 0) (oLe rfl) (j := 2) rfl (by decide) (cells' := 4) rfl (slots' := 9) rfl ?_
      intro T v_ d_ q_ B
      obtain ⟨rfl, rfl⟩ := q_
      show oWin p e below Z h0 _ _ (T.setTop (mkF m 64 #[.val (.int a1), .val (.int a2), .val (.int a3), .val (.int a4), .val (.ref b6), .val (.ref b195)] [(.int (0 : Int32))]))
      refine W_iloadN B (hb hby at_64) (pc' := 65) rfl rfl ?_
      refine W_callS B (y := (⟨"com/example/bucketry/bucketry/table/TableIsZeroPinLaw", "zero", "(I)Z"⟩ : MethodName)) hown (ow hw (i := 29) rfl) (ow hw (i := 30) rfl) (ow hw (i := 3) rfl) (ow hw (i := 31) rfl) (by decide) (rm5 l Z a0 hw h0 a1 [(b197, oA .int [(.int (4 : Int32))]), (b196, oA .int [o0]), (b195, oO cn0 [(fk0, (.ref b196)), (fk1, (.ref b197)), (fk2, (.ref b6))]), (b6, oA .double [(.double w7), (.double w127), (.double (18442240474082181120 : UInt64)), (.double (18442240474082181120 : UInt64))])]) (lenOf pd_2 rfl) (hb hby at_65) (pc' := 68) rfl (argsL := [(.int a1)]) (rest := [(.int (0 : Int32))]) rfl (by rw [hml]; rfl) (W := 1) (oLe rfl) (by decide) (cells' := 4) rfl (slots' := 9) rfl ?_
      intro T v_ d_ q_ B
      rcases q_ with ⟨q198, rfl, rfl⟩ | ⟨q199, rfl, rfl⟩
      · show oWin p e below Z h0 _ _ (T.setTop (mkF m 68 #[.val (.int a1), .val (.int a2), .val (.int a3), .val (.int a4), .val (.ref b6), .val (.ref b195)] [(.int (1 : Int32)), (.int (0 : Int32))]))
        exact absurd q198 q9
      show oWin p e below Z h0 _ _ (T.setTop (mkF m 68 #[.val (.int a1), .val (.int a2), .val (.int a3), .val (.int a4), .val (.ref b6), .val (.ref b195)] [(.int (0 : Int32)), (.int (0 : Int32))]))
      refine W_icmpN B (hb hby at_68) (pc' := 71) rfl (by decide) ?_
      refine W_aload B (hb hby at_71) (pc' := 73) rfl rfl rfl ?_
      refine W_iconst B (hb hby at_73) (pc' := 74) rfl (z := (1 : Int32)) (by decide) ?_
      refine W_virtual B (y := (⟨"com/example/bucketry/bucketry/table/Table", "isZero", "(I)Z"⟩ : MethodName)) (z := (⟨"com/example/bucketry/bucketry/table/Table", "isZero", "(I)Z"⟩ : MethodName)) hown (ow hw (i := 23) rfl) (ow hw (i := 24) rfl) (oNotFace B (ow hw (i := 26) rfl) rfl) (ow hw (i := 26) rfl) (ow hw (i := 25) rfl) (ow hw (i := 9) rfl) (ow hw (i := 27) rfl) (by decide) (a := b195) (rm4_fin l Z a0 hw h0 b195 (1 : Int32) b196 b197 b6 [(.double w7), (.double w127), (.double (18442240474082181120 : UInt64)), (.double (18442240474082181120 : UInt64))] w127 (b197, oA .int [(.int (4 : Int32))]) (b196, oA .int [o0]) [] (by decide) rfl q130) (lenOf pd_2 rfl) (hb hby at_74) (pc' := 77) rfl (argsL := [(.int (1 : Int32))]) (rest := []) rfl (by rw [hml]; rfl) (W := 0) (oLe rfl) (j := 2) rfl (by decide) (cells' := 4) rfl (slots' := 9) rfl ?_
      intro T v_ d_ q_ B
      obtain ⟨rfl, rfl⟩ := q_
      show oWin p e below Z h0 _ _ (T.setTop (mkF m 77 #[.val (.int a1), .val (.int a2), .val (.int a3), .val (.int a4), .val (.ref b6), .val (.ref b195)] [(.int (0 : Int32))]))
      refine W_iloadN B (hb hby at_77) (pc' := 78) rfl rfl ?_
      refine W_callS B (y := (⟨"com/example/bucketry/bucketry/table/TableIsZeroPinLaw", "zero", "(I)Z"⟩ : MethodName)) hown (ow hw (i := 29) rfl) (ow hw (i := 30) rfl) (ow hw (i := 3) rfl) (ow hw (i := 31) rfl) (by decide) (rm5 l Z a0 hw h0 a2 [(b197, oA .int [(.int (4 : Int32))]), (b196, oA .int [o0]), (b195, oO cn0 [(fk0, (.ref b196)), (fk1, (.ref b197)), (fk2, (.ref b6))]), (b6, oA .double [(.double w7), (.double w127), (.double (18442240474082181120 : UInt64)), (.double (18442240474082181120 : UInt64))])]) (lenOf pd_2 rfl) (hb hby at_78) (pc' := 81) rfl (argsL := [(.int a2)]) (rest := [(.int (0 : Int32))]) rfl (by rw [hml]; rfl) (W := 1) (oLe rfl) (by decide) (cells' := 4) rfl (slots' := 9) rfl ?_
      intro T v_ d_ q_ B
      rcases q_ with ⟨q200, rfl, rfl⟩ | ⟨q201, rfl, rfl⟩
      · show oWin p e below Z h0 _ _ (T.setTop (mkF m 81 #[.val (.int a1), .val (.int a2), .val (.int a3), .val (.int a4), .val (.ref b6), .val (.ref b195)] [(.int (1 : Int32)), (.int (0 : Int32))]))
        exact absurd q200 q129
      show oWin p e below Z h0 _ _ (T.setTop (mkF m 81 #[.val (.int a1), .val (.int a2), .val (.int a3), .val (.int a4), .val (.ref b6), .val (.ref b195)] [(.int (0 : Int32)), (.int (0 : Int32))]))
      refine W_icmpN B (hb hby at_81) (pc' := 84) rfl (by decide) ?_
      refine W_aload B (hb hby at_84) (pc' := 86) rfl rfl rfl ?_
      refine W_iconst B (hb hby at_86) (pc' := 87) rfl (z := (2 : Int32)) (by decide) ?_
      refine W_virtual B (y := (⟨"com/example/bucketry/bucketry/table/Table", "isZero", "(I)Z"⟩ : MethodName)) (z := (⟨"com/example/bucketry/bucketry/table/Table", "isZero", "(I)Z"⟩ : MethodName)) hown (ow hw (i := 23) rfl) (ow hw (i := 24) rfl) (oNotFace B (ow hw (i := 26) rfl) rfl) (ow hw (i := 26) rfl) (ow hw (i := 25) rfl) (ow hw (i := 9) rfl) (ow hw (i := 27) rfl) (by decide) (a := b195) (rm4_inf l Z a0 hw h0 b195 (2 : Int32) b196 b197 b6 [(.double w7), (.double w127), (.double (18442240474082181120 : UInt64)), (.double (18442240474082181120 : UInt64))] (b197, oA .int [(.int (4 : Int32))]) (b196, oA .int [o0]) [] (by decide) rfl) (lenOf pd_2 rfl) (hb hby at_87) (pc' := 90) rfl (argsL := [(.int (2 : Int32))]) (rest := []) rfl (by rw [hml]; rfl) (W := 0) (oLe rfl) (j := 2) rfl (by decide) (cells' := 4) rfl (slots' := 9) rfl ?_
      intro T v_ d_ q_ B
      obtain ⟨rfl, rfl⟩ := q_
      show oWin p e below Z h0 _ _ (T.setTop (mkF m 90 #[.val (.int a1), .val (.int a2), .val (.int a3), .val (.int a4), .val (.ref b6), .val (.ref b195)] [(.int (1 : Int32))]))
      refine W_iloadN B (hb hby at_90) (pc' := 91) rfl rfl ?_
      refine W_callS B (y := (⟨"com/example/bucketry/bucketry/table/TableIsZeroPinLaw", "zero", "(I)Z"⟩ : MethodName)) hown (ow hw (i := 29) rfl) (ow hw (i := 30) rfl) (ow hw (i := 3) rfl) (ow hw (i := 31) rfl) (by decide) (rm5 l Z a0 hw h0 a3 [(b197, oA .int [(.int (4 : Int32))]), (b196, oA .int [o0]), (b195, oO cn0 [(fk0, (.ref b196)), (fk1, (.ref b197)), (fk2, (.ref b6))]), (b6, oA .double [(.double w7), (.double w127), (.double (18442240474082181120 : UInt64)), (.double (18442240474082181120 : UInt64))])]) (lenOf pd_2 rfl) (hb hby at_91) (pc' := 94) rfl (argsL := [(.int a3)]) (rest := [(.int (1 : Int32))]) rfl (by rw [hml]; rfl) (W := 1) (oLe rfl) (by decide) (cells' := 4) rfl (slots' := 9) rfl ?_
      intro T v_ d_ q_ B
      rcases q_ with ⟨q202, rfl, rfl⟩ | ⟨q203, rfl, rfl⟩
      · show oWin p e below Z h0 _ _ (T.setTop (mkF m 94 #[.val (.int a1), .val (.int a2), .val (.int a3), .val (.int a4), .val (.ref b6), .val (.ref b195)] [(.int (1 : Int32)), (.int (1 : Int32))]))
        refine W_icmpN B (hb hby at_94) (pc' := 97) rfl (by decide) ?_
        refine W_aload B (hb hby at_97) (pc' := 99) rfl rfl rfl ?_
        refine W_iconst B (hb hby at_99) (pc' := 100) rfl (z := (3 : Int32)) (by decide) ?_
        refine W_virtual B (y := (⟨"com/example/bucketry/bucketry/table/Table", "isZero", "(I)Z"⟩ : MethodName)) (z := (⟨"com/example/bucketry/bucketry/table/Table", "isZero", "(I)Z"⟩ : MethodName)) hown (ow hw (i := 23) rfl) (ow hw (i := 24) rfl) (oNotFace B (ow hw (i := 26) rfl) rfl) (ow hw (i := 26) rfl) (ow hw (i := 25) rfl) (ow hw (i := 9) rfl) (ow hw (i := 27) rfl) (by decide) (a := b195) (rm4_inf l Z a0 hw h0 b195 (3 : Int32) b196 b197 b6 [(.double w7), (.double w127), (.double (18442240474082181120 : UInt64)), (.double (18442240474082181120 : UInt64))] (b197, oA .int [(.int (4 : Int32))]) (b196, oA .int [o0]) [] (by decide) rfl) (lenOf pd_2 rfl) (hb hby at_100) (pc' := 103) rfl (argsL := [(.int (3 : Int32))]) (rest := []) rfl (by rw [hml]; rfl) (W := 0) (oLe rfl) (j := 2) rfl (by decide) (cells' := 4) rfl (slots' := 9) rfl ?_
        intro T v_ d_ q_ B
        obtain ⟨rfl, rfl⟩ := q_
        show oWin p e below Z h0 _ _ (T.setTop (mkF m 103 #[.val (.int a1), .val (.int a2), .val (.int a3), .val (.int a4), .val (.ref b6), .val (.ref b195)] [(.int (1 : Int32))]))
        refine W_iloadN B (hb hby at_103) (pc' := 104) rfl rfl ?_
        refine W_callS B (y := (⟨"com/example/bucketry/bucketry/table/TableIsZeroPinLaw", "zero", "(I)Z"⟩ : MethodName)) hown (ow hw (i := 29) rfl) (ow hw (i := 30) rfl) (ow hw (i := 3) rfl) (ow hw (i := 31) rfl) (by decide) (rm5 l Z a0 hw h0 a4 [(b197, oA .int [(.int (4 : Int32))]), (b196, oA .int [o0]), (b195, oO cn0 [(fk0, (.ref b196)), (fk1, (.ref b197)), (fk2, (.ref b6))]), (b6, oA .double [(.double w7), (.double w127), (.double (18442240474082181120 : UInt64)), (.double (18442240474082181120 : UInt64))])]) (lenOf pd_2 rfl) (hb hby at_104) (pc' := 107) rfl (argsL := [(.int a4)]) (rest := [(.int (1 : Int32))]) rfl (by rw [hml]; rfl) (W := 1) (oLe rfl) (by decide) (cells' := 4) rfl (slots' := 9) rfl ?_
        intro T v_ d_ q_ B
        rcases q_ with ⟨q204, rfl, rfl⟩ | ⟨q205, rfl, rfl⟩
        · show oWin p e below Z h0 _ _ (T.setTop (mkF m 107 #[.val (.int a1), .val (.int a2), .val (.int a3), .val (.int a4), .val (.ref b6), .val (.ref b195)] [(.int (1 : Int32)), (.int (1 : Int32))]))
          refine W_icmpN B (hb hby at_107) (pc' := 110) rfl (by decide) ?_
          refine W_iconst B (hb hby at_110) (pc' := 111) rfl (z := (1 : Int32)) (by decide) ?_
          refine W_goto B (hb hby at_111) (by decide) (pc' := 115) (by decide) ?_
          refine W_retN B hret (by simp) (hb hby at_115) (by decide) ?_
          rfl
        show oWin p e below Z h0 _ _ (T.setTop (mkF m 107 #[.val (.int a1), .val (.int a2), .val (.int a3), .val (.int a4), .val (.ref b6), .val (.ref b195)] [(.int (0 : Int32)), (.int (1 : Int32))]))
        exact absurd q192 q205
      show oWin p e below Z h0 _ _ (T.setTop (mkF m 94 #[.val (.int a1), .val (.int a2), .val (.int a3), .val (.int a4), .val (.ref b6), .val (.ref b195)] [(.int (0 : Int32)), (.int (1 : Int32))]))
      exact absurd q188 q203
    show oWin p e below Z h0 _ _ (T.setTop (mkF m 30 #[.val (.int a1), .val (.int a2), .val (.int a3), .val (.int a4), .unset, .unset] [(.double w191), (.int (3 : Int32)), (.ref b6), (.ref b6)]))
    refine W_dastore B (hb hby at_30) (pc' := 31) rfl (i := 0) rfl (by decide) (oLt rfl) (ds' := [(b6, oA .double [(.double w7), (.double w127), (.double (18442240474082181120 : UInt64)), (.double w191)])]) rfl ?_
    intro T B
    refine W_astore B (hb hby at_31) (pc' := 33) rfl rfl (ls' := #[.val (.int a1), .val (.int a2), .val (.int a3), .val (.int a4), .val (.ref b6), .unset]) rfl ?_
    refine W_new B hown (ow hw (i := 7) rfl) (ow hw (i := 8) rfl) (ow hw (i := 9) rfl) (hb hby at_33) (pc' := 36) rfl (by decide) (cells' := 2) rfl (slots' := 7) rfl (fs := [(fk0, .null), (fk1, .null), (fk2, .null)]) (oAll_cons ⟨Or.inr (ow hw (i := 18) rfl), (.array .int), by decide, rfl⟩ (oAll_cons ⟨Or.inr (ow hw (i := 20) rfl), (.array .int), by decide, rfl⟩ (oAll_cons ⟨Or.inr (ow hw (i := 22) rfl), (.array .double), by decide, rfl⟩ oAll_nil))) (by decide) ?_
    intro T b206 B
    refine W_dup B (hb hby at_36) (pc' := 37) rfl rfl ?_
    refine W_iconst B (hb hby at_37) (pc' := 38) rfl (z := (1 : Int32)) (by decide) ?_
    refine W_newarray B (ow hw (i := 10) rfl) (hb hby at_38) (pc' := 40) rfl (by decide) (cap := 1) (by decide) (by decide) (cells' := 3) rfl (slots' := 8) rfl (vs := [(.int (0 : Int32))]) rfl (ty := .int) rfl ?_
    intro T b207 B
    refine W_dup B (hb hby at_40) (pc' := 41) rfl rfl ?_
    refine W_iconst B (hb hby at_41) (pc' := 42) rfl (z := (0 : Int32)) (by decide) ?_
    refine W_iconst B (hb hby at_42) (pc' := 43) rfl (z := (0 : Int32)) (by decide) ?_
    refine W_iastore B (hb hby at_43) (pc' := 44) rfl (i := 0) rfl (by decide) (oLt rfl) (ds' := [(b207, oA .int [o0]), (b206, oO cn0 [(fk0, .null), (fk1, .null), (fk2, .null)]), (b6, oA .double [(.double w7), (.double w127), (.double (18442240474082181120 : UInt64)), (.double w191)])]) rfl ?_
    intro T B
    refine W_iconst B (hb hby at_44) (pc' := 45) rfl (z := (1 : Int32)) (by decide) ?_
    refine W_newarray B (ow hw (i := 10) rfl) (hb hby at_45) (pc' := 47) rfl (by decide) (cap := 1) (by decide) (by decide) (cells' := 4) rfl (slots' := 9) rfl (vs := [(.int (0 : Int32))]) rfl (ty := .int) rfl ?_
    intro T b208 B
    refine W_dup B (hb hby at_47) (pc' := 48) rfl rfl ?_
    refine W_iconst B (hb hby at_48) (pc' := 49) rfl (z := (0 : Int32)) (by decide) ?_
    refine W_iconst B (hb hby at_49) (pc' := 50) rfl (z := (4 : Int32)) (by decide) ?_
    refine W_iastore B (hb hby at_50) (pc' := 51) rfl (i := 0) rfl (by decide) (oLt rfl) (ds' := [(b208, oA .int [(.int (4 : Int32))]), (b207, oA .int [o0]), (b206, oO cn0 [(fk0, .null), (fk1, .null), (fk2, .null)]), (b6, oA .double [(.double w7), (.double w127), (.double (18442240474082181120 : UInt64)), (.double w191)])]) rfl ?_
    intro T B
    refine W_aload B (hb hby at_51) (pc' := 53) rfl rfl rfl ?_
    refine W_init B (y := (⟨"com/example/bucketry/bucketry/table/Table", "<init>", "([I[I[D)V"⟩ : MethodName)) hown rfl (ow hw (i := 11) rfl) (ow hw (i := 12) rfl) (ow hw (i := 9) rfl) (ow hw (i := 13) rfl) (by decide) (a := b206) (rm2 l Z a0 hw h0 b206 b207 b208 b6 (b208, oA .int [(.int (4 : Int32))]) (b207, oA .int [o0]) [(b6, oA .double [(.double w7), (.double w127), (.double (18442240474082181120 : UInt64)), (.double w191)])]) (lenOf pd_1 rfl) (hb hby at_53) (pc' := 56) rfl (argsL := [(.ref b207), (.ref b208), (.ref b6)]) (rest := [(.ref b206)]) rfl (by rw [hml]; rfl) (W := 1) (oLe rfl) (by decide) (cells' := 4) rfl (slots' := 9) rfl ?_
    intro T v_ d_ q_ B
    obtain ⟨rfl, rfl⟩ := q_
    show oWin p e below Z h0 _ _ (T.setTop (mkF m 56 #[.val (.int a1), .val (.int a2), .val (.int a3), .val (.int a4), .val (.ref b6), .unset] [(.ref b206)]))
    refine W_astore B (hb hby at_56) (pc' := 58) rfl rfl (ls' := #[.val (.int a1), .val (.int a2), .val (.int a3), .val (.int a4), .val (.ref b6), .val (.ref b206)]) rfl ?_
    refine W_aload B (hb hby at_58) (pc' := 60) rfl rfl rfl ?_
    refine W_iconst B (hb hby at_60) (pc' := 61) rfl (z := (0 : Int32)) (by decide) ?_
    refine W_virtual B (y := (⟨"com/example/bucketry/bucketry/table/Table", "isZero", "(I)Z"⟩ : MethodName)) (z := (⟨"com/example/bucketry/bucketry/table/Table", "isZero", "(I)Z"⟩ : MethodName)) hown (ow hw (i := 23) rfl) (ow hw (i := 24) rfl) (oNotFace B (ow hw (i := 26) rfl) rfl) (ow hw (i := 26) rfl) (ow hw (i := 25) rfl) (ow hw (i := 9) rfl) (ow hw (i := 27) rfl) (by decide) (a := b206) (rm4_fin l Z a0 hw h0 b206 (0 : Int32) b207 b208 b6 [(.double w7), (.double w127), (.double (18442240474082181120 : UInt64)), (.double w191)] w7 (b208, oA .int [(.int (4 : Int32))]) (b207, oA .int [o0]) [] (by decide) rfl q10) (lenOf pd_2 rfl) (hb hby at_61) (pc' := 64) rfl (argsL := [(.int (0 : Int32))]) (rest := []) rfl (by rw [hml]; rfl) (W := 0) (oLe rfl) (j := 2) rfl (by decide) (cells' := 4) rfl (slots' := 9) rfl ?_
    intro T v_ d_ q_ B
    obtain ⟨rfl, rfl⟩ := q_
    show oWin p e below Z h0 _ _ (T.setTop (mkF m 64 #[.val (.int a1), .val (.int a2), .val (.int a3), .val (.int a4), .val (.ref b6), .val (.ref b206)] [(.int (0 : Int32))]))
    refine W_iloadN B (hb hby at_64) (pc' := 65) rfl rfl ?_
    refine W_callS B (y := (⟨"com/example/bucketry/bucketry/table/TableIsZeroPinLaw", "zero", "(I)Z"⟩ : MethodName)) hown (ow hw (i := 29) rfl) (ow hw (i := 30) rfl) (ow hw (i := 3) rfl) (ow hw (i := 31) rfl) (by decide) (rm5 l Z a0 hw h0 a1 [(b208, oA .int [(.int (4 : Int32))]), (b207, oA .int [o0]), (b206, oO cn0 [(fk0, (.ref b207)), (fk1, (.ref b208)), (fk2, (.ref b6))]), (b6, oA .double [(.double w7), (.double w127), (.double (18442240474082181120 : UInt64)), (.double w191)])]) (lenOf pd_2 rfl) (hb hby at_65) (pc' := 68) rfl (argsL := [(.int a1)]) (rest := [(.int (0 : Int32))]) rfl (by rw [hml]; rfl) (W := 1) (oLe rfl) (by decide) (cells' := 4) rfl (slots' := 9) rfl ?_
    intro T v_ d_ q_ B
    rcases q_ with ⟨q209, rfl, rfl⟩ | ⟨q210, rfl, rfl⟩
    · show oWin p e below Z h0 _ _ (T.setTop (mkF m 68 #[.val (.int a1), .val (.int a2), .val (.int a3), .val (.int a4), .val (.ref b6), .val (.ref b206)] [(.int (1 : Int32)), (.int (0 : Int32))]))
      exact absurd q209 q9
    show oWin p e below Z h0 _ _ (T.setTop (mkF m 68 #[.val (.int a1), .val (.int a2), .val (.int a3), .val (.int a4), .val (.ref b6), .val (.ref b206)] [(.int (0 : Int32)), (.int (0 : Int32))]))
    refine W_icmpN B (hb hby at_68) (pc' := 71) rfl (by decide) ?_
    refine W_aload B (hb hby at_71) (pc' := 73) rfl rfl rfl ?_
    refine W_iconst B (hb hby at_73) (pc' := 74) rfl (z := (1 : Int32)) (by decide) ?_
    refine W_virtual B (y := (⟨"com/example/bucketry/bucketry/table/Table", "isZero", "(I)Z"⟩ : MethodName)) (z := (⟨"com/example/bucketry/bucketry/table/Table", "isZero", "(I)Z"⟩ : MethodName)) hown (ow hw (i := 23) rfl) (ow hw (i := 24) rfl) (oNotFace B (ow hw (i := 26) rfl) rfl) (ow hw (i := 26) rfl) (ow hw (i := 25) rfl) (ow hw (i := 9) rfl) (ow hw (i := 27) rfl) (by decide) (a := b206) (rm4_fin l Z a0 hw h0 b206 (1 : Int32) b207 b208 b6 [(.double w7), (.double w127), (.double (18442240474082181120 : UInt64)), (.double w191)] w127 (b208, oA .int [(.int (4 : Int32))]) (b207, oA .int [o0]) [] (by decide) rfl q130) (lenOf pd_2 rfl) (hb hby at_74) (pc' := 77) rfl (argsL := [(.int (1 : Int32))]) (rest := []) rfl (by rw [hml]; rfl) (W := 0) (oLe rfl) (j := 2) rfl (by decide) (cells' := 4) rfl (slots' := 9) rfl ?_
    intro T v_ d_ q_ B
    obtain ⟨rfl, rfl⟩ := q_
    show oWin p e below Z h0 _ _ (T.setTop (mkF m 77 #[.val (.int a1), .val (.int a2), .val (.int a3), .val (.int a4), .val (.ref b6), .val (.ref b206)] [(.int (0 : Int32))]))
    refine W_iloadN B (hb hby at_77) (pc' := 78) rfl rfl ?_
    refine W_callS B (y := (⟨"com/example/bucketry/bucketry/table/TableIsZeroPinLaw", "zero", "(I)Z"⟩ : MethodName)) hown (ow hw (i := 29) rfl) (ow hw (i := 30) rfl) (ow hw (i := 3) rfl) (ow hw (i := 31) rfl) (by decide) (rm5 l Z a0 hw h0 a2 [(b208, oA .int [(.int (4 : Int32))]), (b207, oA .int [o0]), (b206, oO cn0 [(fk0, (.ref b207)), (fk1, (.ref b208)), (fk2, (.ref b6))]), (b6, oA .double [(.double w7), (.double w127), (.double (18442240474082181120 : UInt64)), (.double w191)])]) (lenOf pd_2 rfl) (hb hby at_78) (pc' := 81) rfl (argsL := [(.int a2)]) (rest := [(.int (0 : Int32))]) rfl (by rw [hml]; rfl) (W := 1) (oLe rfl) (by decide) (cells' := 4) rfl (slots' := 9) rfl ?_
    intro T v_ d_ q_ B
    rcases q_ with ⟨q211, rfl, rfl⟩ | ⟨q212, rfl, rfl⟩
    · show oWin p e below Z h0 _ _ (T.setTop (mkF m 81 #[.val (.int a1), .val (.int a2), .val (.int a3), .val (.int a4), .val (.ref b6), .val (.ref b206)] [(.int (1 : Int32)), (.int (0 : Int32))]))
      exact absurd q211 q129
    show oWin p e below Z h0 _ _ (T.setTop (mkF m 81 #[.val (.int a1), .val (.int a2), .val (.int a3), .val (.int a4), .val (.ref b6), .val (.ref b206)] [(.int (0 : Int32)), (.int (0 : Int32))]))
    refine W_icmpN B (hb hby at_81) (pc' := 84) rfl (by decide) ?_
    refine W_aload B (hb hby at_84) (pc' := 86) rfl rfl rfl ?_
    refine W_iconst B (hb hby at_86) (pc' := 87) rfl (z := (2 : Int32)) (by decide) ?_
    refine W_virtual B (y := (⟨"com/example/bucketry/bucketry/table/Table", "isZero", "(I)Z"⟩ : MethodName)) (z := (⟨"com/example/bucketry/bucketry/table/Table", "isZero", "(I)Z"⟩ : MethodName)) hown (ow hw (i := 23) rfl) (ow hw (i := 24) rfl) (oNotFace B (ow hw (i := 26) rfl) rfl) (ow hw (i := 26) rfl) (ow hw (i := 25) rfl) (ow hw (i := 9) rfl) (ow hw (i := 27) rfl) (by decide) (a := b206) (rm4_inf l Z a0 hw h0 b206 (2 : Int32) b207 b208 b6 [(.double w7), (.double w127), (.double (18442240474082181120 : UInt64)), (.double w191)] (b208, oA .int [(.int (4 : Int32))]) (b207, oA .int [o0]) [] (by decide) rfl) (lenOf pd_2 rfl) (hb hby at_87) (pc' := 90) rfl (argsL := [(.int (2 : Int32))]) (rest := []) rfl (by rw [hml]; rfl) (W := 0) (oLe rfl) (j := 2) rfl (by decide) (cells' := 4) rfl (slots' := 9) rfl ?_
    intro T v_ d_ q_ B
    obtain ⟨rfl, rfl⟩ := q_
    show oWin p e below Z h0 _ _ (T.setTop (mkF m 90 #[.val (.int a1), .val (.int a2), .val (.int a3), .val (.int a4), .val (.ref b6), .val (.ref b206)] [(.int (1 : Int32))]))
    refine W_iloadN B (hb hby at_90) (pc' := 91) rfl rfl ?_
    refine W_callS B (y := (⟨"com/example/bucketry/bucketry/table/TableIsZeroPinLaw", "zero", "(I)Z"⟩ : MethodName)) hown (ow hw (i := 29) rfl) (ow hw (i := 30) rfl) (ow hw (i := 3) rfl) (ow hw (i := 31) rfl) (by decide) (rm5 l Z a0 hw h0 a3 [(b208, oA .int [(.int (4 : Int32))]), (b207, oA .int [o0]), (b206, oO cn0 [(fk0, (.ref b207)), (fk1, (.ref b208)), (fk2, (.ref b6))]), (b6, oA .double [(.double w7), (.double w127), (.double (18442240474082181120 : UInt64)), (.double w191)])]) (lenOf pd_2 rfl) (hb hby at_91) (pc' := 94) rfl (argsL := [(.int a3)]) (rest := [(.int (1 : Int32))]) rfl (by rw [hml]; rfl) (W := 1) (oLe rfl) (by decide) (cells' := 4) rfl (slots' := 9) rfl ?_
    intro T v_ d_ q_ B
    rcases q_ with ⟨q213, rfl, rfl⟩ | ⟨q214, rfl, rfl⟩
    · show oWin p e below Z h0 _ _ (T.setTop (mkF m 94 #[.val (.int a1), .val (.int a2), .val (.int a3), .val (.int a4), .val (.ref b6), .val (.ref b206)] [(.int (1 : Int32)), (.int (1 : Int32))]))
      refine W_icmpN B (hb hby at_94) (pc' := 97) rfl (by decide) ?_
      refine W_aload B (hb hby at_97) (pc' := 99) rfl rfl rfl ?_
      refine W_iconst B (hb hby at_99) (pc' := 100) rfl (z := (3 : Int32)) (by decide) ?_
      refine W_virtual B (y := (⟨"com/example/bucketry/bucketry/table/Table", "isZero", "(I)Z"⟩ : MethodName)) (z := (⟨"com/example/bucketry/bucketry/table/Table", "isZero", "(I)Z"⟩ : MethodName)) hown (ow hw (i := 23) rfl) (ow hw (i := 24) rfl) (oNotFace B (ow hw (i := 26) rfl) rfl) (ow hw (i := 26) rfl) (ow hw (i := 25) rfl) (ow hw (i := 9) rfl) (ow hw (i := 27) rfl) (by decide) (a := b206) (rm4_fin l Z a0 hw h0 b206 (3 : Int32) b207 b208 b6 [(.double w7), (.double w127), (.double (18442240474082181120 : UInt64)), (.double w191)] w191 (b208, oA .int [(.int (4 : Int32))]) (b207, oA .int [o0]) [] (by decide) rfl q194) (lenOf pd_2 rfl) (hb hby at_100) (pc' := 103) rfl (argsL := [(.int (3 : Int32))]) (rest := []) rfl (by rw [hml]; rfl) (W := 0) (oLe rfl) (j := 2) rfl (by decide) (cells' := 4) rfl (slots' := 9) rfl ?_
      intro T v_ d_ q_ B
      obtain ⟨rfl, rfl⟩ := q_
      show oWin p e below Z h0 _ _ (T.setTop (mkF m 103 #[.val (.int a1), .val (.int a2), .val (.int a3), .val (.int a4), .val (.ref b6), .val (.ref b206)] [(.int (0 : Int32))]))
      refine W_iloadN B (hb hby at_103) (pc' := 104) rfl rfl ?_
      refine W_callS B (y := (⟨"com/example/bucketry/bucketry/table/TableIsZeroPinLaw", "zero", "(I)Z"⟩ : MethodName)) hown (ow hw (i := 29) rfl) (ow hw (i := 30) rfl) (ow hw (i := 3) rfl) (ow hw (i := 31) rfl) (by decide) (rm5 l Z a0 hw h0 a4 [(b208, oA .int [(.int (4 : Int32))]), (b207, oA .int [o0]), (b206, oO cn0 [(fk0, (.ref b207)), (fk1, (.ref b208)), (fk2, (.ref b6))]), (b6, oA .double [(.double w7), (.double w127), (.double (18442240474082181120 : UInt64)), (.double w191)])]) (lenOf pd_2 rfl) (hb hby at_104) (pc' := 107) rfl (argsL := [(.int a4)]) (rest := [(.int (0 : Int32))]) rfl (by rw [hml]; rfl) (W := 1) (oLe rfl) (by decide) (cells' := 4) rfl (slots' := 9) rfl ?_
      intro T v_ d_ q_ B
      rcases q_ with ⟨q215, rfl, rfl⟩ | ⟨q216, rfl, rfl⟩
      · show oWin p e below Z h0 _ _ (T.setTop (mkF m 107 #[.val (.int a1), .val (.int a2), .val (.int a3), .val (.int a4), .val (.ref b6), .val (.ref b206)] [(.int (1 : Int32)), (.int (0 : Int32))]))
        exact absurd q215 q193
      show oWin p e below Z h0 _ _ (T.setTop (mkF m 107 #[.val (.int a1), .val (.int a2), .val (.int a3), .val (.int a4), .val (.ref b6), .val (.ref b206)] [(.int (0 : Int32)), (.int (0 : Int32))]))
      refine W_icmpN B (hb hby at_107) (pc' := 110) rfl (by decide) ?_
      refine W_iconst B (hb hby at_110) (pc' := 111) rfl (z := (1 : Int32)) (by decide) ?_
      refine W_goto B (hb hby at_111) (by decide) (pc' := 115) (by decide) ?_
      refine W_retN B hret (by simp) (hb hby at_115) (by decide) ?_
      rfl
    show oWin p e below Z h0 _ _ (T.setTop (mkF m 94 #[.val (.int a1), .val (.int a2), .val (.int a3), .val (.int a4), .val (.ref b6), .val (.ref b206)] [(.int (0 : Int32)), (.int (1 : Int32))]))
    exact absurd q188 q214
  show oWin p e below Z h0 _ _ (T.setTop (mkF m 23 #[.val (.int a1), .val (.int a2), .val (.int a3), .val (.int a4), .unset, .unset] [(.double w187), (.int (2 : Int32)), (.ref b6), (.ref b6)]))
  refine W_dastore B (hb hby at_23) (pc' := 24) rfl (i := 0) rfl (by decide) (oLt rfl) (ds' := [(b6, oA .double [(.double w7), (.double w127), (.double w187), (.double 0)])]) rfl ?_
  intro T B
  refine W_dup B (hb hby at_24) (pc' := 25) rfl rfl ?_
  refine W_iconst B (hb hby at_25) (pc' := 26) rfl (z := (3 : Int32)) (by decide) ?_
  refine W_iloadN B (hb hby at_26) (pc' := 27) rfl rfl ?_
  refine W_callS B (y := (⟨"com/example/bucketry/bucketry/table/TableIsZeroPinLaw", "entry", "(I)D"⟩ : MethodName)) hown (ow hw (i := 1) rfl) (ow hw (i := 2) rfl) (ow hw (i := 3) rfl) (ow hw (i := 4) rfl) (by decide) (rm1 l Z a0 hw h0 a4 [(b6, oA .double [(.double w7), (.double w127), (.double w187), (.double 0)])]) (lenOf pd_0 rfl) (hb hby at_27) (pc' := 30) rfl (argsL := [(.int a4)]) (rest := [(.int (3 : Int32)), (.ref b6), (.ref b6)]) rfl (by rw [hml]; rfl) (W := 3) (oLe rfl) (by decide) (cells' := 1) rfl (slots' := 4) rfl ?_
  intro T v_ d_ q_ B
  rcases q_ with ⟨q218, rfl, rfl⟩ | ⟨w217, q219, q220, rfl, rfl⟩
  · show oWin p e below Z h0 _ _ (T.setTop (mkF m 30 #[.val (.int a1), .val (.int a2), .val (.int a3), .val (.int a4), .unset, .unset] [(.double (18442240474082181120 : UInt64)), (.int (3 : Int32)), (.ref b6), (.ref b6)]))
    refine W_dastore B (hb hby at_30) (pc' := 31) rfl (i := 0) rfl (by decide) (oLt rfl) (ds' := [(b6, oA .double [(.double w7), (.double w127), (.double w187), (.double (18442240474082181120 : UInt64))])]) rfl ?_
    intro T B
    refine W_astore B (hb hby at_31) (pc' := 33) rfl rfl (ls' := #[.val (.int a1), .val (.int a2), .val (.int a3), .val (.int a4), .val (.ref b6), .unset]) rfl ?_
    refine W_new B hown (ow hw (i := 7) rfl) (ow hw (i := 8) rfl) (ow hw (i := 9) rfl) (hb hby at_33) (pc' := 36) rfl (by decide) (cells' := 2) rfl (slots' := 7) rfl (fs := [(fk0, .null), (fk1, .null), (fk2, .null)]) (oAll_cons ⟨Or.inr (ow hw (i := 18) rfl), (.array .int), by decide, rfl⟩ (oAll_cons ⟨Or.inr (ow hw (i := 20) rfl), (.array .int), by decide, rfl⟩ (oAll_cons ⟨Or.inr (ow hw (i := 22) rfl), (.array .double), by decide, rfl⟩ oAll_nil))) (by decide) ?_
    intro T b221 B
    refine W_dup B (hb hby at_36) (pc' := 37) rfl rfl ?_
    refine W_iconst B (hb hby at_37) (pc' := 38) rfl (z := (1 : Int32)) (by decide) ?_
    refine W_newarray B (ow hw (i := 10) rfl) (hb hby at_38) (pc' := 40) rfl (by decide) (cap := 1) (by decide) (by decide) (cells' := 3) rfl (slots' := 8) rfl (vs := [(.int (0 : Int32))]) rfl (ty := .int) rfl ?_
    intro T b222 B
    refine W_dup B (hb hby at_40) (pc' := 41) rfl rfl ?_
    refine W_iconst B (hb hby at_41) (pc' := 42) rfl (z := (0 : Int32)) (by decide) ?_
    refine W_iconst B (hb hby at_42) (pc' := 43) rfl (z := (0 : Int32)) (by decide) ?_
    refine W_iastore B (hb hby at_43) (pc' := 44) rfl (i := 0) rfl (by decide) (oLt rfl) (ds' := [(b222, oA .int [o0]), (b221, oO cn0 [(fk0, .null), (fk1, .null), (fk2, .null)]), (b6, oA .double [(.double w7), (.double w127), (.double w187), (.double (18442240474082181120 : UInt64))])]) rfl ?_
    intro T B
    refine W_iconst B (hb hby at_44) (pc' := 45) rfl (z := (1 : Int32)) (by decide) ?_
    refine W_newarray B (ow hw (i := 10) rfl) (hb hby at_45) (pc' := 47) rfl (by decide) (cap := 1) (by decide) (by decide) (cells' := 4) rfl (slots' := 9) rfl (vs := [(.int (0 : Int32))]) rfl (ty := .int) rfl ?_
    intro T b223 B
    refine W_dup B (hb hby at_47) (pc' := 48) rfl rfl ?_
    refine W_iconst B (hb hby at_48) (pc' := 49) rfl (z := (0 : Int32)) (by decide) ?_
    refine W_iconst B (hb hby at_49) (pc' := 50) rfl (z := (4 : Int32)) (by decide) ?_
    refine W_iastore B (hb hby at_50) (pc' := 51) rfl (i := 0) rfl (by decide) (oLt rfl) (ds' := [(b223, oA .int [(.int (4 : Int32))]), (b222, oA .int [o0]), (b221, oO cn0 [(fk0, .null), (fk1, .null), (fk2, .null)]), (b6, oA .double [(.double w7), (.double w127), (.double w187), (.double (18442240474082181120 : UInt64))])]) rfl ?_
    intro T B
    refine W_aload B (hb hby at_51) (pc' := 53) rfl rfl rfl ?_
    refine W_init B (y := (⟨"com/example/bucketry/bucketry/table/Table", "<init>", "([I[I[D)V"⟩ : MethodName)) hown rfl (ow hw (i := 11) rfl) (ow hw (i := 12) rfl) (ow hw (i := 9) rfl) (ow hw (i := 13) rfl) (by decide) (a := b221) (rm2 l Z a0 hw h0 b221 b222 b223 b6 (b223, oA .int [(.int (4 : Int32))]) (b222, oA .int [o0]) [(b6, oA .double [(.double w7), (.double w127), (.double w187), (.double (18442240474082181120 : UInt64))])]) (lenOf pd_1 rfl) (hb hby at_53) (pc' := 56) rfl (argsL := [(.ref b222), (.ref b223), (.ref b6)]) (rest := [(.ref b221)]) rfl (by rw [hml]; rfl) (W := 1) (oLe rfl) (by decide) (cells' := 4) rfl (slots' := 9) rfl ?_
    intro T v_ d_ q_ B
    obtain ⟨rfl, rfl⟩ := q_
    show oWin p e below Z h0 _ _ (T.setTop (mkF m 56 #[.val (.int a1), .val (.int a2), .val (.int a3), .val (.int a4), .val (.ref b6), .unset] [(.ref b221)]))
    refine W_astore B (hb hby at_56) (pc' := 58) rfl rfl (ls' := #[.val (.int a1), .val (.int a2), .val (.int a3), .val (.int a4), .val (.ref b6), .val (.ref b221)]) rfl ?_
    refine W_aload B (hb hby at_58) (pc' := 60) rfl rfl rfl ?_
    refine W_iconst B (hb hby at_60) (pc' := 61) rfl (z := (0 : Int32)) (by decide) ?_
    refine W_virtual B (y := (⟨"com/example/bucketry/bucketry/table/Table", "isZero", "(I)Z"⟩ : MethodName)) (z := (⟨"com/example/bucketry/bucketry/table/Table", "isZero", "(I)Z"⟩ : MethodName)) hown (ow hw (i := 23) rfl) (ow hw (i := 24) rfl) (oNotFace B (ow hw (i := 26) rfl) rfl) (ow hw (i := 26) rfl) (ow hw (i := 25) rfl) (ow hw (i := 9) rfl) (ow hw (i := 27) rfl) (by decide) (a := b221) (rm4_fin l Z a0 hw h0 b221 (0 : Int32) b222 b223 b6 [(.double w7), (.double w127), (.double w187), (.double (18442240474082181120 : UInt64))] w7 (b223, oA .int [(.int (4 : Int32))]) (b222, oA .int [o0]) [] (by decide) rfl q10) (lenOf pd_2 rfl) (hb hby at_61) (pc' := 64) rfl (argsL := [(.int (0 : Int32))]) (rest := []) rfl (by rw [hml]; rfl) (W := 0) (oLe rfl) (j := 2) rfl (by decide) (cells' := 4) rfl (slots' := 9) rfl ?_
    intro T v_ d_ q_ B
    obtain ⟨rfl, rfl⟩ := q_
    show oWin p e below Z h0 _ _ (T.setTop (mkF m 64 #[.val (.int a1), .val (.int a2), .val (.int a3), .val (.int a4), .val (.ref b6), .val (.ref b221)] [(.int (0 : Int32))]))
    refine W_iloadN B (hb hby at_64) (pc' := 65) rfl rfl ?_
    refine W_callS B (y := (⟨"com/example/bucketry/bucketry/table/TableIsZeroPinLaw", "zero", "(I)Z"⟩ : MethodName)) hown (ow hw (i := 29) rfl) (ow hw (i := 30) rfl) (ow hw (i := 3) rfl) (ow hw (i := 31) rfl) (by decide) (rm5 l Z a0 hw h0 a1 [(b223, oA .int [(.int (4 : Int32))]), (b222, oA .int [o0]), (b221, oO cn0 [(fk0, (.ref b222)), (fk1, (.ref b223)), (fk2, (.ref b6))]), (b6, oA .double [(.double w7), (.double w127), (.double w187), (.double (18442240474082181120 : UInt64))])]) (lenOf pd_2 rfl) (hb hby at_65) (pc' := 68) rfl (argsL := [(.int a1)]) (rest := [(.int (0 : Int32))]) rfl (by rw [hml]; rfl) (W := 1) (oLe rfl) (by decide) (cells' := 4) rfl (slots' := 9) rfl ?_
    intro T v_ d_ q_ B
    rcases q_ with ⟨q224, rfl, rfl⟩ | ⟨q225, rfl, rfl⟩
    · show oWin p e below Z h0 _ _ (T.setTop (mkF m 68 #[.val (.int a1), .val (.int a2), .val (.int a3), .val (.int a4), .val (.ref b6), .val (.ref b221)] [(.int (1 : Int32)), (.int (0 : Int32))]))
      exact absurd q224 q9
    show oWin p e below Z h0 _ _ (T.setTop (mkF m 68 #[.val (.int a1), .val (.int a2), .val (.int a3), .val (.int a4), .val (.ref b6), .val (.ref b221)] [(.int (0 : Int32)), (.int (0 : Int32))]))
    refine W_icmpN B (hb hby at_68) (pc' := 71) rfl (by decide) ?_
    refine W_aload B (hb hby at_71) (pc' := 73) rfl rfl rfl ?_
    refine W_iconst B (hb hby at_73) (pc' := 74) rfl (z := (1 : Int32)) (by decide) ?_
    refine W_virtual B (y := (⟨"com/example/bucketry/bucketry/table/Table", "isZero", "(I)Z"⟩ : MethodName)) (z := (⟨"com/example/bucketry/bucketry/table/Table", "isZero", "(I)Z"⟩ : MethodName)) hown (ow hw (i := 23) rfl) (ow hw (i := 24) rfl) (oNotFace B (ow hw (i := 26) rfl) rfl) (ow hw (i := 26) rfl) (ow hw (i := 25) rfl) (ow hw (i := 9) rfl) (ow hw (i := 27) rfl) (by decide) (a := b221) (rm4_fin l Z a0 hw h0 b221 (1 : Int32) b222 b223 b6 [(.double w7), (.double w127), (.double w187), (.double (18442240474082181120 : UInt64))] w127 (b223, oA .int [(.int (4 : Int32))]) (b222, oA .int [o0]) [] (by decide) rfl q130) (lenOf pd_2 rfl) (hb hby at_74) (pc' := 77) rfl (argsL := [(.int (1 : Int32))]) (rest := []) rfl (by rw [hml]; rfl) (W := 0) (oLe rfl) (j := 2) rfl (by decide) (cells' := 4) rfl (slots' := 9) rfl ?_
    intro T v_ d_ q_ B
    obtain ⟨rfl, rfl⟩ := q_
    show oWin p e below Z h0 _ _ (T.setTop (mkF m 77 #[.val (.int a1), .val (.int a2), .val (.int a3), .val (.int a4), .val (.ref b6), .val (.ref b221)] [(.int (0 : Int32))]))
    refine W_iloadN B (hb hby at_77) (pc' := 78) rfl rfl ?_
    refine W_callS B (y := (⟨"com/example/bucketry/bucketry/table/TableIsZeroPinLaw", "zero", "(I)Z"⟩ : MethodName)) hown (ow hw (i := 29) rfl) (ow hw (i := 30) rfl) (ow hw (i := 3) rfl) (ow hw (i := 31) rfl) (by decide) (rm5 l Z a0 hw h0 a2 [(b223, oA .int [(.int (4 : Int32))]), (b222, oA .int [o0]), (b221, oO cn0 [(fk0, (.ref b222)), (fk1, (.ref b223)), (fk2, (.ref b6))]), (b6, oA .double [(.double w7), (.double w127), (.double w187), (.double (18442240474082181120 : UInt64))])]) (lenOf pd_2 rfl) (hb hby at_78) (pc' := 81) rfl (argsL := [(.int a2)]) (rest := [(.int (0 : Int32))]) rfl (by rw [hml]; rfl) (W := 1) (oLe rfl) (by decide) (cells' := 4) rfl (slots' := 9) rfl ?_
    intro T v_ d_ q_ B
    rcases q_ with ⟨q226, rfl, rfl⟩ | ⟨q227, rfl, rfl⟩
    · show oWin p e below Z h0 _ _ (T.setTop (mkF m 81 #[.val (.int a1), .val (.int a2), .val (.int a3), .val (.int a4), .val (.ref b6), .val (.ref b221)] [(.int (1 : Int32)), (.int (0 : Int32))]))
      exact absurd q226 q129
    show oWin p e below Z h0 _ _ (T.setTop (mkF m 81 #[.val (.int a1), .val (.int a2), .val (.int a3), .val (.int a4), .val (.ref b6), .val (.ref b221)] [(.int (0 : Int32)), (.int (0 : Int32))]))
    refine W_icmpN B (hb hby at_81) (pc' := 84) rfl (by decide) ?_
    refine W_aload B (hb hby at_84) (pc' := 86) rfl rfl rfl ?_
    refine W_iconst B (hb hby at_86) (pc' := 87) rfl (z := (2 : Int32)) (by decide) ?_
    refine W_virtual B (y := (⟨"com/example/bucketry/bucketry/table/Table", "isZero", "(I)Z"⟩ : MethodName)) (z := (⟨"com/example/bucketry/bucketry/table/Table", "isZero", "(I)Z"⟩ : MethodName)) hown (ow hw (i := 23) rfl) (ow hw (i := 24) rfl) (oNotFace B (ow hw (i := 26) rfl) rfl) (ow hw (i := 26) rfl) (ow hw (i := 25) rfl) (ow hw (i := 9) rfl) (ow hw (i := 27) rfl) (by decide) (a := b221) (rm4_fin l Z a0 hw h0 b221 (2 : Int32) b222 b223 b6 [(.double w7), (.double w127), (.double w187), (.double (18442240474082181120 : UInt64))] w187 (b223, oA .int [(.int (4 : Int32))]) (b222, oA .int [o0]) [] (by decide) rfl q190) (lenOf pd_2 rfl) (hb hby at_87) (pc' := 90) rfl (argsL := [(.int (2 : Int32))]) (rest := []) rfl (by rw [hml]; rfl) (W := 0) (oLe rfl) (j := 2) rfl (by decide) (cells' := 4) rfl (slots' := 9) rfl ?_
    intro T v_ d_ q_ B
    obtain ⟨rfl, rfl⟩ := q_
    show oWin p e below Z h0 _ _ (T.setTop (mkF m 90 #[.val (.int a1), .val (.int a2), .val (.int a3), .val (.int a4), .val (.ref b6), .val (.ref b221)] [(.int (0 : Int32))]))
    refine W_iloadN B (hb hby at_90) (pc' := 91) rfl rfl ?_
    refine W_callS B (y := (⟨"com/example/bucketry/bucketry/table/TableIsZeroPinLaw", "zero", "(I)Z"⟩ : MethodName)) hown (ow hw (i := 29) rfl) (ow hw (i := 30) rfl) (ow hw (i := 3) rfl) (ow hw (i := 31) rfl) (by decide) (rm5 l Z a0 hw h0 a3 [(b223, oA .int [(.int (4 : Int32))]), (b222, oA .int [o0]), (b221, oO cn0 [(fk0, (.ref b222)), (fk1, (.ref b223)), (fk2, (.ref b6))]), (b6, oA .double [(.double w7), (.double w127), (.double w187), (.double (18442240474082181120 : UInt64))])]) (lenOf pd_2 rfl) (hb hby at_91) (pc' := 94) rfl (argsL := [(.int a3)]) (rest := [(.int (0 : Int32))]) rfl (by rw [hml]; rfl) (W := 1) (oLe rfl) (by decide) (cells' := 4) rfl (slots' := 9) rfl ?_
    intro T v_ d_ q_ B
    rcases q_ with ⟨q228, rfl, rfl⟩ | ⟨q229, rfl, rfl⟩
    · show oWin p e below Z h0 _ _ (T.setTop (mkF m 94 #[.val (.int a1), .val (.int a2), .val (.int a3), .val (.int a4), .val (.ref b6), .val (.ref b221)] [(.int (1 : Int32)), (.int (0 : Int32))]))
      exact absurd q228 q189
    show oWin p e below Z h0 _ _ (T.setTop (mkF m 94 #[.val (.int a1), .val (.int a2), .val (.int a3), .val (.int a4), .val (.ref b6), .val (.ref b221)] [(.int (0 : Int32)), (.int (0 : Int32))]))
    refine W_icmpN B (hb hby at_94) (pc' := 97) rfl (by decide) ?_
    refine W_aload B (hb hby at_97) (pc' := 99) rfl rfl rfl ?_
    refine W_iconst B (hb hby at_99) (pc' := 100) rfl (z := (3 : Int32)) (by decide) ?_
    refine W_virtual B (y := (⟨"com/example/bucketry/bucketry/table/Table", "isZero", "(I)Z"⟩ : MethodName)) (z := (⟨"com/example/bucketry/bucketry/table/Table", "isZero", "(I)Z"⟩ : MethodName)) hown (ow hw (i := 23) rfl) (ow hw (i := 24) rfl) (oNotFace B (ow hw (i := 26) rfl) rfl) (ow hw (i := 26) rfl) (ow hw (i := 25) rfl) (ow hw (i := 9) rfl) (ow hw (i := 27) rfl) (by decide) (a := b221) (rm4_inf l Z a0 hw h0 b221 (3 : Int32) b222 b223 b6 [(.double w7), (.double w127), (.double w187), (.double (18442240474082181120 : UInt64))] (b223, oA .int [(.int (4 : Int32))]) (b222, oA .int [o0]) [] (by decide) rfl) (lenOf pd_2 rfl) (hb hby at_100) (pc' := 103) rfl (argsL := [(.int (3 : Int32))]) (rest := []) rfl (by rw [hml]; rfl) (W := 0) (oLe rfl) (j := 2) rfl (by decide) (cells' := 4) rfl (slots' := 9) rfl ?_
    intro T v_ d_ q_ B
    obtain ⟨rfl, rfl⟩ := q_
    show oWin p e below Z h0 _ _ (T.setTop (mkF m 103 #[.val (.int a1), .val (.int a2), .val (.int a3), .val (.int a4), .val (.ref b6), .val (.ref b221)] [(.int (1 : Int32))]))
    refine W_iloadN B (hb hby at_103) (pc' := 104) rfl rfl ?_
    refine W_callS B (y := (⟨"com/example/bucketry/bucketry/table/TableIsZeroPinLaw", "zero", "(I)Z"⟩ : MethodName)) hown (ow hw (i := 29) rfl) (ow hw (i := 30) rfl) (ow hw (i := 3) rfl) (ow hw (i := 31) rfl) (by decide) (rm5 l Z a0 hw h0 a4 [(b223, oA .int [(.int (4 : Int32))]), (b222, oA .int [o0]), (b221, oO cn0 [(fk0, (.ref b222)), (fk1, (.ref b223)), (fk2, (.ref b6))]), (b6, oA .double [(.double w7), (.double w127), (.double w187), (.double (18442240474082181120 : UInt64))])]) (lenOf pd_2 rfl) (hb hby at_104) (pc' := 107) rfl (argsL := [(.int a4)]) (rest := [(.int (1 : Int32))]) rfl (by rw [hml]; rfl) (W := 1) (oLe rfl) (by decide) (cells' := 4) rfl (slots' := 9) rfl ?_
    intro T v_ d_ q_ B
    rcases q_ with ⟨q230, rfl, rfl⟩ | ⟨q231, rfl, rfl⟩
    · show oWin p e below Z h0 _ _ (T.setTop (mkF m 107 #[.val (.int a1), .val (.int a2), .val (.int a3), .val (.int a4), .val (.ref b6), .val (.ref b221)] [(.int (1 : Int32)), (.int (1 : Int32))]))
      refine W_icmpN B (hb hby at_107) (pc' := 110) rfl (by decide) ?_
      refine W_iconst B (hb hby at_110) (pc' := 111) rfl (z := (1 : Int32)) (by decide) ?_
      refine W_goto B (hb hby at_111) (by decide) (pc' := 115) (by decide) ?_
      refine W_retN B hret (by simp) (hb hby at_115) (by decide) ?_
      rfl
    show oWin p e below Z h0 _ _ (T.setTop (mkF m 107 #[.val (.int a1), .val (.int a2), .val (.int a3), .val (.int a4), .val (.ref b6), .val (.ref b221)] [(.int (0 : Int32)), (.int (1 : Int32))]))
    exact absurd q218 q231
  show oWin p e below Z h0 _ _ (T.setTop (mkF m 30 #[.val (.int a1), .val (.int a2), .val (.int a3), .val (.int a4), .unset, .unset] [(.double w217), (.int (3 : Int32)), (.ref b6), (.ref b6)]))
  refine W_dastore B (hb hby at_30) (pc' := 31) rfl (i := 0) rfl (by decide) (oLt rfl) (ds' := [(b6, oA .double [(.double w7), (.double w127), (.double w187), (.double w217)])]) rfl ?_
  intro T B
  refine W_astore B (hb hby at_31) (pc' := 33) rfl rfl (ls' := #[.val (.int a1), .val (.int a2), .val (.int a3), .val (.int a4), .val (.ref b6), .unset]) rfl ?_
  refine W_new B hown (ow hw (i := 7) rfl) (ow hw (i := 8) rfl) (ow hw (i := 9) rfl) (hb hby at_33) (pc' := 36) rfl (by decide) (cells' := 2) rfl (slots' := 7) rfl (fs := [(fk0, .null), (fk1, .null), (fk2, .null)]) (oAll_cons ⟨Or.inr (ow hw (i := 18) rfl), (.array .int), by decide, rfl⟩ (oAll_cons ⟨Or.inr (ow hw (i := 20) rfl), (.array .int), by decide, rfl⟩ (oAll_cons ⟨Or.inr (ow hw (i := 22) rfl), (.array .double), by decide, rfl⟩ oAll_nil))) (by decide) ?_
  intro T b232 B
  refine W_dup B (hb hby at_36) (pc' := 37) rfl rfl ?_
  refine W_iconst B (hb hby at_37) (pc' := 38) rfl (z := (1 : Int32)) (by decide) ?_
  refine W_newarray B (ow hw (i := 10) rfl) (hb hby at_38) (pc' := 40) rfl (by decide) (cap := 1) (by decide) (by decide) (cells' := 3) rfl (slots' := 8) rfl (vs := [(.int (0 : Int32))]) rfl (ty := .int) rfl ?_
  intro T b233 B
  refine W_dup B (hb hby at_40) (pc' := 41) rfl rfl ?_
  refine W_iconst B (hb hby at_41) (pc' := 42) rfl (z := (0 : Int32)) (by decide) ?_
  refine W_iconst B (hb hby at_42) (pc' := 43) rfl (z := (0 : Int32)) (by decide) ?_
  refine W_iastore B (hb hby at_43) (pc' := 44) rfl (i := 0) rfl (by decide) (oLt rfl) (ds' := [(b233, oA .int [o0]), (b232, oO cn0 [(fk0, .null), (fk1, .null), (fk2, .null)]), (b6, oA .double [(.double w7), (.double w127), (.double w187), (.double w217)])]) rfl ?_
  intro T B
  refine W_iconst B (hb hby at_44) (pc' := 45) rfl (z := (1 : Int32)) (by decide) ?_
  refine W_newarray B (ow hw (i := 10) rfl) (hb hby at_45) (pc' := 47) rfl (by decide) (cap := 1) (by decide) (by decide) (cells' := 4) rfl (slots' := 9) rfl (vs := [(.int (0 : Int32))]) rfl (ty := .int) rfl ?_
  intro T b234 B
  refine W_dup B (hb hby at_47) (pc' := 48) rfl rfl ?_
  refine W_iconst B (hb hby at_48) (pc' := 49) rfl (z := (0 : Int32)) (by decide) ?_
  refine W_iconst B (hb hby at_49) (pc' := 50) rfl (z := (4 : Int32)) (by decide) ?_
  refine W_iastore B (hb hby at_50) (pc' := 51) rfl (i := 0) rfl (by decide) (oLt rfl) (ds' := [(b234, oA .int [(.int (4 : Int32))]), (b233, oA .int [o0]), (b232, oO cn0 [(fk0, .null), (fk1, .null), (fk2, .null)]), (b6, oA .double [(.double w7), (.double w127), (.double w187), (.double w217)])]) rfl ?_
  intro T B
  refine W_aload B (hb hby at_51) (pc' := 53) rfl rfl rfl ?_
  refine W_init B (y := (⟨"com/example/bucketry/bucketry/table/Table", "<init>", "([I[I[D)V"⟩ : MethodName)) hown rfl (ow hw (i := 11) rfl) (ow hw (i := 12) rfl) (ow hw (i := 9) rfl) (ow hw (i := 13) rfl) (by decide) (a := b232) (rm2 l Z a0 hw h0 b232 b233 b234 b6 (b234, oA .int [(.int (4 : Int32))]) (b233, oA .int [o0]) [(b6, oA .double [(.double w7), (.double w127), (.double w187), (.double w217)])]) (lenOf pd_1 rfl) (hb hby at_53) (pc' := 56) rfl (argsL := [(.ref b233), (.ref b234), (.ref b6)]) (rest := [(.ref b232)]) rfl (by rw [hml]; rfl) (W := 1) (oLe rfl) (by decide) (cells' := 4) rfl (slots' := 9) rfl ?_
  intro T v_ d_ q_ B
  obtain ⟨rfl, rfl⟩ := q_
  show oWin p e below Z h0 _ _ (T.setTop (mkF m 56 #[.val (.int a1), .val (.int a2), .val (.int a3), .val (.int a4), .val (.ref b6), .unset] [(.ref b232)]))
  refine W_astore B (hb hby at_56) (pc' := 58) rfl rfl (ls' := #[.val (.int a1), .val (.int a2), .val (.int a3), .val (.int a4), .val (.ref b6), .val (.ref b232)]) rfl ?_
  refine W_aload B (hb hby at_58) (pc' := 60) rfl rfl rfl ?_
  refine W_iconst B (hb hby at_60) (pc' := 61) rfl (z := (0 : Int32)) (by decide) ?_
  refine W_virtual B (y := (⟨"com/example/bucketry/bucketry/table/Table", "isZero", "(I)Z"⟩ : MethodName)) (z := (⟨"com/example/bucketry/bucketry/table/Table", "isZero", "(I)Z"⟩ : MethodName)) hown (ow hw (i := 23) rfl) (ow hw (i := 24) rfl) (oNotFace B (ow hw (i := 26) rfl) rfl) (ow hw (i := 26) rfl) (ow hw (i := 25) rfl) (ow hw (i := 9) rfl) (ow hw (i := 27) rfl) (by decide) (a := b232) (rm4_fin l Z a0 hw h0 b232 (0 : Int32) b233 b234 b6 [(.double w7), (.double w127), (.double w187), (.double w217)] w7 (b234, oA .int [(.int (4 : Int32))]) (b233, oA .int [o0]) [] (by decide) rfl q10) (lenOf pd_2 rfl) (hb hby at_61) (pc' := 64) rfl (argsL := [(.int (0 : Int32))]) (rest := []) rfl (by rw [hml]; rfl) (W := 0) (oLe rfl) (j := 2) rfl (by decide) (cells' := 4) rfl (slots' := 9) rfl ?_
  intro T v_ d_ q_ B
  obtain ⟨rfl, rfl⟩ := q_
  show oWin p e below Z h0 _ _ (T.setTop (mkF m 64 #[.val (.int a1), .val (.int a2), .val (.int a3), .val (.int a4), .val (.ref b6), .val (.ref b232)] [(.int (0 : Int32))]))
  refine W_iloadN B (hb hby at_64) (pc' := 65) rfl rfl ?_
  refine W_callS B (y := (⟨"com/example/bucketry/bucketry/table/TableIsZeroPinLaw", "zero", "(I)Z"⟩ : MethodName)) hown (ow hw (i := 29) rfl) (ow hw (i := 30) rfl) (ow hw (i := 3) rfl) (ow hw (i := 31) rfl) (by decide) (rm5 l Z a0 hw h0 a1 [(b234, oA .int [(.int (4 : Int32))]), (b233, oA .int [o0]), (b232, oO cn0 [(fk0, (.ref b233)), (fk1, (.ref b234)), (fk2, (.ref b6))]), (b6, oA .double [(.double w7), (.double w127), (.double w187), (.double w217)])]) (lenOf pd_2 rfl) (hb hby at_65) (pc' := 68) rfl (argsL := [(.int a1)]) (rest := [(.int (0 : Int32))]) rfl (by rw [hml]; rfl) (W := 1) (oLe rfl) (by decide) (cells' := 4) rfl (slots' := 9) rfl ?_
  intro T v_ d_ q_ B
  rcases q_ with ⟨q235, rfl, rfl⟩ | ⟨q236, rfl, rfl⟩
  · show oWin p e below Z h0 _ _ (T.setTop (mkF m 68 #[.val (.int a1), .val (.int a2), .val (.int a3), .val (.int a4), .val (.ref b6), .val (.ref b232)] [(.int (1 : Int32)), (.int (0 : Int32))]))
    exact absurd q235 q9
  show oWin p e below Z h0 _ _ (T.setTop (mkF m 68 #[.val (.int a1), .val (.int a2), .val (.int a3), .val (.int a4), .val (.ref b6), .val (.ref b232)] [(.int (0 : Int32)), (.int (0 : Int32))]))
  refine W_icmpN B (hb hby at_68) (pc' := 71) rfl (by decide) ?_
  refine W_aload B (hb hby at_71) (pc' := 73) rfl rfl rfl ?_
  refine W_iconst B (hb hby at_73) (pc' := 74) rfl (z := (1 : Int32)) (by decide) ?_
  refine W_virtual B (y := (⟨"com/example/bucketry/bucketry/table/Table", "isZero", "(I)Z"⟩ : MethodName)) (z := (⟨"com/example/bucketry/bucketry/table/Table", "isZero", "(I)Z"⟩ : MethodName)) hown (ow hw (i := 23) rfl) (ow hw (i := 24) rfl) (oNotFace B (ow hw (i := 26) rfl) rfl) (ow hw (i := 26) rfl) (ow hw (i := 25) rfl) (ow hw (i := 9) rfl) (ow hw (i := 27) rfl) (by decide) (a := b232) (rm4_fin l Z a0 hw h0 b232 (1 : Int32) b233 b234 b6 [(.double w7), (.double w127), (.double w187), (.double w217)] w127 (b234, oA .int [(.int (4 : Int32))]) (b233, oA .int [o0]) [] (by decide) rfl q130) (lenOf pd_2 rfl) (hb hby at_74) (pc' := 77) rfl (argsL := [(.int (1 : Int32))]) (rest := []) rfl (by rw [hml]; rfl) (W := 0) (oLe rfl) (j := 2) rfl (by decide) (cells' := 4) rfl (slots' := 9) rfl ?_
  intro T v_ d_ q_ B
  obtain ⟨rfl, rfl⟩ := q_
  show oWin p e below Z h0 _ _ (T.setTop (mkF m 77 #[.val (.int a1), .val (.int a2), .val (.int a3), .val (.int a4), .val (.ref b6), .val (.ref b232)] [(.int (0 : Int32))]))
  refine W_iloadN B (hb hby at_77) (pc' := 78) rfl rfl ?_
  refine W_callS B (y := (⟨"com/example/bucketry/bucketry/table/TableIsZeroPinLaw", "zero", "(I)Z"⟩ : MethodName)) hown (ow hw (i := 29) rfl) (ow hw (i := 30) rfl) (ow hw (i := 3) rfl) (ow hw (i := 31) rfl) (by decide) (rm5 l Z a0 hw h0 a2 [(b234, oA .int [(.int (4 : Int32))]), (b233, oA .int [o0]), (b232, oO cn0 [(fk0, (.ref b233)), (fk1, (.ref b234)), (fk2, (.ref b6))]), (b6, oA .double [(.double w7), (.double w127), (.double w187), (.double w217)])]) (lenOf pd_2 rfl) (hb hby at_78) (pc' := 81) rfl (argsL := [(.int a2)]) (rest := [(.int (0 : Int32))]) rfl (by rw [hml]; rfl) (W := 1) (oLe rfl) (by decide) (cells' := 4) rfl (slots' := 9) rfl ?_
  intro T v_ d_ q_ B
  rcases q_ with ⟨q237, rfl, rfl⟩ | ⟨q238, rfl, rfl⟩
  · show oWin p e below Z h0 _ _ (T.setTop (mkF m 81 #[.val (.int a1), .val (.int a2), .val (.int a3), .val (.int a4), .val (.ref b6), .val (.ref b232)] [(.int (1 : Int32)), (.int (0 : Int32))]))
    exact absurd q237 q129
  show oWin p e below Z h0 _ _ (T.setTop (mkF m 81 #[.val (.int a1), .val (.int a2), .val (.int a3), .val (.int a4), .val (.ref b6), .val (.ref b232)] [(.int (0 : Int32)), (.int (0 : Int32))]))
  refine W_icmpN B (hb hby at_81) (pc' := 84) rfl (by decide) ?_
  refine W_aload B (hb hby at_84) (pc' := 86) rfl rfl rfl ?_
  refine W_iconst B (hb hby at_86) (pc' := 87) rfl (z := (2 : Int32)) (by decide) ?_
  refine W_virtual B (y := (⟨"com/example/bucketry/bucketry/table/Table", "isZero", "(I)Z"⟩ : MethodName)) (z := (⟨"com/example/bucketry/bucketry/table/Table", "isZero", "(I)Z"⟩ : MethodName)) hown (ow hw (i := 23) rfl) (ow hw (i := 24) rfl) (oNotFace B (ow hw (i := 26) rfl) rfl) (ow hw (i := 26) rfl) (ow hw (i := 25) rfl) (ow hw (i := 9) rfl) (ow hw (i := 27) rfl) (by decide) (a := b232) (rm4_fin l Z a0 hw h0 b232 (2 : Int32) b233 b234 b6 [(.double w7), (.double w127), (.double w187), (.double w217)] w187 (b234, oA .int [(.int (4 : Int32))]) (b233, oA .int [o0]) [] (by decide) rfl q190) (lenOf pd_2 rfl) (hb hby at_87) (pc' := 90) rfl (argsL := [(.int (2 : Int32))]) (rest := []) rfl (by rw [hml]; rfl) (W := 0) (oLe rfl) (j := 2) rfl (by decide) (cells' := 4) rfl (slots' := 9) rfl ?_
  intro T v_ d_ q_ B
  obtain ⟨rfl, rfl⟩ := q_
  show oWin p e below Z h0 _ _ (T.setTop (mkF m 90 #[.val (.int a1), .val (.int a2), .val (.int a3), .val (.int a4), .val (.ref b6), .val (.ref b232)] [(.int (0 : Int32))]))
  refine W_iloadN B (hb hby at_90) (pc' := 91) rfl rfl ?_
  refine W_callS B (y := (⟨"com/example/bucketry/bucketry/table/TableIsZeroPinLaw", "zero", "(I)Z"⟩ : MethodName)) hown (ow hw (i := 29) rfl) (ow hw (i := 30) rfl) (ow hw (i := 3) rfl) (ow hw (i := 31) rfl) (by decide) (rm5 l Z a0 hw h0 a3 [(b234, oA .int [(.int (4 : Int32))]), (b233, oA .int [o0]), (b232, oO cn0 [(fk0, (.ref b233)), (fk1, (.ref b234)), (fk2, (.ref b6))]), (b6, oA .double [(.double w7), (.double w127), (.double w187), (.double w217)])]) (lenOf pd_2 rfl) (hb hby at_91) (pc' := 94) rfl (argsL := [(.int a3)]) (rest := [(.int (0 : Int32))]) rfl (by rw [hml]; rfl) (W := 1) (oLe rfl) (by decide) (cells' := 4) rfl (slots' := 9) rfl ?_
  intro T v_ d_ q_ B
  rcases q_ with ⟨q239, rfl, rfl⟩ | ⟨q240, rfl, rfl⟩
  · show oWin p e below Z h0 _ _ (T.setTop (mkF m 94 #[.val (.int a1), .val (.int a2), .val (.int a3), .val (.int a4), .val (.ref b6), .val (.ref b232)] [(.int (1 : Int32)), (.int (0 : Int32))]))
    exact absurd q239 q189
  show oWin p e below Z h0 _ _ (T.setTop (mkF m 94 #[.val (.int a1), .val (.int a2), .val (.int a3), .val (.int a4), .val (.ref b6), .val (.ref b232)] [(.int (0 : Int32)), (.int (0 : Int32))]))
  refine W_icmpN B (hb hby at_94) (pc' := 97) rfl (by decide) ?_
  refine W_aload B (hb hby at_97) (pc' := 99) rfl rfl rfl ?_
  refine W_iconst B (hb hby at_99) (pc' := 100) rfl (z := (3 : Int32)) (by decide) ?_
  refine W_virtual B (y := (⟨"com/example/bucketry/bucketry/table/Table", "isZero", "(I)Z"⟩ : MethodName)) (z := (⟨"com/example/bucketry/bucketry/table/Table", "isZero", "(I)Z"⟩ : MethodName)) hown (ow hw (i := 23) rfl) (ow hw (i := 24) rfl) (oNotFace B (ow hw (i := 26) rfl) rfl) (ow hw (i := 26) rfl) (ow hw (i := 25) rfl) (ow hw (i := 9) rfl) (ow hw (i := 27) rfl) (by decide) (a := b232) (rm4_fin l Z a0 hw h0 b232 (3 : Int32) b233 b234 b6 [(.double w7), (.double w127), (.double w187), (.double w217)] w217 (b234, oA .int [(.int (4 : Int32))]) (b233, oA .int [o0]) [] (by decide) rfl q220) (lenOf pd_2 rfl) (hb hby at_100) (pc' := 103) rfl (argsL := [(.int (3 : Int32))]) (rest := []) rfl (by rw [hml]; rfl) (W := 0) (oLe rfl) (j := 2) rfl (by decide) (cells' := 4) rfl (slots' := 9) rfl ?_
  intro T v_ d_ q_ B
  obtain ⟨rfl, rfl⟩ := q_
  show oWin p e below Z h0 _ _ (T.setTop (mkF m 103 #[.val (.int a1), .val (.int a2), .val (.int a3), .val (.int a4), .val (.ref b6), .val (.ref b232)] [(.int (0 : Int32))]))
  refine W_iloadN B (hb hby at_103) (pc' := 104) rfl rfl ?_
  refine W_callS B (y := (⟨"com/example/bucketry/bucketry/table/TableIsZeroPinLaw", "zero", "(I)Z"⟩ : MethodName)) hown (ow hw (i := 29) rfl) (ow hw (i := 30) rfl) (ow hw (i := 3) rfl) (ow hw (i := 31) rfl) (by decide) (rm5 l Z a0 hw h0 a4 [(b234, oA .int [(.int (4 : Int32))]), (b233, oA .int [o0]), (b232, oO cn0 [(fk0, (.ref b233)), (fk1, (.ref b234)), (fk2, (.ref b6))]), (b6, oA .double [(.double w7), (.double w127), (.double w187), (.double w217)])]) (lenOf pd_2 rfl) (hb hby at_104) (pc' := 107) rfl (argsL := [(.int a4)]) (rest := [(.int (0 : Int32))]) rfl (by rw [hml]; rfl) (W := 1) (oLe rfl) (by decide) (cells' := 4) rfl (slots' := 9) rfl ?_
  intro T v_ d_ q_ B
  rcases q_ with ⟨q241, rfl, rfl⟩ | ⟨q242, rfl, rfl⟩
  · show oWin p e below Z h0 _ _ (T.setTop (mkF m 107 #[.val (.int a1), .val (.int a2), .val (.int a3), .val (.int a4), .val (.ref b6), .val (.ref b232)] [(.int (1 : Int32)), (.int (0 : Int32))]))
    exact absurd q241 q219
  show oWin p e below Z h0 _ _ (T.setTop (mkF m 107 #[.val (.int a1), .val (.int a2), .val (.int a3), .val (.int a4), .val (.ref b6), .val (.ref b232)] [(.int (0 : Int32)), (.int (0 : Int32))]))
  refine W_icmpN B (hb hby at_107) (pc' := 110) rfl (by decide) ?_
  refine W_iconst B (hb hby at_110) (pc' := 111) rfl (z := (1 : Int32)) (by decide) ?_
  refine W_goto B (hb hby at_111) (by decide) (pc' := 115) (by decide) ?_
  refine W_retN B hret (by simp) (hb hby at_115) (by decide) ?_
  rfl
set_option maxRecDepth 65536 in
set_option maxHeartbeats 40000000 in
theorem comes_1 {Post : Tables → Env → Array Value → State → Outcome → State → Prop} (hpost : ∀ tb e args s v u, (limb_1_1.after args s (.returned v) u = true ∧ limb_1_2.after args s (.returned v) u = true ∧ True) → FrameEnd s (.returned v) u (Jvm.fieldLocs frame_1_writes args s ++ Jvm.arrayLocs frame_1_arrays args s ++ Jvm.staticLocs frame_1_statics s) 16 128 → Post tb e args s (.returned v) u) :
    ArmFor flags0 classFile x code maxLocals ret World_1 tables_1 room_1 Calls_1 rest_1 Pre_1 Post := by
  intro l hfl _ _ p e ha hc hk s m args below hf hA hF happ hP
  obtain ⟨hcalls, hrest, hpre⟩ := hP
  obtain ⟨-, -, -, hnamed, -, -, -, hat⟩ := (Spec.applies_iff hf).mp happ
  obtain ⟨hg, hn⟩ := and_e (Cond.before_iff.mp (show (Jvm.Cond.and given_1 narrow_1).before args s = true from hpre))
  obtain ⟨g1, g2⟩ := and_e hg
  obtain ⟨g3, g4⟩ := and_e g2
  obtain ⟨g5, g6⟩ := and_e g4
  obtain ⟨g7, g8⟩ := and_e g6
  obtain ⟨w0, w1, w2, w3, rfl⟩ : ∃ w0 w1 w2 w3 : Value, args = #[w0, w1, w2, w3] := by
    have hs : args.size = 4 := by simpa [Cond.value, given_1] using g1
    obtain ⟨L⟩ := args
    match L, hs with
    | [w0, w1, w2, w3], _ => exact ⟨w0, w1, w2, w3, rfl⟩
  have hw := fun d (hd : d ∈ tables_1) => atoms_spec (ws := Jvm.Cond.code x code maxLocals ret :: tables_1) hat d (List.mem_cons_of_mem _ hd)
  have hfit : Fit s := fun {y c} hc i hi => by
    obtain ⟨ha, rfl⟩ := Array.getElem?_eq_some_iff.mp hc
    have q := List.all_eq_true.mp ((Array.all_eq_true_iff_forall_mem.mp hF) _ (Array.getElem_mem ha)) i (List.mem_range.mpr hi)
    simpa [Array.getElem?_eq_getElem hi] using q
  obtain ⟨i0, ei0⟩ := is_v g3
  obtain rfl : w0 = (.int i0) := Option.some.inj ei0
  obtain ⟨i1, ei1⟩ := is_v g5
  obtain rfl : w1 = (.int i1) := Option.some.inj ei1
  obtain ⟨i2, ei2⟩ := is_v g7
  obtain rfl : w2 = (.int i2) := Option.some.inj ei2
  obtain ⟨i3, ei3⟩ := is_v g8
  obtain rfl : w3 = (.int i3) := Option.some.inj ei3
  obtain ⟨n, o, h1, h2, h3, _, L, rfl, ⟨N, ds', -, rfl⟩, hq⟩ := rm0 l s _ hw s.heap i0 i1 i2 i3  s.heap (oHP.nil s s.heap) p e ha hc hk s m _ below hf ((Spec.applies_iff_loose hf).mp happ).1 ⟨rfl, State.Warmed39.refl s, rfl⟩ trivial
  refine ⟨n, _, h1, h2, h3, hpost _ _ _ _ _ _ ⟨Cond.after_iff.mpr rfl, Cond.after_iff.mpr (eq_i res_at (Term.int_eval (1)) rfl), trivial⟩ ⟨hq.1, hq.2.1, (hq.2.2.sift fun y hy => Or.inr (N y hy)).mono (by decide) (by decide)⟩⟩
theorem main_1_1 : Claimed_1_1 := comes_1 fun _ _ _ _ _ _ h hF => ⟨h.1, hF⟩
theorem main_1_2 : Claimed_1_2 := comes_1 fun _ _ _ _ _ _ h hF => ⟨h.2.1, hF⟩
end Jvm.Pilot.@@N@@
namespace Jvm.Pilot.@@N@@
open Jvm Jvm.ClassFile Sem Op Lib Jvm.Free Jvm.Stand Jvm.Pilot.@@N@@.Jvm.D
/-! MADE BY PROGRAM (witnessworld.py) out of the Statement's table words and the real class files: 11 classes; the members and pool entries that the words name. The judged class is class 1, her method 1. -/
namespace start1
open Jvm.ClassFile
def u (s : String) : CpInfo := .utf8 (stringToUtf16 s)
/-- a pool by its gaps: so many unusable entries, then the entry; so many at the end -/
def gap : Nat → List CpInfo → List CpInfo
  | 0, r => r
  | n + 1, r => .unusable :: gap n r
def poolList (es : List (Nat × CpInfo)) (last : Nat) : List CpInfo := es.foldr (fun e r => gap e.1 (e.2 :: r)) (gap last [])
def pool (es : List (Nat × CpInfo)) (last : Nat) : Array CpInfo := ⟨poolList es last⟩
def fileOf (pool : Array CpInfo) (this : Nat) (attrs : Array Attribute := #[]) (ms : Array MethodInfo := #[]) (fl : Nat := 33) (sup : Nat := 0) (ifs : Array Nat := #[]) (fds : Array FieldInfo := #[]) : ClassFile where
  minorVersion := 0
  majorVersion := 65
  constantPool := pool
  accessFlags := fl
  thisClass := this
  superClass := sup
  interfaces := ifs
  fields := fds
  methods := ms
  attributes := attrs
def plain (name : String) (sup : Option ClassId) : Class where
  name := name
  kind := .ordinary
  loader := none
  accessFlags := 33
  super := sup
  interfaces := #[]
  cf := none
  fields := #[]
  methods := #[]
  instanceTypes := #[]
  staticTypes := #[]
  resolved := #[]
  callSites := []
  init := .initialized
  statics := none
  mirror := none

def pool0 : Array CpInfo := pool [(5, u "<init>"), (0, u "()V"), (1, .class_ 10), (1, u "java/lang/Object")] 113

def k0c0 : Code := { maxStack := 0, maxLocals := 1, code := object_method_1_code, exceptionTable := #[], attributes := #[] }
def k0m0 : Method := { name := "<init>", desc := "()V", sig := { parameters := [], returnType := none }, accessFlags := 1, code := some k0c0 }
/-- java/lang/Object -/
def k0 : Class := { plain "java/lang/Object" none with
  accessFlags := 33
  interfaces := #[]
  cf := some (fileOf pool0 8 #[] #[{ accessFlags := 1, nameIndex := 5, descriptorIndex := 6, attributes := #[] }] 33 0 #[] #[])
  fields := #[]
  methods := #[k0m0]
  instanceTypes := #[]
  staticTypes := #[]
  resolved := Array.replicate 124 none
  statics := none }

def pool1 : Array CpInfo := pool [(2, .class_ 4), (1, u "java/lang/Object"), (0, u "<init>"), (0, u "()V"), (0, .methodref 8 9), (0, .class_ 10), (0, .nameAndType 11 12), (0, u "com/example/bucketry/bucketry/table/TableIsZeroPinLaw"), (0, u "entry"), (0, u "(I)D"), (0, .class_ 14), (0, u "com/example/bucketry/bucketry/table/Table"), (0, .methodref 13 16), (0, .nameAndType 5 17), (0, u "([I[I[D)V"), (0, .methodref 13 19), (0, .nameAndType 20 21), (0, u "isZero"), (0, u "(I)Z"), (0, .methodref 8 23), (0, .nameAndType 24 21), (0, u "zero"), (2, .double 18442240474082181120), (1, .double 18442240474082181119), (3, u "law"), (0, u "(IIII)Z")] 5

def k1m0 : Method := { name := "<init>", desc := "()V", sig := { parameters := [], returnType := none }, accessFlags := 1, code := none }
def k1c1 : Code := { maxStack := 7, maxLocals := 6, code := code, exceptionTable := #[], attributes := #[] }
def k1m1 : Method := { name := "law", desc := "(IIII)Z", sig := { parameters := [.int, .int, .int, .int], returnType := some .boolean }, accessFlags := 9, code := some k1c1 }
def k1c2 : Code := { maxStack := 2, maxLocals := 1, code := method_3_code, exceptionTable := #[], attributes := #[] }
def k1m2 : Method := { name := "zero", desc := "(I)Z", sig := { parameters := [.int], returnType := some .boolean }, accessFlags := 10, code := some k1c2 }
def k1c3 : Code := { maxStack := 2, maxLocals := 2, code := method_4_code, exceptionTable := #[], attributes := #[] }
def k1m3 : Method := { name := "entry", desc := "(I)D", sig := { parameters := [.int], returnType := some .double }, accessFlags := 10, code := some k1c3 }
/-- com/example/bucketry/bucketry/table/TableIsZeroPinLaw -/
def k1 : Class := { plain "com/example/bucketry/bucketry/table/TableIsZeroPinLaw" (some 0) with
  accessFlags := 49
  interfaces := #[]
  cf := some (fileOf pool1 8 #[] #[{ accessFlags := 1, nameIndex := 5, descriptorIndex := 6, attributes := #[] }, { accessFlags := 9, nameIndex := 33, descriptorIndex := 34, attributes := #[] }, { accessFlags := 10, nameIndex := 24, descriptorIndex := 21, attributes := #[] }, { accessFlags := 10, nameIndex := 11, descriptorIndex := 12, attributes := #[] }] 49 2 #[] #[])
  fields := #[]
  methods := #[k1m0, k1m1, k1m2, k1m3]
  instanceTypes := #[]
  staticTypes := #[]
  resolved := Array.replicate 40 none
  statics := none }

def pool2 : Array CpInfo := pool [(3, .methodref 4 5), (0, .class_ 6), (0, .nameAndType 7 8), (0, u "java/lang/Object"), (0, u "<init>"), (0, u "()V"), (0, .fieldref 10 11), (0, .class_ 12), (0, .nameAndType 13 14), (0, u "com/example/bucketry/bucketry/table/Table"), (0, u "scope"), (0, u "[I"), (0, .fieldref 10 16), (0, .nameAndType 17 14), (0, u "sizes"), (0, .fieldref 10 19), (0, .nameAndType 20 21), (0, u "entries"), (0, u "[D"), (3, u "([I[I[D)V"), (130, .double 18442240474082181120), (131, .class_ 289), (0, u "com/example/bucketry/bucketry/table/Table$Odometer"), (16, u "LN_10"), (0, u "D"), (7, u "MAX_ENTRIES"), (0, u "I"), (38, u "isZero"), (0, u "(I)Z")] 61

def k2c0 : Code := { maxStack := 2, maxLocals := 4, code := prog_56_method_1_code, exceptionTable := #[], attributes := #[] }
def k2m0 : Method := { name := "<init>", desc := "([I[I[D)V", sig := { parameters := [(.array .int), (.array .int), (.array .double)], returnType := none }, accessFlags := 0, code := some k2c0 }
def k2c1 : Code := { maxStack := 4, maxLocals := 2, code := prog_56_method_22_code, exceptionTable := #[], attributes := #[] }
def k2m1 : Method := { name := "isZero", desc := "(I)Z", sig := { parameters := [.int], returnType := some .boolean }, accessFlags := 0, code := some k2c1 }
/-- com/example/bucketry/bucketry/table/Table -/
def k2 : Class := { plain "com/example/bucketry/bucketry/table/Table" (some 0) with
  accessFlags := 49
  interfaces := #[]
  cf := some (fileOf pool2 10 #[.nestMembers #[288]] #[{ accessFlags := 0, nameIndex := 7, descriptorIndex := 25, attributes := #[] }, { accessFlags := 0, nameIndex := 355, descriptorIndex := 356, attributes := #[] }] 49 4 #[] #[{ accessFlags := 25, nameIndex := 315, descriptorIndex := 316, attributes := #[] }, { accessFlags := 26, nameIndex := 306, descriptorIndex := 307, attributes := #[] }, { accessFlags := 18, nameIndex := 13, descriptorIndex := 14, attributes := #[] }, { accessFlags := 18, nameIndex := 17, descriptorIndex := 14, attributes := #[] }, { accessFlags := 18, nameIndex := 20, descriptorIndex := 21, attributes := #[] }])
  fields := #[{ name := "MAX_ENTRIES", type := .int, accessFlags := 25, slot := 0, constantValue := 0 }, { name := "LN_10", type := .double, accessFlags := 26, slot := 1, constantValue := 0 }, { name := "scope", type := (.array .int), accessFlags := 18, slot := 0, constantValue := 0 }, { name := "sizes", type := (.array .int), accessFlags := 18, slot := 1, constantValue := 0 }, { name := "entries", type := (.array .double), accessFlags := 18, slot := 2, constantValue := 0 }]
  methods := #[k2m0, k2m1]
  instanceTypes := #[(.array .int), (.array .int), (.array .double)]
  staticTypes := #[.int, .double]
  resolved := Array.replicate 418 none
  statics := none }

def pool3 : Array CpInfo := pool [(1, u "java/lang/Cloneable"), (0, .class_ 1), (0, u "java/lang/Object"), (0, .class_ 3)] 3

/-- java/lang/Cloneable -/
def k3 : Class := { plain "java/lang/Cloneable" (some 0) with
  accessFlags := 1537
  interfaces := #[]
  cf := some (fileOf pool3 2 #[] #[] 1537 4 #[] #[])
  fields := #[]
  methods := #[]
  instanceTypes := #[]
  staticTypes := #[]
  resolved := Array.replicate 8 none
  statics := none }

def pool4 : Array CpInfo := pool [(1, u "java/io/Serializable"), (0, .class_ 1), (0, u "java/lang/Object"), (0, .class_ 3)] 3

/-- java/io/Serializable -/
def k4 : Class := { plain "java/io/Serializable" (some 0) with
  accessFlags := 1537
  interfaces := #[]
  cf := some (fileOf pool4 2 #[] #[] 1537 4 #[] #[])
  fields := #[]
  methods := #[]
  instanceTypes := #[]
  staticTypes := #[]
  resolved := Array.replicate 8 none
  statics := none }

/-- the primitive byte -/
def k5 : Class := { plain "byte" none with kind := .primitive 'B', accessFlags := 0x411 }
/-- [B -/
def k6 : Class := { plain "[B" (some 0) with kind := .array 5 .byte, interfaces := #[3, 4], accessFlags := 1041 }

/-- the primitive double -/
def k7 : Class := { plain "double" none with kind := .primitive 'D', accessFlags := 0x411 }
/-- [D -/
def k8 : Class := { plain "[D" (some 0) with kind := .array 7 .double, interfaces := #[3, 4], accessFlags := 1041 }

/-- the primitive int -/
def k9 : Class := { plain "int" none with kind := .primitive 'I', accessFlags := 0x411 }
/-- [I -/
def k10 : Class := { plain "[I" (some 0) with kind := .array 9 .int, interfaces := #[3, 4], accessFlags := 1041 }

def heap : Heap := #[]
def classes : Array Class := #[k0, k1, k2, k3, k4, k5, k6, k7, k8, k9, k10]
def interned : List (Array UInt16 × Addr) := []
def slotsUsed : Nat := 0
def theMethod : MethodId := ⟨1, 1⟩
def args0 : Array Value := #[.int 5, .int 6, .int 7, .int 8]
def aboutOver (below : List Frame) : State where
  vm := { classes := classes, interned := interned.toArray }
  heap := heap
  slotsUsed := slotsUsed
  threads := #[{ frames := .invoking theMethod args0 :: below }]
def below0 : List Frame := [.native { method := ⟨0, 0⟩, args := #[] }]
def about1 : State := aboutOver below0
def p0 : Program := .bare "" "" ""
def e0 : Env := launch0.env 0 0 0
theorem w_frames : about1.frames = Frame.invoking theMethod args0 :: below0 := rfl
set_option maxRecDepth 65536 in
theorem w_args : argsFit about1.vm theMethod args0 = true := by decide +kernel
set_option maxRecDepth 65536 in
theorem w_heap : heapFits about1 = true := by decide +kernel
set_option maxRecDepth 65536 in
theorem w_runnable : about1.curStatus? = some .runnable := by decide +kernel
set_option maxRecDepth 65536 in
theorem w_alone : about1.alone = true := by decide +kernel
set_option maxRecDepth 65536 in
theorem w_named : about1.methodNamed? x = some theMethod := by decide +kernel
set_option maxRecDepth 65536 in
theorem w_hears : about1.hears theMethod below0 = true := by decide +kernel
set_option maxRecDepth 65536 in
theorem w_ripe : about1.ripe theMethod args0 below0 = true := by decide +kernel
theorem w_running : about1.status = .running := rfl
set_option maxRecDepth 65536 in
theorem w_room : about1.hasRoom e0.platform room_1 = true :=
  launch0.hasRoom_least _ room_1 (by decide +kernel) (by decide +kernel) (by decide +kernel) (by decide +kernel) (by decide +kernel) (by decide +kernel)
theorem allAtoms_all (ts : List Jvm.Cond) (a : Array Jvm.Value) (st : Jvm.State) : (allAtoms ts).before a st = ts.all (fun c => c.before a st) := by
  induction ts with
  | nil => rfl
  | cons c t ih =>
    show (Jvm.Cond.and c (allAtoms t)).before a st = _
    rw [Jvm.Cond.before_and, ih, List.all_cons]
def words1 : List Jvm.Cond := Jvm.Cond.code x code maxLocals ret :: tables_1
/-- a 'code' word, met by the world's own term for the bytes: nothing is compared byte by byte -/
theorem code_word {y : MethodName} {bytes : ByteArray} {mx : Nat} {rt : Option FieldType} {a : Array Value} {s : State} {m : MethodId} {meth : Method} {c : Code} (h1 : s.methodNamed? y = some m) (h2 : s.vm.method? m = some meth) (h3 : meth.code = some c) (h4 : c.code = bytes)
    (h5 : (c.maxLocals == mx && c.exceptionTable.isEmpty && decide (c.maxStack ≤ mostOperands) && decide (meth.sig.returnType = rt) && !meth.locks && decide (parseMethodDescriptor y.desc = some meth.sig)) = true) : (Jvm.Cond.code y bytes mx rt).before a s = true := by
  simp only [Bool.and_eq_true, beq_iff_eq, Bool.not_eq_true', decide_eq_true_eq] at h5
  obtain ⟨⟨⟨⟨⟨g1, g2⟩, g3⟩, g4⟩, g5⟩, g6⟩ := h5
  simp [Cond.before, Cond.holds, Cond.value, h1, h2, h3, h4, g1, g2, g3, g4, g5, g6]
def isCode : Jvm.Cond → Bool
  | .code _ _ _ _ => true
  | _ => false
theorem all_split {L : List Jvm.Cond} {P : Jvm.Cond → Bool} (h1 : L.all (fun c => isCode c || P c) = true) (h2 : ∀ c ∈ L.filter isCode, P c = true) : L.all P = true := by
  refine List.all_eq_true.mpr fun c hc => ?_
  have h := List.all_eq_true.mp h1 c hc
  rcases Bool.eq_false_or_eq_true (isCode c) with hi | hi
  · exact h2 c (List.mem_filter.mpr ⟨hc, hi⟩)
  · simpa [hi] using h
set_option maxRecDepth 65536 in
theorem w_c0 : (Jvm.Cond.code x code maxLocals ret).before args0 about1 = true := code_word (m := ⟨1, 1⟩) (meth := k1m1) (c := k1c1) (by decide +kernel) rfl rfl rfl (by decide +kernel)
set_option maxRecDepth 65536 in
theorem w_c1 : (Jvm.Cond.code ({ cls := "com/example/bucketry/bucketry/table/TableIsZeroPinLaw", name := "entry", desc := "(I)D" } : Jvm.MethodName) method_4_code (2 : Nat) (Option.some Jvm.ClassFile.FieldType.double)).before args0 about1 = true := code_word (m := ⟨1, 3⟩) (meth := k1m3) (c := k1c3) (by decide +kernel) rfl rfl rfl (by decide +kernel)
set_option maxRecDepth 65536 in
theorem w_c2 : (Jvm.Cond.code ({ cls := "com/example/bucketry/bucketry/table/Table", name := "<init>", desc := "([I[I[D)V" } : Jvm.MethodName) prog_56_method_1_code (4 : Nat) (Option.none : Option Jvm.ClassFile.FieldType)).before args0 about1 = true := code_word (m := ⟨2, 0⟩) (meth := k2m0) (c := k2c0) (by decide +kernel) rfl rfl rfl (by decide +kernel)
set_option maxRecDepth 65536 in
theorem w_c3 : (Jvm.Cond.code ({ cls := "java/lang/Object", name := "<init>", desc := "()V" } : Jvm.MethodName) object_method_1_code (1 : Nat) (Option.none : Option Jvm.ClassFile.FieldType)).before args0 about1 = true := code_word (m := ⟨0, 0⟩) (meth := k0m0) (c := k0c0) (by decide +kernel) rfl rfl rfl (by decide +kernel)
set_option maxRecDepth 65536 in
theorem w_c4 : (Jvm.Cond.code ({ cls := "com/example/bucketry/bucketry/table/Table", name := "isZero", desc := "(I)Z" } : Jvm.MethodName) prog_56_method_22_code (2 : Nat) (Option.some Jvm.ClassFile.FieldType.boolean)).before args0 about1 = true := code_word (m := ⟨2, 1⟩) (meth := k2m1) (c := k2c1) (by decide +kernel) rfl rfl rfl (by decide +kernel)
set_option maxRecDepth 65536 in
theorem w_c5 : (Jvm.Cond.code ({ cls := "com/example/bucketry/bucketry/table/TableIsZeroPinLaw", name := "zero", desc := "(I)Z" } : Jvm.MethodName) method_3_code (1 : Nat) (Option.some Jvm.ClassFile.FieldType.boolean)).before args0 about1 = true := code_word (m := ⟨1, 2⟩) (meth := k1m2) (c := k1c2) (by decide +kernel) rfl rfl rfl (by decide +kernel)
def codes1 : List Jvm.Cond := [Jvm.Cond.code x code maxLocals ret, Jvm.Cond.code ({ cls := "com/example/bucketry/bucketry/table/TableIsZeroPinLaw", name := "entry", desc := "(I)D" } : Jvm.MethodName) method_4_code (2 : Nat) (Option.some Jvm.ClassFile.FieldType.double), Jvm.Cond.code ({ cls := "com/example/bucketry/bucketry/table/Table", name := "<init>", desc := "([I[I[D)V" } : Jvm.MethodName) prog_56_method_1_code (4 : Nat) (Option.none : Option Jvm.ClassFile.FieldType), Jvm.Cond.code ({ cls := "java/lang/Object", name := "<init>", desc := "()V" } : Jvm.MethodName) object_method_1_code (1 : Nat) (Option.none : Option Jvm.ClassFile.FieldType), Jvm.Cond.code ({ cls := "com/example/bucketry/bucketry/table/Table", name := "isZero", desc := "(I)Z" } : Jvm.MethodName) prog_56_method_22_code (2 : Nat) (Option.some Jvm.ClassFile.FieldType.boolean), Jvm.Cond.code ({ cls := "com/example/bucketry/bucketry/table/TableIsZeroPinLaw", name := "zero", desc := "(I)Z" } : Jvm.MethodName) method_3_code (1 : Nat) (Option.some Jvm.ClassFile.FieldType.boolean)]
set_option maxRecDepth 65536 in
theorem codes_eq : words1.filter isCode = codes1 := rfl
theorem w_codes : ∀ c ∈ words1.filter isCode, c.before args0 about1 = true := by
  rw [codes_eq]
  intro c hc
  simp only [codes1, List.mem_cons, List.not_mem_nil, or_false] at hc
  rcases hc with rfl | rfl | rfl | rfl | rfl | rfl
  · exact w_c0
  · exact w_c1
  · exact w_c2
  · exact w_c3
  · exact w_c4
  · exact w_c5
set_option maxRecDepth 65536 in
theorem w_t1 : (words1.take 24).all (fun c => isCode c || c.before args0 about1) = true := by decide +kernel
set_option maxRecDepth 65536 in
theorem w_t2 : (words1.drop 24).all (fun c => isCode c || c.before args0 about1) = true := by decide +kernel
theorem w_tables : (allAtoms (Jvm.Cond.code x code maxLocals ret :: tables_1)).before args0 about1 = true := by
  rw [allAtoms_all]
  show words1.all (fun c => c.before args0 about1) = true
  refine all_split ?_ w_codes
  rw [← List.take_append_drop 24 words1, List.all_append, w_t1, w_t2]
  rfl
set_option maxRecDepth 65536 in
theorem w_case : (Jvm.Cond.and given_1 narrow_1).before args0 about1 = true := by decide +kernel
theorem w_applies : (headSpec (Jvm.Cond.code x code maxLocals ret :: tables_1) room_1).applies x e0.platform about1 = true :=
  (Spec.applies_iff w_frames).mpr ⟨w_running, w_runnable, w_alone, w_named, w_hears, w_ripe, w_room, w_tables⟩
theorem atStart : AtStart classFile x code maxLocals ret World_1 tables_1 room_1 Calls_1 rest_1 Pre_1 launch0 p0 e0 about1 theMethod args0 below0 :=
  ⟨lists_1, trivial, launch0.admits_env _ _ _, launch0.least_env, fairChoices_fair.cas, fairChoices_fair.clock, w_frames, w_args, w_heap, w_applies, trivial, trivial, w_case⟩
end start1
theorem witness_1 : WitnessClaimed_1 := ⟨start1.p0, start1.e0, start1.about1, start1.theMethod, start1.args0, start1.below0, start1.atStart⟩
end Jvm.Pilot.@@N@@
