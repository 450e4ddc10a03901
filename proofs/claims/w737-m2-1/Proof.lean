import JvmDerived
import JvmDerived.Pilot.@@N@@Statement
import JvmDerived.Pilot.@@N@@Code
set_option linter.unusedVariables false
set_option linter.unusedSimpArgs false
namespace Jvm.Pilot.@@N@@
open Jvm Jvm.ClassFile Sem Op Lib Jvm.Free Jvm.Stand Jvm.LawKit Jvm.RoadKit Bundle Jvm.Pilot.@@N@@.Jvm.D
/-! THE OWN LAYER (printed by own/gen_layer.py): Wp: from this pc, with these locals, this operand stack and these new objects, the body comes to its return and Q holds of what it returns and of the new objects then -/
def locL : List Value → List Slot
  | [] => []
  | v :: vs => (if v.category = 2 then [.val v, .second] else [.val v]) ++ locL vs
theorem entry_fold (as' : List Value) : ∀ acc : Array Slot, as'.foldl (fun acc v => if v.category = 2 then (acc.push (.val v)).push .second else acc.push (.val v)) acc = acc ++ (locL as').toArray := by
  induction as' with
  | nil => intro acc; simp [locL]
  | cons v vs ih =>
    intro acc
    rw [List.foldl_cons, ih, locL]
    by_cases h : v.category = 2
    · simp [h]
    · simp [h]
theorem entry_loc (m : MethodId) (as' : List Value) (maxL : Nat) : entryFrame m as'.toArray maxL = mkF m 0 (locL as' ++ List.replicate (maxL - (locL as').length) Slot.unset).toArray [] := by
  have e : (as'.toArray.foldl (fun (acc : Array Slot) v => if v.category = 2 then (acc.push (.val v)).push .second else acc.push (.val v)) #[]) = (locL as').toArray := by
    rw [← Array.foldl_toList]
    show as'.foldl _ _ = _
    rw [entry_fold]; simp
  show mkF m 0 (argsToLocals as'.toArray maxL) [] = _
  unfold argsToLocals
  simp only [e]
  congr 1
  simp
abbrev OSig := List (String × String × String)
abbrev ObjB := (String × OSig × List Value) ⊕ ((FieldType × List Int32) ⊕ (List Int64 ⊕ (String × FieldType × List Value)))
/-- an object of the walk: true: made by it (it may be written); false: only read -/
abbrev Obj := Bool × ObjB
abbrev oI (C : String) (sg : OSig) (vs : List Value) : Obj := (true, .inl (C, sg, vs))
abbrev oA (ty : FieldType) (xs : List Int32) : Obj := (true, .inr (.inl (ty, xs)))
abbrev oJ (xs : List Int64) : Obj := (true, .inr (.inr (.inl xs)))
abbrev oR (C : String) (ty : FieldType) (vs : List Value) : Obj := (true, .inr (.inr (.inr (C, ty, vs))))
abbrev fI (C : String) (sg : OSig) (vs : List Value) : Obj := (false, .inl (C, sg, vs))
abbrev fA (ty : FieldType) (xs : List Int32) : Obj := (false, .inr (.inl (ty, xs)))
abbrev OH := List (Addr × Obj)
def Slo (Z : State) (sg : OSig) : Prop := sg.Pairwise fun f g => Jvm.RoadKit.slotOf Z f.1 f.2.1 f.2.2 ≠ Jvm.RoadKit.slotOf Z g.1 g.2.1 g.2.2
def OvrT (Z : State) (cA : ClassId) (C : String) (ty : FieldType) : Prop := ∃ (k : Class) (comp : ClassId), Z.vm.classes[cA]? = some k ∧ k.kind = .array comp ty ∧ Z.vm.findClass C = some comp
def Sat (Z : State) (h : Heap) (a : Addr) : ObjB → Prop
  | .inl (C, sg, vs) => Exa Z h a C ∧ Slo Z sg ∧ ∀ (i : Nat) (f : String × String × String) (v : Value), sg[i]? = some f → vs[i]? = some v → Fld Z h a f.1 f.2.1 f.2.2 v
  | .inr (.inl (ty, xs)) => (ty = .byte ∨ Exa Z h a ("[" ++ ty.toString)) ∧ ∃ c : Cell, Arr Z h a c ty ∧ c.slots = (xs.map Value.int).toArray ∧ ∀ x ∈ xs, fits ty (.int x) = true
  | .inr (.inr (.inl xs)) => Exa Z h a "[J" ∧ ∃ c : Cell, Arr Z h a c .long ∧ c.slots = (xs.map Value.long).toArray
  | .inr (.inr (.inr (C, ty, vs))) => Exa Z h a ("[" ++ ty.toString) ∧ ∃ c : Cell, Arr Z h a c ty ∧ OvrT Z c.cls C ty ∧ c.slots = vs.toArray ∧ ∀ v ∈ vs, v.isRef = true
/-- cells that the walk must not write -/
abbrev HD := Addr → Cell → Prop
def Hp (Z : State) (Dh : HD) (h : Heap) (H : OH) : Prop := Ext Z.heap h ∧ (∀ x ∈ H, (x.2.1 = true → Z.heap.size ≤ x.1 ∧ ∀ c, ¬ Dh x.1 c) ∧ Sat Z h x.1 x.2.2) ∧ (H.Pairwise fun x y => (x.2.1 = true ∨ y.2.1 = true) → x.1 ≠ y.1) ∧ ∀ a c, Dh a c → h[a]? = some c
theorem Sat.ext {Z : State} {h h' : Heap} {a : Addr} (E : Ext h h') : ∀ {o : ObjB}, Sat Z h a o → Sat Z h' a o
  | .inl (C, sg, vs), ⟨h1, h2, h3⟩ => ⟨h1.ext E, h2, fun i f v q r => (h3 i f v q r).ext E⟩
  | .inr (.inl (ty, xs)), ⟨q, c, h1, h2⟩ => ⟨q.imp id (·.ext E), c, h1.ext E, h2⟩
  | .inr (.inr (.inl xs)), ⟨q, c, h1, h2⟩ => ⟨q.ext E, c, h1.ext E, h2⟩
  | .inr (.inr (.inr (C, ty, vs))), ⟨q, c, h1, h2⟩ => ⟨q.ext E, c, h1.ext E, h2⟩
theorem Sat.other {Z : State} {h h' : Heap} {a b : Addr} {sl : Nat} {v : Value} (W : Wr h h' a sl v) (ne : b ≠ a) : ∀ {o : ObjB}, Sat Z h b o → Sat Z h' b o
  | .inl (C, sg, vs), ⟨h1, h2, h3⟩ => ⟨h1.wr W, h2, fun i f v q r => (h3 i f v q r).other W (Or.inl ne)⟩
  | .inr (.inl (ty, xs)), ⟨q, c, h1, h2⟩ => ⟨q.imp id (·.wr W), c, h1.other W ne, h2⟩
  | .inr (.inr (.inl xs)), ⟨q, c, h1, h2⟩ => ⟨q.wr W, c, h1.other W ne, h2⟩
  | .inr (.inr (.inr (C, ty, vs))), ⟨q, c, h1, h2⟩ => ⟨q.wr W, c, h1.other W ne, h2⟩
theorem Sat.lt {Z : State} {h : Heap} {a : Addr} : ∀ {o : ObjB}, Sat Z h a o → a < h.size
  | .inl (C, sg, vs), ⟨h1, h2, h3⟩ => h1.lt
  | .inr (.inl (ty, xs)), ⟨_, c, h1, _⟩ => h1.lt
  | .inr (.inr (.inl xs)), ⟨q, _⟩ => q.lt
  | .inr (.inr (.inr (C, ty, vs))), ⟨q, _⟩ => q.lt
theorem Hp.nil (Z : State) : Hp Z (fun a c => Z.heap[a]? = some c) Z.heap [] := ⟨⟨Nat.le_refl _, fun _ _ q => q⟩, (fun _ q => nomatch q), List.Pairwise.nil, fun _ _ q => q⟩
theorem ext_trans {h h1 h2 : Heap} (E : Ext h h1) (E' : Ext h1 h2) : Ext h h2 := ⟨Nat.le_trans E.1 E'.1, fun a c q => E'.2 a c (E.2 a c q)⟩
theorem Hp.ext {Z : State} {Dh : HD} {h h' : Heap} {H : OH} (P : Hp Z Dh h H) (E : Ext h h') : Hp Z Dh h' H := ⟨ext_trans P.1 E, fun x q => ⟨(P.2.1 x q).1, (P.2.1 x q).2.ext E⟩, P.2.2.1, fun a c q => E.2 _ _ (P.2.2.2 a c q)⟩
theorem Hp.cons {Z : State} {Dh : HD} {h h' : Heap} {H : OH} (P : Hp Z Dh h H) (E : Ext h h') {fl : Bool} {o : ObjB} (S : Sat Z h' h.size o) : Hp Z Dh h' ((h.size, (fl, o)) :: H) :=
  ⟨ext_trans P.1 E, fun x q => (List.mem_cons.mp q).elim (fun e => by subst e; exact ⟨fun _ => ⟨P.1.1, fun c q => absurd (Array.getElem?_eq_some_iff.mp (P.2.2.2 _ _ q)).1 (Nat.lt_irrefl _)⟩, S⟩) fun q => ⟨(P.2.1 x q).1, (P.2.1 x q).2.ext E⟩,
    List.Pairwise.cons (fun y q _ e => absurd ((P.2.1 y q).2.lt) (by rw [← e]; exact Nat.lt_irrefl _)) P.2.2.1, fun a c q => E.2 _ _ (P.2.2.2 a c q)⟩
theorem Hp.at {Z : State} {Dh : HD} {h : Heap} {H : OH} (P : Hp Z Dh h H) {i : Nat} {x : Addr × Obj} (q : H[i]? = some x) : (x.2.1 = true → Z.heap.size ≤ x.1) ∧ Sat Z h x.1 x.2.2 := ⟨fun e => ((P.2.1 x (List.mem_of_getElem? q)).1 e).1, (P.2.1 x (List.mem_of_getElem? q)).2⟩
theorem Hp.ne {Z : State} {Dh : HD} {h : Heap} {H : OH} (P : Hp Z Dh h H) {i j : Nat} {x y : Addr × Obj} (q : H[i]? = some x) (r : H[j]? = some y) (ht : x.2.1 = true ∨ y.2.1 = true) (ij : i ≠ j) : x.1 ≠ y.1 := by
  have hP := List.pairwise_iff_getElem.mp P.2.2.1
  obtain ⟨hi, rfl⟩ := List.getElem?_eq_some_iff.mp q
  obtain ⟨hj, rfl⟩ := List.getElem?_eq_some_iff.mp r
  rcases Nat.lt_or_gt_of_ne ij with u | u
  · exact hP i j hi hj u ht
  · exact fun e => hP j i hj hi u ht.symm e.symm
theorem Hp.frz {Z : State} {Dh : HD} {h : Heap} {H : OH} (P : Hp Z Dh h H) {i : Nat} {a : Addr} {fl : Bool} {o : ObjB} (q : H[i]? = some (a, (fl, o))) : Hp Z Dh h (H.set i (a, (false, o))) := by
  obtain ⟨hi, hq⟩ := List.getElem?_eq_some_iff.mp q
  refine ⟨P.1, fun x hx => ?_, List.pairwise_iff_getElem.mpr fun n m hn hm hlt ht => ?_, P.2.2.2⟩
  · rcases List.mem_or_eq_of_mem_set hx with hx | rfl
    · exact P.2.1 x hx
    · exact ⟨(fun e => nomatch e), (P.at q).2⟩
  · have hn' : n < H.length := by rw [List.length_set] at hn; exact hn
    have hm' : m < H.length := by rw [List.length_set] at hm; exact hm
    have hP := List.pairwise_iff_getElem.mp P.2.2.1 n m hn' hm' hlt
    rw [List.getElem_set, List.getElem_set] at ht ⊢
    by_cases e1 : i = n
    · subst e1
      rw [if_pos rfl] at ht ⊢
      rw [if_neg (by omega)] at ht ⊢
      rw [hq] at hP
      exact hP (Or.inr (ht.elim (fun e => nomatch e) id))
    · rw [if_neg e1] at ht ⊢
      by_cases e2 : i = m
      · subst e2
        rw [if_pos rfl] at ht ⊢
        rw [hq] at hP
        exact hP (Or.inl (ht.elim id (fun e => nomatch e)))
      · rw [if_neg e2] at ht ⊢
        exact hP ht
theorem Hp.set {Z : State} {Dh : HD} {h h' : Heap} {H : OH} (P : Hp Z Dh h H) {i : Nat} {a : Addr} {o o' : ObjB} (q : H[i]? = some (a, (true, o))) {sl : Nat} {v : Value} (W : Wr h h' a sl v) (S : Sat Z h' a o') : Hp Z Dh h' (H.set i (a, (true, o'))) := by
  have g : Z.heap.size ≤ a := (P.at q).1 rfl
  have g2 : ∀ c, ¬ Dh a c := ((P.2.1 _ (List.mem_of_getElem? q)).1 rfl).2
  obtain ⟨hi, hq⟩ := List.getElem?_eq_some_iff.mp q
  refine ⟨⟨by rw [W.size]; exact P.1.1, fun b c r => ?_⟩, fun x hx => ?_, ?_, fun b c r => ?_⟩
  · obtain ⟨c', e1, -, -, -, e5, -⟩ := wr_at W (P.1.2 b c r)
    have : b < Z.heap.size := (Array.getElem?_eq_some_iff.mp r).1
    rw [← e5 (by rintro rfl; exact absurd this (Nat.not_lt.mpr g))]; exact e1
  · obtain ⟨n, hn⟩ := List.getElem?_of_mem hx
    rw [List.getElem?_set] at hn
    split at hn
    · have e0 : (a, (true, o')) = x := by simpa [hi] using hn
      subst e0; exact ⟨fun _ => ⟨g, g2⟩, S⟩
    · rename_i ne
      exact ⟨(P.2.1 x (List.mem_of_getElem? hn)).1, (P.at hn).2.other W (P.ne hn q (Or.inr rfl) (Ne.symm ne))⟩
  · have e : (H.set i (a, (true, o'))).map (fun x => (x.1, x.2.1)) = H.map (fun x => (x.1, x.2.1)) := by
      rw [List.map_set]
      refine List.ext_getElem? fun n => ?_
      rw [List.getElem?_set]
      split
      · rename_i e; subst e
        simp [hi, hq]
      · rfl
    have h1 : (H.map (fun x => (x.1, x.2.1))).Pairwise (fun u v => (u.2 = true ∨ v.2 = true) → u.1 ≠ v.1) := List.pairwise_map.mpr P.2.2.1
    rw [← e] at h1
    exact List.pairwise_map.mp h1
  · obtain ⟨c', e1, -, -, -, e5, -⟩ := wr_at W (P.2.2.2 b c r)
    rw [← e5 (by rintro rfl; exact g2 _ r)]; exact e1
theorem Hp.pick {Z : State} {Dh : HD} {h : Heap} {H : OH} (P : Hp Z Dh h H) (is : List Nat) (hn : is.Nodup) : Hp Z Dh h (is.filterMap fun i => H[i]?) := by
  refine ⟨P.1, fun x hx => ?_, ?_, P.2.2.2⟩
  · obtain ⟨i, -, q⟩ := List.mem_filterMap.mp hx
    exact P.2.1 x (List.mem_of_getElem? q)
  · refine List.pairwise_filterMap.mpr (hn.imp fun {i j} ne x hx y hy ht => P.ne hx hy ht ne)
/-- what an instruction says: its constructor, its length, the next pc -/
def Dc (bytes : ByteArray) (pc : Nat) (i : Instr) (n pc' : Nat) : Prop := decode bytes pc = .ok (i, n) ∧ pc + n = pc'
def Tg (pc : Nat) (o : Int) (pc' : Nat) : Prop := 0 ≤ (pc : Int) + o ∧ ((pc : Int) + o).toNat = pc'
/-- the walk's mode: none: it loads no String constant; some EL: it may load the constants of EL, whose contents are kept -/
abbrev Md := Option (List (String × Nat))
/-- wherever the cells Dh stand, the tables' constants of EL hold their texts, and their cells are among Dh -/
def Good (Z : State) (EL : List (String × Nat)) (Dh : HD) (vm : Vm) : Prop := ∀ h : Heap, (∀ a c, Dh a c → h[a]? = some c) → Jvm.RoadKit.CHv Z EL vm h ∧ ∀ y, Jvm.RoadKit.Bk Z EL vm h y → ∃ c, Dh y c
def MdOk (b : Md) (Z : State) (Dh : HD) (vm0 : Vm) : Prop := ∀ EL, b = some EL → Good Z EL Dh vm0
def Wp (b : Md) (l : Launch) (Z : State) (own nm : String) (bytes : ByteArray) (maxL : Nat) (ret : Option FieldType) (R : Room) (H : OH) (k j : Nat) (pc : Nat) (Ls : Array Slot) (st : List Value) (Q : Option Value → OH → Prop) : Prop :=
  ∀ (p : Program) (e : Env) (s : State) (vm0 : Vm) (k0 : Nat) (m : MethodId) (args : Array Value) (below : List Frame) (meth : Method) (c : Code) (T : State) (L : List Loc) (Dh : HD),
    p.tables.exec = Jvm.exec → Z.Warmed39 vm0 → s.Since vm0 k0 → k0 ≤ T.heap.size → c.code = bytes → c.maxLocals = maxL → vm0.findClass own = some m.cls → meth.name = nm → meth.sig.returnType = ret →
    Stand p l e R (s.setVm vm0) m args below meth c T L k j → Fr Z.heap.size L → Hp Z Dh T.heap H → MdOk b Z Dh vm0 →
    ∃ (T' : State) (v : Option Value) (L' : List Loc) (k' j' : Nat) (vm1 : Vm) (k1 : Nat) (H' : OH),
      (s.Since vm1 k1 ∧ k1 ≤ T'.heap.size ∧ (b = none → vm1 = vm0)) ∧ Stand p l e R (s.setVm vm1) m args below meth c T' L' k' j' ∧ (k' ≤ R.cells ∧ j' ≤ R.slots ∧ T.heap.size ≤ T'.heap.size) ∧ Fr Z.heap.size L' ∧ (∃ D1 : HD, Hp Z D1 T'.heap H' ∧ (b = none → D1 = Dh) ∧ MdOk b Z D1 vm1) ∧ (ret = none → v = none) ∧ Q v H' ∧
      ∀ fs, (∀ (f : JFrame) (acts : List Action), f.method = m → f.locked = none → f.entered = [] → (doReturn e (T'.setTop f) acts v).1 = T'.setFrames fs) → Steps p.tables e below (T.setTop (mkF m pc Ls st)) (T'.setFrames fs)
section Own
variable {b : Md} {l : Launch} {Z : State} {a0 : Array Value} {own nm : String} {bytes : ByteArray} {maxL : Nat} {ret : Option FieldType} {R : Room} {H : OH} {k j pc pc' : Nat} {Ls : Array Slot} {st : List Value} {Q : Option Value → OH → Prop}
theorem Wp.stepH
    (hs : ∀ (p : Program) (e : Env) (s : State) (m : MethodId) (args : Array Value) (below : List Frame) (meth : Method) (c : Code) (T : State) (L : List Loc) (Dh : HD),
      p.tables.exec = Jvm.exec → Z.Warmed39 s.vm → c.code = bytes → c.maxLocals = maxL → s.vm.findClass own = some m.cls → meth.name = nm → meth.sig.returnType = ret →
      Stand p l e R s m args below meth c T L k j → Fr Z.heap.size L → Hp Z Dh T.heap H →
      ∃ (T' : State) (L' : List Loc) (k' j' : Nat) (H' : OH) (pc' : Nat) (Ls' : Array Slot) (st' : List Value), Stand p l e R s m args below meth c T' L' k' j' ∧ T.heap.size ≤ T'.heap.size ∧ Fr Z.heap.size L' ∧ Hp Z Dh T'.heap H' ∧ Wp b l Z own nm bytes maxL ret R H' k' j' pc' Ls' st' Q ∧
        ∀ target, Steps p.tables e below (T'.setTop (mkF m pc' Ls' st')) target → Steps p.tables e below (T.setTop (mkF m pc Ls st)) target) :
    Wp b l Z own nm bytes maxL ret R H k j pc Ls st Q := by
  intro p e s vm0 k0 m args below meth c T L Dh hx hZ hS hk hby hml hown hnm hret X N hH hB
  obtain ⟨T', L', k', j', H', pc', Ls', st', X', hsz, N', hH', hr, stp⟩ := hs p e (s.setVm vm0) m args below meth c T L Dh hx hZ hby hml hown hnm hret X N hH
  obtain ⟨T2, v, L2, k2, j2, vm1, k1, H2, r1, r2, ⟨r3, r4, r5⟩, r6, r7, r8, r9, r10⟩ := hr p e s vm0 k0 m args below meth c T' L' Dh hx hZ hS (Nat.le_trans hk hsz) hby hml hown hnm hret X' N' hH' hB
  exact ⟨T2, v, L2, k2, j2, vm1, k1, H2, r1, r2, ⟨r3, r4, Nat.le_trans hsz r5⟩, r6, r7, r8, r9, fun fs hl => stp _ (r10 fs hl)⟩
theorem Wp.step {Ls' : Array Slot} {st' : List Value}
    (hs : ∀ (p : Program) (e : Env) (s : State) (m : MethodId) (args : Array Value) (below : List Frame) (meth : Method) (c : Code) (T : State) (L : List Loc) (Dh : HD),
      p.tables.exec = Jvm.exec → Z.Warmed39 s.vm → c.code = bytes → s.vm.findClass own = some m.cls → Stand p l e R s m args below meth c T L k j → Hp Z Dh T.heap H →
        ∀ target, Steps p.tables e below (T.setTop (mkF m pc' Ls' st')) target → Steps p.tables e below (T.setTop (mkF m pc Ls st)) target)
    (hr : Wp b l Z own nm bytes maxL ret R H k j pc' Ls' st' Q) : Wp b l Z own nm bytes maxL ret R H k j pc Ls st Q :=
  Wp.stepH fun p e s m args below meth c T L Dh hx hZ hby hml hown hnm hret X N hH => ⟨T, L, k, j, H, pc', Ls', st', X, Nat.le_refl _, N, hH, hr, hs p e s m args below meth c T L Dh hx hZ hby hown X hH⟩
theorem Wp.pick (is : List Nat) (hn : is.Nodup) (hr : Wp b l Z own nm bytes maxL ret R (is.filterMap fun i => H[i]?) k j pc Ls st Q) : Wp b l Z own nm bytes maxL ret R H k j pc Ls st Q :=
  Wp.stepH fun p e s m args below meth c T L Dh hx hZ hby hml hown hnm hret X N hH => ⟨T, L, k, j, _, pc, Ls, st, X, Nat.le_refl _, N, hH.pick is hn, hr, fun _ q => q⟩
theorem Wp.more {k' j' : Nat} (hk : k ≤ k') (hj : j ≤ j') (hr : Wp b l Z own nm bytes maxL ret R H k' j' pc Ls st Q) : Wp b l Z own nm bytes maxL ret R H k j pc Ls st Q :=
  Wp.stepH fun p e s m args below meth c T L Dh hx hZ hby hml hown hnm hret X N hH => ⟨T, L, k', j', H, pc, Ls, st, X.more hk hj, Nat.le_refl _, N, hH, hr, fun _ q => q⟩
theorem Wp.mono {Q' : Option Value → OH → Prop} (hr : Wp b l Z own nm bytes maxL ret R H k j pc Ls st Q') (hq : ∀ v H', Q' v H' → Q v H') : Wp b l Z own nm bytes maxL ret R H k j pc Ls st Q :=
  fun p e s vm0 k0 m args below meth c T L Dh hx hZ hS hk hby hml hown hnm hret X N hH hB => by
    obtain ⟨T2, v, L2, k2, j2, vm1, k1, H2, r1, r2, r3, r6, r7, r8, r9, r10⟩ := hr p e s vm0 k0 m args below meth c T L Dh hx hZ hS hk hby hml hown hnm hret X N hH hB
    exact ⟨T2, v, L2, k2, j2, vm1, k1, H2, r1, r2, r3, r6, r7, r8, hq _ _ r9, r10⟩
theorem wp_iadd {x y : Int32} (hd : Dc bytes pc (.iadd) 1 pc')  (hr : Wp b l Z own nm bytes maxL ret R H k j pc' Ls (.int (x + y) :: st) Q) : Wp b l Z own nm bytes maxL ret R H k j pc Ls (.int y :: .int x :: st) Q := by
  obtain ⟨hd, rfl⟩ := hd
  exact Wp.step (fun p e s m args below meth c T L Dh hx hZ hby hown X hH target ht => XS.iadd X.here hx rfl (hb hby hd) rfl ht) hr
theorem wp_isub {x y : Int32} (hd : Dc bytes pc (.isub) 1 pc')  (hr : Wp b l Z own nm bytes maxL ret R H k j pc' Ls (.int (x - y) :: st) Q) : Wp b l Z own nm bytes maxL ret R H k j pc Ls (.int y :: .int x :: st) Q := by
  obtain ⟨hd, rfl⟩ := hd
  exact Wp.step (fun p e s m args below meth c T L Dh hx hZ hby hown X hH target ht => XS.isub X.here hx rfl (hb hby hd) rfl ht) hr
theorem wp_iand {x y : Int32} (hd : Dc bytes pc (.iand) 1 pc')  (hr : Wp b l Z own nm bytes maxL ret R H k j pc' Ls (.int (x &&& y) :: st) Q) : Wp b l Z own nm bytes maxL ret R H k j pc Ls (.int y :: .int x :: st) Q := by
  obtain ⟨hd, rfl⟩ := hd
  exact Wp.step (fun p e s m args below meth c T L Dh hx hZ hby hown X hH target ht => XS.iand X.here hx rfl (hb hby hd) rfl ht) hr
theorem wp_ishr {x y : Int32} (hd : Dc bytes pc (.ishr) 1 pc')  (hr : Wp b l Z own nm bytes maxL ret R H k j pc' Ls (.int (x >>> (y &&& 31)) :: st) Q) : Wp b l Z own nm bytes maxL ret R H k j pc Ls (.int y :: .int x :: st) Q := by
  obtain ⟨hd, rfl⟩ := hd
  exact Wp.step (fun p e s m args below meth c T L Dh hx hZ hby hown X hH target ht => XT.ishr X.here hx rfl (hb hby hd) rfl ht) hr
theorem wp_iushr {x y : Int32} (hd : Dc bytes pc (.iushr) 1 pc')  (hr : Wp b l Z own nm bytes maxL ret R H k j pc' Ls (.int (XT.ushr x y) :: st) Q) : Wp b l Z own nm bytes maxL ret R H k j pc Ls (.int y :: .int x :: st) Q := by
  obtain ⟨hd, rfl⟩ := hd
  exact Wp.step (fun p e s m args below meth c T L Dh hx hZ hby hown X hH target ht => XT.iushr X.here hx rfl (hb hby hd) rfl ht) hr
theorem wp_irem {x y : Int32} (hd : Dc bytes pc (.irem) 1 pc') (hy : y ≠ 0) (hr : Wp b l Z own nm bytes maxL ret R H k j pc' Ls (.int (x % y) :: st) Q) : Wp b l Z own nm bytes maxL ret R H k j pc Ls (.int y :: .int x :: st) Q := by
  obtain ⟨hd, rfl⟩ := hd
  exact Wp.step (fun p e s m args below meth c T L Dh hx hZ hby hown X hH target ht => iremM X hx rfl (hb hby hd) rfl hy ht) hr
theorem wp_i2b {x : Int32} (hd : Dc bytes pc (.i2b) 1 pc')  (hr : Wp b l Z own nm bytes maxL ret R H k j pc' Ls (.int x.toInt8.toInt32 :: st) Q) : Wp b l Z own nm bytes maxL ret R H k j pc Ls (.int x :: st) Q := by
  obtain ⟨hd, rfl⟩ := hd
  exact Wp.step (fun p e s m args below meth c T L Dh hx hZ hby hown X hH target ht => XT.i2b X.here hx rfl (hb hby hd) rfl ht) hr
theorem wp_i2c {x : Int32} (hd : Dc bytes pc (.i2c) 1 pc')  (hr : Wp b l Z own nm bytes maxL ret R H k j pc' Ls (.int x.toUInt32.toUInt16.toUInt32.toInt32 :: st) Q) : Wp b l Z own nm bytes maxL ret R H k j pc Ls (.int x :: st) Q := by
  obtain ⟨hd, rfl⟩ := hd
  exact Wp.step (fun p e s m args below meth c T L Dh hx hZ hby hown X hH target ht => XT.i2c X.here hx rfl (hb hby hd) rfl ht) hr
theorem wp_iload_n {n : Fin 4} {v : Int32} (hd : Dc bytes pc (.iload_n n) 1 pc') (hl : Ls[n.val]? = some (.val (.int v))) (hr : Wp b l Z own nm bytes maxL ret R H k j pc' Ls (.int v :: st) Q) : Wp b l Z own nm bytes maxL ret R H k j pc Ls st Q := by
  obtain ⟨hd, rfl⟩ := hd
  exact Wp.step (fun p e s m args below meth c T L Dh hx hZ hby hown X hH target ht => XS.iloadN X.here hx rfl (hb hby hd) hl ht) hr
theorem wp_iload {n : Nat} {v : Int32} (hd : Dc bytes pc (.iload n) 2 pc') (hl : Ls[n]? = some (.val (.int v))) (hr : Wp b l Z own nm bytes maxL ret R H k j pc' Ls (.int v :: st) Q) : Wp b l Z own nm bytes maxL ret R H k j pc Ls st Q := by
  obtain ⟨hd, rfl⟩ := hd
  exact Wp.step (fun p e s m args below meth c T L Dh hx hZ hby hown X hH target ht => XS.iload X.here hx rfl (hb hby hd) hl ht) hr
theorem wp_aload_n {n : Fin 4} {v : Value} (hd : Dc bytes pc (.aload_n n) 1 pc') (hl : Ls[n.val]? = some (.val v)) (hv : v.isRef = true) (hr : Wp b l Z own nm bytes maxL ret R H k j pc' Ls (v :: st) Q) : Wp b l Z own nm bytes maxL ret R H k j pc Ls st Q := by
  obtain ⟨hd, rfl⟩ := hd
  exact Wp.step (fun p e s m args below meth c T L Dh hx hZ hby hown X hH target ht => XS.aloadN X.here hx rfl (hb hby hd) hl hv ht) hr
theorem wp_aload {n : Nat} {v : Value} (hd : Dc bytes pc (.aload n) 2 pc') (hl : Ls[n]? = some (.val v)) (hv : v.isRef = true) (hr : Wp b l Z own nm bytes maxL ret R H k j pc' Ls (v :: st) Q) : Wp b l Z own nm bytes maxL ret R H k j pc Ls st Q := by
  obtain ⟨hd, rfl⟩ := hd
  exact Wp.step (fun p e s m args below meth c T L Dh hx hZ hby hown X hH target ht => XS.aload X.here hx rfl (hb hby hd) hl hv ht) hr
theorem wp_istore_n {n : Fin 4} {x : Int32} (Ls' : Array Slot) (hd : Dc bytes pc (.istore_n n) 1 pc') (hl : storeLocals Ls n.val (.int x) = some Ls') (hr : Wp b l Z own nm bytes maxL ret R H k j pc' Ls' st Q) : Wp b l Z own nm bytes maxL ret R H k j pc Ls (.int x :: st) Q := by
  obtain ⟨hd, rfl⟩ := hd
  exact Wp.step (fun p e s m args below meth c T L Dh hx hZ hby hown X hH target ht => XS.istoreN X.here hx rfl (hb hby hd) rfl hl ht) hr
theorem wp_istore {n : Nat} {x : Int32} (Ls' : Array Slot) (hd : Dc bytes pc (.istore n) 2 pc') (hl : storeLocals Ls n (.int x) = some Ls') (hr : Wp b l Z own nm bytes maxL ret R H k j pc' Ls' st Q) : Wp b l Z own nm bytes maxL ret R H k j pc Ls (.int x :: st) Q := by
  obtain ⟨hd, rfl⟩ := hd
  exact Wp.step (fun p e s m args below meth c T L Dh hx hZ hby hown X hH target ht => XS.istore X.here hx rfl (hb hby hd) rfl hl ht) hr
theorem wp_astore_n {n : Fin 4} {x : Value} (Ls' : Array Slot) (hd : Dc bytes pc (.astore_n n) 1 pc') (hv : x.isRef = true) (hl : storeLocals Ls n.val x = some Ls') (hr : Wp b l Z own nm bytes maxL ret R H k j pc' Ls' st Q) : Wp b l Z own nm bytes maxL ret R H k j pc Ls (x :: st) Q := by
  obtain ⟨hd, rfl⟩ := hd
  exact Wp.step (fun p e s m args below meth c T L Dh hx hZ hby hown X hH target ht => XS.astoreN X.here hx rfl (hb hby hd) rfl hv hl ht) hr
theorem wp_astore {n : Nat} {x : Value} (Ls' : Array Slot) (hd : Dc bytes pc (.astore n) 2 pc') (hv : x.isRef = true) (hl : storeLocals Ls n x = some Ls') (hr : Wp b l Z own nm bytes maxL ret R H k j pc' Ls' st Q) : Wp b l Z own nm bytes maxL ret R H k j pc Ls (x :: st) Q := by
  obtain ⟨hd, rfl⟩ := hd
  exact Wp.step (fun p e s m args below meth c T L Dh hx hZ hby hown X hH target ht => XS.astore X.here hx rfl (hb hby hd) rfl hv hl ht) hr
theorem wp_iinc {n : Nat} {c : Int} {x : Int32} (v : Int32) (Ls' : Array Slot) (hd : Dc bytes pc (.iinc n c) 3 pc') (hv : Int32.ofInt c = v) (hl : Ls[n]? = some (.val (.int x))) (hl' : storeLocals Ls n (.int (x + v)) = some Ls') (hr : Wp b l Z own nm bytes maxL ret R H k j pc' Ls' st Q) : Wp b l Z own nm bytes maxL ret R H k j pc Ls st Q := by
  obtain ⟨hd, rfl⟩ := hd
  exact Wp.step (fun p e s m args below meth c T L Dh hx hZ hby hown X hH target ht => XT.iincV X.here hx rfl v (hb hby hd) hv hl hl' ht) hr
theorem wp_iconst {i : Int} (v : Int32) (hd : Dc bytes pc (.iconst i) 1 pc') (hv : Int32.ofInt i = v) (hr : Wp b l Z own nm bytes maxL ret R H k j pc' Ls (.int v :: st) Q) : Wp b l Z own nm bytes maxL ret R H k j pc Ls st Q := by
  obtain ⟨hd, rfl⟩ := hd
  exact Wp.step (fun p e s m args below meth c T L Dh hx hZ hby hown X hH target ht => XT.iconstV X.here hx rfl v (hb hby hd) hv ht) hr
theorem wp_bipush {i : Int} (v : Int32) (hd : Dc bytes pc (.bipush i) 2 pc') (hv : (Int8.ofInt i).toInt32 = v) (hr : Wp b l Z own nm bytes maxL ret R H k j pc' Ls (.int v :: st) Q) : Wp b l Z own nm bytes maxL ret R H k j pc Ls st Q := by
  obtain ⟨hd, rfl⟩ := hd
  exact Wp.step (fun p e s m args below meth c T L Dh hx hZ hby hown X hH target ht => XT.bipushV X.here hx rfl v (hb hby hd) hv ht) hr
theorem wp_sipush {i : Int} (v : Int32) (hd : Dc bytes pc (.sipush i) 3 pc') (hv : (Int16.ofInt i).toInt32 = v) (hr : Wp b l Z own nm bytes maxL ret R H k j pc' Ls (.int v :: st) Q) : Wp b l Z own nm bytes maxL ret R H k j pc Ls st Q := by
  obtain ⟨hd, rfl⟩ := hd
  exact Wp.step (fun p e s m args below meth c T L Dh hx hZ hby hown X hH target ht => XT.sipushV X.here hx rfl v (hb hby hd) hv ht) hr
theorem wp_aconst_null  (hd : Dc bytes pc (.aconst_null) 1 pc')  (hr : Wp b l Z own nm bytes maxL ret R H k j pc' Ls (.null :: st) Q) : Wp b l Z own nm bytes maxL ret R H k j pc Ls st Q := by
  obtain ⟨hd, rfl⟩ := hd
  exact Wp.step (fun p e s m args below meth c T L Dh hx hZ hby hown X hH target ht => XS.aconstNull X.here hx rfl (hb hby hd)  ht) hr
theorem wp_dup {x : Value} (hd : Dc bytes pc (.dup) 1 pc') (hc : x.category = 1) (hr : Wp b l Z own nm bytes maxL ret R H k j pc' Ls (x :: x :: st) Q) : Wp b l Z own nm bytes maxL ret R H k j pc Ls (x :: st) Q := by
  obtain ⟨hd, rfl⟩ := hd
  exact Wp.step (fun p e s m args below meth c T L Dh hx hZ hby hown X hH target ht => XS.dup X.here hx rfl (hb hby hd) rfl hc ht) hr
theorem wp_pop {x : Value} (hd : Dc bytes pc (.pop) 1 pc') (hc : x.category = 1) (hr : Wp b l Z own nm bytes maxL ret R H k j pc' Ls st Q) : Wp b l Z own nm bytes maxL ret R H k j pc Ls (x :: st) Q := by
  obtain ⟨hd, rfl⟩ := hd
  exact Wp.step (fun p e s m args below meth c T L Dh hx hZ hby hown X hH target ht => XT.pop X.here hx rfl (hb hby hd) rfl hc ht) hr
theorem wp_ldcI {i : Nat} {v : Int32} (hd : Dc bytes pc (.ldc i) 2 pc') (w : (Cond.constant own i v).before a0 Z = true) (hr : Wp b l Z own nm bytes maxL ret R H k j pc' Ls (.int v :: st) Q) : Wp b l Z own nm bytes maxL ret R H k j pc Ls st Q := by
  obtain ⟨hd, rfl⟩ := hd
  exact Wp.step (fun p e s m args below meth c T L Dh hx hZ hby hown X hH target ht => Jvm.Stand.ldcI X hx hown (mvT hZ w) rfl (hb hby hd) ht) hr
theorem wp_goto {o : Int} {n pc'' : Nat} (hd : Dc bytes pc (.goto o) 3 n) (ht : Tg pc o pc'') (hr : Wp b l Z own nm bytes maxL ret R H k j pc'' Ls st Q) : Wp b l Z own nm bytes maxL ret R H k j pc Ls st Q :=
  Wp.step (fun p e s m args below meth c T L Dh hx hZ hby hown X hH target h => XS.goto X.here hx rfl rfl (hb hby hd.1) ht.1 ht.2 h) hr
theorem wp_icmp {cd : ClassFile.Cond} {o : Int} {x y : Int32} {pc'' : Nat} (hd : Dc bytes pc (.if_icmp cd o) 3 pc') (ht : Tg pc o pc'') (hy : if_icmp.holds cd x y = true → Wp b l Z own nm bytes maxL ret R H k j pc'' Ls st Q) (hn : if_icmp.holds cd x y = false → Wp b l Z own nm bytes maxL ret R H k j pc' Ls st Q) : Wp b l Z own nm bytes maxL ret R H k j pc Ls (.int y :: .int x :: st) Q := by
  obtain ⟨hd, rfl⟩ := hd
  cases hc : if_icmp.holds cd x y with
  | true => exact Wp.step (fun p e s m args below meth c T L Dh hx hZ hby hown X hH target h => XS.icmpYes X.here hx rfl rfl (hb hby hd) rfl hc ht.1 ht.2 h) (hy hc)
  | false => exact Wp.step (fun p e s m args below meth c T L Dh hx hZ hby hown X hH target h => XS.icmpNo X.here hx rfl (hb hby hd) rfl hc h) (hn hc)
theorem wp_if {cd : ClassFile.Cond} {o : Int} {x : Int32} {pc'' : Nat} (hd : Dc bytes pc (.ifCond cd o) 3 pc') (ht : Tg pc o pc'') (hy : ifCond.holds cd x = true → Wp b l Z own nm bytes maxL ret R H k j pc'' Ls st Q) (hn : ifCond.holds cd x = false → Wp b l Z own nm bytes maxL ret R H k j pc' Ls st Q) : Wp b l Z own nm bytes maxL ret R H k j pc Ls (.int x :: st) Q := by
  obtain ⟨hd, rfl⟩ := hd
  cases hc : ifCond.holds cd x with
  | true => exact Wp.step (fun p e s m args below meth c T L Dh hx hZ hby hown X hH target h => XS.ifYes X.here hx rfl rfl (hb hby hd) rfl hc ht.1 ht.2 h) (hy hc)
  | false => exact Wp.step (fun p e s m args below meth c T L Dh hx hZ hby hown X hH target h => XS.ifNo X.here hx rfl (hb hby hd) rfl hc h) (hn hc)
theorem icmp_holds (cd : ClassFile.Cond) (x y : Int32) : (if_icmp.holds .eq x y = decide (x = y)) ∧ (if_icmp.holds .ne x y = !decide (x = y)) ∧ (if_icmp.holds .lt x y = decide (x < y)) ∧ (if_icmp.holds .ge x y = !decide (x < y)) ∧ (if_icmp.holds .gt x y = decide (y < x)) ∧ (if_icmp.holds .le x y = !decide (y < x)) := by
  refine ⟨?_, ?_, ?_, ?_, ?_, ?_⟩
  · by_cases h : x = y <;> simp [h, if_icmp.holds]
  · by_cases h : x = y <;> simp [h, if_icmp.holds]
  · by_cases h : x < y <;> simp [h, if_icmp.holds]
  · by_cases h : x < y
    · simp [h, (tlt h).2.1]
    · simp [h, (flt h).2.1]
  · by_cases h : y < x
    · simp [h, (tlt h).2.2.1]
    · simp [h, (flt h).2.2.1]
  · by_cases h : y < x
    · simp [h, (tlt h).2.2.2]
    · simp [h, (flt h).2.2.2]
theorem wp_icmp_eq {o : Int} {x y : Int32} {pc'' : Nat} (hd : Dc bytes pc (.if_icmp .eq o) 3 pc') (ht : Tg pc o pc'') (hy : x = y → Wp b l Z own nm bytes maxL ret R H k j pc'' Ls st Q) (hn : ¬ x = y → Wp b l Z own nm bytes maxL ret R H k j pc' Ls st Q) : Wp b l Z own nm bytes maxL ret R H k j pc Ls (.int y :: .int x :: st) Q :=
  wp_icmp hd ht (fun h => hy (by rw [(icmp_holds .eq x y).1] at h; simpa using h)) (fun h => hn (by rw [(icmp_holds .eq x y).1] at h; simpa using h))
theorem wp_if_eq {o : Int} {x : Int32} {pc'' : Nat} (hd : Dc bytes pc (.ifCond .eq o) 3 pc') (ht : Tg pc o pc'') (hy : x = 0 → Wp b l Z own nm bytes maxL ret R H k j pc'' Ls st Q) (hn : ¬ x = 0 → Wp b l Z own nm bytes maxL ret R H k j pc' Ls st Q) : Wp b l Z own nm bytes maxL ret R H k j pc Ls (.int x :: st) Q :=
  wp_if hd ht (fun h => hy (by rw [if0, (icmp_holds .eq x 0).1] at h; simpa using h)) (fun h => hn (by rw [if0, (icmp_holds .eq x 0).1] at h; simpa using h))
theorem wp_icmp_ne {o : Int} {x y : Int32} {pc'' : Nat} (hd : Dc bytes pc (.if_icmp .ne o) 3 pc') (ht : Tg pc o pc'') (hy : ¬ x = y → Wp b l Z own nm bytes maxL ret R H k j pc'' Ls st Q) (hn : x = y → Wp b l Z own nm bytes maxL ret R H k j pc' Ls st Q) : Wp b l Z own nm bytes maxL ret R H k j pc Ls (.int y :: .int x :: st) Q :=
  wp_icmp hd ht (fun h => hy (by rw [(icmp_holds .eq x y).2.1] at h; simpa using h)) (fun h => hn (by rw [(icmp_holds .eq x y).2.1] at h; simpa using h))
theorem wp_if_ne {o : Int} {x : Int32} {pc'' : Nat} (hd : Dc bytes pc (.ifCond .ne o) 3 pc') (ht : Tg pc o pc'') (hy : ¬ x = 0 → Wp b l Z own nm bytes maxL ret R H k j pc'' Ls st Q) (hn : x = 0 → Wp b l Z own nm bytes maxL ret R H k j pc' Ls st Q) : Wp b l Z own nm bytes maxL ret R H k j pc Ls (.int x :: st) Q :=
  wp_if hd ht (fun h => hy (by rw [if0, (icmp_holds .eq x 0).2.1] at h; simpa using h)) (fun h => hn (by rw [if0, (icmp_holds .eq x 0).2.1] at h; simpa using h))
theorem wp_icmp_lt {o : Int} {x y : Int32} {pc'' : Nat} (hd : Dc bytes pc (.if_icmp .lt o) 3 pc') (ht : Tg pc o pc'') (hy : x < y → Wp b l Z own nm bytes maxL ret R H k j pc'' Ls st Q) (hn : ¬ x < y → Wp b l Z own nm bytes maxL ret R H k j pc' Ls st Q) : Wp b l Z own nm bytes maxL ret R H k j pc Ls (.int y :: .int x :: st) Q :=
  wp_icmp hd ht (fun h => hy (by rw [(icmp_holds .eq x y).2.2.1] at h; simpa using h)) (fun h => hn (by rw [(icmp_holds .eq x y).2.2.1] at h; simpa using h))
theorem wp_if_lt {o : Int} {x : Int32} {pc'' : Nat} (hd : Dc bytes pc (.ifCond .lt o) 3 pc') (ht : Tg pc o pc'') (hy : x < 0 → Wp b l Z own nm bytes maxL ret R H k j pc'' Ls st Q) (hn : ¬ x < 0 → Wp b l Z own nm bytes maxL ret R H k j pc' Ls st Q) : Wp b l Z own nm bytes maxL ret R H k j pc Ls (.int x :: st) Q :=
  wp_if hd ht (fun h => hy (by rw [if0, (icmp_holds .eq x 0).2.2.1] at h; simpa using h)) (fun h => hn (by rw [if0, (icmp_holds .eq x 0).2.2.1] at h; simpa using h))
theorem wp_icmp_ge {o : Int} {x y : Int32} {pc'' : Nat} (hd : Dc bytes pc (.if_icmp .ge o) 3 pc') (ht : Tg pc o pc'') (hy : ¬ x < y → Wp b l Z own nm bytes maxL ret R H k j pc'' Ls st Q) (hn : x < y → Wp b l Z own nm bytes maxL ret R H k j pc' Ls st Q) : Wp b l Z own nm bytes maxL ret R H k j pc Ls (.int y :: .int x :: st) Q :=
  wp_icmp hd ht (fun h => hy (by rw [(icmp_holds .eq x y).2.2.2.1] at h; simpa using h)) (fun h => hn (by rw [(icmp_holds .eq x y).2.2.2.1] at h; simpa using h))
theorem wp_if_ge {o : Int} {x : Int32} {pc'' : Nat} (hd : Dc bytes pc (.ifCond .ge o) 3 pc') (ht : Tg pc o pc'') (hy : ¬ x < 0 → Wp b l Z own nm bytes maxL ret R H k j pc'' Ls st Q) (hn : x < 0 → Wp b l Z own nm bytes maxL ret R H k j pc' Ls st Q) : Wp b l Z own nm bytes maxL ret R H k j pc Ls (.int x :: st) Q :=
  wp_if hd ht (fun h => hy (by rw [if0, (icmp_holds .eq x 0).2.2.2.1] at h; simpa using h)) (fun h => hn (by rw [if0, (icmp_holds .eq x 0).2.2.2.1] at h; simpa using h))
theorem wp_icmp_gt {o : Int} {x y : Int32} {pc'' : Nat} (hd : Dc bytes pc (.if_icmp .gt o) 3 pc') (ht : Tg pc o pc'') (hy : y < x → Wp b l Z own nm bytes maxL ret R H k j pc'' Ls st Q) (hn : ¬ y < x → Wp b l Z own nm bytes maxL ret R H k j pc' Ls st Q) : Wp b l Z own nm bytes maxL ret R H k j pc Ls (.int y :: .int x :: st) Q :=
  wp_icmp hd ht (fun h => hy (by rw [(icmp_holds .eq x y).2.2.2.2.1] at h; simpa using h)) (fun h => hn (by rw [(icmp_holds .eq x y).2.2.2.2.1] at h; simpa using h))
theorem wp_icmp_le {o : Int} {x y : Int32} {pc'' : Nat} (hd : Dc bytes pc (.if_icmp .le o) 3 pc') (ht : Tg pc o pc'') (hy : ¬ y < x → Wp b l Z own nm bytes maxL ret R H k j pc'' Ls st Q) (hn : y < x → Wp b l Z own nm bytes maxL ret R H k j pc' Ls st Q) : Wp b l Z own nm bytes maxL ret R H k j pc Ls (.int y :: .int x :: st) Q :=
  wp_icmp hd ht (fun h => hy (by rw [(icmp_holds .eq x y).2.2.2.2.2] at h; simpa using h)) (fun h => hn (by rw [(icmp_holds .eq x y).2.2.2.2.2] at h; simpa using h))
theorem wp_if_le {o : Int} {x : Int32} {pc'' : Nat} (hd : Dc bytes pc (.ifCond .le o) 3 pc') (ht : Tg pc o pc'') (hy : ¬ 0 < x → Wp b l Z own nm bytes maxL ret R H k j pc'' Ls st Q) (hn : 0 < x → Wp b l Z own nm bytes maxL ret R H k j pc' Ls st Q) : Wp b l Z own nm bytes maxL ret R H k j pc Ls (.int x :: st) Q :=
  wp_if hd ht (fun h => hy (by rw [if0, (icmp_holds .eq x 0).2.2.2.2.2] at h; simpa using h)) (fun h => hn (by rw [if0, (icmp_holds .eq x 0).2.2.2.2.2] at h; simpa using h))
theorem wp_ifnull_n {o : Int} {x : Addr} (hd : Dc bytes pc (.ifnull o) 3 pc') (hr : Wp b l Z own nm bytes maxL ret R H k j pc' Ls st Q) : Wp b l Z own nm bytes maxL ret R H k j pc Ls (.ref x :: st) Q := by
  obtain ⟨hd, rfl⟩ := hd
  exact Wp.step (fun p e s m args below meth c T L Dh hx hZ hby hown X hH target h => XS.ifnullNo X.here hx rfl (hb hby hd) rfl h) hr
theorem wp_return  (hd : Dc bytes pc .return_ 1 pc') (hr : ret = none) (hk : k ≤ R.cells) (hj : j ≤ R.slots) (hQ : Q none H) : Wp b l Z own nm bytes maxL ret R H k j pc Ls [] Q :=
  fun p e s vm0 k0 m args below meth c T L Dh hx hZ hS hkz hby hml hown hnm hret X N hH hB => ⟨T, none, L, k, j, vm0, k0, H, ⟨hS, hkz, fun _ => rfl⟩, X, ⟨hk, hj, Nat.le_refl _⟩, N, ⟨Dh, hH, fun _ => rfl, hB⟩, fun h => by first | rfl | (rw [hr] at h; cases h), hQ, fun fs hl => X.returnOut hx (hret.trans hr) (hb hby hd.1) hl⟩
theorem wp_ireturn {x : Int32} (hd : Dc bytes pc .ireturn 1 pc') (hr : ret = some .int) (hk : k ≤ R.cells) (hj : j ≤ R.slots) (hQ : Q (some (.int x)) H) : Wp b l Z own nm bytes maxL ret R H k j pc Ls (.int x :: st) Q :=
  fun p e s vm0 k0 m args below meth c T L Dh hx hZ hS hkz hby hml hown hnm hret X N hH hB => ⟨T, (some (.int x)), L, k, j, vm0, k0, H, ⟨hS, hkz, fun _ => rfl⟩, X, ⟨hk, hj, Nat.le_refl _⟩, N, ⟨Dh, hH, fun _ => rfl, hB⟩, fun h => by first | rfl | (rw [hr] at h; cases h), hQ, fun fs hl => retOut X hx (hret.trans hr) rfl (Or.inl ⟨rfl, Or.inl rfl, x, rfl⟩) (hb hby hd.1) hl⟩
theorem wp_ireturnN {x : Int32} {t : FieldType} (hd : Dc bytes pc .ireturn 1 pc') (hr : ret = some t) (ht : t = .boolean ∨ t = .byte ∨ t = .char ∨ t = .short) (hk : k ≤ R.cells) (hj : j ≤ R.slots) (hQ : Q (some (.int (nar t x))) H) : Wp b l Z own nm bytes maxL ret R H k j pc Ls (.int x :: st) Q :=
  fun p e s vm0 k0 m args below meth c T L Dh hx hZ hS hkz hby hml hown hnm hret X N hH hB => ⟨T, (some (.int (nar t x))), L, k, j, vm0, k0, H, ⟨hS, hkz, fun _ => rfl⟩, X, ⟨hk, hj, Nat.le_refl _⟩, N, ⟨Dh, hH, fun _ => rfl, hB⟩, fun h => by first | rfl | (rw [hr] at h; cases h), hQ, fun fs hl => retN X hx (hret.trans hr) ht (hb hby hd.1) hl⟩
theorem wp_areturn {x : Value} {t : FieldType} (hd : Dc bytes pc .areturn 1 pc') (hr : ret = some t) (ht : t.isReference = true) (hn : narrow t x = x) (hv : x.isRef = true) (hk : k ≤ R.cells) (hj : j ≤ R.slots) (hQ : Q (some x) H) : Wp b l Z own nm bytes maxL ret R H k j pc Ls (x :: st) Q :=
  fun p e s vm0 k0 m args below meth c T L Dh hx hZ hS hkz hby hml hown hnm hret X N hH hB => ⟨T, (some x), L, k, j, vm0, k0, H, ⟨hS, hkz, fun _ => rfl⟩, X, ⟨hk, hj, Nat.le_refl _⟩, N, ⟨Dh, hH, fun _ => rfl, hB⟩, fun h => by first | rfl | (rw [hr] at h; cases h), hQ, fun fs hl => retOut X hx (hret.trans hr) hn (Or.inr (Or.inr (Or.inr (Or.inr ⟨rfl, ht, hv⟩)))) (hb hby hd.1) hl⟩
def FldAt (Z : State) (H : OH) (a : Addr) (O n d : String) (v : Value) : Prop := ∀ {Dh : HD} (h : Heap), Hp Z Dh h H → Fld Z h a O n d v
def ExaAt (Z : State) (H : OH) (a : Addr) (C : String) : Prop := ∀ {Dh : HD} (h : Heap), Hp Z Dh h H → Exa Z h a C
theorem fld_new {i fi : Nat} {a : Addr} {fl : Bool} {C O n d : String} {sg : OSig} {vs : List Value} {v : Value} (hi : H[i]? = some (a, (fl, .inl (C, sg, vs)))) (hf : sg[fi]? = some (O, n, d)) (hv : vs[fi]? = some v) : FldAt Z H a O n d v := fun h P => (P.at hi).2.2.2 fi _ v hf hv
theorem exa_new {i : Nat} {a : Addr} {fl : Bool} {C : String} {sg : OSig} {vs : List Value} (hi : H[i]? = some (a, (fl, .inl (C, sg, vs)))) : ExaAt Z H a C := fun h P => (P.at hi).2.1
theorem wp_getfield {a : Addr} {O n d : String} {v : Value} {idx : Nat} (hd : Dc bytes pc (.getfield idx) 3 pc') (w : (Cond.fieldLink own idx O n d).before a0 Z = true) (F : FldAt Z H a O n d v) (hr : Wp b l Z own nm bytes maxL ret R H k j pc' Ls (v :: st) Q) : Wp b l Z own nm bytes maxL ret R H k j pc Ls (.ref a :: st) Q := by
  obtain ⟨hd, rfl⟩ := hd
  refine Wp.stepH fun p e s m args below meth c T L Dh hx hZ hby hml hown hnm hret X N hH => ?_
  obtain ⟨T', X', e', stp⟩ := getF X hx hZ hown (host := "") (Or.inl w) Via.refl rfl (F _ hH) (g := mkF m pc Ls (.ref a :: st)) rfl rfl (hb hby hd)
  exact ⟨T', L, k, j, H, _, Ls, v :: st, X', by rw [e']; exact Nat.le_refl _, N, by rw [e']; exact hH, hr, stp⟩
theorem wp_getstatic {O n d : String} {v : Value} {idx : Nat} (hd : Dc bytes pc (.getstatic idx) 3 pc') (w : (Cond.fieldLink own idx O n d).before a0 Z = true) (F : Sta Z Z.heap O n d v) (hr : Wp b l Z own nm bytes maxL ret R H k j pc' Ls (v :: st) Q) : Wp b l Z own nm bytes maxL ret R H k j pc Ls st Q := by
  obtain ⟨hd, rfl⟩ := hd
  refine Wp.stepH fun p e s m args below meth c T L Dh hx hZ hby hml hown hnm hret X N hH => ?_
  obtain ⟨T', X', e', stp⟩ := getS (host := "") X hx hZ hown w Via.refl rfl (F.ext hH.1) (g := mkF m pc Ls st) rfl (hb hby hd)
  exact ⟨T', L, k, j, H, _, Ls, v :: st, X', by rw [e']; exact Nat.le_refl _, N, by rw [e']; exact hH, hr, stp⟩
theorem Sat.put {h h' : Heap} {a : Addr} {C O n d : String} {sg : OSig} {vs : List Value} {fi : Nat} {v : Value} (S : Sat Z h a (.inl (C, sg, vs))) (hf : sg[fi]? = some (O, n, d)) (W : Wr h h' a (Jvm.RoadKit.slotOf Z O n d) v) : Sat Z h' a (.inl (C, sg, vs.set fi v)) := by
  obtain ⟨S1, S2, S3⟩ := S
  refine ⟨S1.wr W, S2, fun i f u q r => ?_⟩
  rw [List.getElem?_set] at r
  split at r
  · rename_i e; subst e
    split at r
    · rename_i hlt
      cases r
      cases hf.symm.trans q
      exact (S3 fi _ _ hf (List.getElem?_eq_getElem hlt)).same W
    · cases r
  · rename_i ne
    refine (S3 i f u q r).other W (Or.inr ?_)
    have hP := List.pairwise_iff_getElem.mp S2
    obtain ⟨h1, e1⟩ := List.getElem?_eq_some_iff.mp q
    obtain ⟨h2, e2⟩ := List.getElem?_eq_some_iff.mp hf
    rcases Nat.lt_or_gt_of_ne ne with u | u
    · have := hP fi i h2 h1 u; rw [e1, e2] at this; exact Ne.symm this
    · have := hP i fi h1 h2 u; rw [e1, e2] at this; exact this
theorem wp_putfield {i fi kk : Nat} {a : Addr} {C O n d : String} {sg : OSig} {vs : List Value} {v old : Value} {ty : FieldType} {idx : Nat} (hd : Dc bytes pc (.putfield idx) 3 pc') (w : (Cond.fieldLink own idx O n d).before a0 Z = true) (hi : H[i]? = some (a, oI C sg vs)) (hf : sg[fi]? = some (O, n, d)) (ho : vs[fi]? = some old) (L0 : (Cond.lays C O n d).before a0 Z = true ∨ ((Cond.laysFinal C O n d).before a0 Z = true ∧ own = O ∧ nm = "<init>")) (wi : (Cond.instantiable C kk).before a0 Z = true) (hty : parseFieldDescriptor d = some ty) (hn : narrow ty v = v) (hfit : fits ty v = true) (hr : Wp b l Z own nm bytes maxL ret R (H.set i (a, oI C sg (vs.set fi v))) k j pc' Ls st Q) : Wp b l Z own nm bytes maxL ret R H k j pc Ls (v :: .ref a :: st) Q := by
  obtain ⟨hd, rfl⟩ := hd
  refine Wp.stepH fun p e s m args below meth c T L Dh hx hZ hby hml hown hnm hret X N hH => ?_
  have S := (hH.at hi).2
  obtain ⟨T', h', X', e', W', stp⟩ := putF X hx hZ hown (host := "") (Or.inl w) Via.refl rfl (S.2.2 fi _ _ hf ho) S.1 (L0.imp id fun q => ⟨q.1, q.2.1, hnm.trans q.2.2⟩) wi hty hn hfit (g := mkF m pc Ls (v :: .ref a :: st)) rfl rfl (hb hby hd)
  subst e'
  exact ⟨T', _, k, j, _, _, Ls, st, X', by rw [W'.size]; exact Nat.le_refl _, Fr.snoc X' N ((hH.at hi).1 rfl), hH.set hi W' (S.put hf W'), hr, stp⟩
def Dfl : OSig → List Value → Prop
  | [], [] => True
  | f :: sg, v :: vs => (∃ ty, parseFieldDescriptor f.2.2 = some ty ∧ defaultValue ty = v) ∧ Dfl sg vs
  | _, _ => False
theorem Dfl.at : ∀ {sg : OSig} {vs : List Value}, Dfl sg vs → ∀ (i : Nat) (f : String × String × String) (v : Value), sg[i]? = some f → vs[i]? = some v → ∃ ty, parseFieldDescriptor f.2.2 = some ty ∧ defaultValue ty = v
  | [], [], _, i, f, v, q, _ => by simp at q
  | f :: sg, v :: vs, D, 0, f', v', q, r => by simp at q r; subst q r; exact D.1
  | f :: sg, v :: vs, D, i + 1, f', v', q, r => D.2.at i f' v' (by simpa using q) (by simpa using r)
  | [], _ :: _, D, _, _, _, _, _ => D.elim
  | _ :: _, [], D, _, _, _, _, _ => D.elim
theorem Dfl.parse : ∀ {sg : OSig} {vs : List Value}, Dfl sg vs → ∀ f ∈ sg, ∃ ty, parseFieldDescriptor f.2.2 = some ty
  | [], [], _, f, q => by simp at q
  | g :: sg, v :: vs, D, f, q => (List.mem_cons.mp q).elim (fun e => by subst e; exact ⟨D.1.choose, D.1.choose_spec.1⟩) (D.2.parse f)
  | [], _ :: _, D, _, _ => D.elim
  | _ :: _, [], D, _, _ => D.elim
theorem slo_of {C : String} {sg : OSig} {vs : List Value} (D : Dfl sg vs) (hL : ∀ f ∈ sg, Laid Z a0 C f.1 f.2.1 f.2.2) (hn : (sg.map fun f => f.2.1).Nodup) : Slo Z sg := by
  have h1 : sg.Pairwise fun f g => f.2.1 ≠ g.2.1 := List.pairwise_map.mp hn
  refine List.Pairwise.imp_of_mem (fun {f g} hf hg ne => ?_) h1
  obtain ⟨t, ht⟩ := D.parse f hf
  obtain ⟨t', ht'⟩ := D.parse g hg
  exact slot_ne (hL f hf) (hL g hg) ne ht ht'
theorem all_nil {α : Type} {P : α → Prop} : ∀ x ∈ ([] : List α), P x := fun _ q => nomatch q
theorem all_cons {α : Type} {P : α → Prop} {y : α} {L : List α} (q : P y) (r : ∀ x ∈ L, P x) : ∀ x ∈ y :: L, P x := fun x z => (List.mem_cons.mp z).elim (fun u => u ▸ q) (r x)
theorem wp_new {C : String} {idx n : Nat} (sg : OSig) (vs : List Value) (hd : Dc bytes pc (.new idx) 3 pc') (w : (Cond.classLink own idx C).before a0 Z = true) (wi : (Cond.instantiable C n).before a0 Z = true) (wz : (Cond.initialized C).before a0 Z = true) (hL : ∀ f ∈ sg, Laid Z a0 C f.1 f.2.1 f.2.2) (hn : (sg.map fun f => f.2.1).Nodup) (D : Dfl sg vs) (hc : k + 1 ≤ R.cells) (hl : j + n ≤ R.slots) (hr : ∀ a, Wp b l Z own nm bytes maxL ret R ((a, oI C sg vs) :: H) (k + 1) (j + n) pc' Ls (.ref a :: st) Q) : Wp b l Z own nm bytes maxL ret R H k j pc Ls st Q := by
  obtain ⟨hd, rfl⟩ := hd
  refine Wp.stepH fun p e s m args below meth c T L Dh hx hZ hby hml hown hnm hret X N hH => ?_
  obtain ⟨T', h', X', e', E', A', D', -, stp⟩ := newO X hx hZ hown w wi wz rfl (g := mkF m pc Ls st) rfl (hb hby hd) hc hl
  subst e'
  refine ⟨T', L, _, _, _, _, Ls, _, X', E'.1, N, hH.cons E' (o := .inl (C, sg, vs)) ⟨A', slo_of D hL hn, fun i f v q r => ?_⟩, hr _, stp⟩
  obtain ⟨ty, t1, t2⟩ := D.at i f v q r
  rw [← t2]
  exact D' (hL f (List.mem_of_getElem? q)) t1
theorem wp_initO {a : Addr} {idx : Nat} (hd : Dc bytes pc (.invokespecial idx) 3 pc') (w1 : (Cond.methodLink own idx Lib.objectInit).before a0 Z = true) (w2 : (Cond.instanceMethod Lib.objectInit).before a0 Z = true) (w3 : (Cond.code Lib.objectInit ⟨#[0xb1]⟩ 1 none).before a0 Z = true) (hsz : Ls.size = maxL) (hf : 1 ≤ R.frames) (hl : (st.map fun v => v.category).sum + 12 ≤ R.locals) (hr : Wp b l Z own nm bytes maxL ret R H k j pc' Ls st Q) : Wp b l Z own nm bytes maxL ret R H k j pc Ls (.ref a :: st) Q := by
  obtain ⟨hd, rfl⟩ := hd
  refine Wp.stepH fun p e s m args below meth c T L Dh hx hZ hby hml hown hnm hret X N hH => ?_
  obtain ⟨T', X', e', stp⟩ := initO X hx hZ hown w1 w2 w3 rfl (g := mkF m pc Ls (.ref a :: st)) rfl (by rw [hml]; exact hsz) rfl (hb hby hd) hf (W := (st.map fun v => v.category).sum) (by show 2 * 0 + _ ≤ _; omega) hl
  exact ⟨T', L, k, j, H, _, Ls, st, X', by rw [e']; exact Nat.le_refl _, N, by rw [e']; exact hH, hr, stp⟩
theorem wp_newarrayI {aty : ArrayType} {ty : FieldType} {n : Int32} (cnt cap : Nat) (hd : Dc bytes pc (.newarray aty) 2 pc') (hty : newarray.typeOf aty = ty) (hdef : defaultValue ty = .int 0) (hfz : fits ty (.int 0) = true) (w : (Cond.arrayClass ty).before a0 Z = true) (hn : ¬ n < 0) (hcnt : n.toNatClampNeg = cnt) (hcap : cnt ≤ cap) (hb8 : cap * 8 ≤ 536870912) (hc : k + 1 ≤ R.cells) (hl : j + cap ≤ R.slots) (hr : ∀ a, Wp b l Z own nm bytes maxL ret R ((a, oA ty (List.replicate cnt 0)) :: H) (k + 1) (j + cap) pc' Ls (.ref a :: st) Q) : Wp b l Z own nm bytes maxL ret R H k j pc Ls (.int n :: st) Q := by
  obtain ⟨hd, rfl⟩ := hd
  subst hty
  refine Wp.stepH fun p e s m args below meth c T L Dh hx hZ hby hml hown hnm hret X N hH => ?_
  obtain ⟨T', h', cA, X', e', E', A', B', stp⟩ := newPE X hx hZ w rfl (g := mkF m pc Ls (.int n :: st)) rfl (hb hby hd) rfl hn (cap := cap) (by rw [hcnt]; exact hcap) hb8 hc hl rfl
  subst e'
  refine ⟨T', L, _, _, _, _, Ls, _, X', E'.1, N, hH.cons E' (o := .inr (.inl (_, List.replicate cnt 0))) ⟨Or.inr B', _, A', ?_, fun x hx => ?_⟩, hr _, stp⟩
  · simp [newA, hcnt, hdef]
  · rw [(List.mem_replicate.mp hx).2]; exact hfz
theorem in_of {j : Int32} {xs : List Value} {c : Cell} {v : Value} (hs : c.slots = xs.toArray) (hj : ¬ j < 0) (hv : xs[j.toNatClampNeg]? = some v) : ¬ (j < 0 ∨ c.slots.size ≤ j.toNatClampNeg) ∧ c.slots[j.toNatClampNeg]? = some v := by
  have h1 := (List.getElem?_eq_some_iff.mp hv).1
  refine ⟨fun q => q.elim hj fun r => ?_, by rw [hs]; simpa using hv⟩
  rw [hs] at r; simp at r; omega
theorem setSlot_list {c : Cell} {xs : List Value} {n : Nat} {v : Value} (hs : c.slots = xs.toArray) : (c.setSlot n v).slots = (xs.set n v).toArray := by simp [Cell.setSlot, hs]
theorem wp_caload {i : Nat} {a : Addr} {fl : Bool} {xs : List Int32} {n x : Int32} (m : Nat) (hd : Dc bytes pc .caload 1 pc') (hi : H[i]? = some (a, (fl, .inr (.inl (.char, xs))))) (hn : ¬ n < 0) (hm : n.toNatClampNeg = m) (hv : xs[m]? = some x) (hr : Wp b l Z own nm bytes maxL ret R H k j pc' Ls (.int x :: st) Q) : Wp b l Z own nm bytes maxL ret R H k j pc Ls (.int n :: .ref a :: st) Q := by
  obtain ⟨hd, rfl⟩ := hd
  refine Wp.step (fun p e s m args below meth c T L Dh hx hZ hby hown X hH target h => ?_) hr
  obtain ⟨-, cl, A, hs, -⟩ := (hH.at hi).2
  obtain ⟨h1, h2⟩ := in_of hs hn (v := .int x) (by rw [hm]; simpa using hv)
  exact X.caload hx A.1 (State.isArrayOf_alike hZ.alike A.2.1) A.2.2 h1 h2 (g := mkF m pc Ls (.int n :: .ref a :: st)) rfl rfl (hb hby hd) _ h
theorem wp_baload {i : Nat} {a : Addr} {fl : Bool} {xs : List Int32} {n x : Int32} (m : Nat) (hd : Dc bytes pc .baload 1 pc') (hi : H[i]? = some (a, (fl, .inr (.inl (.byte, xs))))) (hn : ¬ n < 0) (hm : n.toNatClampNeg = m) (hv : xs[m]? = some x) (hr : Wp b l Z own nm bytes maxL ret R H k j pc' Ls (.int x :: st) Q) : Wp b l Z own nm bytes maxL ret R H k j pc Ls (.int n :: .ref a :: st) Q := by
  obtain ⟨hd, rfl⟩ := hd
  refine Wp.step (fun p e s m args below meth c T L Dh hx hZ hby hown X hH target h => ?_) hr
  obtain ⟨-, cl, A, hs, -⟩ := (hH.at hi).2
  obtain ⟨h1, h2⟩ := in_of hs hn (v := .int x) (by rw [hm]; simpa using hv)
  exact X.baloadBytes hx A.1 (State.isArrayOf_alike hZ.alike A.2.1) A.2.2 h1 h2 (g := mkF m pc Ls (.int n :: .ref a :: st)) rfl rfl (hb hby hd) _ h
theorem wp_lengthI {i : Nat} {a : Addr} {fl : Bool} {ty : FieldType} {xs : List Int32} (n : Int32) (hd : Dc bytes pc .arraylength 1 pc') (hi : H[i]? = some (a, (fl, .inr (.inl (ty, xs))))) (hn : xs.length.toInt32 = n) (hr : Wp b l Z own nm bytes maxL ret R H k j pc' Ls (.int n :: st) Q) : Wp b l Z own nm bytes maxL ret R H k j pc Ls (.ref a :: st) Q := by
  obtain ⟨hd, rfl⟩ := hd
  refine Wp.step (fun p e s m args below meth c T L Dh hx hZ hby hown X hH target h => ?_) hr
  obtain ⟨-, cl, A, hs, -⟩ := (hH.at hi).2
  refine X.arraylength hx A.1 (State.isArrayOf_alike hZ.alike A.2.1) (g := mkF m pc Ls (.ref a :: st)) rfl rfl (hb hby hd) _ ?_
  have e1 : cl.slots.size.toInt32 = n := by rw [hs]; simpa using hn
  rw [e1]; exact h
theorem wp_castore {i : Nat} {a : Addr} {xs : List Int32} {n x : Int32} (m : Nat) (hd : Dc bytes pc .castore 1 pc') (hi : H[i]? = some (a, oA .char xs)) (hn : ¬ n < 0) (hm : n.toNatClampNeg = m) (hin : m < xs.length) (hr : Wp b l Z own nm bytes maxL ret R (H.set i (a, oA .char (xs.set m (nar .char x)))) k j pc' Ls st Q) : Wp b l Z own nm bytes maxL ret R H k j pc Ls (.int x :: .int n :: .ref a :: st) Q := by
  obtain ⟨hd, rfl⟩ := hd
  refine Wp.stepH fun p e s mm args below meth c T L Dh hx hZ hby hml hown hnm hret X N hH => ?_
  subst hm
  obtain ⟨Eq, cl, A, hs, G⟩ := (hH.at hi).2
  obtain ⟨h1, -⟩ := in_of hs hn (v := .int xs[n.toNatClampNeg]) (by simp [hin])
  obtain ⟨T', h', X', e', W', stp⟩ := stC X hx hZ rfl A h1 (g := mkF mm pc Ls (.int x :: .int n :: .ref a :: st)) rfl rfl (hb hby hd)
  subst e'
  exact ⟨T', _, k, j, _, _, Ls, st, X', by rw [W'.size]; exact Nat.le_refl _, Fr.snoc X' N ((hH.at hi).1 rfl), hH.set hi W' (o' := .inr (.inl (_, xs.set n.toNatClampNeg _))) ⟨Eq.imp id (·.wr W'), _, A.same W', by rw [setSlot_list hs, List.map_set], fun y hy => (List.mem_or_eq_of_mem_set hy).elim (G y) fun q => by rw [q]; exact fits_nar_char x⟩, hr, stp⟩
theorem wp_bastore {i : Nat} {a : Addr} {xs : List Int32} {n x : Int32} (m : Nat) (hd : Dc bytes pc .bastore 1 pc') (hi : H[i]? = some (a, oA .byte xs)) (hn : ¬ n < 0) (hm : n.toNatClampNeg = m) (hin : m < xs.length) (hr : Wp b l Z own nm bytes maxL ret R (H.set i (a, oA .byte (xs.set m (nar .byte x)))) k j pc' Ls st Q) : Wp b l Z own nm bytes maxL ret R H k j pc Ls (.int x :: .int n :: .ref a :: st) Q := by
  obtain ⟨hd, rfl⟩ := hd
  refine Wp.stepH fun p e s mm args below meth c T L Dh hx hZ hby hml hown hnm hret X N hH => ?_
  subst hm
  obtain ⟨Eq, cl, A, hs, G⟩ := (hH.at hi).2
  obtain ⟨h1, -⟩ := in_of hs hn (v := .int xs[n.toNatClampNeg]) (by simp [hin])
  obtain ⟨T', h', X', e', W', stp⟩ := stB X hx hZ rfl A h1 (g := mkF mm pc Ls (.int x :: .int n :: .ref a :: st)) rfl rfl (hb hby hd)
  subst e'
  exact ⟨T', _, k, j, _, _, Ls, st, X', by rw [W'.size]; exact Nat.le_refl _, Fr.snoc X' N ((hH.at hi).1 rfl), hH.set hi W' (o' := .inr (.inl (_, xs.set n.toNatClampNeg _))) ⟨Eq.imp id (·.wr W'), _, A.same W', by rw [setSlot_list hs, List.map_set], fun y hy => (List.mem_or_eq_of_mem_set hy).elim (G y) fun q => by rw [q]; exact fits_nar_byte x⟩, hr, stp⟩
/-- a body's contract: handed these arguments among these new objects it returns and Q holds -/
def Met (l : Launch) (Z : State) (y : MethodName) (bytes : ByteArray) (maxL : Nat) (ret : Option FieldType) (rm : Room) (as' : List Value) (H : OH) (Q : Option Value → OH → Prop) : Prop :=
  ∀ (ws : List Jvm.Cond) (h : Heap) (Dh : HD), Hp Z Dh h H → MetFree l y (head1 (Jvm.Cond.code y bytes maxL ret :: ws) rm) (fun a U => a = as'.toArray ∧ Z.Warmed39 U.vm ∧ U.heap = h) (fun _ _ _ _ _ => True)
    (fun _ U o U' => ∃ v L, o = .returned v ∧ (Fr Z.heap.size L ∧ h.size ≤ U'.heap.size ∧ ∃ H', Hp Z Dh U'.heap H' ∧ Q v H') ∧ FrameEnd U o U' L rm.cells rm.slots)
theorem Met.of_wp {y : MethodName} {rm : Room} {as' : List Value} (hx : plainFor y = true) (hef : ∀ m, entryFrame m as'.toArray maxL = mkF m 0 Ls []) (hw : Wp none l Z y.cls y.name bytes maxL ret rm H 0 0 0 Ls [] Q) : Met l Z y bytes maxL ret rm as' H Q := by
  intro ws h Dh hH
  refine MetFree.of_bodySF hx hisR ?_
  intro p e s m args below meth c s₁ Bd hml0 hP hK
  obtain ⟨rfl, hZ, hh⟩ := hP
  have X0 : Stand p l e rm s m as'.toArray below meth c s₁ [] 0 0 := Stand.of_body Bd
  have e0 : s₁.heap = h := by rw [← hh, Bd.state]; rfl
  obtain ⟨T', v, L', k', j', vm1, k1, H', ⟨hS, hk1, hvm⟩, X', ⟨hc, hj, hsz⟩, N', ⟨D1, hH', hD1, -⟩, hv, hQ, stp⟩ := hw p e s s.vm 0 m as'.toArray below meth c s₁ [] Dh Bd.exec hZ ((State.WarmedH.refl s).since 0) (Nat.zero_le _) Bd.bytes hml0 (findClass_of_methodNamed Bd.named) (name_of_methodNamed Bd.named Bd.method).1 Bd.returns X0 (Fr.nil _) (by rw [e0]; exact hH) (fun _ q => nomatch q)
  obtain rfl := hvm rfl
  obtain rfl := hD1 rfl
  have X'' : Stand p l e rm s m as'.toArray below meth c T' L' k' j' := X'
  obtain ⟨fs, hr, hrun, hended, hW, hsame⟩ := X''.leave (v := v) (fun h => hv (Bd.returns.symm.trans h))
  refine ⟨_, _, castTop (hef m) (stp fs hr), hrun, hended, v, L', rfl, ⟨N', ?_, H', hH', hQ⟩, ⟨_, rfl⟩, hW, hsame.mono hc hj⟩
  rw [e0] at hsz; exact hsz
theorem Met.mono {y : MethodName} {rm : Room} {as' : List Value} {Q' : Option Value → OH → Prop} (M : Met l Z y bytes maxL ret rm as' H Q') (hq : ∀ v H', Q' v H' → Q v H') : Met l Z y bytes maxL ret rm as' H Q := fun ws h Dh hH p e ha hc hk s m args below hf happ hP hK => by
  obtain ⟨n, o, h1, h2, h3, v, L, rfl, ⟨q1, q2, H', q3, q4⟩, h5⟩ := M ws h Dh hH p e ha hc hk s m args below hf happ hP hK
  exact ⟨n, _, h1, h2, h3, v, L, rfl, ⟨q1, q2, H', q3, hq _ _ q4⟩, h5⟩
theorem wp_callS {y : MethodName} {bytes' : ByteArray} {maxL' : Nat} {ret' : Option FieldType} {rm : Room} {rest : List Value} {Q' : Option Value → OH → Prop} {idx : Nat} {ps : List FieldType} {rt : Option FieldType} {as' : List Value} (M : Met l Z y bytes' maxL' ret' rm as' H Q') (hd : Dc bytes pc (.invokestatic idx) 3 pc') (w1 : (Cond.methodLink own idx y).before a0 Z = true) (w2 : (Cond.static y).before a0 Z = true) (w3 : (Cond.initialized y.cls).before a0 Z = true) (w4 : (Cond.code y bytes' maxL' ret').before a0 Z = true) (hy : y.cls ≠ "java/lang/invoke/MethodHandle" ∧ y.cls ≠ "java/lang/invoke/VarHandle") (hpd : parseMethodDescriptor y.desc = some ⟨ps, rt⟩) (hlen : as'.length = ps.length) (hst : st = as'.reverse ++ rest) (hsz : Ls.size = maxL) (hf : rm.frames + 1 ≤ R.frames) (hl : (rest.map fun v => v.category).sum + (maxL' + 11) + rm.locals ≤ R.locals) (hc : k + rm.cells ≤ R.cells) (hj : j + rm.slots ≤ R.slots) (hr : ∀ v H', Q' v H' → Wp b l Z own nm bytes maxL ret R H' (k + rm.cells) (j + rm.slots) pc' Ls (v.toList ++ rest) Q) : Wp b l Z own nm bytes maxL ret R H k j pc Ls st Q := by
  obtain ⟨hd, rfl⟩ := hd
  refine Wp.stepH fun p e s m args below meth c T L Dh hx hZ hby hml hown hnm hret X N hH => ?_
  obtain ⟨v, _, ⟨T', L', k', n'⟩, -, X', ⟨Lc, ⟨N', hsz', H', hH', hQ⟩, l1, y1, z1⟩, stp⟩ := Jvm.LawKit.callS X hx (y := y) hown (mvT hZ w1) (mvT hZ w2) (mvT hZ w3) (mvT hZ w4) hy (backOf (W := (rest.map fun v => v.category).sum) (Q := fun v h L => Fr Z.heap.size L ∧ T.heap.size ≤ h.size ∧ ∃ H', Hp Z Dh h H' ∧ Q' v H') (M [] T.heap Dh hH) hZ w4 w3 hf hl) (g := mkF m pc Ls st) rfl (by rw [hml]; exact hsz) (argsL := as') (rest := rest) (lenOf hpd hlen) hst (by show 2 * 0 + _ ≤ _; omega) (hb hby hd) (fun _ _ => ⟨rfl, rfl, hc, hj⟩)
  dsimp only [Pt.U, Pt.locs, Pt.cells, Pt.slots] at X' l1 y1 z1 stp hH' hsz'
  subst l1 y1 z1
  exact ⟨T', _, _, _, H', _, Ls, v.toList ++ rest, X', hsz', N.app N', hH', hr v H' hQ, stp⟩
theorem wp_init {y : MethodName} {bytes' : ByteArray} {maxL' : Nat} {rm : Room} {rest : List Value} {Q' : Option Value → OH → Prop} {idx : Nat} {ps : List FieldType} {rt : Option FieldType} {a : Addr} {as' : List Value} (M : Met l Z y bytes' maxL' none rm (.ref a :: as') H Q') (hd : Dc bytes pc (.invokespecial idx) 3 pc') (hin : y.name = "<init>") (w1 : (Cond.methodLink own idx y).before a0 Z = true) (w2 : (Cond.instanceMethod y).before a0 Z = true) (w3 : (Cond.initialized y.cls).before a0 Z = true) (w4 : (Cond.code y bytes' maxL' none).before a0 Z = true) (hy : y.cls ≠ "java/lang/invoke/MethodHandle" ∧ y.cls ≠ "java/lang/invoke/VarHandle") (hpd : parseMethodDescriptor y.desc = some ⟨ps, rt⟩) (hlen : as'.length = ps.length) (hst : st = as'.reverse ++ .ref a :: rest) (hsz : Ls.size = maxL) (hf : rm.frames + 1 ≤ R.frames) (hl : (rest.map fun v => v.category).sum + (maxL' + 11) + rm.locals ≤ R.locals) (hc : k + rm.cells ≤ R.cells) (hj : j + rm.slots ≤ R.slots) (hr : ∀ v H', Q' v H' → Wp b l Z own nm bytes maxL ret R H' (k + rm.cells) (j + rm.slots) pc' Ls (v.toList ++ rest) Q) : Wp b l Z own nm bytes maxL ret R H k j pc Ls st Q := by
  obtain ⟨hd, rfl⟩ := hd
  refine Wp.stepH fun p e s m args below meth c T L Dh hx hZ hby hml hown hnm hret X N hH => ?_
  obtain ⟨v, _, ⟨T', L', k', n'⟩, -, X', ⟨Lc, ⟨N', hsz', H', hH', hQ⟩, l1, y1, z1⟩, stp⟩ := X.specialBack hx (y := y) hin hown (mvT hZ w1) (mvT hZ w2) (mvT hZ w4) hy (backOf (W := (rest.map fun v => v.category).sum) (Q := fun v h L => Fr Z.heap.size L ∧ T.heap.size ≤ h.size ∧ ∃ H', Hp Z Dh h H' ∧ Q' v H') (M [] T.heap Dh hH) hZ w4 w3 hf hl) (g := mkF m pc Ls st) rfl (by rw [hml]; exact hsz) (Steps.refl _) (a := a) (argsL := as') (rest := rest) (lenOf hpd hlen) hst (by show 2 * 0 + _ ≤ _; omega) (hb hby hd) (fun _ _ => ⟨rfl, rfl, hc, hj⟩)
  dsimp only [Pt.U, Pt.locs, Pt.cells, Pt.slots] at X' l1 y1 z1 stp hH' hsz'
  subst l1 y1 z1
  exact ⟨T', _, _, _, H', _, Ls, v.toList ++ rest, X', hsz', N.app N', hH', hr v H' hQ, fun _ q => stp.trans q⟩
theorem wp_virtual {y : MethodName} {bytes' : ByteArray} {maxL' : Nat} {ret' : Option FieldType} {rm : Room} {rest : List Value} {Q' : Option Value → OH → Prop} {idx : Nat} {ps : List FieldType} {rt : Option FieldType} {x : MethodName} {C : String} {a : Addr} {as' : List Value} (M : Met l Z y bytes' maxL' ret' rm (.ref a :: as') H Q') (E : ExaAt Z H a C) (hd : Dc bytes pc (.invokevirtual idx) 3 pc') (w1 : (Cond.methodLink own idx x).before a0 Z = true) (w2 : (Cond.declares x).before a0 Z = true) (wn : (Cond.selects x.cls x x).before a0 Z = true) (ws : (Cond.selects C x y).before a0 Z = true) (wi : (Cond.instanceMethod y).before a0 Z = true) (w3 : (Cond.initialized y.cls).before a0 Z = true) (w4 : (Cond.code y bytes' maxL' ret').before a0 Z = true) (hy : x.cls ≠ "java/lang/invoke/MethodHandle" ∧ x.cls ≠ "java/lang/invoke/VarHandle") (hpd : parseMethodDescriptor x.desc = some ⟨ps, rt⟩) (hlen : as'.length = ps.length) (hst : st = as'.reverse ++ .ref a :: rest) (hsz : Ls.size = maxL) (hf : rm.frames + 1 ≤ R.frames) (hl : (rest.map fun v => v.category).sum + (maxL' + 11) + rm.locals ≤ R.locals) (hc : k + rm.cells ≤ R.cells) (hj : j + rm.slots ≤ R.slots) (hr : ∀ v H', Q' v H' → Wp b l Z own nm bytes maxL ret R H' (k + rm.cells) (j + rm.slots) pc' Ls (v.toList ++ rest) Q) : Wp b l Z own nm bytes maxL ret R H k j pc Ls st Q := by
  obtain ⟨hd, rfl⟩ := hd
  refine Wp.stepH fun p e s m args below meth c T L Dh hx hZ hby hml hown hnm hret X N hH => ?_
  obtain ⟨cq, kq, q1, q2, q3⟩ := isOf hZ rfl (E _ hH)
  obtain ⟨v, _, ⟨T', L', k', n'⟩, -, X', ⟨Lc, ⟨N', hsz', H', hH', hQ⟩, l1, y1, z1⟩, stp⟩ := X.virtualBack hx (y := x) (z := y) hown (mvT hZ w1) (mvT hZ w2) (notFace_of_selects (args := #[]) (mvT hZ wn)) (mvT hZ ws) (mvT hZ wi) hy (backOf (W := (rest.map fun v => v.category).sum) (Q := fun v h L => Fr Z.heap.size L ∧ T.heap.size ≤ h.size ∧ ∃ H', Hp Z Dh h H' ∧ Q' v H') (M [] T.heap Dh hH) hZ w4 w3 hf hl) q1 q3 (g := mkF m pc Ls st) rfl (by rw [hml]; exact hsz) (Steps.refl _) (argsL := as') (rest := rest) (lenOf hpd hlen) hst (by show 2 * 0 + _ ≤ _; omega) (hb hby hd) (fun _ _ => ⟨rfl, rfl, hc, hj⟩)
  dsimp only [Pt.U, Pt.locs, Pt.cells, Pt.slots] at X' l1 y1 z1 stp hH' hsz'
  subst l1 y1 z1
  exact ⟨T', _, _, _, H', _, Ls, v.toList ++ rest, X', hsz', N.app N', hH', hr v H' hQ, fun _ q => stp.trans q⟩
theorem fld_of {args : Array Value} {s : State} {t : Term} {a : Addr} {C n d : String} {v : Int32} (e : t.eval args s none [] s = some (.ref a)) (h : (Cond.eq (Term.field t C n d) (Term.int v)).value args s none s [] = some true) : Fld s s.heap a C n d (.int v) :=
  Fld.start ((fld_at e).symm.trans (Cond.eq_int (Cond.before_iff.mpr h) rfl))
theorem Sat.keep {h h' : Heap} {b : Addr} {ws : List Addr} (K : Keep h h' ws) (q : b ∉ ws) : ∀ {o : ObjB}, Sat Z h b o → Sat Z h' b o
  | .inl (C, sg, vs), ⟨h1, h2, h3⟩ => ⟨h1.keep K, h2, fun i f v r t => (h3 i f v r t).keep K q⟩
  | .inr (.inl (ty, xs)), ⟨r, c, h1, h2⟩ => ⟨r.imp id (·.keep K), c, ⟨K.2.1 _ _ h1.1 q, h1.2⟩, h2⟩
  | .inr (.inr (.inl xs)), ⟨r, c, h1, h2⟩ => ⟨r.keep K, c, ⟨K.2.1 _ _ h1.1 q, h1.2⟩, h2⟩
  | .inr (.inr (.inr (C, ty, vs))), ⟨r, c, h1, h2⟩ => ⟨r.keep K, c, ⟨K.2.1 _ _ h1.1 q, h1.2⟩, h2⟩
theorem Hp.setK {Dh : HD} {h h' : Heap} (P : Hp Z Dh h H) {i : Nat} {a : Addr} {o o' : ObjB} (q : H[i]? = some (a, (true, o))) (K : Keep h h' [a]) (S : Sat Z h' a o') : Hp Z Dh h' (H.set i (a, (true, o'))) := by
  have g : Z.heap.size ≤ a := (P.at q).1 rfl
  have g2 : ∀ c, ¬ Dh a c := ((P.2.1 _ (List.mem_of_getElem? q)).1 rfl).2
  obtain ⟨hi, hq⟩ := List.getElem?_eq_some_iff.mp q
  refine ⟨⟨Nat.le_trans P.1.1 K.1, fun b c r => ?_⟩, fun x hx => ?_, ?_, fun b c r => ?_⟩
  · have : b < Z.heap.size := (Array.getElem?_eq_some_iff.mp r).1
    exact K.2.1 _ _ (P.1.2 b c r) (ninS (by rintro rfl; exact absurd this (Nat.not_lt.mpr g)) nin0)
  · obtain ⟨n, hn⟩ := List.getElem?_of_mem hx
    rw [List.getElem?_set] at hn
    split at hn
    · have e0 : (a, (true, o')) = x := by simpa [hi] using hn
      subst e0; exact ⟨fun _ => ⟨g, g2⟩, S⟩
    · rename_i ne
      exact ⟨(P.2.1 x (List.mem_of_getElem? hn)).1, (P.at hn).2.keep K (ninS (P.ne hn q (Or.inr rfl) (Ne.symm ne)) nin0)⟩
  · have e : (H.set i (a, (true, o'))).map (fun x => (x.1, x.2.1)) = H.map (fun x => (x.1, x.2.1)) := by
      rw [List.map_set]
      refine List.ext_getElem? fun n => ?_
      rw [List.getElem?_set]
      split
      · rename_i e; subst e
        simp [hi, hq]
      · rfl
    have h1 : (H.map (fun x => (x.1, x.2.1))).Pairwise (fun u v => (u.2 = true ∨ v.2 = true) → u.1 ≠ v.1) := List.pairwise_map.mpr P.2.2.1
    rw [← e] at h1
    exact List.pairwise_map.mp h1
  · exact K.2.1 _ _ (P.2.2.2 b c r) (ninS (by rintro rfl; exact g2 _ r) nin0)
theorem nat_i32 {n : Nat} (h : n < 2 ^ 31) : (Int32.ofNat n).toNatClampNeg = n ∧ ¬ Int32.ofNat n < 0 := by
  have e : (Int32.ofNat n).toInt = n := Int32.toInt_ofNat_of_lt h
  refine ⟨by simp only [Int32.toNatClampNeg, e]; omega, ?_⟩
  rw [Int32.lt_iff_toInt_lt, e]; simp only [Int32.reduceToInt]; omega
theorem Sat.arv {h : Heap} {a : Addr} {ty : FieldType} {xs : List Int32} (S : Sat Z h a (.inr (.inl (ty, xs)))) (hl : xs.length < 2 ^ 31) : ∃ kc, Arv Z h a kc ty (Int32.ofNat xs.length) (xs.map Value.int) (.int 0) := by
  obtain ⟨-, c, A, hs, G⟩ := S
  refine ⟨c.cls, c, A, rfl, by rw [hs, (nat_i32 hl).1]; simp, (nat_i32 hl).2, fun i hi => ?_, fun i hi => ?_⟩
  · rw [hs] at hi ⊢; simp at hi; simp [hi]
  · rw [hs] at hi; simp at hi; simp [hi, G _ (List.getElem_mem hi)]
theorem Arv.sat {h : Heap} {a : Addr} {kc : ClassId} {ty : FieldType} {xs : List Int32} (V : Arv Z h a kc ty (Int32.ofNat xs.length) (xs.map Value.int) (.int 0)) (hl : xs.length < 2 ^ 31) (Eq : ty = .byte ∨ Exa Z h a ("[" ++ ty.toString)) : Sat Z h a (.inr (.inl (ty, xs))) := by
  obtain ⟨c, A, -, S, -, Hs, G⟩ := V
  rw [(nat_i32 hl).1] at S
  refine ⟨Eq, c, A, ?_, fun x hx => ?_⟩
  · refine Array.ext_getElem? fun i => ?_
    by_cases hi : i < c.slots.size
    · rw [Hs i hi]; rw [S] at hi; simp [hi]
    · rw [Array.getElem?_eq_none (Nat.le_of_not_lt hi)]; rw [S] at hi; symm; simp; omega
  · obtain ⟨i, hi, rfl⟩ := List.getElem_of_mem hx
    have := G i (by rw [S]; exact hi)
    simpa [hi] using this
theorem wp_arraycopyI {i i' : Nat} {a c' : Addr} {fl : Bool} {ty : FieldType} {xs ys : List Int32} {sp dp nn : Int32} {idx : Nat} (m1 m2 m3 : Nat) (hd : Dc bytes pc (.invokestatic idx) 3 pc') (w1 : (Cond.methodLink own idx Jvm.Stand.acN).before a0 Z = true) (w2 : (Cond.native Jvm.Stand.acN).before a0 Z = true) (w3 : (Cond.static Jvm.Stand.acN).before a0 Z = true) (w4 : (Cond.initialized "java/lang/System").before a0 Z = true) (hi : H[i]? = some (a, (fl, .inr (.inl (ty, xs))))) (hi' : H[i']? = some (c', oA ty ys)) (hp : refKind ty = false) (h1 : ¬ sp < 0) (h2 : ¬ dp < 0) (h3 : ¬ nn < 0) (e1 : sp.toNatClampNeg = m1) (e2 : dp.toNatClampNeg = m2) (e3 : nn.toNatClampNeg = m3) (h4 : m1 + m3 ≤ xs.length) (h5 : m2 + m3 ≤ ys.length) (hx31 : xs.length < 2 ^ 31) (hy31 : ys.length < 2 ^ 31) (hsz : Ls.size = maxL) (hf : 1 ≤ R.frames) (hl : (st.map fun v => v.category).sum + (nativeFrameWords "java/lang/System" "arraycopy" 5 + 11) ≤ R.locals) (hr : Wp b l Z own nm bytes maxL ret R (H.set i' (c', oA ty (ys.take m2 ++ (xs.drop m1).take m3 ++ ys.drop (m2 + m3)))) k j pc' Ls st Q) : Wp b l Z own nm bytes maxL ret R H k j pc Ls (.int nn :: .int dp :: .ref c' :: .int sp :: .ref a :: st) Q := by
  obtain ⟨hd, rfl⟩ := hd
  subst e1 e2 e3
  refine Wp.stepH fun p e s m args below meth c T L Dh hx hZ hby hml hown hnm hret X N hH => ?_
  obtain ⟨kc, V1⟩ := (hH.at hi).2.arv hx31
  obtain ⟨kd, V2⟩ := (hH.at hi').2.arv hy31
  obtain ⟨T', h', L', X', e', N', K', V', stp⟩ := cpA X hx hZ hown w1 w2 w3 w4 rfl V1 V2 (Or.inl ⟨rfl, hp⟩) h1 h2 h3 (by rw [(nat_i32 hx31).1]; exact h4) (by rw [(nat_i32 hy31).1]; exact h5) (us := ((xs.drop sp.toNatClampNeg).take nn.toNatClampNeg).map Value.int) (by
    refine List.ext_getElem? fun n => ?_
    simp only [List.getElem?_map, List.getElem?_range]
    by_cases hn : n < nn.toNatClampNeg
    · simp [hn, show sp.toNatClampNeg + n < xs.length by omega]
    · simp [hn]; omega) (by simpa using h5) N ((hH.at hi').1 rfl) (g := mkF m pc Ls (.int nn :: .int dp :: .ref c' :: .int sp :: .ref a :: st)) rfl (by rw [hml]; exact hsz) rfl (hb hby hd) hf (W := (st.map fun v => v.category).sum) (by show 2 * 0 + _ ≤ _; omega) hl
  subst e'
  have hlen : (ys.take dp.toNatClampNeg ++ (xs.drop sp.toNatClampNeg).take nn.toNatClampNeg ++ ys.drop (dp.toNatClampNeg + nn.toNatClampNeg)).length = ys.length := by
    simp only [List.length_append, List.length_take, List.length_drop]; omega
  refine ⟨T', L', k, j, _, _, Ls, st, X', K'.1, N', hH.setK hi' K' (Arv.sat (kc := kd) ?_ (by rw [hlen]; exact hy31) ((hH.at hi').2.1.imp id (·.keep K'))), hr, stp⟩
  rw [hlen]
  simpa [List.map_append, List.map_take, List.map_drop] using V'
theorem Hp.old {Dh : HD} {h : Heap} (P : Hp Z Dh h H) {a : Addr} {o : ObjB} (S : Sat Z Z.heap a o) : Hp Z Dh h ((a, (false, o)) :: H) :=
  ⟨P.1, fun x q => (List.mem_cons.mp q).elim (fun e => by subst e; exact ⟨(fun e => nomatch e), S.ext P.1⟩) fun q => P.2.1 x q,
    List.Pairwise.cons (fun y q t e => absurd ((P.2.1 y q).1 (t.elim (fun e => nomatch e) id)).1 (by rw [← e]; exact Nat.not_le.mpr S.lt)) P.2.2.1, P.2.2.2⟩
/-- an object of the start is laid to the list, only to be read -/
theorem Wp.old {a : Addr} {o : ObjB} (S : Sat Z Z.heap a o) (hr : Wp b l Z own nm bytes maxL ret R ((a, (false, o)) :: H) k j pc Ls st Q) : Wp b l Z own nm bytes maxL ret R H k j pc Ls st Q :=
  Wp.stepH fun p e s m args below meth c T L Dh hx hZ hby hml hown hnm hret X N hH => ⟨T, L, k, j, _, pc, Ls, st, X, Nat.le_refl _, N, hH.old S, hr, fun _ q => q⟩
abbrev sgStr : OSig := [("java/lang/String", "value", "[B"), ("java/lang/String", "coder", "B")]
abbrev oS (x : Value) : Obj := oI "java/lang/String" sgStr [x, .int 0]
abbrev rm4 (a b c d : Nat) : Room := { frames := a, cells := b, slots := c, locals := d }
theorem lb {n m : Nat} (h : Nat.ble n m = true) : n ≤ m := Nat.le_of_ble_eq_true h
abbrev strO (v : Addr) : Obj := fI "java/lang/String" sgStr [.ref v, .int 0]
theorem Fld.fun {h : Heap} {a : Addr} {C n d : String} {u v : Value} (F : Fld Z h a C n d u) (G : Fld Z h a C n d v) : u = v := by
  obtain ⟨c, cf, k, i, f, h1, h2, -, -, -, -, h7⟩ := F
  obtain ⟨c', cf', k', i', f', g1, g2, -, -, -, -, g7⟩ := G
  cases h1.symm.trans g1
  cases h2.symm.trans g2
  exact Option.some.inj (h7.symm.trans g7)
theorem str_old {a v : Addr} (slo : Slo Z sgStr) (E : Exa Z Z.heap a "java/lang/String") (F : Fld Z Z.heap a "java/lang/String" "value" "[B" (.ref v)) (G : Fld Z Z.heap a "java/lang/String" "coder" "B" (.int 0)) : Sat Z Z.heap a (.inl ("java/lang/String", sgStr, [.ref v, .int 0])) := by
  refine ⟨E, slo, fun i f u q r => ?_⟩
  rcases i with _ | _ | i
  · cases q; cases r; exact F
  · cases q; cases r; exact G
  · simp at q
/-- the contract of a body with an exception table (the walk throws nothing) -/
def MetX (l : Launch) (Z : State) (y : MethodName) (bytes : ByteArray) (maxL : Nat) (ret : Option FieldType) (hs : List (Nat × Nat × Nat × Nat)) (rm : Room) (as' : List Value) (H : OH) (Q : Option Value → OH → Prop) : Prop :=
  ∀ (ws : List Jvm.Cond) (h : Heap) (Dh : HD), Hp Z Dh h H → MetFree l y (head1 (Jvm.Cond.codeWith y bytes maxL ret hs :: ws) rm) (fun a U => a = as'.toArray ∧ Z.Warmed39 U.vm ∧ U.heap = h) (fun _ _ _ _ _ => True)
    (fun _ U o U' => ∃ v L, o = .returned v ∧ (Fr Z.heap.size L ∧ h.size ≤ U'.heap.size ∧ ∃ H', Hp Z Dh U'.heap H' ∧ Q v H') ∧ FrameEnd U o U' L rm.cells rm.slots)
theorem MetX.of_wp {y : MethodName} {hs : List (Nat × Nat × Nat × Nat)} {rm : Room} {as' : List Value} (hx : plainFor y = true) (hef : ∀ m, entryFrame m as'.toArray maxL = mkF m 0 Ls []) (hw : Wp none l Z y.cls y.name bytes maxL ret rm H 0 0 0 Ls [] Q) : MetX l Z y bytes maxL ret hs rm as' H Q := by
  intro ws h Dh hH
  refine MetFree.of_bodySF hx hisWith ?_
  intro p e s m args below meth c s₁ Bd hml0 hP hK
  obtain ⟨rfl, hZ, hh⟩ := hP
  have X0 : Stand p l e rm s m as'.toArray below meth c s₁ [] 0 0 := Stand.of_body Bd
  have e0 : s₁.heap = h := by rw [← hh, Bd.state]; rfl
  obtain ⟨T', v, L', k', j', vm1, k1, H', ⟨hS, hk1, hvm⟩, X', ⟨hc, hj, hsz⟩, N', ⟨D1, hH', hD1, -⟩, hv, hQ, stp⟩ := hw p e s s.vm 0 m as'.toArray below meth c s₁ [] Dh Bd.exec hZ ((State.WarmedH.refl s).since 0) (Nat.zero_le _) Bd.bytes hml0 (findClass_of_methodNamed Bd.named) (name_of_methodNamed Bd.named Bd.method).1 Bd.returns X0 (Fr.nil _) (by rw [e0]; exact hH) (fun _ q => nomatch q)
  obtain rfl := hvm rfl
  obtain rfl := hD1 rfl
  have X'' : Stand p l e rm s m as'.toArray below meth c T' L' k' j' := X'
  obtain ⟨fs, hr, hrun, hended, hW, hsame⟩ := X''.leave (v := v) (fun h => hv (Bd.returns.symm.trans h))
  refine ⟨_, _, castTop (hef m) (stp fs hr), hrun, hended, v, L', rfl, ⟨N', ?_, H', hH', hQ⟩, ⟨_, rfl⟩, hW, hsame.mono hc hj⟩
  rw [e0] at hsz; exact hsz
theorem Wp.frz {i : Nat} {a : Addr} {fl : Bool} {o : ObjB} (hi : H[i]? = some (a, (fl, o))) (hr : Wp b l Z own nm bytes maxL ret R (H.set i (a, (false, o))) k j pc Ls st Q) : Wp b l Z own nm bytes maxL ret R H k j pc Ls st Q :=
  Wp.stepH fun p e s m args below meth c T L Dh hx hZ hby hml hown hnm hret X N hH => ⟨T, L, k, j, _, pc, Ls, st, X, Nat.le_refl _, N, hH.frz hi, hr, fun _ q => q⟩
theorem Hp.swap {Dh : HD} {h : Heap} {x y : Addr × Obj} (P : Hp Z Dh h (x :: y :: H)) : Hp Z Dh h (y :: x :: H) := by
  obtain ⟨h1, h2⟩ := List.pairwise_cons.mp P.2.2.1
  obtain ⟨h3, h4⟩ := List.pairwise_cons.mp h2
  refine ⟨P.1, fun z q => ?_, List.Pairwise.cons (fun z q t e => ?_) (List.Pairwise.cons (fun z q => h1 z (List.mem_cons_of_mem _ q)) h4), P.2.2.2⟩
  · rcases List.mem_cons.mp q with rfl | q
    · exact P.2.1 _ (List.mem_cons_of_mem _ (List.mem_cons.mpr (Or.inl rfl)))
    · rcases List.mem_cons.mp q with rfl | q
      · exact P.2.1 _ (List.mem_cons.mpr (Or.inl rfl))
      · exact P.2.1 _ (List.mem_cons_of_mem _ (List.mem_cons_of_mem _ q))
  · rcases List.mem_cons.mp q with rfl | q
    · exact h1 y (List.mem_cons.mpr (Or.inl rfl)) t.symm e.symm
    · exact h3 z q t e
theorem Wp.swap {x y : Addr × Obj} (hr : Wp b l Z own nm bytes maxL ret R (y :: x :: H) k j pc Ls st Q) : Wp b l Z own nm bytes maxL ret R (x :: y :: H) k j pc Ls st Q :=
  Wp.stepH fun p e s m args below meth c T L Dh hx hZ hby hml hown hnm hret X N hH => ⟨T, L, k, j, _, pc, Ls, st, X, Nat.le_refl _, N, hH.swap, hr, fun _ q => q⟩
theorem Good.at {EL : List (String × Nat)} {Dh : HD} {p : Program} {e : Env} {s : State} {vm0 : Vm} {m : MethodId} {args : Array Value} {below : List Frame} {meth : Method} {c : Code} {T : State} {L : List Loc} (G : Good Z EL Dh vm0) (X : Stand p l e R (s.setVm vm0) m args below meth c T L k j) (hZ : Z.Warmed39 vm0) (hEL : Jvm.RoadKit.EW Z a0 EL) : Good Z EL Dh T.vm := fun h hh => by
  have q := Jvm.RoadKit.CHv.at X hZ hEL (G h hh).1
  exact ⟨q.1, fun y B => (q.2.2 y B).elim (fun B => (G h hh).2 y B) fun r => absurd B (Jvm.RoadKit.Safe.new r)⟩
theorem Good.start {EL : List (String × Nat)} {vm : Vm} (C : Jvm.RoadKit.CHv Z EL vm Z.heap) : Good Z EL (fun a c => Z.heap[a]? = some c) vm := fun h hh => by
  have q := C.step (h' := h) (fun y B cell r => hh y cell r)
  exact ⟨q.1, fun y B => (q.2 y B).there⟩
theorem Good.after {EL : List (String × Nat)} {vm : Vm} {h0 : Heap} (C : Jvm.RoadKit.CHv Z EL vm h0) : Good Z EL (fun y c => Jvm.RoadKit.Bk Z EL vm h0 y ∧ h0[y]? = some c) vm := fun h hh => by
  have q := C.step (h' := h) (fun y B cell r => hh y cell ⟨B, r⟩)
  refine ⟨q.1, fun y B => ?_⟩
  obtain ⟨c, hc⟩ := (q.2 y B).there
  exact ⟨c, q.2 y B, hc⟩
/-- ldc of a String constant of EL, its contents known -/
theorem wp_ldcH {text : String} {EL : List (String × Nat)} {idx n : Nat} (xs : List Int32) (hd : Dc bytes pc (.ldc idx) 2 pc') (w : (Cond.stringLink own idx text).before a0 Z = true) (wS : ∀ a ∈ Bundle.stringAtoms, a.before a0 Z = true) (slo : Slo Z sgStr) (hEL : Jvm.RoadKit.EW Z a0 EL) (hmem : (own, idx) ∈ EL) (ht : (∀ c ∈ text.toList, c.toNat < 256) ∧ text.toList.map (fun c => Value.int (Jvm.Lit.byteI c.toNat.toUInt16)) = xs.map Value.int) (h31 : xs.length < 2 ^ 31) (hn : 4 * text.toList.length ≤ n) (hbig : n ≤ 536870912) (hc : k + 2 ≤ R.cells) (hl : j + (n + 4) ≤ R.slots) (hr : ∀ a v, Wp (some EL) l Z own nm bytes maxL ret R ((a, strO v) :: (v, fA .byte xs) :: H) (k + 2) (j + (n + 4)) pc' Ls (.ref a :: st) Q) : Wp (some EL) l Z own nm bytes maxL ret R H k j pc Ls st Q := by
  obtain ⟨hd, rfl⟩ := hd
  intro p e s vm0 k0 m args below meth c T L Dh hx hZ hS hk hby hml hown hnm hret X N hH hB
  have C0 := hB EL rfl T.heap hH.2.2.2
  obtain ⟨a, T', h', k1, v, kc, X', e', E', hS', hk1, hZ', hown', A1, A2, A3, A4, l1, l2, C1, -, hne, stp⟩ := Jvm.RoadKit.ldcCH X hx hZ hown w wS rfl hS hk hEL hmem C0.1 (z := Int32.ofNat xs.length) ht (nat_i32 h31).2 (by rw [(nat_i32 h31).1]; simp) (g := mkF m pc Ls st) rfl (hb hby hd) hn hbig hc hl
  subst e'
  have far : ∀ y ∈ H, y.2.1 = true → Jvm.RoadKit.Safe Z EL T'.vm T'.heap y.1 := fun y q t => C1.safe (hH.2.1 y q).2.lt (fun B => by obtain ⟨c', hc'⟩ := C0.2 y.1 B; exact ((hH.2.1 y q).1 t).2 c' hc')
  have Sa : Sat Z T'.heap a (.inl ("java/lang/String", sgStr, [.ref v, .int 0])) := by
    refine ⟨A1, slo, fun i f u q r => ?_⟩
    rcases i with _ | _ | i
    · cases q; cases r; exact A3
    · cases q; cases r; exact A2
    · simp at q
  have Sv : Sat Z T'.heap v (.inr (.inl (.byte, xs))) := Arv.sat A4 h31 (Or.inl rfl)
  have H2 : Hp Z (fun y c => Jvm.RoadKit.Bk Z EL T'.vm T'.heap y ∧ T'.heap[y]? = some c) T'.heap ((a, strO v) :: (v, fA .byte xs) :: H) := by
    have h0 := hH.ext E'
    refine ⟨h0.1, fun x q => ?_, List.Pairwise.cons (fun y q t => ?_) (List.Pairwise.cons (fun y q t => ?_) h0.2.2.1), fun _ _ q => q.2⟩
    · rcases List.mem_cons.mp q with rfl | q
      · exact ⟨(fun e => nomatch e), Sa⟩
      · rcases List.mem_cons.mp q with rfl | q
        · exact ⟨(fun e => nomatch e), Sv⟩
        · exact ⟨fun t => ⟨((h0.2.1 x q).1 t).1, fun c B => far x q t B.1⟩, (h0.2.1 x q).2⟩
    · rcases List.mem_cons.mp q with rfl | q
      · rcases t with t | t <;> cases t
      · exact Ne.symm (hne _ (far y q (t.elim (fun e => nomatch e) id))).1
    · exact Ne.symm (hne _ (far y q (t.elim (fun e => nomatch e) id))).2
  obtain ⟨T2, u, L2, k2, j2, vm1, k3, H3, ⟨r0, r1, r2⟩, r3, ⟨r4, r5, r6⟩, r7, ⟨D1, r8, -, r8'⟩, r9, r10, r11⟩ := hr a v p e s T'.vm k1 m args below meth c T' L _ hx hZ' hS' hk1 hby hml hown' hnm hret X' N H2 (fun EL' q => by cases q; exact Good.after C1.1)
  exact ⟨T2, u, L2, k2, j2, vm1, k3, H3, ⟨r0, r1, fun q => nomatch q⟩, r3, ⟨r4, r5, Nat.le_trans E'.1 r6⟩, r7, ⟨D1, r8, (fun q => nomatch q), r8'⟩, r9, r10, fun fs hl => stp _ (r11 fs hl)⟩
/-- the contract of a body that may load the constants of EL -/
def MetI (EL : List (String × Nat)) (l : Launch) (Z : State) (y : MethodName) (bytes : ByteArray) (maxL : Nat) (ret : Option FieldType) (rm : Room) (as' : List Value) (H : OH) (Q : Option Value → OH → Prop) : Prop :=
  ∀ (ws : List Jvm.Cond) (h : Heap) (Dh : HD), Hp Z Dh h H → MetFree l y (head1 (Jvm.Cond.code y bytes maxL ret :: ws) rm) (fun a U => a = as'.toArray ∧ Z.Warmed39 U.vm ∧ U.heap = h ∧ Good Z EL Dh U.vm) (fun _ _ _ _ _ => True)
    (fun _ U o U' => ∃ v L, o = .returned v ∧ (Fr Z.heap.size L ∧ ∃ (H' : OH) (D1 : HD), Hp Z D1 U'.heap H' ∧ Good Z EL D1 U'.vm ∧ Q v H') ∧ ReturnedEndW U o U' L rm.cells rm.slots)
theorem MetI.of_wp {EL : List (String × Nat)} {y : MethodName} {rm : Room} {as' : List Value} (hx : plainFor y = true) (hef : ∀ m, entryFrame m as'.toArray maxL = mkF m 0 Ls []) (hEL : Jvm.RoadKit.EW Z a0 EL) (hw : Wp (some EL) l Z y.cls y.name bytes maxL ret rm H 0 0 0 Ls [] Q) : MetI EL l Z y bytes maxL ret rm as' H Q := by
  intro ws h Dh hH
  refine MetFree.of_bodySF hx hisR ?_
  intro p e s m args below meth c s₁ Bd hml0 hP hK
  obtain ⟨rfl, hZ, hh, hB⟩ := hP
  have X0 : Stand p l e rm s m as'.toArray below meth c s₁ [] 0 0 := Stand.of_body Bd
  have e0 : s₁.heap = h := by rw [← hh, Bd.state]; rfl
  obtain ⟨T', v, L', k', j', vm1, k1, H', ⟨hS, hk1, -⟩, X', ⟨hc, hj, hsz⟩, N', ⟨D1, hH', -, hB'⟩, hv, hQ, stp⟩ := hw p e s s.vm 0 m as'.toArray below meth c s₁ [] Dh Bd.exec hZ ((State.WarmedH.refl s).since 0) (Nat.zero_le _) Bd.bytes hml0 (findClass_of_methodNamed Bd.named) (name_of_methodNamed Bd.named Bd.method).1 Bd.returns X0 (Fr.nil _) (by rw [e0]; exact hH) (fun EL' q => by cases q; exact hB)
  obtain ⟨fs, hr, hrun, hended, q1, q2, q3, q4⟩ := X'.leaveW hS hk1 (v := v) (fun h => hv (Bd.returns.symm.trans h))
  have hG := (hB' EL rfl).at X' (State.Warmed39.trans (t := s) hZ hS.1) hEL
  exact ⟨_, _, castTop (hef m) (stp fs hr), hrun, hended, v, L', rfl, ⟨N', H', D1, hH', hG, hQ⟩, q1, q2, q3, q4.mono hc hj⟩
theorem backI {EL : List (String × Nat)} {Dh : HD} {h : Heap} {p : Program} {e : Env} {s : State} {args : Array Value} {below : List Frame} {vm0 : Vm} {y : MethodName} {bytes' : ByteArray} {maxL' : Nat} {ret' : Option FieldType} {rm : Room} {len W : Nat} {as' : List Value} (M : MetI EL l Z y bytes' maxL' ret' rm as' H Q) (hH : Hp Z Dh h H) (G : Good Z EL Dh vm0) (hZ : Z.Warmed39 vm0) (wc : (Cond.code y bytes' maxL' ret').before a0 Z = true) (wz : (Cond.initialized y.cls).before a0 Z = true) (hf : rm.frames + 1 ≤ R.frames) (hl : W + (maxL' + 11) + rm.locals ≤ R.locals) (hEL : Jvm.RoadKit.EW Z a0 EL) :
    BackS l R p e below (s.setVm vm0) args y len W (fun A a => a = as'.toArray ∧ A.U.heap = h ∧ A.cells + rm.cells ≤ R.cells ∧ A.slots + rm.slots ≤ R.slots)
      (fun A _ v B => ∃ L, (Fr Z.heap.size L ∧ ∃ (H' : OH) (D1 : HD), Hp Z D1 B.U.heap H' ∧ Good Z EL D1 B.U.vm ∧ Q v H') ∧ B.locs = A.locs ++ L ∧ B.cells = A.cells + rm.cells ∧ B.slots = A.slots + rm.slots) :=
  BackS.of_freeW (bytes := bytes') (maxL := maxL') (ret := ret') (E := fun _ _ o t L k n => k = rm.cells ∧ n = rm.slots ∧ ∃ v, o = .returned v ∧ (Fr Z.heap.size L ∧ ∃ (H' : OH) (D1 : HD), Hp Z D1 t.heap H' ∧ Good Z EL D1 t.vm ∧ Q v H')) (M [] h Dh hH) hf hl
    (fun m meth c A a Y hp => have hU : Z.Warmed39 A.U.vm := wtrans (s := s.setVm vm0) hZ Y.warmed
      ⟨by show (Cond.and _ .tt).before a A.U = true; rw [Cond.before_and, mv hU wc]; rfl, mv hU wc, mv hU wz, hp.2.2.1, hp.2.2.2⟩)
    (fun m meth c A a g mk Y hp => have hG : Good Z EL Dh A.U.vm := G.at Y hZ hEL
      ⟨hp.1, wtrans (s := s.setVm vm0) hZ Y.warmed, hp.2.1, hG⟩) (fun _ _ _ _ _ _ _ _ _ => trivial)
    (fun _ _ _ _ ⟨v, L, h1, h2, h3⟩ => ⟨L, _, _, h3, rfl, rfl, v, h1, h2⟩)
    (fun m meth c A a g mk v t L k n Y hp _ _ ⟨e1, e2, v', e3, e4⟩ => by cases e3; subst e1 e2; exact ⟨L, e4, rfl, rfl, rfl⟩)
theorem wp_callSI {EL : List (String × Nat)} {y : MethodName} {bytes' : ByteArray} {maxL' : Nat} {ret' : Option FieldType} {rm : Room} {rest : List Value} {Q' : Option Value → OH → Prop} {idx : Nat} {ps : List FieldType} {rt : Option FieldType} {as' : List Value} (M : MetI EL l Z y bytes' maxL' ret' rm as' H Q') (hEL : Jvm.RoadKit.EW Z a0 EL) (hd : Dc bytes pc (.invokestatic idx) 3 pc') (w1 : (Cond.methodLink own idx y).before a0 Z = true) (w2 : (Cond.static y).before a0 Z = true) (w3 : (Cond.initialized y.cls).before a0 Z = true) (w4 : (Cond.code y bytes' maxL' ret').before a0 Z = true) (hy : y.cls ≠ "java/lang/invoke/MethodHandle" ∧ y.cls ≠ "java/lang/invoke/VarHandle") (hpd : parseMethodDescriptor y.desc = some ⟨ps, rt⟩) (hlen : as'.length = ps.length) (hst : st = as'.reverse ++ rest) (hsz : Ls.size = maxL) (hf : rm.frames + 1 ≤ R.frames) (hl : (rest.map fun v => v.category).sum + (maxL' + 11) + rm.locals ≤ R.locals) (hc : k + rm.cells ≤ R.cells) (hj : j + rm.slots ≤ R.slots) (hr : ∀ v H', Q' v H' → Wp (some EL) l Z own nm bytes maxL ret R H' (k + rm.cells) (j + rm.slots) pc' Ls (v.toList ++ rest) Q) : Wp (some EL) l Z own nm bytes maxL ret R H k j pc Ls st Q := by
  obtain ⟨hd, rfl⟩ := hd
  intro p e s vm0 k0 m args below meth c T L Dh hx hZ hS hk hby hml hown hnm hret X N hH hB
  have hZv : Z.Warmed39 (s.setVm vm0).vm := hZ
  have hownv : (s.setVm vm0).vm.findClass own = some m.cls := hown
  obtain ⟨v, _, ⟨T', L', k', n'⟩, -, X', hS2, hsz', ⟨Lc, ⟨N', H', D1, hH', G', hQ⟩, l1, y1, z1⟩, stp⟩ := Jvm.RoadKit.callSS X hx (y := y) hownv (mvT hZv w1) (mvT hZv w2) (mvT hZv w3) (mvT hZv w4) hy (backI (s := s) (W := (rest.map fun v => v.category).sum) M hH (hB EL rfl) hZ w4 w3 hf hl hEL) (g := mkF m pc Ls st) rfl (by rw [hml]; exact hsz) (argsL := as') (rest := rest) (lenOf hpd hlen) hst (by show 2 * 0 + _ ≤ _; omega) (hb hby hd) (fun _ _ => ⟨rfl, rfl, hc, hj⟩)
  dsimp only [Pt.U, Pt.locs, Pt.cells, Pt.slots] at X' l1 y1 z1 stp hH' hsz' G' hS2
  subst l1 y1 z1
  have hS3 : s.Since T'.vm T'.heap.size := hS.trans hS2 (Nat.le_trans hk hsz')
  have hZ3 : Z.Warmed39 T'.vm := State.Warmed39.trans (t := s.setVm vm0) hZ hS2.1
  obtain ⟨T2, u, L2, k2, j2, vm1, k3, H3, ⟨r0, r1, r2⟩, r3, ⟨r4, r5, r6⟩, r7, ⟨D2, r8, -, r8'⟩, r9, r10, r11⟩ := hr v H' hQ p e s T'.vm _ m args below meth c T' _ D1 hx hZ3 hS3 (Nat.le_refl _) hby hml (by rw [hS2.1.alike.findClass]; exact hown) hnm hret X' (N.app N') hH' (fun EL' q => by cases q; exact G')
  exact ⟨T2, u, L2, k2, j2, vm1, k3, H3, ⟨r0, r1, fun q => nomatch q⟩, r3, ⟨r4, r5, Nat.le_trans hsz' r6⟩, r7, ⟨D2, r8, (fun q => nomatch q), r8'⟩, r9, r10, fun fs hl => stp.trans (r11 fs hl)⟩
theorem wp_initI {EL : List (String × Nat)} {y : MethodName} {bytes' : ByteArray} {maxL' : Nat} {rm : Room} {rest : List Value} {Q' : Option Value → OH → Prop} {idx : Nat} {ps : List FieldType} {rt : Option FieldType} {a : Addr} {as' : List Value} (M : MetI EL l Z y bytes' maxL' none rm (.ref a :: as') H Q') (hEL : Jvm.RoadKit.EW Z a0 EL) (hd : Dc bytes pc (.invokespecial idx) 3 pc') (hin : y.name = "<init>") (w1 : (Cond.methodLink own idx y).before a0 Z = true) (w2 : (Cond.instanceMethod y).before a0 Z = true) (w3 : (Cond.initialized y.cls).before a0 Z = true) (w4 : (Cond.code y bytes' maxL' none).before a0 Z = true) (hy : y.cls ≠ "java/lang/invoke/MethodHandle" ∧ y.cls ≠ "java/lang/invoke/VarHandle") (hpd : parseMethodDescriptor y.desc = some ⟨ps, rt⟩) (hlen : as'.length = ps.length) (hst : st = as'.reverse ++ .ref a :: rest) (hsz : Ls.size = maxL) (hf : rm.frames + 1 ≤ R.frames) (hl : (rest.map fun v => v.category).sum + (maxL' + 11) + rm.locals ≤ R.locals) (hc : k + rm.cells ≤ R.cells) (hj : j + rm.slots ≤ R.slots) (hr : ∀ v H', Q' v H' → Wp (some EL) l Z own nm bytes maxL ret R H' (k + rm.cells) (j + rm.slots) pc' Ls (v.toList ++ rest) Q) : Wp (some EL) l Z own nm bytes maxL ret R H k j pc Ls st Q := by
  obtain ⟨hd, rfl⟩ := hd
  intro p e s vm0 k0 m args below meth c T L Dh hx hZ hS hk hby hml hown hnm hret X N hH hB
  have hZv : Z.Warmed39 (s.setVm vm0).vm := hZ
  have hownv : (s.setVm vm0).vm.findClass own = some m.cls := hown
  obtain ⟨v, _, ⟨T', L', k', n'⟩, -, X', hS2, hsz', ⟨Lc, ⟨N', H', D1, hH', G', hQ⟩, l1, y1, z1⟩, stp⟩ := X.specialBackS hx (y := y) hin hownv (mvT hZv w1) (mvT hZv w2) (mvT hZv w4) hy (backI (s := s) (W := (rest.map fun v => v.category).sum) M hH (hB EL rfl) hZ w4 w3 hf hl hEL) (g := mkF m pc Ls st) rfl (by rw [hml]; exact hsz) (Steps.refl _) (a := a) (argsL := as') (rest := rest) (lenOf hpd hlen) hst (by show 2 * 0 + _ ≤ _; omega) (hb hby hd) (fun _ _ => ⟨rfl, rfl, hc, hj⟩)
  dsimp only [Pt.U, Pt.locs, Pt.cells, Pt.slots] at X' l1 y1 z1 stp hH' hsz' G' hS2
  subst l1 y1 z1
  have hS3 : s.Since T'.vm T'.heap.size := hS.trans hS2 (Nat.le_trans hk hsz')
  have hZ3 : Z.Warmed39 T'.vm := State.Warmed39.trans (t := s.setVm vm0) hZ hS2.1
  obtain ⟨T2, u, L2, k2, j2, vm1, k3, H3, ⟨r0, r1, r2⟩, r3, ⟨r4, r5, r6⟩, r7, ⟨D2, r8, -, r8'⟩, r9, r10, r11⟩ := hr v H' hQ p e s T'.vm _ m args below meth c T' _ D1 hx hZ3 hS3 (Nat.le_refl _) hby hml (by rw [hS2.1.alike.findClass]; exact hown) hnm hret X' (N.app N') hH' (fun EL' q => by cases q; exact G')
  exact ⟨T2, u, L2, k2, j2, vm1, k3, H3, ⟨r0, r1, fun q => nomatch q⟩, r3, ⟨r4, r5, Nat.le_trans hsz' r6⟩, r7, ⟨D2, r8, (fun q => nomatch q), r8'⟩, r9, r10, fun fs hl => stp.trans (r11 fs hl)⟩
theorem wp_virtualI {EL : List (String × Nat)} {y : MethodName} {bytes' : ByteArray} {maxL' : Nat} {ret' : Option FieldType} {rm : Room} {rest : List Value} {Q' : Option Value → OH → Prop} {idx : Nat} {ps : List FieldType} {rt : Option FieldType} {x : MethodName} {C : String} {a : Addr} {as' : List Value} (M : MetI EL l Z y bytes' maxL' ret' rm (.ref a :: as') H Q') (E : ExaAt Z H a C) (hEL : Jvm.RoadKit.EW Z a0 EL) (hd : Dc bytes pc (.invokevirtual idx) 3 pc') (w1 : (Cond.methodLink own idx x).before a0 Z = true) (w2 : (Cond.declares x).before a0 Z = true) (wn : (Cond.selects x.cls x x).before a0 Z = true) (ws : (Cond.selects C x y).before a0 Z = true) (wi : (Cond.instanceMethod y).before a0 Z = true) (w3 : (Cond.initialized y.cls).before a0 Z = true) (w4 : (Cond.code y bytes' maxL' ret').before a0 Z = true) (hy : x.cls ≠ "java/lang/invoke/MethodHandle" ∧ x.cls ≠ "java/lang/invoke/VarHandle") (hpd : parseMethodDescriptor x.desc = some ⟨ps, rt⟩) (hlen : as'.length = ps.length) (hst : st = as'.reverse ++ .ref a :: rest) (hsz : Ls.size = maxL) (hf : rm.frames + 1 ≤ R.frames) (hl : (rest.map fun v => v.category).sum + (maxL' + 11) + rm.locals ≤ R.locals) (hc : k + rm.cells ≤ R.cells) (hj : j + rm.slots ≤ R.slots) (hr : ∀ v H', Q' v H' → Wp (some EL) l Z own nm bytes maxL ret R H' (k + rm.cells) (j + rm.slots) pc' Ls (v.toList ++ rest) Q) : Wp (some EL) l Z own nm bytes maxL ret R H k j pc Ls st Q := by
  obtain ⟨hd, rfl⟩ := hd
  intro p e s vm0 k0 m args below meth c T L Dh hx hZ hS hk hby hml hown hnm hret X N hH hB
  have hZv : Z.Warmed39 (s.setVm vm0).vm := hZ
  have hownv : (s.setVm vm0).vm.findClass own = some m.cls := hown
  obtain ⟨cq, kq, q1, q2, q3⟩ := isOf (s := s.setVm vm0) hZ rfl (E _ hH)
  obtain ⟨v, _, ⟨T', L', k', n'⟩, -, X', hS2, hsz', ⟨Lc, ⟨N', H', D1, hH', G', hQ⟩, l1, y1, z1⟩, stp⟩ := X.virtualBackS hx (y := x) (z := y) hownv (mvT hZv w1) (mvT hZv w2) (notFace_of_selects (args := #[]) (mvT hZv wn)) (mvT hZv ws) (mvT hZv wi) hy (backI (s := s) (W := (rest.map fun v => v.category).sum) M hH (hB EL rfl) hZ w4 w3 hf hl hEL) q1 q3 (g := mkF m pc Ls st) rfl (by rw [hml]; exact hsz) (Steps.refl _) (argsL := as') (rest := rest) (lenOf hpd hlen) hst (by show 2 * 0 + _ ≤ _; omega) (hb hby hd) (fun _ _ => ⟨rfl, rfl, hc, hj⟩)
  dsimp only [Pt.U, Pt.locs, Pt.cells, Pt.slots] at X' l1 y1 z1 stp hH' hsz' G' hS2
  subst l1 y1 z1
  have hS3 : s.Since T'.vm T'.heap.size := hS.trans hS2 (Nat.le_trans hk hsz')
  have hZ3 : Z.Warmed39 T'.vm := State.Warmed39.trans (t := s.setVm vm0) hZ hS2.1
  obtain ⟨T2, u, L2, k2, j2, vm1, k3, H3, ⟨r0, r1, r2⟩, r3, ⟨r4, r5, r6⟩, r7, ⟨D2, r8, -, r8'⟩, r9, r10, r11⟩ := hr v H' hQ p e s T'.vm _ m args below meth c T' _ D1 hx hZ3 hS3 (Nat.le_refl _) hby hml (by rw [hS2.1.alike.findClass]; exact hown) hnm hret X' (N.app N') hH' (fun EL' q => by cases q; exact G')
  exact ⟨T2, u, L2, k2, j2, vm1, k3, H3, ⟨r0, r1, fun q => nomatch q⟩, r3, ⟨r4, r5, Nat.le_trans hsz' r6⟩, r7, ⟨D2, r8, (fun q => nomatch q), r8'⟩, r9, r10, fun fs hl => stp.trans (r11 fs hl)⟩
end Own
def HW (Z : State) (a0 : Array Value) : Prop := ∀ d ∈ tables_1, d.before a0 Z = true
theorem gw {Z : State} {a0 : Array Value} (hw : HW Z a0) (i : Nat) {d : Jvm.Cond} (e : tables_1[i]? = some d) : d.before a0 Z = true := hw d (List.mem_of_getElem? e)
def Std (Z : State) (cp : Int32) (fm : Value) : Prop := Sta Z Z.heap "java/lang/String" "COMPACT_STRINGS" "Z" (.int cp) ∧ (¬ cp = 0) ∧ Sta Z Z.heap "jdk/internal/util/Preconditions" "SIOOBE_FORMATTER" "Ljava/util/function/BiFunction;" fm ∧ fm.isRef = true
theorem laid_sgStr (l : Launch) (Z : State) (a0 : Array Value) (hw : HW Z a0) : ∀ f ∈ sgStr, Laid Z a0 "java/lang/String" f.1 f.2.1 f.2.2 := all_cons (Or.inr (gw hw 21 rfl)) (all_cons (Or.inr (gw hw 22 rfl)) all_nil)
theorem dfl_sgStr : Dfl sgStr [.null, .int 0] := ⟨⟨(.array .byte), by decide +kernel, rfl⟩, ⟨.byte, by decide +kernel, rfl⟩, trivial⟩
theorem own_slo (l : Launch) (Z : State) (a0 : Array Value) (hw : HW Z a0) : Slo Z sgStr := slo_of dfl_sgStr (laid_sgStr l Z a0 hw) (by decide)
theorem own_len {args : Array Value} {s : State} {t : Term} {x : Addr} {cl : Cell} {ty : FieldType} {n : Int32} (h : (Cond.eq (Term.length t) (Term.int n)).value args s none s [] = some true) (ht : t.eval args s none [] s = some (.ref x)) (A : Arr s s.heap x cl ty) : cl.slots.size = n.toNatClampNeg := by
  have h' := Cond.eq_int (Cond.before_iff.mpr h) rfl
  have ha : s.arrayAt? x = some cl := Arr.fin (State.Warmed39.refl s).alike A
  by_cases hl : cl.slots.size < 2 ^ 31
  · rw [len_f ht ha hl] at h'
    have e : cl.slots.size.toInt32 = n := by injection (Option.some.inj h')
    rw [← e]; exact (nat_i32 hl).1.symm
  · exfalso
    simp [Term.eval, ht, ha, hl] at h'
theorem own_elem {args : Array Value} {s : State} {t : Term} {x : Addr} {cl : Cell} {ty : FieldType} {i n : Int32} (h : (Cond.eq (Term.elem t (Term.int i)) (Term.int n)).value args s none s [] = some true) (ht : t.eval args s none [] s = some (.ref x)) (A : Arr s s.heap x cl ty) : cl.slots[i.toNatClampNeg]? = some (.int n) :=
  (elem_in (Cond.eq_int (Cond.before_iff.mpr h) rfl) ht (Term.int_eval i) A.1).2
theorem own_str {args : Array Value} {s : State} {u : Term} (slo : Slo s sgStr) (h1 : (Cond.exactly u "java/lang/String").value args s none s [] = some true) (h2 : (Cond.eq (Term.field u "java/lang/String" "coder" "B") (Term.int 0)).value args s none s [] = some true) (h3 : (Cond.arrayOf (Term.field u "java/lang/String" "value" "[B") .byte).value args s none s [] = some true) :
    ∃ a v cl, u.eval args s none [] s = some (.ref a) ∧ Sat s s.heap a (.inl ("java/lang/String", sgStr, [.ref v, .int 0])) ∧ (Term.field u "java/lang/String" "value" "[B").eval args s none [] s = some (.ref v) ∧ Arr s s.heap v cl .byte := by
  obtain ⟨a, e⟩ := exa_v h1
  obtain ⟨v, ev⟩ := arr_v h3
  obtain ⟨cl, A⟩ := Arr.start ev h3
  exact ⟨a, v, cl, e, str_old slo (Exa.start e h1) (Fld.start ((fld_at e).symm.trans ev)) (fld_of e h2), ev, A⟩
theorem own_b0 {s : State} {v : Addr} {cl : Cell} (A : Arr s s.heap v cl .byte) (h : cl.slots.size = (0 : Int32).toNatClampNeg) : Sat s s.heap v (.inr (.inl (.byte, []))) := by
  refine ⟨Or.inl rfl, cl, A, ?_, fun x hx => nomatch hx⟩
  exact Array.eq_empty_of_size_eq_zero h
theorem own_b1 {s : State} {v : Addr} {cl : Cell} {c : Int32} (A : Arr s s.heap v cl .byte) (h : cl.slots.size = (1 : Int32).toNatClampNeg) (h0 : cl.slots[(0 : Int32).toNatClampNeg]? = some (.int c)) (hf : fits .byte (.int c) = true) : Sat s s.heap v (.inr (.inl (.byte, [c]))) := by
  refine ⟨Or.inl rfl, cl, A, ?_, fun x hx => by cases List.mem_singleton.mp hx; exact hf⟩
  refine Array.ext_getElem? fun i => ?_
  rcases i with _ | i
  · exact h0
  · rw [Array.getElem?_eq_none (by rw [h]; show 1 ≤ _; omega)]; rfl
theorem own_nz {args : Array Value} {s : State} {t : Term} {c : Int32} (e : t.eval args s none [] s = some (.int c)) (h : (Cond.not (Cond.eq t (Term.int 0))).before args s = true) : ¬ c = 0 := by
  rintro rfl
  have h' := Cond.before_iff.mp h
  simp [Cond.value, e, Term.int_eval] at h'
theorem own_wS (l : Launch) (Z : State) (a0 : Array Value) (hw : HW Z a0) : ∀ a ∈ Bundle.stringAtoms, a.before a0 Z = true := by
  intro d hd
  simp only [Bundle.stringAtoms, List.mem_cons, List.not_mem_nil, or_false] at hd
  rcases hd with rfl | rfl | rfl | rfl | rfl | rfl | rfl
  · exact (gw hw 7 rfl)
  · exact (gw hw 6 rfl)
  · exact (gw hw 20 rfl)
  · exact (gw hw 21 rfl)
  · exact (gw hw 22 rfl)
  · exact (gw hw 23 rfl)
  · exact (gw hw 24 rfl)
theorem own_EL (l : Launch) (Z : State) (a0 : Array Value) (hw : HW Z a0) : Jvm.RoadKit.EW Z a0 consts_1 := (Jvm.RoadKit.EW.cons (text := "") (gw hw 19 rfl) (by decide) (Jvm.RoadKit.EW.cons (text := "") (gw hw 101 rfl) (by decide) Jvm.RoadKit.EW.nil))
theorem own_ch_all : ∀ n, n < 256 → 0 ≤ (nar .char (Int32.ofNat n).toUInt32.toUInt16.toUInt32.toInt32).toInt ∧ (nar .char (Int32.ofNat n).toUInt32.toUInt16.toUInt32.toInt32).toInt ≤ 255 := by decide +kernel
theorem own_of (y : Int32) (h : 0 ≤ y.toInt ∧ y.toInt ≤ 255) : y = Int32.ofNat y.toNatClampNeg ∧ y.toNatClampNeg < 256 := by
  have h2 : y.toNatClampNeg < 256 := by simp only [Int32.toNatClampNeg]; omega
  refine ⟨Int32.toInt_inj.mp ?_, h2⟩
  rw [Int32.toInt_ofNat_of_lt (by omega)]; simp only [Int32.toNatClampNeg]; omega
theorem own_m255 (x : Int32) : 0 ≤ (x &&& 255).toInt ∧ (x &&& 255).toInt ≤ 255 := by
  have h : (x &&& 255).toInt = x.toInt % 256 := c_mask x 255 8 (by decide) (by decide)
  omega
theorem own_ch (x : Int32) : 0 ≤ (nar .char (x &&& 255).toUInt32.toUInt16.toUInt32.toInt32).toInt ∧ (nar .char (x &&& 255).toUInt32.toUInt16.toUInt32.toInt32).toInt ≤ 255 := by
  have h := own_of (x &&& 255) (own_m255 x)
  rw [h.1]
  exact own_ch_all _ h.2
theorem own_of8 (c : Int32) (h : 0 ≤ c.toInt ∧ c.toInt ≤ 255) : c = Int32.ofNat c.toNatClampNeg ∧ c.toNatClampNeg < 256 := own_of c h
def byt (c : Int32) : Int32 := nar .byte c.toInt8.toInt32
def ub (y : Int32) : Int32 := nar .char (nar .char (y &&& 255).toUInt32.toUInt16.toUInt32.toInt32)
theorem own_ub_all : ∀ n, n < 256 → ub (nar .byte (Int32.ofNat n).toInt8.toInt32) = Int32.ofNat n := by decide +kernel
theorem own_ub (c : Int32) (h : 0 ≤ c.toInt ∧ c.toInt ≤ 255) : ub (nar .byte c.toInt8.toInt32) = c := by
  have q := own_of c h
  rw [q.1]
  exact own_ub_all _ q.2
theorem own_nc_all : ∀ n, n < 256 → nar .char (Int32.ofNat n) = Int32.ofNat n := by decide +kernel
theorem own_nc (c : Int32) (h : 0 ≤ c.toInt ∧ c.toInt ≤ 255) : nar .char c = c := by
  have q := own_of c h
  rw [q.1]
  exact own_nc_all _ q.2
theorem own_35_all : ∀ n, n < 256 → nar .byte (Int32.ofNat n).toInt8.toInt32 = 35 → n = 35 := by decide +kernel
theorem own_35 (c : Int32) (h : 0 ≤ c.toInt ∧ c.toInt ≤ 255) (hn : ¬ c = 35) : ¬ nar .byte c.toInt8.toInt32 = 35 := by
  have q := own_of c h
  intro e
  rw [q.1] at e
  have e2 := own_35_all _ q.2 e
  exact hn (q.1.trans (congrArg Int32.ofNat e2))
theorem own_mod5 (x : Int32) : (x &&& 2147483647) % 5 = 0 ∨ (x &&& 2147483647) % 5 = 1 ∨ (x &&& 2147483647) % 5 = 2 ∨ (x &&& 2147483647) % 5 = 3 ∨ (x &&& 2147483647) % 5 = 4 := by
  have h1 : (x &&& 2147483647).toInt = x.toInt % 2147483648 := c_mask x 2147483647 31 (by decide) (by decide)
  have h2 := (c_irem (x &&& 2147483647) 5 5 (by decide)).1 (by rw [h1]; omega)
  simp only [← Int32.toInt_inj, Int32.reduceToInt]
  omega
def Q_c_cm5_1 (b s q : Addr) (c0 : Int32) (F : OH) : Option Value → OH → Prop := fun w' H' => w' = some (.int 1) ∧ H' = ((b, oA .byte [(nar .byte c0.toInt8.toInt32)]) :: (s, oS (.null)) :: (q, oA .char [c0]) :: F)
theorem pd_1 : parseMethodDescriptor "([CI[BII)I" = some ⟨[(.array .char), .int, (.array .byte), .int, .int], (some .int)⟩ := by decide +kernel
theorem pn_1 : plainFor (⟨"java/lang/StringUTF16", "compress", "([CI[BII)I"⟩ : MethodName) = true := by first | exact plainFor_of_name (by first | (simp [plainName, overriddenIn]; done) | decide +kernel) | decide +kernel
theorem D_jdk_52_m21_0 : Dc jdk_52_method_21_code 0 (.iconst 0) 1 1 := ⟨by decide +kernel, rfl⟩
theorem D_jdk_52_m21_1 : Dc jdk_52_method_21_code 1 (.istore 5) 2 3 := ⟨by decide +kernel, rfl⟩
theorem D_jdk_52_m21_3 : Dc jdk_52_method_21_code 3 (.iload 5) 2 5 := ⟨by decide +kernel, rfl⟩
theorem D_jdk_52_m21_5 : Dc jdk_52_method_21_code 5 (.iload 4) 2 7 := ⟨by decide +kernel, rfl⟩
theorem D_jdk_52_m21_7 : Dc jdk_52_method_21_code 7 (.if_icmp .ge 37) 3 10 := ⟨by decide +kernel, rfl⟩
theorem D_jdk_52_m21_10 : Dc jdk_52_method_21_code 10 (.aload_n 0) 1 11 := ⟨by decide +kernel, rfl⟩
theorem D_jdk_52_m21_11 : Dc jdk_52_method_21_code 11 (.iload_n 1) 1 12 := ⟨by decide +kernel, rfl⟩
theorem D_jdk_52_m21_12 : Dc jdk_52_method_21_code 12 (.caload) 1 13 := ⟨by decide +kernel, rfl⟩
theorem D_jdk_52_m21_13 : Dc jdk_52_method_21_code 13 (.istore 6) 2 15 := ⟨by decide +kernel, rfl⟩
theorem D_jdk_52_m21_15 : Dc jdk_52_method_21_code 15 (.iload 6) 2 17 := ⟨by decide +kernel, rfl⟩
theorem D_jdk_52_m21_17 : Dc jdk_52_method_21_code 17 (.sipush 255) 3 20 := ⟨by decide +kernel, rfl⟩
theorem D_jdk_52_m21_20 : Dc jdk_52_method_21_code 20 (.if_icmp .le 6) 3 23 := ⟨by decide +kernel, rfl⟩
theorem D_jdk_52_m21_26 : Dc jdk_52_method_21_code 26 (.aload_n 2) 1 27 := ⟨by decide +kernel, rfl⟩
theorem D_jdk_52_m21_27 : Dc jdk_52_method_21_code 27 (.iload_n 3) 1 28 := ⟨by decide +kernel, rfl⟩
theorem D_jdk_52_m21_28 : Dc jdk_52_method_21_code 28 (.iload 6) 2 30 := ⟨by decide +kernel, rfl⟩
theorem D_jdk_52_m21_30 : Dc jdk_52_method_21_code 30 (.i2b) 1 31 := ⟨by decide +kernel, rfl⟩
theorem D_jdk_52_m21_31 : Dc jdk_52_method_21_code 31 (.bastore) 1 32 := ⟨by decide +kernel, rfl⟩
theorem D_jdk_52_m21_32 : Dc jdk_52_method_21_code 32 (.iinc 1 1) 3 35 := ⟨by decide +kernel, rfl⟩
theorem D_jdk_52_m21_35 : Dc jdk_52_method_21_code 35 (.iinc 3 1) 3 38 := ⟨by decide +kernel, rfl⟩
theorem D_jdk_52_m21_38 : Dc jdk_52_method_21_code 38 (.iinc 5 1) 3 41 := ⟨by decide +kernel, rfl⟩
theorem D_jdk_52_m21_41 : Dc jdk_52_method_21_code 41 (.goto (-38)) 3 44 := ⟨by decide +kernel, rfl⟩
theorem D_jdk_52_m21_44 : Dc jdk_52_method_21_code 44 (.iload 4) 2 46 := ⟨by decide +kernel, rfl⟩
theorem D_jdk_52_m21_46 : Dc jdk_52_method_21_code 46 (.ireturn) 1 47 := ⟨by decide +kernel, rfl⟩
abbrev W1 (l : Launch) (Z : State) := Wp none l Z "java/lang/StringUTF16" "compress" jdk_52_method_21_code 7 (some .int)
set_option maxRecDepth 65536 in
set_option maxHeartbeats 40000000 in
theorem c_cm5_1 (l : Launch) (Z : State) (a0 : Array Value) (hw : HW Z a0) (b s q : Addr) (c0 : Int32) (F : OH) (h_c0 : 0 ≤ c0.toInt ∧ c0.toInt ≤ 255) :
    Met l Z (⟨"java/lang/StringUTF16", "compress", "([CI[BII)I"⟩ : MethodName) jdk_52_method_21_code 7 (some .int) (rm4 0 0 0 0) [(.ref q), (.int 0), (.ref b), (.int 0), (.int 1)] ((b, oA .byte [(0 : Int32)]) :: (s, oS (.null)) :: (q, oA .char [c0]) :: F) (Q_c_cm5_1 b s q c0 F) := by
  refine Met.of_wp (Ls := #[.val (.ref q), .val (.int 0), .val (.ref b), .val (.int 0), .val (.int 1), .unset, .unset]) pn_1 (fun m => (entry_loc m _ _).trans rfl) ?_
  show W1 l Z (rm4 0 0 0 0) ((b, oA .byte [(0 : Int32)]) :: (s, oS (.null)) :: (q, oA .char [c0]) :: F) 0 0 0 #[.val (.ref q), .val (.int 0), .val (.ref b), .val (.int 0), .val (.int 1), .unset, .unset] [] (Q_c_cm5_1 b s q c0 F)
  refine wp_iconst 0 D_jdk_52_m21_0 (by decide) ?_
  refine wp_istore #[.val (.ref q), .val (.int 0), .val (.ref b), .val (.int 0), .val (.int 1), .val (.int 0), .unset] D_jdk_52_m21_1 rfl ?_
  refine wp_iload D_jdk_52_m21_3 rfl ?_
  refine wp_iload D_jdk_52_m21_5 rfl ?_
  refine wp_icmp_ge D_jdk_52_m21_7 (pc'' := 44) ⟨by decide, by decide⟩ (fun h1 => by exact absurd h1 (by decide)) (fun h1 => ?_)
  refine wp_aload_n D_jdk_52_m21_10 rfl rfl ?_
  refine wp_iload_n D_jdk_52_m21_11 rfl ?_
  refine wp_caload (i := 2) (0) D_jdk_52_m21_12 rfl (by decide) (by decide) rfl ?_
  refine wp_istore #[.val (.ref q), .val (.int 0), .val (.ref b), .val (.int 0), .val (.int 1), .val (.int 0), .val (.int c0)] D_jdk_52_m21_13 rfl ?_
  refine wp_iload D_jdk_52_m21_15 rfl ?_
  refine wp_sipush 255 D_jdk_52_m21_17 (by decide) ?_
  refine wp_icmp_le D_jdk_52_m21_20 (pc'' := 26) ⟨by decide, by decide⟩ (fun h2 => ?_) (fun h2 => by exfalso; (simp only [Int32.lt_iff_toInt_lt, Int32.le_iff_toInt_le, ← Int32.toInt_inj, Int32.reduceToInt, Int64.lt_iff_toInt_lt, ← Int64.toInt_inj, Int64.reduceToInt] at *; omega))
  refine wp_aload_n D_jdk_52_m21_26 rfl rfl ?_
  refine wp_iload_n D_jdk_52_m21_27 rfl ?_
  refine wp_iload D_jdk_52_m21_28 rfl ?_
  refine wp_i2b D_jdk_52_m21_30 ?_
  refine wp_bastore (i := 0) (0) D_jdk_52_m21_31 rfl (by decide) (by decide) (by first | decide | exact Nat.le_of_ble_eq_true rfl | simp) ?_
  show W1 l Z (rm4 0 0 0 0) ((b, oA .byte [(nar .byte c0.toInt8.toInt32)]) :: (s, oS (.null)) :: (q, oA .char [c0]) :: F) 0 0 32 #[.val (.ref q), .val (.int 0), .val (.ref b), .val (.int 0), .val (.int 1), .val (.int 0), .val (.int c0)] [] (Q_c_cm5_1 b s q c0 F)
  refine wp_iinc 1 #[.val (.ref q), .val (.int 1), .val (.ref b), .val (.int 0), .val (.int 1), .val (.int 0), .val (.int c0)] D_jdk_52_m21_32 rfl rfl (by rw [show (0 : Int32) + (1 : Int32) = (1 : Int32) from by decide]; rfl) ?_
  refine wp_iinc 1 #[.val (.ref q), .val (.int 1), .val (.ref b), .val (.int 1), .val (.int 1), .val (.int 0), .val (.int c0)] D_jdk_52_m21_35 rfl rfl (by rw [show (0 : Int32) + (1 : Int32) = (1 : Int32) from by decide]; rfl) ?_
  refine wp_iinc 1 #[.val (.ref q), .val (.int 1), .val (.ref b), .val (.int 1), .val (.int 1), .val (.int 1), .val (.int c0)] D_jdk_52_m21_38 rfl rfl (by rw [show (0 : Int32) + (1 : Int32) = (1 : Int32) from by decide]; rfl) ?_
  refine wp_goto D_jdk_52_m21_41 (pc'' := 3) ⟨by decide, by decide⟩ ?_
  refine wp_iload D_jdk_52_m21_3 rfl ?_
  refine wp_iload D_jdk_52_m21_5 rfl ?_
  refine wp_icmp_ge D_jdk_52_m21_7 (pc'' := 44) ⟨by decide, by decide⟩ (fun h3 => ?_) (fun h3 => by exact absurd h3 (by decide))
  refine wp_iload D_jdk_52_m21_44 rfl ?_
  refine wp_ireturn D_jdk_52_m21_46 rfl (by decide) (by decide) ?_
  exact ⟨rfl, rfl⟩
def Q_c_cm3_1 (s q : Addr) (c0 : Int32) (F : OH) : Option Value → OH → Prop := fun w' H' => ∃ b, w' = some (.ref b) ∧ H' = ((b, oA .byte [(nar .byte c0.toInt8.toInt32)]) :: (s, oS (.null)) :: (q, oA .char [c0]) :: F)
theorem pn_2 : plainFor (⟨"java/lang/StringUTF16", "compress", "([CII)[B"⟩ : MethodName) = true := by first | exact plainFor_of_name (by first | (simp [plainName, overriddenIn]; done) | decide +kernel) | decide +kernel
theorem D_jdk_52_m16_0 : Dc jdk_52_method_16_code 0 (.iload_n 2) 1 1 := ⟨by decide +kernel, rfl⟩
theorem D_jdk_52_m16_1 : Dc jdk_52_method_16_code 1 (.newarray .byte) 2 3 := ⟨by decide +kernel, rfl⟩
theorem D_jdk_52_m16_3 : Dc jdk_52_method_16_code 3 (.astore_n 3) 1 4 := ⟨by decide +kernel, rfl⟩
theorem D_jdk_52_m16_4 : Dc jdk_52_method_16_code 4 (.aload_n 0) 1 5 := ⟨by decide +kernel, rfl⟩
theorem D_jdk_52_m16_5 : Dc jdk_52_method_16_code 5 (.iload_n 1) 1 6 := ⟨by decide +kernel, rfl⟩
theorem D_jdk_52_m16_6 : Dc jdk_52_method_16_code 6 (.aload_n 3) 1 7 := ⟨by decide +kernel, rfl⟩
theorem D_jdk_52_m16_7 : Dc jdk_52_method_16_code 7 (.iconst 0) 1 8 := ⟨by decide +kernel, rfl⟩
theorem D_jdk_52_m16_8 : Dc jdk_52_method_16_code 8 (.iload_n 2) 1 9 := ⟨by decide +kernel, rfl⟩
theorem D_jdk_52_m16_9 : Dc jdk_52_method_16_code 9 (.invokestatic 115) 3 12 := ⟨by decide +kernel, rfl⟩
theorem D_jdk_52_m16_12 : Dc jdk_52_method_16_code 12 (.istore 4) 2 14 := ⟨by decide +kernel, rfl⟩
theorem D_jdk_52_m16_14 : Dc jdk_52_method_16_code 14 (.iload 4) 2 16 := ⟨by decide +kernel, rfl⟩
theorem D_jdk_52_m16_16 : Dc jdk_52_method_16_code 16 (.iload_n 2) 1 17 := ⟨by decide +kernel, rfl⟩
theorem D_jdk_52_m16_17 : Dc jdk_52_method_16_code 17 (.if_icmp .eq 40) 3 20 := ⟨by decide +kernel, rfl⟩
theorem D_jdk_52_m16_57 : Dc jdk_52_method_16_code 57 (.aload_n 3) 1 58 := ⟨by decide +kernel, rfl⟩
theorem D_jdk_52_m16_58 : Dc jdk_52_method_16_code 58 (.areturn) 1 59 := ⟨by decide +kernel, rfl⟩
abbrev W2 (l : Launch) (Z : State) := Wp none l Z "java/lang/StringUTF16" "compress" jdk_52_method_16_code 6 (some (.array .byte))
set_option maxRecDepth 65536 in
set_option maxHeartbeats 40000000 in
theorem c_cm3_1 (l : Launch) (Z : State) (a0 : Array Value) (hw : HW Z a0) (s q : Addr) (c0 : Int32) (F : OH) (h_c0 : 0 ≤ c0.toInt ∧ c0.toInt ≤ 255) :
    Met l Z (⟨"java/lang/StringUTF16", "compress", "([CII)[B"⟩ : MethodName) jdk_52_method_16_code 6 (some (.array .byte)) (rm4 1 1 1 18) [(.ref q), (.int 0), (.int 1)] ((s, oS (.null)) :: (q, oA .char [c0]) :: F) (Q_c_cm3_1 s q c0 F) := by
  refine Met.of_wp (Ls := #[.val (.ref q), .val (.int 0), .val (.int 1), .unset, .unset, .unset]) pn_2 (fun m => (entry_loc m _ _).trans rfl) ?_
  show W2 l Z (rm4 1 1 1 18) ((s, oS (.null)) :: (q, oA .char [c0]) :: F) 0 0 0 #[.val (.ref q), .val (.int 0), .val (.int 1), .unset, .unset, .unset] [] (Q_c_cm3_1 s q c0 F)
  refine wp_iload_n D_jdk_52_m16_0 rfl ?_
  refine wp_newarrayI (n := (1 : Int32)) (1) 1 D_jdk_52_m16_1 rfl rfl rfl (gw hw 20 rfl) (by decide) (by decide) (by decide) (by decide) (by decide) (by decide) ?_
  intro a1
  show W2 l Z (rm4 1 1 1 18) ((a1, oA .byte [(0 : Int32)]) :: (s, oS (.null)) :: (q, oA .char [c0]) :: F) 1 1 3 #[.val (.ref q), .val (.int 0), .val (.int 1), .unset, .unset, .unset] [(.ref a1)] (Q_c_cm3_1 s q c0 F)
  refine wp_astore_n #[.val (.ref q), .val (.int 0), .val (.int 1), .val (.ref a1), .unset, .unset] D_jdk_52_m16_3 rfl rfl ?_
  refine wp_aload_n D_jdk_52_m16_4 rfl rfl ?_
  refine wp_iload_n D_jdk_52_m16_5 rfl ?_
  refine wp_aload_n D_jdk_52_m16_6 rfl rfl ?_
  refine wp_iconst 0 D_jdk_52_m16_7 (by decide) ?_
  refine wp_iload_n D_jdk_52_m16_8 rfl ?_
  refine wp_callS (c_cm5_1 l Z a0 hw a1 s q c0 F h_c0) D_jdk_52_m16_9 (gw hw 76 rfl) (gw hw 77 rfl) (gw hw 74 rfl) (gw hw 78 rfl) (by decide) pd_1 rfl rfl rfl (lb rfl) (lb rfl) (lb rfl) (lb rfl) ?_
  rintro _ _ ⟨rfl, rfl⟩
  show W2 l Z (rm4 1 1 1 18) ((a1, oA .byte [(nar .byte c0.toInt8.toInt32)]) :: (s, oS (.null)) :: (q, oA .char [c0]) :: F) 1 1 12 #[.val (.ref q), .val (.int 0), .val (.int 1), .val (.ref a1), .unset, .unset] [(.int 1)] (Q_c_cm3_1 s q c0 F)
  refine wp_istore #[.val (.ref q), .val (.int 0), .val (.int 1), .val (.ref a1), .val (.int 1), .unset] D_jdk_52_m16_12 rfl ?_
  refine wp_iload D_jdk_52_m16_14 rfl ?_
  refine wp_iload_n D_jdk_52_m16_16 rfl ?_
  refine wp_icmp_eq D_jdk_52_m16_17 (pc'' := 57) ⟨by decide, by decide⟩ (fun h2 => ?_) (fun h2 => by exact absurd h2 (by decide))
  refine wp_aload_n D_jdk_52_m16_57 rfl rfl ?_
  refine wp_areturn D_jdk_52_m16_58 rfl rfl rfl rfl (by decide) (by decide) ?_
  exact ⟨_, rfl, rfl⟩
def Q_c_cfa_1 (b s q : Addr) (c0 : Int32) (F : OH) : Option Value → OH → Prop := fun w' H' => w' = some (.int 0) ∧ H' = ((b, oA .byte [(nar .byte c0.toInt8.toInt32)]) :: (s, oS (.null)) :: (q, oA .char [c0]) :: F)
theorem pn_3 : plainFor (⟨"java/lang/StringUTF16", "coderFromArrayLen", "([BI)B"⟩ : MethodName) = true := by first | exact plainFor_of_name (by first | (simp [plainName, overriddenIn]; done) | decide +kernel) | decide +kernel
theorem D_jdk_52_m15_0 : Dc jdk_52_method_15_code 0 (.iload_n 1) 1 1 := ⟨by decide +kernel, rfl⟩
theorem D_jdk_52_m15_1 : Dc jdk_52_method_15_code 1 (.aload_n 0) 1 2 := ⟨by decide +kernel, rfl⟩
theorem D_jdk_52_m15_2 : Dc jdk_52_method_15_code 2 (.arraylength) 1 3 := ⟨by decide +kernel, rfl⟩
theorem D_jdk_52_m15_3 : Dc jdk_52_method_15_code 3 (.isub) 1 4 := ⟨by decide +kernel, rfl⟩
theorem D_jdk_52_m15_4 : Dc jdk_52_method_15_code 4 (.bipush 31) 2 6 := ⟨by decide +kernel, rfl⟩
theorem D_jdk_52_m15_6 : Dc jdk_52_method_15_code 6 (.iushr) 1 7 := ⟨by decide +kernel, rfl⟩
theorem D_jdk_52_m15_7 : Dc jdk_52_method_15_code 7 (.i2b) 1 8 := ⟨by decide +kernel, rfl⟩
theorem D_jdk_52_m15_8 : Dc jdk_52_method_15_code 8 (.ireturn) 1 9 := ⟨by decide +kernel, rfl⟩
abbrev W3 (l : Launch) (Z : State) := Wp none l Z "java/lang/StringUTF16" "coderFromArrayLen" jdk_52_method_15_code 2 (some .byte)
set_option maxRecDepth 65536 in
set_option maxHeartbeats 40000000 in
theorem c_cfa_1 (l : Launch) (Z : State) (a0 : Array Value) (hw : HW Z a0) (b s q : Addr) (c0 : Int32) (F : OH) :
    Met l Z (⟨"java/lang/StringUTF16", "coderFromArrayLen", "([BI)B"⟩ : MethodName) jdk_52_method_15_code 2 (some .byte) (rm4 0 0 0 0) [(.ref b), (.int 1)] ((b, oA .byte [(nar .byte c0.toInt8.toInt32)]) :: (s, oS (.null)) :: (q, oA .char [c0]) :: F) (Q_c_cfa_1 b s q c0 F) := by
  refine Met.of_wp (Ls := #[.val (.ref b), .val (.int 1)]) pn_3 (fun m => (entry_loc m _ _).trans rfl) ?_
  show W3 l Z (rm4 0 0 0 0) ((b, oA .byte [(nar .byte c0.toInt8.toInt32)]) :: (s, oS (.null)) :: (q, oA .char [c0]) :: F) 0 0 0 #[.val (.ref b), .val (.int 1)] [] (Q_c_cfa_1 b s q c0 F)
  refine wp_iload_n D_jdk_52_m15_0 rfl ?_
  refine wp_aload_n D_jdk_52_m15_1 rfl rfl ?_
  refine wp_lengthI (i := 0) (1 : Int32) D_jdk_52_m15_2 rfl rfl ?_
  refine wp_isub D_jdk_52_m15_3 ?_
  rw [show ((1 : Int32) - (1 : Int32)) = (0 : Int32) from by decide]
  refine wp_bipush 31 D_jdk_52_m15_4 (by decide) ?_
  refine wp_iushr D_jdk_52_m15_6 ?_
  rw [show (XT.ushr (0 : Int32) (31 : Int32)) = (0 : Int32) from by decide]
  refine wp_i2b D_jdk_52_m15_7 ?_
  rw [show (0 : Int32).toInt8.toInt32 = (0 : Int32) from by decide]
  refine wp_ireturnN D_jdk_52_m15_8 rfl (by simp) (by decide) (by decide) ?_
  exact ⟨rfl, rfl⟩
def Q_c_si4_1 (s q : Addr) (cp : Int32) (c0 : Int32) (F : OH) : Option Value → OH → Prop := fun w' H' => w' = none ∧ ∃ b, H' = ((b, oA .byte [(nar .byte c0.toInt8.toInt32)]) :: (s, oS (.ref b)) :: (q, oA .char [c0]) :: F)
theorem pd_2 : parseMethodDescriptor "([CIILjava/lang/Void;)V" = some ⟨[(.array .char), .int, .int, (.object "java/lang/Void")], none⟩ := by decide +kernel
theorem pd_3 : parseMethodDescriptor "(II)I" = some ⟨[.int, .int], (some .int)⟩ := by decide +kernel
theorem pd_4 : parseMethodDescriptor "()Z" = some ⟨[], (some .boolean)⟩ := by decide +kernel
theorem pd_5 : parseMethodDescriptor "()I" = some ⟨[], (some .int)⟩ := by decide +kernel
theorem pd_6 : parseMethodDescriptor "()B" = some ⟨[], (some .byte)⟩ := by decide +kernel
theorem pd_7 : parseMethodDescriptor "([BIII)I" = some ⟨[(.array .byte), .int, .int, .int], (some .int)⟩ := by decide +kernel
theorem pd_8 : parseMethodDescriptor "([CII)[B" = some ⟨[(.array .char), .int, .int], (some (.array .byte))⟩ := by decide +kernel
theorem pd_9 : parseMethodDescriptor "([BI)B" = some ⟨[(.array .byte), .int], (some .byte)⟩ := by decide +kernel
theorem pd_10 : parseMethodDescriptor "(III)V" = some ⟨[.int, .int, .int], none⟩ := by decide +kernel
theorem pd_11 : parseMethodDescriptor "(IIILjava/util/function/BiFunction;)I" = some ⟨[.int, .int, .int, (.object "java/util/function/BiFunction")], (some .int)⟩ := by decide +kernel
theorem pd_12 : parseMethodDescriptor "([BII)Ljava/lang/String;" = some ⟨[(.array .byte), .int, .int], (some (.object "java/lang/String"))⟩ := by decide +kernel
theorem pd_13 : parseMethodDescriptor "([BI)C" = some ⟨[(.array .byte), .int], (some .char)⟩ := by decide +kernel
theorem pd_14 : parseMethodDescriptor "(IILjava/util/function/BiFunction;)I" = some ⟨[.int, .int, (.object "java/util/function/BiFunction")], (some .int)⟩ := by decide +kernel
theorem pn_4 : plainFor (⟨"java/lang/String", "<init>", "([CIILjava/lang/Void;)V"⟩ : MethodName) = true := by first | exact plainFor_of_name (by first | (simp [plainName, overriddenIn]; done) | decide +kernel) | decide +kernel
theorem D_jdk_42_m149_0 : Dc jdk_42_method_149_code 0 (.aload_n 0) 1 1 := ⟨by decide +kernel, rfl⟩
theorem D_jdk_42_m149_1 : Dc jdk_42_method_149_code 1 (.invokespecial 1) 3 4 := ⟨by decide +kernel, rfl⟩
theorem D_jdk_42_m149_4 : Dc jdk_42_method_149_code 4 (.iload_n 3) 1 5 := ⟨by decide +kernel, rfl⟩
theorem D_jdk_42_m149_5 : Dc jdk_42_method_149_code 5 (.ifCond .ne 22) 3 8 := ⟨by decide +kernel, rfl⟩
theorem D_jdk_42_m149_8 : Dc jdk_42_method_149_code 8 (.aload_n 0) 1 9 := ⟨by decide +kernel, rfl⟩
theorem D_jdk_42_m149_9 : Dc jdk_42_method_149_code 9 (.ldc 7) 2 11 := ⟨by decide +kernel, rfl⟩
theorem D_jdk_42_m149_11 : Dc jdk_42_method_149_code 11 (.getfield 9) 3 14 := ⟨by decide +kernel, rfl⟩
theorem D_jdk_42_m149_14 : Dc jdk_42_method_149_code 14 (.putfield 9) 3 17 := ⟨by decide +kernel, rfl⟩
theorem D_jdk_42_m149_17 : Dc jdk_42_method_149_code 17 (.aload_n 0) 1 18 := ⟨by decide +kernel, rfl⟩
theorem D_jdk_42_m149_18 : Dc jdk_42_method_149_code 18 (.ldc 7) 2 20 := ⟨by decide +kernel, rfl⟩
theorem D_jdk_42_m149_20 : Dc jdk_42_method_149_code 20 (.getfield 15) 3 23 := ⟨by decide +kernel, rfl⟩
theorem D_jdk_42_m149_23 : Dc jdk_42_method_149_code 23 (.putfield 15) 3 26 := ⟨by decide +kernel, rfl⟩
theorem D_jdk_42_m149_26 : Dc jdk_42_method_149_code 26 (.return_) 1 27 := ⟨by decide +kernel, rfl⟩
theorem D_jdk_42_m149_27 : Dc jdk_42_method_149_code 27 (.getstatic 38) 3 30 := ⟨by decide +kernel, rfl⟩
theorem D_jdk_42_m149_30 : Dc jdk_42_method_149_code 30 (.ifCond .eq 28) 3 33 := ⟨by decide +kernel, rfl⟩
theorem D_jdk_42_m149_33 : Dc jdk_42_method_149_code 33 (.aload_n 1) 1 34 := ⟨by decide +kernel, rfl⟩
theorem D_jdk_42_m149_34 : Dc jdk_42_method_149_code 34 (.iload_n 2) 1 35 := ⟨by decide +kernel, rfl⟩
theorem D_jdk_42_m149_35 : Dc jdk_42_method_149_code 35 (.iload_n 3) 1 36 := ⟨by decide +kernel, rfl⟩
theorem D_jdk_42_m149_36 : Dc jdk_42_method_149_code 36 (.invokestatic 177) 3 39 := ⟨by decide +kernel, rfl⟩
theorem D_jdk_42_m149_39 : Dc jdk_42_method_149_code 39 (.astore 5) 2 41 := ⟨by decide +kernel, rfl⟩
theorem D_jdk_42_m149_41 : Dc jdk_42_method_149_code 41 (.aload_n 0) 1 42 := ⟨by decide +kernel, rfl⟩
theorem D_jdk_42_m149_42 : Dc jdk_42_method_149_code 42 (.aload 5) 2 44 := ⟨by decide +kernel, rfl⟩
theorem D_jdk_42_m149_44 : Dc jdk_42_method_149_code 44 (.iload_n 3) 1 45 := ⟨by decide +kernel, rfl⟩
theorem D_jdk_42_m149_45 : Dc jdk_42_method_149_code 45 (.invokestatic 47) 3 48 := ⟨by decide +kernel, rfl⟩
theorem D_jdk_42_m149_48 : Dc jdk_42_method_149_code 48 (.putfield 15) 3 51 := ⟨by decide +kernel, rfl⟩
theorem D_jdk_42_m149_51 : Dc jdk_42_method_149_code 51 (.aload_n 0) 1 52 := ⟨by decide +kernel, rfl⟩
theorem D_jdk_42_m149_52 : Dc jdk_42_method_149_code 52 (.aload 5) 2 54 := ⟨by decide +kernel, rfl⟩
theorem D_jdk_42_m149_54 : Dc jdk_42_method_149_code 54 (.putfield 9) 3 57 := ⟨by decide +kernel, rfl⟩
theorem D_jdk_42_m149_57 : Dc jdk_42_method_149_code 57 (.return_) 1 58 := ⟨by decide +kernel, rfl⟩
abbrev W4 (l : Launch) (Z : State) := Wp none l Z "java/lang/String" "<init>" jdk_42_method_149_code 6 none
set_option maxRecDepth 65536 in
set_option maxHeartbeats 40000000 in
theorem c_si4_1 (l : Launch) (Z : State) (a0 : Array Value) (hw : HW Z a0) (s q : Addr) (cp : Int32) (c0 : Int32) (F : OH) (S_cp : Sta Z Z.heap "java/lang/String" "COMPACT_STRINGS" "Z" (.int cp)) (hcp : ¬ cp = 0) (h_c0 : 0 ≤ c0.toInt ∧ c0.toInt ≤ 255) :
    Met l Z (⟨"java/lang/String", "<init>", "([CIILjava/lang/Void;)V"⟩ : MethodName) jdk_42_method_149_code 6 none (rm4 2 1 1 35) [(.ref s), (.ref q), (.int 0), (.int 1), (.null)] ((s, oS (.null)) :: (q, oA .char [c0]) :: F) (Q_c_si4_1 s q cp c0 F) := by
  refine Met.of_wp (Ls := #[.val (.ref s), .val (.ref q), .val (.int 0), .val (.int 1), .val (.null), .unset]) pn_4 (fun m => (entry_loc m _ _).trans rfl) ?_
  show W4 l Z (rm4 2 1 1 35) ((s, oS (.null)) :: (q, oA .char [c0]) :: F) 0 0 0 #[.val (.ref s), .val (.ref q), .val (.int 0), .val (.int 1), .val (.null), .unset] [] (Q_c_si4_1 s q cp c0 F)
  refine wp_aload_n D_jdk_42_m149_0 rfl rfl ?_
  refine wp_initO D_jdk_42_m149_1 (gw hw 16 rfl) (gw hw 17 rfl) (gw hw 18 rfl) rfl (Nat.le_of_ble_eq_true rfl) (Nat.le_of_ble_eq_true rfl) ?_
  refine wp_iload_n D_jdk_42_m149_4 rfl ?_
  refine wp_if_ne D_jdk_42_m149_5 (pc'' := 27) ⟨by decide, by decide⟩ (fun h1 => ?_) (fun h1 => by exact absurd h1 (by decide))
  refine wp_getstatic D_jdk_42_m149_27 (gw hw 46 rfl) S_cp ?_
  refine wp_if_eq D_jdk_42_m149_30 (pc'' := 58) ⟨by decide, by decide⟩ (fun h2 => by exact absurd h2 hcp) (fun h2 => ?_)
  refine wp_aload_n D_jdk_42_m149_33 rfl rfl ?_
  refine wp_iload_n D_jdk_42_m149_34 rfl ?_
  refine wp_iload_n D_jdk_42_m149_35 rfl ?_
  refine wp_callS (c_cm3_1 l Z a0 hw s q c0 F h_c0) D_jdk_42_m149_36 (gw hw 72 rfl) (gw hw 73 rfl) (gw hw 74 rfl) (gw hw 75 rfl) (by decide) pd_8 rfl rfl rfl (lb rfl) (lb rfl) (lb rfl) (lb rfl) ?_
  rintro _ _ ⟨b3, rfl, rfl⟩
  show W4 l Z (rm4 2 1 1 35) ((b3, oA .byte [(nar .byte c0.toInt8.toInt32)]) :: (s, oS (.null)) :: (q, oA .char [c0]) :: F) 1 1 39 #[.val (.ref s), .val (.ref q), .val (.int 0), .val (.int 1), .val (.null), .unset] [(.ref b3)] (Q_c_si4_1 s q cp c0 F)
  refine wp_astore #[.val (.ref s), .val (.ref q), .val (.int 0), .val (.int 1), .val (.null), .val (.ref b3)] D_jdk_42_m149_39 rfl rfl ?_
  refine wp_aload_n D_jdk_42_m149_41 rfl rfl ?_
  refine wp_aload D_jdk_42_m149_42 rfl rfl ?_
  refine wp_iload_n D_jdk_42_m149_44 rfl ?_
  refine wp_callS (c_cfa_1 l Z a0 hw b3 s q c0 F) D_jdk_42_m149_45 (gw hw 79 rfl) (gw hw 80 rfl) (gw hw 74 rfl) (gw hw 81 rfl) (by decide) pd_9 rfl rfl rfl (lb rfl) (lb rfl) (lb rfl) (lb rfl) ?_
  rintro _ _ ⟨rfl, rfl⟩
  show W4 l Z (rm4 2 1 1 35) ((b3, oA .byte [(nar .byte c0.toInt8.toInt32)]) :: (s, oS (.null)) :: (q, oA .char [c0]) :: F) 1 1 48 #[.val (.ref s), .val (.ref q), .val (.int 0), .val (.int 1), .val (.null), .val (.ref b3)] [(.int 0), (.ref s)] (Q_c_si4_1 s q cp c0 F)
  refine wp_putfield (i := 1) (fi := 1) (ty := .byte) D_jdk_42_m149_48 (gw hw 26 rfl) rfl rfl rfl (Or.inr ⟨(gw hw 22 rfl), rfl, rfl⟩) (gw hw 6 rfl) (by decide) rfl rfl ?_
  show W4 l Z (rm4 2 1 1 35) ((b3, oA .byte [(nar .byte c0.toInt8.toInt32)]) :: (s, oS (.null)) :: (q, oA .char [c0]) :: F) 1 1 51 #[.val (.ref s), .val (.ref q), .val (.int 0), .val (.int 1), .val (.null), .val (.ref b3)] [] (Q_c_si4_1 s q cp c0 F)
  refine wp_aload_n D_jdk_42_m149_51 rfl rfl ?_
  refine wp_aload D_jdk_42_m149_52 rfl rfl ?_
  refine wp_putfield (i := 1) (fi := 0) (ty := (.array .byte)) D_jdk_42_m149_54 (gw hw 25 rfl) rfl rfl rfl (Or.inr ⟨(gw hw 21 rfl), rfl, rfl⟩) (gw hw 6 rfl) (by decide) rfl rfl ?_
  show W4 l Z (rm4 2 1 1 35) ((b3, oA .byte [(nar .byte c0.toInt8.toInt32)]) :: (s, oS (.ref b3)) :: (q, oA .char [c0]) :: F) 1 1 57 #[.val (.ref s), .val (.ref q), .val (.int 0), .val (.int 1), .val (.null), .val (.ref b3)] [] (Q_c_si4_1 s q cp c0 F)
  refine wp_return D_jdk_42_m149_57 rfl (by decide) (by decide) ?_
  exact ⟨rfl, _, rfl⟩
def Q_c_si1_1 (s q : Addr) (cp : Int32) (c0 : Int32) (F : OH) : Option Value → OH → Prop := fun w' H' => w' = none ∧ ∃ b, H' = ((b, oA .byte [(nar .byte c0.toInt8.toInt32)]) :: (s, oS (.ref b)) :: (q, oA .char [c0]) :: F)
theorem pn_5 : plainFor (⟨"java/lang/String", "<init>", "([C)V"⟩ : MethodName) = true := by first | exact plainFor_of_name (by first | (simp [plainName, overriddenIn]; done) | decide +kernel) | decide +kernel
theorem D_jdk_42_m3_0 : Dc jdk_42_method_3_code 0 (.aload_n 0) 1 1 := ⟨by decide +kernel, rfl⟩
theorem D_jdk_42_m3_1 : Dc jdk_42_method_3_code 1 (.aload_n 1) 1 2 := ⟨by decide +kernel, rfl⟩
theorem D_jdk_42_m3_2 : Dc jdk_42_method_3_code 2 (.iconst 0) 1 3 := ⟨by decide +kernel, rfl⟩
theorem D_jdk_42_m3_3 : Dc jdk_42_method_3_code 3 (.aload_n 1) 1 4 := ⟨by decide +kernel, rfl⟩
theorem D_jdk_42_m3_4 : Dc jdk_42_method_3_code 4 (.arraylength) 1 5 := ⟨by decide +kernel, rfl⟩
theorem D_jdk_42_m3_5 : Dc jdk_42_method_3_code 5 (.aconst_null) 1 6 := ⟨by decide +kernel, rfl⟩
theorem D_jdk_42_m3_6 : Dc jdk_42_method_3_code 6 (.invokespecial 27) 3 9 := ⟨by decide +kernel, rfl⟩
theorem D_jdk_42_m3_9 : Dc jdk_42_method_3_code 9 (.return_) 1 10 := ⟨by decide +kernel, rfl⟩
abbrev W5 (l : Launch) (Z : State) := Wp none l Z "java/lang/String" "<init>" jdk_42_method_3_code 2 none
set_option maxRecDepth 65536 in
set_option maxHeartbeats 40000000 in
theorem c_si1_1 (l : Launch) (Z : State) (a0 : Array Value) (hw : HW Z a0) (s q : Addr) (cp : Int32) (c0 : Int32) (F : OH) (S_cp : Sta Z Z.heap "java/lang/String" "COMPACT_STRINGS" "Z" (.int cp)) (hcp : ¬ cp = 0) (h_c0 : 0 ≤ c0.toInt ∧ c0.toInt ≤ 255) :
    Met l Z (⟨"java/lang/String", "<init>", "([C)V"⟩ : MethodName) jdk_42_method_3_code 2 none (rm4 3 1 1 52) [(.ref s), (.ref q)] ((s, oS (.null)) :: (q, oA .char [c0]) :: F) (Q_c_si1_1 s q cp c0 F) := by
  refine Met.of_wp (Ls := #[.val (.ref s), .val (.ref q)]) pn_5 (fun m => (entry_loc m _ _).trans rfl) ?_
  show W5 l Z (rm4 3 1 1 52) ((s, oS (.null)) :: (q, oA .char [c0]) :: F) 0 0 0 #[.val (.ref s), .val (.ref q)] [] (Q_c_si1_1 s q cp c0 F)
  refine wp_aload_n D_jdk_42_m3_0 rfl rfl ?_
  refine wp_aload_n D_jdk_42_m3_1 rfl rfl ?_
  refine wp_iconst 0 D_jdk_42_m3_2 (by decide) ?_
  refine wp_aload_n D_jdk_42_m3_3 rfl rfl ?_
  refine wp_lengthI (i := 1) (1 : Int32) D_jdk_42_m3_4 rfl rfl ?_
  refine wp_aconst_null D_jdk_42_m3_5 ?_
  refine wp_init (c_si4_1 l Z a0 hw s q cp c0 F S_cp hcp h_c0) D_jdk_42_m3_6 rfl (gw hw 12 rfl) (gw hw 13 rfl) (gw hw 7 rfl) (gw hw 15 rfl) (by decide) pd_2 rfl rfl rfl (lb rfl) (lb rfl) (lb rfl) (lb rfl) ?_
  rintro _ _ ⟨rfl, b1, rfl⟩
  show W5 l Z (rm4 3 1 1 52) ((b1, oA .byte [(nar .byte c0.toInt8.toInt32)]) :: (s, oS (.ref b1)) :: (q, oA .char [c0]) :: F) 1 1 9 #[.val (.ref s), .val (.ref q)] [] (Q_c_si1_1 s q cp c0 F)
  refine wp_return D_jdk_42_m3_9 rfl (by decide) (by decide) ?_
  exact ⟨rfl, _, rfl⟩
def Q_c_cm5_2 (b s q : Addr) (c0 c1 : Int32) (F : OH) : Option Value → OH → Prop := fun w' H' => w' = some (.int 2) ∧ H' = ((b, oA .byte [(nar .byte c0.toInt8.toInt32), (nar .byte c1.toInt8.toInt32)]) :: (s, oS (.null)) :: (q, oA .char [c0, c1]) :: F)
set_option maxRecDepth 65536 in
set_option maxHeartbeats 40000000 in
theorem c_cm5_2 (l : Launch) (Z : State) (a0 : Array Value) (hw : HW Z a0) (b s q : Addr) (c0 c1 : Int32) (F : OH) (h_c0 : 0 ≤ c0.toInt ∧ c0.toInt ≤ 255) (h_c1 : 0 ≤ c1.toInt ∧ c1.toInt ≤ 255) :
    Met l Z (⟨"java/lang/StringUTF16", "compress", "([CI[BII)I"⟩ : MethodName) jdk_52_method_21_code 7 (some .int) (rm4 0 0 0 0) [(.ref q), (.int 0), (.ref b), (.int 0), (.int 2)] ((b, oA .byte [(0 : Int32), (0 : Int32)]) :: (s, oS (.null)) :: (q, oA .char [c0, c1]) :: F) (Q_c_cm5_2 b s q c0 c1 F) := by
  refine Met.of_wp (Ls := #[.val (.ref q), .val (.int 0), .val (.ref b), .val (.int 0), .val (.int 2), .unset, .unset]) pn_1 (fun m => (entry_loc m _ _).trans rfl) ?_
  show W1 l Z (rm4 0 0 0 0) ((b, oA .byte [(0 : Int32), (0 : Int32)]) :: (s, oS (.null)) :: (q, oA .char [c0, c1]) :: F) 0 0 0 #[.val (.ref q), .val (.int 0), .val (.ref b), .val (.int 0), .val (.int 2), .unset, .unset] [] (Q_c_cm5_2 b s q c0 c1 F)
  refine wp_iconst 0 D_jdk_52_m21_0 (by decide) ?_
  refine wp_istore #[.val (.ref q), .val (.int 0), .val (.ref b), .val (.int 0), .val (.int 2), .val (.int 0), .unset] D_jdk_52_m21_1 rfl ?_
  refine wp_iload D_jdk_52_m21_3 rfl ?_
  refine wp_iload D_jdk_52_m21_5 rfl ?_
  refine wp_icmp_ge D_jdk_52_m21_7 (pc'' := 44) ⟨by decide, by decide⟩ (fun h1 => by exact absurd h1 (by decide)) (fun h1 => ?_)
  refine wp_aload_n D_jdk_52_m21_10 rfl rfl ?_
  refine wp_iload_n D_jdk_52_m21_11 rfl ?_
  refine wp_caload (i := 2) (0) D_jdk_52_m21_12 rfl (by decide) (by decide) rfl ?_
  refine wp_istore #[.val (.ref q), .val (.int 0), .val (.ref b), .val (.int 0), .val (.int 2), .val (.int 0), .val (.int c0)] D_jdk_52_m21_13 rfl ?_
  refine wp_iload D_jdk_52_m21_15 rfl ?_
  refine wp_sipush 255 D_jdk_52_m21_17 (by decide) ?_
  refine wp_icmp_le D_jdk_52_m21_20 (pc'' := 26) ⟨by decide, by decide⟩ (fun h2 => ?_) (fun h2 => by exfalso; (simp only [Int32.lt_iff_toInt_lt, Int32.le_iff_toInt_le, ← Int32.toInt_inj, Int32.reduceToInt, Int64.lt_iff_toInt_lt, ← Int64.toInt_inj, Int64.reduceToInt] at *; omega))
  refine wp_aload_n D_jdk_52_m21_26 rfl rfl ?_
  refine wp_iload_n D_jdk_52_m21_27 rfl ?_
  refine wp_iload D_jdk_52_m21_28 rfl ?_
  refine wp_i2b D_jdk_52_m21_30 ?_
  refine wp_bastore (i := 0) (0) D_jdk_52_m21_31 rfl (by decide) (by decide) (by first | decide | exact Nat.le_of_ble_eq_true rfl | simp) ?_
  show W1 l Z (rm4 0 0 0 0) ((b, oA .byte [(nar .byte c0.toInt8.toInt32), (0 : Int32)]) :: (s, oS (.null)) :: (q, oA .char [c0, c1]) :: F) 0 0 32 #[.val (.ref q), .val (.int 0), .val (.ref b), .val (.int 0), .val (.int 2), .val (.int 0), .val (.int c0)] [] (Q_c_cm5_2 b s q c0 c1 F)
  refine wp_iinc 1 #[.val (.ref q), .val (.int 1), .val (.ref b), .val (.int 0), .val (.int 2), .val (.int 0), .val (.int c0)] D_jdk_52_m21_32 rfl rfl (by rw [show (0 : Int32) + (1 : Int32) = (1 : Int32) from by decide]; rfl) ?_
  refine wp_iinc 1 #[.val (.ref q), .val (.int 1), .val (.ref b), .val (.int 1), .val (.int 2), .val (.int 0), .val (.int c0)] D_jdk_52_m21_35 rfl rfl (by rw [show (0 : Int32) + (1 : Int32) = (1 : Int32) from by decide]; rfl) ?_
  refine wp_iinc 1 #[.val (.ref q), .val (.int 1), .val (.ref b), .val (.int 1), .val (.int 2), .val (.int 1), .val (.int c0)] D_jdk_52_m21_38 rfl rfl (by rw [show (0 : Int32) + (1 : Int32) = (1 : Int32) from by decide]; rfl) ?_
  refine wp_goto D_jdk_52_m21_41 (pc'' := 3) ⟨by decide, by decide⟩ ?_
  refine wp_iload D_jdk_52_m21_3 rfl ?_
  refine wp_iload D_jdk_52_m21_5 rfl ?_
  refine wp_icmp_ge D_jdk_52_m21_7 (pc'' := 44) ⟨by decide, by decide⟩ (fun h3 => by exact absurd h3 (by decide)) (fun h3 => ?_)
  refine wp_aload_n D_jdk_52_m21_10 rfl rfl ?_
  refine wp_iload_n D_jdk_52_m21_11 rfl ?_
  refine wp_caload (i := 2) (1) D_jdk_52_m21_12 rfl (by decide) (by decide) rfl ?_
  refine wp_istore #[.val (.ref q), .val (.int 1), .val (.ref b), .val (.int 1), .val (.int 2), .val (.int 1), .val (.int c1)] D_jdk_52_m21_13 rfl ?_
  refine wp_iload D_jdk_52_m21_15 rfl ?_
  refine wp_sipush 255 D_jdk_52_m21_17 (by decide) ?_
  refine wp_icmp_le D_jdk_52_m21_20 (pc'' := 26) ⟨by decide, by decide⟩ (fun h4 => ?_) (fun h4 => by exfalso; (simp only [Int32.lt_iff_toInt_lt, Int32.le_iff_toInt_le, ← Int32.toInt_inj, Int32.reduceToInt, Int64.lt_iff_toInt_lt, ← Int64.toInt_inj, Int64.reduceToInt] at *; omega))
  refine wp_aload_n D_jdk_52_m21_26 rfl rfl ?_
  refine wp_iload_n D_jdk_52_m21_27 rfl ?_
  refine wp_iload D_jdk_52_m21_28 rfl ?_
  refine wp_i2b D_jdk_52_m21_30 ?_
  refine wp_bastore (i := 0) (1) D_jdk_52_m21_31 rfl (by decide) (by decide) (by first | decide | exact Nat.le_of_ble_eq_true rfl | simp) ?_
  show W1 l Z (rm4 0 0 0 0) ((b, oA .byte [(nar .byte c0.toInt8.toInt32), (nar .byte c1.toInt8.toInt32)]) :: (s, oS (.null)) :: (q, oA .char [c0, c1]) :: F) 0 0 32 #[.val (.ref q), .val (.int 1), .val (.ref b), .val (.int 1), .val (.int 2), .val (.int 1), .val (.int c1)] [] (Q_c_cm5_2 b s q c0 c1 F)
  refine wp_iinc 1 #[.val (.ref q), .val (.int 2), .val (.ref b), .val (.int 1), .val (.int 2), .val (.int 1), .val (.int c1)] D_jdk_52_m21_32 rfl rfl (by rw [show (1 : Int32) + (1 : Int32) = (2 : Int32) from by decide]; rfl) ?_
  refine wp_iinc 1 #[.val (.ref q), .val (.int 2), .val (.ref b), .val (.int 2), .val (.int 2), .val (.int 1), .val (.int c1)] D_jdk_52_m21_35 rfl rfl (by rw [show (1 : Int32) + (1 : Int32) = (2 : Int32) from by decide]; rfl) ?_
  refine wp_iinc 1 #[.val (.ref q), .val (.int 2), .val (.ref b), .val (.int 2), .val (.int 2), .val (.int 2), .val (.int c1)] D_jdk_52_m21_38 rfl rfl (by rw [show (1 : Int32) + (1 : Int32) = (2 : Int32) from by decide]; rfl) ?_
  refine wp_goto D_jdk_52_m21_41 (pc'' := 3) ⟨by decide, by decide⟩ ?_
  refine wp_iload D_jdk_52_m21_3 rfl ?_
  refine wp_iload D_jdk_52_m21_5 rfl ?_
  refine wp_icmp_ge D_jdk_52_m21_7 (pc'' := 44) ⟨by decide, by decide⟩ (fun h5 => ?_) (fun h5 => by exact absurd h5 (by decide))
  refine wp_iload D_jdk_52_m21_44 rfl ?_
  refine wp_ireturn D_jdk_52_m21_46 rfl (by decide) (by decide) ?_
  exact ⟨rfl, rfl⟩
def Q_c_cm3_2 (s q : Addr) (c0 c1 : Int32) (F : OH) : Option Value → OH → Prop := fun w' H' => ∃ b, w' = some (.ref b) ∧ H' = ((b, oA .byte [(nar .byte c0.toInt8.toInt32), (nar .byte c1.toInt8.toInt32)]) :: (s, oS (.null)) :: (q, oA .char [c0, c1]) :: F)
set_option maxRecDepth 65536 in
set_option maxHeartbeats 40000000 in
theorem c_cm3_2 (l : Launch) (Z : State) (a0 : Array Value) (hw : HW Z a0) (s q : Addr) (c0 c1 : Int32) (F : OH) (h_c0 : 0 ≤ c0.toInt ∧ c0.toInt ≤ 255) (h_c1 : 0 ≤ c1.toInt ∧ c1.toInt ≤ 255) :
    Met l Z (⟨"java/lang/StringUTF16", "compress", "([CII)[B"⟩ : MethodName) jdk_52_method_16_code 6 (some (.array .byte)) (rm4 1 1 2 18) [(.ref q), (.int 0), (.int 2)] ((s, oS (.null)) :: (q, oA .char [c0, c1]) :: F) (Q_c_cm3_2 s q c0 c1 F) := by
  refine Met.of_wp (Ls := #[.val (.ref q), .val (.int 0), .val (.int 2), .unset, .unset, .unset]) pn_2 (fun m => (entry_loc m _ _).trans rfl) ?_
  show W2 l Z (rm4 1 1 2 18) ((s, oS (.null)) :: (q, oA .char [c0, c1]) :: F) 0 0 0 #[.val (.ref q), .val (.int 0), .val (.int 2), .unset, .unset, .unset] [] (Q_c_cm3_2 s q c0 c1 F)
  refine wp_iload_n D_jdk_52_m16_0 rfl ?_
  refine wp_newarrayI (n := (2 : Int32)) (2) 2 D_jdk_52_m16_1 rfl rfl rfl (gw hw 20 rfl) (by decide) (by decide) (by decide) (by decide) (by decide) (by decide) ?_
  intro a1
  show W2 l Z (rm4 1 1 2 18) ((a1, oA .byte [(0 : Int32), (0 : Int32)]) :: (s, oS (.null)) :: (q, oA .char [c0, c1]) :: F) 1 2 3 #[.val (.ref q), .val (.int 0), .val (.int 2), .unset, .unset, .unset] [(.ref a1)] (Q_c_cm3_2 s q c0 c1 F)
  refine wp_astore_n #[.val (.ref q), .val (.int 0), .val (.int 2), .val (.ref a1), .unset, .unset] D_jdk_52_m16_3 rfl rfl ?_
  refine wp_aload_n D_jdk_52_m16_4 rfl rfl ?_
  refine wp_iload_n D_jdk_52_m16_5 rfl ?_
  refine wp_aload_n D_jdk_52_m16_6 rfl rfl ?_
  refine wp_iconst 0 D_jdk_52_m16_7 (by decide) ?_
  refine wp_iload_n D_jdk_52_m16_8 rfl ?_
  refine wp_callS (c_cm5_2 l Z a0 hw a1 s q c0 c1 F h_c0 h_c1) D_jdk_52_m16_9 (gw hw 76 rfl) (gw hw 77 rfl) (gw hw 74 rfl) (gw hw 78 rfl) (by decide) pd_1 rfl rfl rfl (lb rfl) (lb rfl) (lb rfl) (lb rfl) ?_
  rintro _ _ ⟨rfl, rfl⟩
  show W2 l Z (rm4 1 1 2 18) ((a1, oA .byte [(nar .byte c0.toInt8.toInt32), (nar .byte c1.toInt8.toInt32)]) :: (s, oS (.null)) :: (q, oA .char [c0, c1]) :: F) 1 2 12 #[.val (.ref q), .val (.int 0), .val (.int 2), .val (.ref a1), .unset, .unset] [(.int 2)] (Q_c_cm3_2 s q c0 c1 F)
  refine wp_istore #[.val (.ref q), .val (.int 0), .val (.int 2), .val (.ref a1), .val (.int 2), .unset] D_jdk_52_m16_12 rfl ?_
  refine wp_iload D_jdk_52_m16_14 rfl ?_
  refine wp_iload_n D_jdk_52_m16_16 rfl ?_
  refine wp_icmp_eq D_jdk_52_m16_17 (pc'' := 57) ⟨by decide, by decide⟩ (fun h2 => ?_) (fun h2 => by exact absurd h2 (by decide))
  refine wp_aload_n D_jdk_52_m16_57 rfl rfl ?_
  refine wp_areturn D_jdk_52_m16_58 rfl rfl rfl rfl (by decide) (by decide) ?_
  exact ⟨_, rfl, rfl⟩
def Q_c_cfa_2 (b s q : Addr) (c0 c1 : Int32) (F : OH) : Option Value → OH → Prop := fun w' H' => w' = some (.int 0) ∧ H' = ((b, oA .byte [(nar .byte c0.toInt8.toInt32), (nar .byte c1.toInt8.toInt32)]) :: (s, oS (.null)) :: (q, oA .char [c0, c1]) :: F)
set_option maxRecDepth 65536 in
set_option maxHeartbeats 40000000 in
theorem c_cfa_2 (l : Launch) (Z : State) (a0 : Array Value) (hw : HW Z a0) (b s q : Addr) (c0 c1 : Int32) (F : OH) :
    Met l Z (⟨"java/lang/StringUTF16", "coderFromArrayLen", "([BI)B"⟩ : MethodName) jdk_52_method_15_code 2 (some .byte) (rm4 0 0 0 0) [(.ref b), (.int 2)] ((b, oA .byte [(nar .byte c0.toInt8.toInt32), (nar .byte c1.toInt8.toInt32)]) :: (s, oS (.null)) :: (q, oA .char [c0, c1]) :: F) (Q_c_cfa_2 b s q c0 c1 F) := by
  refine Met.of_wp (Ls := #[.val (.ref b), .val (.int 2)]) pn_3 (fun m => (entry_loc m _ _).trans rfl) ?_
  show W3 l Z (rm4 0 0 0 0) ((b, oA .byte [(nar .byte c0.toInt8.toInt32), (nar .byte c1.toInt8.toInt32)]) :: (s, oS (.null)) :: (q, oA .char [c0, c1]) :: F) 0 0 0 #[.val (.ref b), .val (.int 2)] [] (Q_c_cfa_2 b s q c0 c1 F)
  refine wp_iload_n D_jdk_52_m15_0 rfl ?_
  refine wp_aload_n D_jdk_52_m15_1 rfl rfl ?_
  refine wp_lengthI (i := 0) (2 : Int32) D_jdk_52_m15_2 rfl rfl ?_
  refine wp_isub D_jdk_52_m15_3 ?_
  rw [show ((2 : Int32) - (2 : Int32)) = (0 : Int32) from by decide]
  refine wp_bipush 31 D_jdk_52_m15_4 (by decide) ?_
  refine wp_iushr D_jdk_52_m15_6 ?_
  rw [show (XT.ushr (0 : Int32) (31 : Int32)) = (0 : Int32) from by decide]
  refine wp_i2b D_jdk_52_m15_7 ?_
  rw [show (0 : Int32).toInt8.toInt32 = (0 : Int32) from by decide]
  refine wp_ireturnN D_jdk_52_m15_8 rfl (by simp) (by decide) (by decide) ?_
  exact ⟨rfl, rfl⟩
def Q_c_si4_2 (s q : Addr) (cp : Int32) (c0 c1 : Int32) (F : OH) : Option Value → OH → Prop := fun w' H' => w' = none ∧ ∃ b, H' = ((b, oA .byte [(nar .byte c0.toInt8.toInt32), (nar .byte c1.toInt8.toInt32)]) :: (s, oS (.ref b)) :: (q, oA .char [c0, c1]) :: F)
set_option maxRecDepth 65536 in
set_option maxHeartbeats 40000000 in
theorem c_si4_2 (l : Launch) (Z : State) (a0 : Array Value) (hw : HW Z a0) (s q : Addr) (cp : Int32) (c0 c1 : Int32) (F : OH) (S_cp : Sta Z Z.heap "java/lang/String" "COMPACT_STRINGS" "Z" (.int cp)) (hcp : ¬ cp = 0) (h_c0 : 0 ≤ c0.toInt ∧ c0.toInt ≤ 255) (h_c1 : 0 ≤ c1.toInt ∧ c1.toInt ≤ 255) :
    Met l Z (⟨"java/lang/String", "<init>", "([CIILjava/lang/Void;)V"⟩ : MethodName) jdk_42_method_149_code 6 none (rm4 2 1 2 35) [(.ref s), (.ref q), (.int 0), (.int 2), (.null)] ((s, oS (.null)) :: (q, oA .char [c0, c1]) :: F) (Q_c_si4_2 s q cp c0 c1 F) := by
  refine Met.of_wp (Ls := #[.val (.ref s), .val (.ref q), .val (.int 0), .val (.int 2), .val (.null), .unset]) pn_4 (fun m => (entry_loc m _ _).trans rfl) ?_
  show W4 l Z (rm4 2 1 2 35) ((s, oS (.null)) :: (q, oA .char [c0, c1]) :: F) 0 0 0 #[.val (.ref s), .val (.ref q), .val (.int 0), .val (.int 2), .val (.null), .unset] [] (Q_c_si4_2 s q cp c0 c1 F)
  refine wp_aload_n D_jdk_42_m149_0 rfl rfl ?_
  refine wp_initO D_jdk_42_m149_1 (gw hw 16 rfl) (gw hw 17 rfl) (gw hw 18 rfl) rfl (Nat.le_of_ble_eq_true rfl) (Nat.le_of_ble_eq_true rfl) ?_
  refine wp_iload_n D_jdk_42_m149_4 rfl ?_
  refine wp_if_ne D_jdk_42_m149_5 (pc'' := 27) ⟨by decide, by decide⟩ (fun h1 => ?_) (fun h1 => by exact absurd h1 (by decide))
  refine wp_getstatic D_jdk_42_m149_27 (gw hw 46 rfl) S_cp ?_
  refine wp_if_eq D_jdk_42_m149_30 (pc'' := 58) ⟨by decide, by decide⟩ (fun h2 => by exact absurd h2 hcp) (fun h2 => ?_)
  refine wp_aload_n D_jdk_42_m149_33 rfl rfl ?_
  refine wp_iload_n D_jdk_42_m149_34 rfl ?_
  refine wp_iload_n D_jdk_42_m149_35 rfl ?_
  refine wp_callS (c_cm3_2 l Z a0 hw s q c0 c1 F h_c0 h_c1) D_jdk_42_m149_36 (gw hw 72 rfl) (gw hw 73 rfl) (gw hw 74 rfl) (gw hw 75 rfl) (by decide) pd_8 rfl rfl rfl (lb rfl) (lb rfl) (lb rfl) (lb rfl) ?_
  rintro _ _ ⟨b3, rfl, rfl⟩
  show W4 l Z (rm4 2 1 2 35) ((b3, oA .byte [(nar .byte c0.toInt8.toInt32), (nar .byte c1.toInt8.toInt32)]) :: (s, oS (.null)) :: (q, oA .char [c0, c1]) :: F) 1 2 39 #[.val (.ref s), .val (.ref q), .val (.int 0), .val (.int 2), .val (.null), .unset] [(.ref b3)] (Q_c_si4_2 s q cp c0 c1 F)
  refine wp_astore #[.val (.ref s), .val (.ref q), .val (.int 0), .val (.int 2), .val (.null), .val (.ref b3)] D_jdk_42_m149_39 rfl rfl ?_
  refine wp_aload_n D_jdk_42_m149_41 rfl rfl ?_
  refine wp_aload D_jdk_42_m149_42 rfl rfl ?_
  refine wp_iload_n D_jdk_42_m149_44 rfl ?_
  refine wp_callS (c_cfa_2 l Z a0 hw b3 s q c0 c1 F) D_jdk_42_m149_45 (gw hw 79 rfl) (gw hw 80 rfl) (gw hw 74 rfl) (gw hw 81 rfl) (by decide) pd_9 rfl rfl rfl (lb rfl) (lb rfl) (lb rfl) (lb rfl) ?_
  rintro _ _ ⟨rfl, rfl⟩
  show W4 l Z (rm4 2 1 2 35) ((b3, oA .byte [(nar .byte c0.toInt8.toInt32), (nar .byte c1.toInt8.toInt32)]) :: (s, oS (.null)) :: (q, oA .char [c0, c1]) :: F) 1 2 48 #[.val (.ref s), .val (.ref q), .val (.int 0), .val (.int 2), .val (.null), .val (.ref b3)] [(.int 0), (.ref s)] (Q_c_si4_2 s q cp c0 c1 F)
  refine wp_putfield (i := 1) (fi := 1) (ty := .byte) D_jdk_42_m149_48 (gw hw 26 rfl) rfl rfl rfl (Or.inr ⟨(gw hw 22 rfl), rfl, rfl⟩) (gw hw 6 rfl) (by decide) rfl rfl ?_
  show W4 l Z (rm4 2 1 2 35) ((b3, oA .byte [(nar .byte c0.toInt8.toInt32), (nar .byte c1.toInt8.toInt32)]) :: (s, oS (.null)) :: (q, oA .char [c0, c1]) :: F) 1 2 51 #[.val (.ref s), .val (.ref q), .val (.int 0), .val (.int 2), .val (.null), .val (.ref b3)] [] (Q_c_si4_2 s q cp c0 c1 F)
  refine wp_aload_n D_jdk_42_m149_51 rfl rfl ?_
  refine wp_aload D_jdk_42_m149_52 rfl rfl ?_
  refine wp_putfield (i := 1) (fi := 0) (ty := (.array .byte)) D_jdk_42_m149_54 (gw hw 25 rfl) rfl rfl rfl (Or.inr ⟨(gw hw 21 rfl), rfl, rfl⟩) (gw hw 6 rfl) (by decide) rfl rfl ?_
  show W4 l Z (rm4 2 1 2 35) ((b3, oA .byte [(nar .byte c0.toInt8.toInt32), (nar .byte c1.toInt8.toInt32)]) :: (s, oS (.ref b3)) :: (q, oA .char [c0, c1]) :: F) 1 2 57 #[.val (.ref s), .val (.ref q), .val (.int 0), .val (.int 2), .val (.null), .val (.ref b3)] [] (Q_c_si4_2 s q cp c0 c1 F)
  refine wp_return D_jdk_42_m149_57 rfl (by decide) (by decide) ?_
  exact ⟨rfl, _, rfl⟩
def Q_c_si1_2 (s q : Addr) (cp : Int32) (c0 c1 : Int32) (F : OH) : Option Value → OH → Prop := fun w' H' => w' = none ∧ ∃ b, H' = ((b, oA .byte [(nar .byte c0.toInt8.toInt32), (nar .byte c1.toInt8.toInt32)]) :: (s, oS (.ref b)) :: (q, oA .char [c0, c1]) :: F)
set_option maxRecDepth 65536 in
set_option maxHeartbeats 40000000 in
theorem c_si1_2 (l : Launch) (Z : State) (a0 : Array Value) (hw : HW Z a0) (s q : Addr) (cp : Int32) (c0 c1 : Int32) (F : OH) (S_cp : Sta Z Z.heap "java/lang/String" "COMPACT_STRINGS" "Z" (.int cp)) (hcp : ¬ cp = 0) (h_c0 : 0 ≤ c0.toInt ∧ c0.toInt ≤ 255) (h_c1 : 0 ≤ c1.toInt ∧ c1.toInt ≤ 255) :
    Met l Z (⟨"java/lang/String", "<init>", "([C)V"⟩ : MethodName) jdk_42_method_3_code 2 none (rm4 3 1 2 52) [(.ref s), (.ref q)] ((s, oS (.null)) :: (q, oA .char [c0, c1]) :: F) (Q_c_si1_2 s q cp c0 c1 F) := by
  refine Met.of_wp (Ls := #[.val (.ref s), .val (.ref q)]) pn_5 (fun m => (entry_loc m _ _).trans rfl) ?_
  show W5 l Z (rm4 3 1 2 52) ((s, oS (.null)) :: (q, oA .char [c0, c1]) :: F) 0 0 0 #[.val (.ref s), .val (.ref q)] [] (Q_c_si1_2 s q cp c0 c1 F)
  refine wp_aload_n D_jdk_42_m3_0 rfl rfl ?_
  refine wp_aload_n D_jdk_42_m3_1 rfl rfl ?_
  refine wp_iconst 0 D_jdk_42_m3_2 (by decide) ?_
  refine wp_aload_n D_jdk_42_m3_3 rfl rfl ?_
  refine wp_lengthI (i := 1) (2 : Int32) D_jdk_42_m3_4 rfl rfl ?_
  refine wp_aconst_null D_jdk_42_m3_5 ?_
  refine wp_init (c_si4_2 l Z a0 hw s q cp c0 c1 F S_cp hcp h_c0 h_c1) D_jdk_42_m3_6 rfl (gw hw 12 rfl) (gw hw 13 rfl) (gw hw 7 rfl) (gw hw 15 rfl) (by decide) pd_2 rfl rfl rfl (lb rfl) (lb rfl) (lb rfl) (lb rfl) ?_
  rintro _ _ ⟨rfl, b1, rfl⟩
  show W5 l Z (rm4 3 1 2 52) ((b1, oA .byte [(nar .byte c0.toInt8.toInt32), (nar .byte c1.toInt8.toInt32)]) :: (s, oS (.ref b1)) :: (q, oA .char [c0, c1]) :: F) 1 2 9 #[.val (.ref s), .val (.ref q)] [] (Q_c_si1_2 s q cp c0 c1 F)
  refine wp_return D_jdk_42_m3_9 rfl (by decide) (by decide) ?_
  exact ⟨rfl, _, rfl⟩
def Q_c_cm5_3 (b s q : Addr) (c0 c1 c2 : Int32) (F : OH) : Option Value → OH → Prop := fun w' H' => w' = some (.int 3) ∧ H' = ((b, oA .byte [(nar .byte c0.toInt8.toInt32), (nar .byte c1.toInt8.toInt32), (nar .byte c2.toInt8.toInt32)]) :: (s, oS (.null)) :: (q, oA .char [c0, c1, c2]) :: F)
set_option maxRecDepth 65536 in
set_option maxHeartbeats 40000000 in
theorem c_cm5_3 (l : Launch) (Z : State) (a0 : Array Value) (hw : HW Z a0) (b s q : Addr) (c0 c1 c2 : Int32) (F : OH) (h_c0 : 0 ≤ c0.toInt ∧ c0.toInt ≤ 255) (h_c1 : 0 ≤ c1.toInt ∧ c1.toInt ≤ 255) (h_c2 : 0 ≤ c2.toInt ∧ c2.toInt ≤ 255) :
    Met l Z (⟨"java/lang/StringUTF16", "compress", "([CI[BII)I"⟩ : MethodName) jdk_52_method_21_code 7 (some .int) (rm4 0 0 0 0) [(.ref q), (.int 0), (.ref b), (.int 0), (.int 3)] ((b, oA .byte [(0 : Int32), (0 : Int32), (0 : Int32)]) :: (s, oS (.null)) :: (q, oA .char [c0, c1, c2]) :: F) (Q_c_cm5_3 b s q c0 c1 c2 F) := by
  refine Met.of_wp (Ls := #[.val (.ref q), .val (.int 0), .val (.ref b), .val (.int 0), .val (.int 3), .unset, .unset]) pn_1 (fun m => (entry_loc m _ _).trans rfl) ?_
  show W1 l Z (rm4 0 0 0 0) ((b, oA .byte [(0 : Int32), (0 : Int32), (0 : Int32)]) :: (s, oS (.null)) :: (q, oA .char [c0, c1, c2]) :: F) 0 0 0 #[.val (.ref q), .val (.int 0), .val (.ref b), .val (.int 0), .val (.int 3), .unset, .unset] [] (Q_c_cm5_3 b s q c0 c1 c2 F)
  refine wp_iconst 0 D_jdk_52_m21_0 (by decide) ?_
  refine wp_istore #[.val (.ref q), .val (.int 0), .val (.ref b), .val (.int 0), .val (.int 3), .val (.int 0), .unset] D_jdk_52_m21_1 rfl ?_
  refine wp_iload D_jdk_52_m21_3 rfl ?_
  refine wp_iload D_jdk_52_m21_5 rfl ?_
  refine wp_icmp_ge D_jdk_52_m21_7 (pc'' := 44) ⟨by decide, by decide⟩ (fun h1 => by exact absurd h1 (by decide)) (fun h1 => ?_)
  refine wp_aload_n D_jdk_52_m21_10 rfl rfl ?_
  refine wp_iload_n D_jdk_52_m21_11 rfl ?_
  refine wp_caload (i := 2) (0) D_jdk_52_m21_12 rfl (by decide) (by decide) rfl ?_
  refine wp_istore #[.val (.ref q), .val (.int 0), .val (.ref b), .val (.int 0), .val (.int 3), .val (.int 0), .val (.int c0)] D_jdk_52_m21_13 rfl ?_
  refine wp_iload D_jdk_52_m21_15 rfl ?_
  refine wp_sipush 255 D_jdk_52_m21_17 (by decide) ?_
  refine wp_icmp_le D_jdk_52_m21_20 (pc'' := 26) ⟨by decide, by decide⟩ (fun h2 => ?_) (fun h2 => by exfalso; (simp only [Int32.lt_iff_toInt_lt, Int32.le_iff_toInt_le, ← Int32.toInt_inj, Int32.reduceToInt, Int64.lt_iff_toInt_lt, ← Int64.toInt_inj, Int64.reduceToInt] at *; omega))
  refine wp_aload_n D_jdk_52_m21_26 rfl rfl ?_
  refine wp_iload_n D_jdk_52_m21_27 rfl ?_
  refine wp_iload D_jdk_52_m21_28 rfl ?_
  refine wp_i2b D_jdk_52_m21_30 ?_
  refine wp_bastore (i := 0) (0) D_jdk_52_m21_31 rfl (by decide) (by decide) (by first | decide | exact Nat.le_of_ble_eq_true rfl | simp) ?_
  show W1 l Z (rm4 0 0 0 0) ((b, oA .byte [(nar .byte c0.toInt8.toInt32), (0 : Int32), (0 : Int32)]) :: (s, oS (.null)) :: (q, oA .char [c0, c1, c2]) :: F) 0 0 32 #[.val (.ref q), .val (.int 0), .val (.ref b), .val (.int 0), .val (.int 3), .val (.int 0), .val (.int c0)] [] (Q_c_cm5_3 b s q c0 c1 c2 F)
  refine wp_iinc 1 #[.val (.ref q), .val (.int 1), .val (.ref b), .val (.int 0), .val (.int 3), .val (.int 0), .val (.int c0)] D_jdk_52_m21_32 rfl rfl (by rw [show (0 : Int32) + (1 : Int32) = (1 : Int32) from by decide]; rfl) ?_
  refine wp_iinc 1 #[.val (.ref q), .val (.int 1), .val (.ref b), .val (.int 1), .val (.int 3), .val (.int 0), .val (.int c0)] D_jdk_52_m21_35 rfl rfl (by rw [show (0 : Int32) + (1 : Int32) = (1 : Int32) from by decide]; rfl) ?_
  refine wp_iinc 1 #[.val (.ref q), .val (.int 1), .val (.ref b), .val (.int 1), .val (.int 3), .val (.int 1), .val (.int c0)] D_jdk_52_m21_38 rfl rfl (by rw [show (0 : Int32) + (1 : Int32) = (1 : Int32) from by decide]; rfl) ?_
  refine wp_goto D_jdk_52_m21_41 (pc'' := 3) ⟨by decide, by decide⟩ ?_
  refine wp_iload D_jdk_52_m21_3 rfl ?_
  refine wp_iload D_jdk_52_m21_5 rfl ?_
  refine wp_icmp_ge D_jdk_52_m21_7 (pc'' := 44) ⟨by decide, by decide⟩ (fun h3 => by exact absurd h3 (by decide)) (fun h3 => ?_)
  refine wp_aload_n D_jdk_52_m21_10 rfl rfl ?_
  refine wp_iload_n D_jdk_52_m21_11 rfl ?_
  refine wp_caload (i := 2) (1) D_jdk_52_m21_12 rfl (by decide) (by decide) rfl ?_
  refine wp_istore #[.val (.ref q), .val (.int 1), .val (.ref b), .val (.int 1), .val (.int 3), .val (.int 1), .val (.int c1)] D_jdk_52_m21_13 rfl ?_
  refine wp_iload D_jdk_52_m21_15 rfl ?_
  refine wp_sipush 255 D_jdk_52_m21_17 (by decide) ?_
  refine wp_icmp_le D_jdk_52_m21_20 (pc'' := 26) ⟨by decide, by decide⟩ (fun h4 => ?_) (fun h4 => by exfalso; (simp only [Int32.lt_iff_toInt_lt, Int32.le_iff_toInt_le, ← Int32.toInt_inj, Int32.reduceToInt, Int64.lt_iff_toInt_lt, ← Int64.toInt_inj, Int64.reduceToInt] at *; omega))
  refine wp_aload_n D_jdk_52_m21_26 rfl rfl ?_
  refine wp_iload_n D_jdk_52_m21_27 rfl ?_
  refine wp_iload D_jdk_52_m21_28 rfl ?_
  refine wp_i2b D_jdk_52_m21_30 ?_
  refine wp_bastore (i := 0) (1) D_jdk_52_m21_31 rfl (by decide) (by decide) (by first | decide | exact Nat.le_of_ble_eq_true rfl | simp) ?_
  show W1 l Z (rm4 0 0 0 0) ((b, oA .byte [(nar .byte c0.toInt8.toInt32), (nar .byte c1.toInt8.toInt32), (0 : Int32)]) :: (s, oS (.null)) :: (q, oA .char [c0, c1, c2]) :: F) 0 0 32 #[.val (.ref q), .val (.int 1), .val (.ref b), .val (.int 1), .val (.int 3), .val (.int 1), .val (.int c1)] [] (Q_c_cm5_3 b s q c0 c1 c2 F)
  refine wp_iinc 1 #[.val (.ref q), .val (.int 2), .val (.ref b), .val (.int 1), .val (.int 3), .val (.int 1), .val (.int c1)] D_jdk_52_m21_32 rfl rfl (by rw [show (1 : Int32) + (1 : Int32) = (2 : Int32) from by decide]; rfl) ?_
  refine wp_iinc 1 #[.val (.ref q), .val (.int 2), .val (.ref b), .val (.int 2), .val (.int 3), .val (.int 1), .val (.int c1)] D_jdk_52_m21_35 rfl rfl (by rw [show (1 : Int32) + (1 : Int32) = (2 : Int32) from by decide]; rfl) ?_
  refine wp_iinc 1 #[.val (.ref q), .val (.int 2), .val (.ref b), .val (.int 2), .val (.int 3), .val (.int 2), .val (.int c1)] D_jdk_52_m21_38 rfl rfl (by rw [show (1 : Int32) + (1 : Int32) = (2 : Int32) from by decide]; rfl) ?_
  refine wp_goto D_jdk_52_m21_41 (pc'' := 3) ⟨by decide, by decide⟩ ?_
  refine wp_iload D_jdk_52_m21_3 rfl ?_
  refine wp_iload D_jdk_52_m21_5 rfl ?_
  refine wp_icmp_ge D_jdk_52_m21_7 (pc'' := 44) ⟨by decide, by decide⟩ (fun h5 => by exact absurd h5 (by decide)) (fun h5 => ?_)
  refine wp_aload_n D_jdk_52_m21_10 rfl rfl ?_
  refine wp_iload_n D_jdk_52_m21_11 rfl ?_
  refine wp_caload (i := 2) (2) D_jdk_52_m21_12 rfl (by decide) (by decide) rfl ?_
  refine wp_istore #[.val (.ref q), .val (.int 2), .val (.ref b), .val (.int 2), .val (.int 3), .val (.int 2), .val (.int c2)] D_jdk_52_m21_13 rfl ?_
  refine wp_iload D_jdk_52_m21_15 rfl ?_
  refine wp_sipush 255 D_jdk_52_m21_17 (by decide) ?_
  refine wp_icmp_le D_jdk_52_m21_20 (pc'' := 26) ⟨by decide, by decide⟩ (fun h6 => ?_) (fun h6 => by exfalso; (simp only [Int32.lt_iff_toInt_lt, Int32.le_iff_toInt_le, ← Int32.toInt_inj, Int32.reduceToInt, Int64.lt_iff_toInt_lt, ← Int64.toInt_inj, Int64.reduceToInt] at *; omega))
  refine wp_aload_n D_jdk_52_m21_26 rfl rfl ?_
  refine wp_iload_n D_jdk_52_m21_27 rfl ?_
  refine wp_iload D_jdk_52_m21_28 rfl ?_
  refine wp_i2b D_jdk_52_m21_30 ?_
  refine wp_bastore (i := 0) (2) D_jdk_52_m21_31 rfl (by decide) (by decide) (by first | decide | exact Nat.le_of_ble_eq_true rfl | simp) ?_
  show W1 l Z (rm4 0 0 0 0) ((b, oA .byte [(nar .byte c0.toInt8.toInt32), (nar .byte c1.toInt8.toInt32), (nar .byte c2.toInt8.toInt32)]) :: (s, oS (.null)) :: (q, oA .char [c0, c1, c2]) :: F) 0 0 32 #[.val (.ref q), .val (.int 2), .val (.ref b), .val (.int 2), .val (.int 3), .val (.int 2), .val (.int c2)] [] (Q_c_cm5_3 b s q c0 c1 c2 F)
  refine wp_iinc 1 #[.val (.ref q), .val (.int 3), .val (.ref b), .val (.int 2), .val (.int 3), .val (.int 2), .val (.int c2)] D_jdk_52_m21_32 rfl rfl (by rw [show (2 : Int32) + (1 : Int32) = (3 : Int32) from by decide]; rfl) ?_
  refine wp_iinc 1 #[.val (.ref q), .val (.int 3), .val (.ref b), .val (.int 3), .val (.int 3), .val (.int 2), .val (.int c2)] D_jdk_52_m21_35 rfl rfl (by rw [show (2 : Int32) + (1 : Int32) = (3 : Int32) from by decide]; rfl) ?_
  refine wp_iinc 1 #[.val (.ref q), .val (.int 3), .val (.ref b), .val (.int 3), .val (.int 3), .val (.int 3), .val (.int c2)] D_jdk_52_m21_38 rfl rfl (by rw [show (2 : Int32) + (1 : Int32) = (3 : Int32) from by decide]; rfl) ?_
  refine wp_goto D_jdk_52_m21_41 (pc'' := 3) ⟨by decide, by decide⟩ ?_
  refine wp_iload D_jdk_52_m21_3 rfl ?_
  refine wp_iload D_jdk_52_m21_5 rfl ?_
  refine wp_icmp_ge D_jdk_52_m21_7 (pc'' := 44) ⟨by decide, by decide⟩ (fun h7 => ?_) (fun h7 => by exact absurd h7 (by decide))
  refine wp_iload D_jdk_52_m21_44 rfl ?_
  refine wp_ireturn D_jdk_52_m21_46 rfl (by decide) (by decide) ?_
  exact ⟨rfl, rfl⟩
def Q_c_cm3_3 (s q : Addr) (c0 c1 c2 : Int32) (F : OH) : Option Value → OH → Prop := fun w' H' => ∃ b, w' = some (.ref b) ∧ H' = ((b, oA .byte [(nar .byte c0.toInt8.toInt32), (nar .byte c1.toInt8.toInt32), (nar .byte c2.toInt8.toInt32)]) :: (s, oS (.null)) :: (q, oA .char [c0, c1, c2]) :: F)
set_option maxRecDepth 65536 in
set_option maxHeartbeats 40000000 in
theorem c_cm3_3 (l : Launch) (Z : State) (a0 : Array Value) (hw : HW Z a0) (s q : Addr) (c0 c1 c2 : Int32) (F : OH) (h_c0 : 0 ≤ c0.toInt ∧ c0.toInt ≤ 255) (h_c1 : 0 ≤ c1.toInt ∧ c1.toInt ≤ 255) (h_c2 : 0 ≤ c2.toInt ∧ c2.toInt ≤ 255) :
    Met l Z (⟨"java/lang/StringUTF16", "compress", "([CII)[B"⟩ : MethodName) jdk_52_method_16_code 6 (some (.array .byte)) (rm4 1 1 3 18) [(.ref q), (.int 0), (.int 3)] ((s, oS (.null)) :: (q, oA .char [c0, c1, c2]) :: F) (Q_c_cm3_3 s q c0 c1 c2 F) := by
  refine Met.of_wp (Ls := #[.val (.ref q), .val (.int 0), .val (.int 3), .unset, .unset, .unset]) pn_2 (fun m => (entry_loc m _ _).trans rfl) ?_
  show W2 l Z (rm4 1 1 3 18) ((s, oS (.null)) :: (q, oA .char [c0, c1, c2]) :: F) 0 0 0 #[.val (.ref q), .val (.int 0), .val (.int 3), .unset, .unset, .unset] [] (Q_c_cm3_3 s q c0 c1 c2 F)
  refine wp_iload_n D_jdk_52_m16_0 rfl ?_
  refine wp_newarrayI (n := (3 : Int32)) (3) 3 D_jdk_52_m16_1 rfl rfl rfl (gw hw 20 rfl) (by decide) (by decide) (by decide) (by decide) (by decide) (by decide) ?_
  intro a1
  show W2 l Z (rm4 1 1 3 18) ((a1, oA .byte [(0 : Int32), (0 : Int32), (0 : Int32)]) :: (s, oS (.null)) :: (q, oA .char [c0, c1, c2]) :: F) 1 3 3 #[.val (.ref q), .val (.int 0), .val (.int 3), .unset, .unset, .unset] [(.ref a1)] (Q_c_cm3_3 s q c0 c1 c2 F)
  refine wp_astore_n #[.val (.ref q), .val (.int 0), .val (.int 3), .val (.ref a1), .unset, .unset] D_jdk_52_m16_3 rfl rfl ?_
  refine wp_aload_n D_jdk_52_m16_4 rfl rfl ?_
  refine wp_iload_n D_jdk_52_m16_5 rfl ?_
  refine wp_aload_n D_jdk_52_m16_6 rfl rfl ?_
  refine wp_iconst 0 D_jdk_52_m16_7 (by decide) ?_
  refine wp_iload_n D_jdk_52_m16_8 rfl ?_
  refine wp_callS (c_cm5_3 l Z a0 hw a1 s q c0 c1 c2 F h_c0 h_c1 h_c2) D_jdk_52_m16_9 (gw hw 76 rfl) (gw hw 77 rfl) (gw hw 74 rfl) (gw hw 78 rfl) (by decide) pd_1 rfl rfl rfl (lb rfl) (lb rfl) (lb rfl) (lb rfl) ?_
  rintro _ _ ⟨rfl, rfl⟩
  show W2 l Z (rm4 1 1 3 18) ((a1, oA .byte [(nar .byte c0.toInt8.toInt32), (nar .byte c1.toInt8.toInt32), (nar .byte c2.toInt8.toInt32)]) :: (s, oS (.null)) :: (q, oA .char [c0, c1, c2]) :: F) 1 3 12 #[.val (.ref q), .val (.int 0), .val (.int 3), .val (.ref a1), .unset, .unset] [(.int 3)] (Q_c_cm3_3 s q c0 c1 c2 F)
  refine wp_istore #[.val (.ref q), .val (.int 0), .val (.int 3), .val (.ref a1), .val (.int 3), .unset] D_jdk_52_m16_12 rfl ?_
  refine wp_iload D_jdk_52_m16_14 rfl ?_
  refine wp_iload_n D_jdk_52_m16_16 rfl ?_
  refine wp_icmp_eq D_jdk_52_m16_17 (pc'' := 57) ⟨by decide, by decide⟩ (fun h2 => ?_) (fun h2 => by exact absurd h2 (by decide))
  refine wp_aload_n D_jdk_52_m16_57 rfl rfl ?_
  refine wp_areturn D_jdk_52_m16_58 rfl rfl rfl rfl (by decide) (by decide) ?_
  exact ⟨_, rfl, rfl⟩
def Q_c_cfa_3 (b s q : Addr) (c0 c1 c2 : Int32) (F : OH) : Option Value → OH → Prop := fun w' H' => w' = some (.int 0) ∧ H' = ((b, oA .byte [(nar .byte c0.toInt8.toInt32), (nar .byte c1.toInt8.toInt32), (nar .byte c2.toInt8.toInt32)]) :: (s, oS (.null)) :: (q, oA .char [c0, c1, c2]) :: F)
set_option maxRecDepth 65536 in
set_option maxHeartbeats 40000000 in
theorem c_cfa_3 (l : Launch) (Z : State) (a0 : Array Value) (hw : HW Z a0) (b s q : Addr) (c0 c1 c2 : Int32) (F : OH) :
    Met l Z (⟨"java/lang/StringUTF16", "coderFromArrayLen", "([BI)B"⟩ : MethodName) jdk_52_method_15_code 2 (some .byte) (rm4 0 0 0 0) [(.ref b), (.int 3)] ((b, oA .byte [(nar .byte c0.toInt8.toInt32), (nar .byte c1.toInt8.toInt32), (nar .byte c2.toInt8.toInt32)]) :: (s, oS (.null)) :: (q, oA .char [c0, c1, c2]) :: F) (Q_c_cfa_3 b s q c0 c1 c2 F) := by
  refine Met.of_wp (Ls := #[.val (.ref b), .val (.int 3)]) pn_3 (fun m => (entry_loc m _ _).trans rfl) ?_
  show W3 l Z (rm4 0 0 0 0) ((b, oA .byte [(nar .byte c0.toInt8.toInt32), (nar .byte c1.toInt8.toInt32), (nar .byte c2.toInt8.toInt32)]) :: (s, oS (.null)) :: (q, oA .char [c0, c1, c2]) :: F) 0 0 0 #[.val (.ref b), .val (.int 3)] [] (Q_c_cfa_3 b s q c0 c1 c2 F)
  refine wp_iload_n D_jdk_52_m15_0 rfl ?_
  refine wp_aload_n D_jdk_52_m15_1 rfl rfl ?_
  refine wp_lengthI (i := 0) (3 : Int32) D_jdk_52_m15_2 rfl rfl ?_
  refine wp_isub D_jdk_52_m15_3 ?_
  rw [show ((3 : Int32) - (3 : Int32)) = (0 : Int32) from by decide]
  refine wp_bipush 31 D_jdk_52_m15_4 (by decide) ?_
  refine wp_iushr D_jdk_52_m15_6 ?_
  rw [show (XT.ushr (0 : Int32) (31 : Int32)) = (0 : Int32) from by decide]
  refine wp_i2b D_jdk_52_m15_7 ?_
  rw [show (0 : Int32).toInt8.toInt32 = (0 : Int32) from by decide]
  refine wp_ireturnN D_jdk_52_m15_8 rfl (by simp) (by decide) (by decide) ?_
  exact ⟨rfl, rfl⟩
def Q_c_si4_3 (s q : Addr) (cp : Int32) (c0 c1 c2 : Int32) (F : OH) : Option Value → OH → Prop := fun w' H' => w' = none ∧ ∃ b, H' = ((b, oA .byte [(nar .byte c0.toInt8.toInt32), (nar .byte c1.toInt8.toInt32), (nar .byte c2.toInt8.toInt32)]) :: (s, oS (.ref b)) :: (q, oA .char [c0, c1, c2]) :: F)
set_option maxRecDepth 65536 in
set_option maxHeartbeats 40000000 in
theorem c_si4_3 (l : Launch) (Z : State) (a0 : Array Value) (hw : HW Z a0) (s q : Addr) (cp : Int32) (c0 c1 c2 : Int32) (F : OH) (S_cp : Sta Z Z.heap "java/lang/String" "COMPACT_STRINGS" "Z" (.int cp)) (hcp : ¬ cp = 0) (h_c0 : 0 ≤ c0.toInt ∧ c0.toInt ≤ 255) (h_c1 : 0 ≤ c1.toInt ∧ c1.toInt ≤ 255) (h_c2 : 0 ≤ c2.toInt ∧ c2.toInt ≤ 255) :
    Met l Z (⟨"java/lang/String", "<init>", "([CIILjava/lang/Void;)V"⟩ : MethodName) jdk_42_method_149_code 6 none (rm4 2 1 3 35) [(.ref s), (.ref q), (.int 0), (.int 3), (.null)] ((s, oS (.null)) :: (q, oA .char [c0, c1, c2]) :: F) (Q_c_si4_3 s q cp c0 c1 c2 F) := by
  refine Met.of_wp (Ls := #[.val (.ref s), .val (.ref q), .val (.int 0), .val (.int 3), .val (.null), .unset]) pn_4 (fun m => (entry_loc m _ _).trans rfl) ?_
  show W4 l Z (rm4 2 1 3 35) ((s, oS (.null)) :: (q, oA .char [c0, c1, c2]) :: F) 0 0 0 #[.val (.ref s), .val (.ref q), .val (.int 0), .val (.int 3), .val (.null), .unset] [] (Q_c_si4_3 s q cp c0 c1 c2 F)
  refine wp_aload_n D_jdk_42_m149_0 rfl rfl ?_
  refine wp_initO D_jdk_42_m149_1 (gw hw 16 rfl) (gw hw 17 rfl) (gw hw 18 rfl) rfl (Nat.le_of_ble_eq_true rfl) (Nat.le_of_ble_eq_true rfl) ?_
  refine wp_iload_n D_jdk_42_m149_4 rfl ?_
  refine wp_if_ne D_jdk_42_m149_5 (pc'' := 27) ⟨by decide, by decide⟩ (fun h1 => ?_) (fun h1 => by exact absurd h1 (by decide))
  refine wp_getstatic D_jdk_42_m149_27 (gw hw 46 rfl) S_cp ?_
  refine wp_if_eq D_jdk_42_m149_30 (pc'' := 58) ⟨by decide, by decide⟩ (fun h2 => by exact absurd h2 hcp) (fun h2 => ?_)
  refine wp_aload_n D_jdk_42_m149_33 rfl rfl ?_
  refine wp_iload_n D_jdk_42_m149_34 rfl ?_
  refine wp_iload_n D_jdk_42_m149_35 rfl ?_
  refine wp_callS (c_cm3_3 l Z a0 hw s q c0 c1 c2 F h_c0 h_c1 h_c2) D_jdk_42_m149_36 (gw hw 72 rfl) (gw hw 73 rfl) (gw hw 74 rfl) (gw hw 75 rfl) (by decide) pd_8 rfl rfl rfl (lb rfl) (lb rfl) (lb rfl) (lb rfl) ?_
  rintro _ _ ⟨b3, rfl, rfl⟩
  show W4 l Z (rm4 2 1 3 35) ((b3, oA .byte [(nar .byte c0.toInt8.toInt32), (nar .byte c1.toInt8.toInt32), (nar .byte c2.toInt8.toInt32)]) :: (s, oS (.null)) :: (q, oA .char [c0, c1, c2]) :: F) 1 3 39 #[.val (.ref s), .val (.ref q), .val (.int 0), .val (.int 3), .val (.null), .unset] [(.ref b3)] (Q_c_si4_3 s q cp c0 c1 c2 F)
  refine wp_astore #[.val (.ref s), .val (.ref q), .val (.int 0), .val (.int 3), .val (.null), .val (.ref b3)] D_jdk_42_m149_39 rfl rfl ?_
  refine wp_aload_n D_jdk_42_m149_41 rfl rfl ?_
  refine wp_aload D_jdk_42_m149_42 rfl rfl ?_
  refine wp_iload_n D_jdk_42_m149_44 rfl ?_
  refine wp_callS (c_cfa_3 l Z a0 hw b3 s q c0 c1 c2 F) D_jdk_42_m149_45 (gw hw 79 rfl) (gw hw 80 rfl) (gw hw 74 rfl) (gw hw 81 rfl) (by decide) pd_9 rfl rfl rfl (lb rfl) (lb rfl) (lb rfl) (lb rfl) ?_
  rintro _ _ ⟨rfl, rfl⟩
  show W4 l Z (rm4 2 1 3 35) ((b3, oA .byte [(nar .byte c0.toInt8.toInt32), (nar .byte c1.toInt8.toInt32), (nar .byte c2.toInt8.toInt32)]) :: (s, oS (.null)) :: (q, oA .char [c0, c1, c2]) :: F) 1 3 48 #[.val (.ref s), .val (.ref q), .val (.int 0), .val (.int 3), .val (.null), .val (.ref b3)] [(.int 0), (.ref s)] (Q_c_si4_3 s q cp c0 c1 c2 F)
  refine wp_putfield (i := 1) (fi := 1) (ty := .byte) D_jdk_42_m149_48 (gw hw 26 rfl) rfl rfl rfl (Or.inr ⟨(gw hw 22 rfl), rfl, rfl⟩) (gw hw 6 rfl) (by decide) rfl rfl ?_
  show W4 l Z (rm4 2 1 3 35) ((b3, oA .byte [(nar .byte c0.toInt8.toInt32), (nar .byte c1.toInt8.toInt32), (nar .byte c2.toInt8.toInt32)]) :: (s, oS (.null)) :: (q, oA .char [c0, c1, c2]) :: F) 1 3 51 #[.val (.ref s), .val (.ref q), .val (.int 0), .val (.int 3), .val (.null), .val (.ref b3)] [] (Q_c_si4_3 s q cp c0 c1 c2 F)
  refine wp_aload_n D_jdk_42_m149_51 rfl rfl ?_
  refine wp_aload D_jdk_42_m149_52 rfl rfl ?_
  refine wp_putfield (i := 1) (fi := 0) (ty := (.array .byte)) D_jdk_42_m149_54 (gw hw 25 rfl) rfl rfl rfl (Or.inr ⟨(gw hw 21 rfl), rfl, rfl⟩) (gw hw 6 rfl) (by decide) rfl rfl ?_
  show W4 l Z (rm4 2 1 3 35) ((b3, oA .byte [(nar .byte c0.toInt8.toInt32), (nar .byte c1.toInt8.toInt32), (nar .byte c2.toInt8.toInt32)]) :: (s, oS (.ref b3)) :: (q, oA .char [c0, c1, c2]) :: F) 1 3 57 #[.val (.ref s), .val (.ref q), .val (.int 0), .val (.int 3), .val (.null), .val (.ref b3)] [] (Q_c_si4_3 s q cp c0 c1 c2 F)
  refine wp_return D_jdk_42_m149_57 rfl (by decide) (by decide) ?_
  exact ⟨rfl, _, rfl⟩
def Q_c_si1_3 (s q : Addr) (cp : Int32) (c0 c1 c2 : Int32) (F : OH) : Option Value → OH → Prop := fun w' H' => w' = none ∧ ∃ b, H' = ((b, oA .byte [(nar .byte c0.toInt8.toInt32), (nar .byte c1.toInt8.toInt32), (nar .byte c2.toInt8.toInt32)]) :: (s, oS (.ref b)) :: (q, oA .char [c0, c1, c2]) :: F)
set_option maxRecDepth 65536 in
set_option maxHeartbeats 40000000 in
theorem c_si1_3 (l : Launch) (Z : State) (a0 : Array Value) (hw : HW Z a0) (s q : Addr) (cp : Int32) (c0 c1 c2 : Int32) (F : OH) (S_cp : Sta Z Z.heap "java/lang/String" "COMPACT_STRINGS" "Z" (.int cp)) (hcp : ¬ cp = 0) (h_c0 : 0 ≤ c0.toInt ∧ c0.toInt ≤ 255) (h_c1 : 0 ≤ c1.toInt ∧ c1.toInt ≤ 255) (h_c2 : 0 ≤ c2.toInt ∧ c2.toInt ≤ 255) :
    Met l Z (⟨"java/lang/String", "<init>", "([C)V"⟩ : MethodName) jdk_42_method_3_code 2 none (rm4 3 1 3 52) [(.ref s), (.ref q)] ((s, oS (.null)) :: (q, oA .char [c0, c1, c2]) :: F) (Q_c_si1_3 s q cp c0 c1 c2 F) := by
  refine Met.of_wp (Ls := #[.val (.ref s), .val (.ref q)]) pn_5 (fun m => (entry_loc m _ _).trans rfl) ?_
  show W5 l Z (rm4 3 1 3 52) ((s, oS (.null)) :: (q, oA .char [c0, c1, c2]) :: F) 0 0 0 #[.val (.ref s), .val (.ref q)] [] (Q_c_si1_3 s q cp c0 c1 c2 F)
  refine wp_aload_n D_jdk_42_m3_0 rfl rfl ?_
  refine wp_aload_n D_jdk_42_m3_1 rfl rfl ?_
  refine wp_iconst 0 D_jdk_42_m3_2 (by decide) ?_
  refine wp_aload_n D_jdk_42_m3_3 rfl rfl ?_
  refine wp_lengthI (i := 1) (3 : Int32) D_jdk_42_m3_4 rfl rfl ?_
  refine wp_aconst_null D_jdk_42_m3_5 ?_
  refine wp_init (c_si4_3 l Z a0 hw s q cp c0 c1 c2 F S_cp hcp h_c0 h_c1 h_c2) D_jdk_42_m3_6 rfl (gw hw 12 rfl) (gw hw 13 rfl) (gw hw 7 rfl) (gw hw 15 rfl) (by decide) pd_2 rfl rfl rfl (lb rfl) (lb rfl) (lb rfl) (lb rfl) ?_
  rintro _ _ ⟨rfl, b1, rfl⟩
  show W5 l Z (rm4 3 1 3 52) ((b1, oA .byte [(nar .byte c0.toInt8.toInt32), (nar .byte c1.toInt8.toInt32), (nar .byte c2.toInt8.toInt32)]) :: (s, oS (.ref b1)) :: (q, oA .char [c0, c1, c2]) :: F) 1 3 9 #[.val (.ref s), .val (.ref q)] [] (Q_c_si1_3 s q cp c0 c1 c2 F)
  refine wp_return D_jdk_42_m3_9 rfl (by decide) (by decide) ?_
  exact ⟨rfl, _, rfl⟩
def Q_c_cm5_4 (b s q : Addr) (c0 c1 c2 c3 : Int32) (F : OH) : Option Value → OH → Prop := fun w' H' => w' = some (.int 4) ∧ H' = ((b, oA .byte [(nar .byte c0.toInt8.toInt32), (nar .byte c1.toInt8.toInt32), (nar .byte c2.toInt8.toInt32), (nar .byte c3.toInt8.toInt32)]) :: (s, oS (.null)) :: (q, oA .char [c0, c1, c2, c3]) :: F)
set_option maxRecDepth 65536 in
set_option maxHeartbeats 40000000 in
theorem c_cm5_4 (l : Launch) (Z : State) (a0 : Array Value) (hw : HW Z a0) (b s q : Addr) (c0 c1 c2 c3 : Int32) (F : OH) (h_c0 : 0 ≤ c0.toInt ∧ c0.toInt ≤ 255) (h_c1 : 0 ≤ c1.toInt ∧ c1.toInt ≤ 255) (h_c2 : 0 ≤ c2.toInt ∧ c2.toInt ≤ 255) (h_c3 : 0 ≤ c3.toInt ∧ c3.toInt ≤ 255) :
    Met l Z (⟨"java/lang/StringUTF16", "compress", "([CI[BII)I"⟩ : MethodName) jdk_52_method_21_code 7 (some .int) (rm4 0 0 0 0) [(.ref q), (.int 0), (.ref b), (.int 0), (.int 4)] ((b, oA .byte [(0 : Int32), (0 : Int32), (0 : Int32), (0 : Int32)]) :: (s, oS (.null)) :: (q, oA .char [c0, c1, c2, c3]) :: F) (Q_c_cm5_4 b s q c0 c1 c2 c3 F) := by
  refine Met.of_wp (Ls := #[.val (.ref q), .val (.int 0), .val (.ref b), .val (.int 0), .val (.int 4), .unset, .unset]) pn_1 (fun m => (entry_loc m _ _).trans rfl) ?_
  show W1 l Z (rm4 0 0 0 0) ((b, oA .byte [(0 : Int32), (0 : Int32), (0 : Int32), (0 : Int32)]) :: (s, oS (.null)) :: (q, oA .char [c0, c1, c2, c3]) :: F) 0 0 0 #[.val (.ref q), .val (.int 0), .val (.ref b), .val (.int 0), .val (.int 4), .unset, .unset] [] (Q_c_cm5_4 b s q c0 c1 c2 c3 F)
  refine wp_iconst 0 D_jdk_52_m21_0 (by decide) ?_
  refine wp_istore #[.val (.ref q), .val (.int 0), .val (.ref b), .val (.int 0), .val (.int 4), .val (.int 0), .unset] D_jdk_52_m21_1 rfl ?_
  refine wp_iload D_jdk_52_m21_3 rfl ?_
  refine wp_iload D_jdk_52_m21_5 rfl ?_
  refine wp_icmp_ge D_jdk_52_m21_7 (pc'' := 44) ⟨by decide, by decide⟩ (fun h1 => by exact absurd h1 (by decide)) (fun h1 => ?_)
  refine wp_aload_n D_jdk_52_m21_10 rfl rfl ?_
  refine wp_iload_n D_jdk_52_m21_11 rfl ?_
  refine wp_caload (i := 2) (0) D_jdk_52_m21_12 rfl (by decide) (by decide) rfl ?_
  refine wp_istore #[.val (.ref q), .val (.int 0), .val (.ref b), .val (.int 0), .val (.int 4), .val (.int 0), .val (.int c0)] D_jdk_52_m21_13 rfl ?_
  refine wp_iload D_jdk_52_m21_15 rfl ?_
  refine wp_sipush 255 D_jdk_52_m21_17 (by decide) ?_
  refine wp_icmp_le D_jdk_52_m21_20 (pc'' := 26) ⟨by decide, by decide⟩ (fun h2 => ?_) (fun h2 => by exfalso; (simp only [Int32.lt_iff_toInt_lt, Int32.le_iff_toInt_le, ← Int32.toInt_inj, Int32.reduceToInt, Int64.lt_iff_toInt_lt, ← Int64.toInt_inj, Int64.reduceToInt] at *; omega))
  refine wp_aload_n D_jdk_52_m21_26 rfl rfl ?_
  refine wp_iload_n D_jdk_52_m21_27 rfl ?_
  refine wp_iload D_jdk_52_m21_28 rfl ?_
  refine wp_i2b D_jdk_52_m21_30 ?_
  refine wp_bastore (i := 0) (0) D_jdk_52_m21_31 rfl (by decide) (by decide) (by first | decide | exact Nat.le_of_ble_eq_true rfl | simp) ?_
  show W1 l Z (rm4 0 0 0 0) ((b, oA .byte [(nar .byte c0.toInt8.toInt32), (0 : Int32), (0 : Int32), (0 : Int32)]) :: (s, oS (.null)) :: (q, oA .char [c0, c1, c2, c3]) :: F) 0 0 32 #[.val (.ref q), .val (.int 0), .val (.ref b), .val (.int 0), .val (.int 4), .val (.int 0), .val (.int c0)] [] (Q_c_cm5_4 b s q c0 c1 c2 c3 F)
  refine wp_iinc 1 #[.val (.ref q), .val (.int 1), .val (.ref b), .val (.int 0), .val (.int 4), .val (.int 0), .val (.int c0)] D_jdk_52_m21_32 rfl rfl (by rw [show (0 : Int32) + (1 : Int32) = (1 : Int32) from by decide]; rfl) ?_
  refine wp_iinc 1 #[.val (.ref q), .val (.int 1), .val (.ref b), .val (.int 1), .val (.int 4), .val (.int 0), .val (.int c0)] D_jdk_52_m21_35 rfl rfl (by rw [show (0 : Int32) + (1 : Int32) = (1 : Int32) from by decide]; rfl) ?_
  refine wp_iinc 1 #[.val (.ref q), .val (.int 1), .val (.ref b), .val (.int 1), .val (.int 4), .val (.int 1), .val (.int c0)] D_jdk_52_m21_38 rfl rfl (by rw [show (0 : Int32) + (1 : Int32) = (1 : Int32) from by decide]; rfl) ?_
  refine wp_goto D_jdk_52_m21_41 (pc'' := 3) ⟨by decide, by decide⟩ ?_
  refine wp_iload D_jdk_52_m21_3 rfl ?_
  refine wp_iload D_jdk_52_m21_5 rfl ?_
  refine wp_icmp_ge D_jdk_52_m21_7 (pc'' := 44) ⟨by decide, by decide⟩ (fun h3 => by exact absurd h3 (by decide)) (fun h3 => ?_)
  refine wp_aload_n D_jdk_52_m21_10 rfl rfl ?_
  refine wp_iload_n D_jdk_52_m21_11 rfl ?_
  refine wp_caload (i := 2) (1) D_jdk_52_m21_12 rfl (by decide) (by decide) rfl ?_
  refine wp_istore #[.val (.ref q), .val (.int 1), .val (.ref b), .val (.int 1), .val (.int 4), .val (.int 1), .val (.int c1)] D_jdk_52_m21_13 rfl ?_
  refine wp_iload D_jdk_52_m21_15 rfl ?_
  refine wp_sipush 255 D_jdk_52_m21_17 (by decide) ?_
  refine wp_icmp_le D_jdk_52_m21_20 (pc'' := 26) ⟨by decide, by decide⟩ (fun h4 => ?_) (fun h4 => by exfalso; (simp only [Int32.lt_iff_toInt_lt, Int32.le_iff_toInt_le, ← Int32.toInt_inj, Int32.reduceToInt, Int64.lt_iff_toInt_lt, ← Int64.toInt_inj, Int64.reduceToInt] at *; omega))
  refine wp_aload_n D_jdk_52_m21_26 rfl rfl ?_
  refine wp_iload_n D_jdk_52_m21_27 rfl ?_
  refine wp_iload D_jdk_52_m21_28 rfl ?_
  refine wp_i2b D_jdk_52_m21_30 ?_
  refine wp_bastore (i := 0) (1) D_jdk_52_m21_31 rfl (by decide) (by decide) (by first | decide | exact Nat.le_of_ble_eq_true rfl | simp) ?_
  show W1 l Z (rm4 0 0 0 0) ((b, oA .byte [(nar .byte c0.toInt8.toInt32), (nar .byte c1.toInt8.toInt32), (0 : Int32), (0 : Int32)]) :: (s, oS (.null)) :: (q, oA .char [c0, c1, c2, c3]) :: F) 0 0 32 #[.val (.ref q), .val (.int 1), .val (.ref b), .val (.int 1), .val (.int 4), .val (.int 1), .val (.int c1)] [] (Q_c_cm5_4 b s q c0 c1 c2 c3 F)
  refine wp_iinc 1 #[.val (.ref q), .val (.int 2), .val (.ref b), .val (.int 1), .val (.int 4), .val (.int 1), .val (.int c1)] D_jdk_52_m21_32 rfl rfl (by rw [show (1 : Int32) + (1 : Int32) = (2 : Int32) from by decide]; rfl) ?_
  refine wp_iinc 1 #[.val (.ref q), .val (.int 2), .val (.ref b), .val (.int 2), .val (.int 4), .val (.int 1), .val (.int c1)] D_jdk_52_m21_35 rfl rfl (by rw [show (1 : Int32) + (1 : Int32) = (2 : Int32) from by decide]; rfl) ?_
  refine wp_iinc 1 #[.val (.ref q), .val (.int 2), .val (.ref b), .val (.int 2), .val (.int 4), .val (.int 2), .val (.int c1)] D_jdk_52_m21_38 rfl rfl (by rw [show (1 : Int32) + (1 : Int32) = (2 : Int32) from by decide]; rfl) ?_
  refine wp_goto D_jdk_52_m21_41 (pc'' := 3) ⟨by decide, by decide⟩ ?_
  refine wp_iload D_jdk_52_m21_3 rfl ?_
  refine wp_iload D_jdk_52_m21_5 rfl ?_
  refine wp_icmp_ge D_jdk_52_m21_7 (pc'' := 44) ⟨by decide, by decide⟩ (fun h5 => by exact absurd h5 (by decide)) (fun h5 => ?_)
  refine wp_aload_n D_jdk_52_m21_10 rfl rfl ?_
  refine wp_iload_n D_jdk_52_m21_11 rfl ?_
  refine wp_caload (i := 2) (2) D_jdk_52_m21_12 rfl (by decide) (by decide) rfl ?_
  refine wp_istore #[.val (.ref q), .val (.int 2), .val (.ref b), .val (.int 2), .val (.int 4), .val (.int 2), .val (.int c2)] D_jdk_52_m21_13 rfl ?_
  refine wp_iload D_jdk_52_m21_15 rfl ?_
  refine wp_sipush 255 D_jdk_52_m21_17 (by decide) ?_
  refine wp_icmp_le D_jdk_52_m21_20 (pc'' := 26) ⟨by decide, by decide⟩ (fun h6 => ?_) (fun h6 => by exfalso; (simp only [Int32.lt_iff_toInt_lt, Int32.le_iff_toInt_le, ← Int32.toInt_inj, Int32.reduceToInt, Int64.lt_iff_toInt_lt, ← Int64.toInt_inj, Int64.reduceToInt] at *; omega))
  refine wp_aload_n D_jdk_52_m21_26 rfl rfl ?_
  refine wp_iload_n D_jdk_52_m21_27 rfl ?_
  refine wp_iload D_jdk_52_m21_28 rfl ?_
  refine wp_i2b D_jdk_52_m21_30 ?_
  refine wp_bastore (i := 0) (2) D_jdk_52_m21_31 rfl (by decide) (by decide) (by first | decide | exact Nat.le_of_ble_eq_true rfl | simp) ?_
  show W1 l Z (rm4 0 0 0 0) ((b, oA .byte [(nar .byte c0.toInt8.toInt32), (nar .byte c1.toInt8.toInt32), (nar .byte c2.toInt8.toInt32), (0 : Int32)]) :: (s, oS (.null)) :: (q, oA .char [c0, c1, c2, c3]) :: F) 0 0 32 #[.val (.ref q), .val (.int 2), .val (.ref b), .val (.int 2), .val (.int 4), .val (.int 2), .val (.int c2)] [] (Q_c_cm5_4 b s q c0 c1 c2 c3 F)
  refine wp_iinc 1 #[.val (.ref q), .val (.int 3), .val (.ref b), .val (.int 2), .val (.int 4), .val (.int 2), .val (.int c2)] D_jdk_52_m21_32 rfl rfl (by rw [show (2 : Int32) + (1 : Int32) = (3 : Int32) from by decide]; rfl) ?_
  refine wp_iinc 1 #[.val (.ref q), .val (.int 3), .val (.ref b), .val (.int 3), .val (.int 4), .val (.int 2), .val (.int c2)] D_jdk_52_m21_35 rfl rfl (by rw [show (2 : Int32) + (1 : Int32) = (3 : Int32) from by decide]; rfl) ?_
  refine wp_iinc 1 #[.val (.ref q), .val (.int 3), .val (.ref b), .val (.int 3), .val (.int 4), .val (.int 3), .val (.int c2)] D_jdk_52_m21_38 rfl rfl (by rw [show (2 : Int32) + (1 : Int32) = (3 : Int32) from by decide]; rfl) ?_
  refine wp_goto D_jdk_52_m21_41 (pc'' := 3) ⟨by decide, by decide⟩ ?_
  refine wp_iload D_jdk_52_m21_3 rfl ?_
  refine wp_iload D_jdk_52_m21_5 rfl ?_
  refine wp_icmp_ge D_jdk_52_m21_7 (pc'' := 44) ⟨by decide, by decide⟩ (fun h7 => by exact absurd h7 (by decide)) (fun h7 => ?_)
  refine wp_aload_n D_jdk_52_m21_10 rfl rfl ?_
  refine wp_iload_n D_jdk_52_m21_11 rfl ?_
  refine wp_caload (i := 2) (3) D_jdk_52_m21_12 rfl (by decide) (by decide) rfl ?_
  refine wp_istore #[.val (.ref q), .val (.int 3), .val (.ref b), .val (.int 3), .val (.int 4), .val (.int 3), .val (.int c3)] D_jdk_52_m21_13 rfl ?_
  refine wp_iload D_jdk_52_m21_15 rfl ?_
  refine wp_sipush 255 D_jdk_52_m21_17 (by decide) ?_
  refine wp_icmp_le D_jdk_52_m21_20 (pc'' := 26) ⟨by decide, by decide⟩ (fun h8 => ?_) (fun h8 => by exfalso; (simp only [Int32.lt_iff_toInt_lt, Int32.le_iff_toInt_le, ← Int32.toInt_inj, Int32.reduceToInt, Int64.lt_iff_toInt_lt, ← Int64.toInt_inj, Int64.reduceToInt] at *; omega))
  refine wp_aload_n D_jdk_52_m21_26 rfl rfl ?_
  refine wp_iload_n D_jdk_52_m21_27 rfl ?_
  refine wp_iload D_jdk_52_m21_28 rfl ?_
  refine wp_i2b D_jdk_52_m21_30 ?_
  refine wp_bastore (i := 0) (3) D_jdk_52_m21_31 rfl (by decide) (by decide) (by first | decide | exact Nat.le_of_ble_eq_true rfl | simp) ?_
  show W1 l Z (rm4 0 0 0 0) ((b, oA .byte [(nar .byte c0.toInt8.toInt32), (nar .byte c1.toInt8.toInt32), (nar .byte c2.toInt8.toInt32), (nar .byte c3.toInt8.toInt32)]) :: (s, oS (.null)) :: (q, oA .char [c0, c1, c2, c3]) :: F) 0 0 32 #[.val (.ref q), .val (.int 3), .val (.ref b), .val (.int 3), .val (.int 4), .val (.int 3), .val (.int c3)] [] (Q_c_cm5_4 b s q c0 c1 c2 c3 F)
  refine wp_iinc 1 #[.val (.ref q), .val (.int 4), .val (.ref b), .val (.int 3), .val (.int 4), .val (.int 3), .val (.int c3)] D_jdk_52_m21_32 rfl rfl (by rw [show (3 : Int32) + (1 : Int32) = (4 : Int32) from by decide]; rfl) ?_
  refine wp_iinc 1 #[.val (.ref q), .val (.int 4), .val (.ref b), .val (.int 4), .val (.int 4), .val (.int 3), .val (.int c3)] D_jdk_52_m21_35 rfl rfl (by rw [show (3 : Int32) + (1 : Int32) = (4 : Int32) from by decide]; rfl) ?_
  refine wp_iinc 1 #[.val (.ref q), .val (.int 4), .val (.ref b), .val (.int 4), .val (.int 4), .val (.int 4), .val (.int c3)] D_jdk_52_m21_38 rfl rfl (by rw [show (3 : Int32) + (1 : Int32) = (4 : Int32) from by decide]; rfl) ?_
  refine wp_goto D_jdk_52_m21_41 (pc'' := 3) ⟨by decide, by decide⟩ ?_
  refine wp_iload D_jdk_52_m21_3 rfl ?_
  refine wp_iload D_jdk_52_m21_5 rfl ?_
  refine wp_icmp_ge D_jdk_52_m21_7 (pc'' := 44) ⟨by decide, by decide⟩ (fun h9 => ?_) (fun h9 => by exact absurd h9 (by decide))
  refine wp_iload D_jdk_52_m21_44 rfl ?_
  refine wp_ireturn D_jdk_52_m21_46 rfl (by decide) (by decide) ?_
  exact ⟨rfl, rfl⟩
def Q_c_cm3_4 (s q : Addr) (c0 c1 c2 c3 : Int32) (F : OH) : Option Value → OH → Prop := fun w' H' => ∃ b, w' = some (.ref b) ∧ H' = ((b, oA .byte [(nar .byte c0.toInt8.toInt32), (nar .byte c1.toInt8.toInt32), (nar .byte c2.toInt8.toInt32), (nar .byte c3.toInt8.toInt32)]) :: (s, oS (.null)) :: (q, oA .char [c0, c1, c2, c3]) :: F)
set_option maxRecDepth 65536 in
set_option maxHeartbeats 40000000 in
theorem c_cm3_4 (l : Launch) (Z : State) (a0 : Array Value) (hw : HW Z a0) (s q : Addr) (c0 c1 c2 c3 : Int32) (F : OH) (h_c0 : 0 ≤ c0.toInt ∧ c0.toInt ≤ 255) (h_c1 : 0 ≤ c1.toInt ∧ c1.toInt ≤ 255) (h_c2 : 0 ≤ c2.toInt ∧ c2.toInt ≤ 255) (h_c3 : 0 ≤ c3.toInt ∧ c3.toInt ≤ 255) :
    Met l Z (⟨"java/lang/StringUTF16", "compress", "([CII)[B"⟩ : MethodName) jdk_52_method_16_code 6 (some (.array .byte)) (rm4 1 1 4 18) [(.ref q), (.int 0), (.int 4)] ((s, oS (.null)) :: (q, oA .char [c0, c1, c2, c3]) :: F) (Q_c_cm3_4 s q c0 c1 c2 c3 F) := by
  refine Met.of_wp (Ls := #[.val (.ref q), .val (.int 0), .val (.int 4), .unset, .unset, .unset]) pn_2 (fun m => (entry_loc m _ _).trans rfl) ?_
  show W2 l Z (rm4 1 1 4 18) ((s, oS (.null)) :: (q, oA .char [c0, c1, c2, c3]) :: F) 0 0 0 #[.val (.ref q), .val (.int 0), .val (.int 4), .unset, .unset, .unset] [] (Q_c_cm3_4 s q c0 c1 c2 c3 F)
  refine wp_iload_n D_jdk_52_m16_0 rfl ?_
  refine wp_newarrayI (n := (4 : Int32)) (4) 4 D_jdk_52_m16_1 rfl rfl rfl (gw hw 20 rfl) (by decide) (by decide) (by decide) (by decide) (by decide) (by decide) ?_
  intro a1
  show W2 l Z (rm4 1 1 4 18) ((a1, oA .byte [(0 : Int32), (0 : Int32), (0 : Int32), (0 : Int32)]) :: (s, oS (.null)) :: (q, oA .char [c0, c1, c2, c3]) :: F) 1 4 3 #[.val (.ref q), .val (.int 0), .val (.int 4), .unset, .unset, .unset] [(.ref a1)] (Q_c_cm3_4 s q c0 c1 c2 c3 F)
  refine wp_astore_n #[.val (.ref q), .val (.int 0), .val (.int 4), .val (.ref a1), .unset, .unset] D_jdk_52_m16_3 rfl rfl ?_
  refine wp_aload_n D_jdk_52_m16_4 rfl rfl ?_
  refine wp_iload_n D_jdk_52_m16_5 rfl ?_
  refine wp_aload_n D_jdk_52_m16_6 rfl rfl ?_
  refine wp_iconst 0 D_jdk_52_m16_7 (by decide) ?_
  refine wp_iload_n D_jdk_52_m16_8 rfl ?_
  refine wp_callS (c_cm5_4 l Z a0 hw a1 s q c0 c1 c2 c3 F h_c0 h_c1 h_c2 h_c3) D_jdk_52_m16_9 (gw hw 76 rfl) (gw hw 77 rfl) (gw hw 74 rfl) (gw hw 78 rfl) (by decide) pd_1 rfl rfl rfl (lb rfl) (lb rfl) (lb rfl) (lb rfl) ?_
  rintro _ _ ⟨rfl, rfl⟩
  show W2 l Z (rm4 1 1 4 18) ((a1, oA .byte [(nar .byte c0.toInt8.toInt32), (nar .byte c1.toInt8.toInt32), (nar .byte c2.toInt8.toInt32), (nar .byte c3.toInt8.toInt32)]) :: (s, oS (.null)) :: (q, oA .char [c0, c1, c2, c3]) :: F) 1 4 12 #[.val (.ref q), .val (.int 0), .val (.int 4), .val (.ref a1), .unset, .unset] [(.int 4)] (Q_c_cm3_4 s q c0 c1 c2 c3 F)
  refine wp_istore #[.val (.ref q), .val (.int 0), .val (.int 4), .val (.ref a1), .val (.int 4), .unset] D_jdk_52_m16_12 rfl ?_
  refine wp_iload D_jdk_52_m16_14 rfl ?_
  refine wp_iload_n D_jdk_52_m16_16 rfl ?_
  refine wp_icmp_eq D_jdk_52_m16_17 (pc'' := 57) ⟨by decide, by decide⟩ (fun h2 => ?_) (fun h2 => by exact absurd h2 (by decide))
  refine wp_aload_n D_jdk_52_m16_57 rfl rfl ?_
  refine wp_areturn D_jdk_52_m16_58 rfl rfl rfl rfl (by decide) (by decide) ?_
  exact ⟨_, rfl, rfl⟩
def Q_c_cfa_4 (b s q : Addr) (c0 c1 c2 c3 : Int32) (F : OH) : Option Value → OH → Prop := fun w' H' => w' = some (.int 0) ∧ H' = ((b, oA .byte [(nar .byte c0.toInt8.toInt32), (nar .byte c1.toInt8.toInt32), (nar .byte c2.toInt8.toInt32), (nar .byte c3.toInt8.toInt32)]) :: (s, oS (.null)) :: (q, oA .char [c0, c1, c2, c3]) :: F)
set_option maxRecDepth 65536 in
set_option maxHeartbeats 40000000 in
theorem c_cfa_4 (l : Launch) (Z : State) (a0 : Array Value) (hw : HW Z a0) (b s q : Addr) (c0 c1 c2 c3 : Int32) (F : OH) :
    Met l Z (⟨"java/lang/StringUTF16", "coderFromArrayLen", "([BI)B"⟩ : MethodName) jdk_52_method_15_code 2 (some .byte) (rm4 0 0 0 0) [(.ref b), (.int 4)] ((b, oA .byte [(nar .byte c0.toInt8.toInt32), (nar .byte c1.toInt8.toInt32), (nar .byte c2.toInt8.toInt32), (nar .byte c3.toInt8.toInt32)]) :: (s, oS (.null)) :: (q, oA .char [c0, c1, c2, c3]) :: F) (Q_c_cfa_4 b s q c0 c1 c2 c3 F) := by
  refine Met.of_wp (Ls := #[.val (.ref b), .val (.int 4)]) pn_3 (fun m => (entry_loc m _ _).trans rfl) ?_
  show W3 l Z (rm4 0 0 0 0) ((b, oA .byte [(nar .byte c0.toInt8.toInt32), (nar .byte c1.toInt8.toInt32), (nar .byte c2.toInt8.toInt32), (nar .byte c3.toInt8.toInt32)]) :: (s, oS (.null)) :: (q, oA .char [c0, c1, c2, c3]) :: F) 0 0 0 #[.val (.ref b), .val (.int 4)] [] (Q_c_cfa_4 b s q c0 c1 c2 c3 F)
  refine wp_iload_n D_jdk_52_m15_0 rfl ?_
  refine wp_aload_n D_jdk_52_m15_1 rfl rfl ?_
  refine wp_lengthI (i := 0) (4 : Int32) D_jdk_52_m15_2 rfl rfl ?_
  refine wp_isub D_jdk_52_m15_3 ?_
  rw [show ((4 : Int32) - (4 : Int32)) = (0 : Int32) from by decide]
  refine wp_bipush 31 D_jdk_52_m15_4 (by decide) ?_
  refine wp_iushr D_jdk_52_m15_6 ?_
  rw [show (XT.ushr (0 : Int32) (31 : Int32)) = (0 : Int32) from by decide]
  refine wp_i2b D_jdk_52_m15_7 ?_
  rw [show (0 : Int32).toInt8.toInt32 = (0 : Int32) from by decide]
  refine wp_ireturnN D_jdk_52_m15_8 rfl (by simp) (by decide) (by decide) ?_
  exact ⟨rfl, rfl⟩
def Q_c_si4_4 (s q : Addr) (cp : Int32) (c0 c1 c2 c3 : Int32) (F : OH) : Option Value → OH → Prop := fun w' H' => w' = none ∧ ∃ b, H' = ((b, oA .byte [(nar .byte c0.toInt8.toInt32), (nar .byte c1.toInt8.toInt32), (nar .byte c2.toInt8.toInt32), (nar .byte c3.toInt8.toInt32)]) :: (s, oS (.ref b)) :: (q, oA .char [c0, c1, c2, c3]) :: F)
set_option maxRecDepth 65536 in
set_option maxHeartbeats 40000000 in
theorem c_si4_4 (l : Launch) (Z : State) (a0 : Array Value) (hw : HW Z a0) (s q : Addr) (cp : Int32) (c0 c1 c2 c3 : Int32) (F : OH) (S_cp : Sta Z Z.heap "java/lang/String" "COMPACT_STRINGS" "Z" (.int cp)) (hcp : ¬ cp = 0) (h_c0 : 0 ≤ c0.toInt ∧ c0.toInt ≤ 255) (h_c1 : 0 ≤ c1.toInt ∧ c1.toInt ≤ 255) (h_c2 : 0 ≤ c2.toInt ∧ c2.toInt ≤ 255) (h_c3 : 0 ≤ c3.toInt ∧ c3.toInt ≤ 255) :
    Met l Z (⟨"java/lang/String", "<init>", "([CIILjava/lang/Void;)V"⟩ : MethodName) jdk_42_method_149_code 6 none (rm4 2 1 4 35) [(.ref s), (.ref q), (.int 0), (.int 4), (.null)] ((s, oS (.null)) :: (q, oA .char [c0, c1, c2, c3]) :: F) (Q_c_si4_4 s q cp c0 c1 c2 c3 F) := by
  refine Met.of_wp (Ls := #[.val (.ref s), .val (.ref q), .val (.int 0), .val (.int 4), .val (.null), .unset]) pn_4 (fun m => (entry_loc m _ _).trans rfl) ?_
  show W4 l Z (rm4 2 1 4 35) ((s, oS (.null)) :: (q, oA .char [c0, c1, c2, c3]) :: F) 0 0 0 #[.val (.ref s), .val (.ref q), .val (.int 0), .val (.int 4), .val (.null), .unset] [] (Q_c_si4_4 s q cp c0 c1 c2 c3 F)
  refine wp_aload_n D_jdk_42_m149_0 rfl rfl ?_
  refine wp_initO D_jdk_42_m149_1 (gw hw 16 rfl) (gw hw 17 rfl) (gw hw 18 rfl) rfl (Nat.le_of_ble_eq_true rfl) (Nat.le_of_ble_eq_true rfl) ?_
  refine wp_iload_n D_jdk_42_m149_4 rfl ?_
  refine wp_if_ne D_jdk_42_m149_5 (pc'' := 27) ⟨by decide, by decide⟩ (fun h1 => ?_) (fun h1 => by exact absurd h1 (by decide))
  refine wp_getstatic D_jdk_42_m149_27 (gw hw 46 rfl) S_cp ?_
  refine wp_if_eq D_jdk_42_m149_30 (pc'' := 58) ⟨by decide, by decide⟩ (fun h2 => by exact absurd h2 hcp) (fun h2 => ?_)
  refine wp_aload_n D_jdk_42_m149_33 rfl rfl ?_
  refine wp_iload_n D_jdk_42_m149_34 rfl ?_
  refine wp_iload_n D_jdk_42_m149_35 rfl ?_
  refine wp_callS (c_cm3_4 l Z a0 hw s q c0 c1 c2 c3 F h_c0 h_c1 h_c2 h_c3) D_jdk_42_m149_36 (gw hw 72 rfl) (gw hw 73 rfl) (gw hw 74 rfl) (gw hw 75 rfl) (by decide) pd_8 rfl rfl rfl (lb rfl) (lb rfl) (lb rfl) (lb rfl) ?_
  rintro _ _ ⟨b3, rfl, rfl⟩
  show W4 l Z (rm4 2 1 4 35) ((b3, oA .byte [(nar .byte c0.toInt8.toInt32), (nar .byte c1.toInt8.toInt32), (nar .byte c2.toInt8.toInt32), (nar .byte c3.toInt8.toInt32)]) :: (s, oS (.null)) :: (q, oA .char [c0, c1, c2, c3]) :: F) 1 4 39 #[.val (.ref s), .val (.ref q), .val (.int 0), .val (.int 4), .val (.null), .unset] [(.ref b3)] (Q_c_si4_4 s q cp c0 c1 c2 c3 F)
  refine wp_astore #[.val (.ref s), .val (.ref q), .val (.int 0), .val (.int 4), .val (.null), .val (.ref b3)] D_jdk_42_m149_39 rfl rfl ?_
  refine wp_aload_n D_jdk_42_m149_41 rfl rfl ?_
  refine wp_aload D_jdk_42_m149_42 rfl rfl ?_
  refine wp_iload_n D_jdk_42_m149_44 rfl ?_
  refine wp_callS (c_cfa_4 l Z a0 hw b3 s q c0 c1 c2 c3 F) D_jdk_42_m149_45 (gw hw 79 rfl) (gw hw 80 rfl) (gw hw 74 rfl) (gw hw 81 rfl) (by decide) pd_9 rfl rfl rfl (lb rfl) (lb rfl) (lb rfl) (lb rfl) ?_
  rintro _ _ ⟨rfl, rfl⟩
  show W4 l Z (rm4 2 1 4 35) ((b3, oA .byte [(nar .byte c0.toInt8.toInt32), (nar .byte c1.toInt8.toInt32), (nar .byte c2.toInt8.toInt32), (nar .byte c3.toInt8.toInt32)]) :: (s, oS (.null)) :: (q, oA .char [c0, c1, c2, c3]) :: F) 1 4 48 #[.val (.ref s), .val (.ref q), .val (.int 0), .val (.int 4), .val (.null), .val (.ref b3)] [(.int 0), (.ref s)] (Q_c_si4_4 s q cp c0 c1 c2 c3 F)
  refine wp_putfield (i := 1) (fi := 1) (ty := .byte) D_jdk_42_m149_48 (gw hw 26 rfl) rfl rfl rfl (Or.inr ⟨(gw hw 22 rfl), rfl, rfl⟩) (gw hw 6 rfl) (by decide) rfl rfl ?_
  show W4 l Z (rm4 2 1 4 35) ((b3, oA .byte [(nar .byte c0.toInt8.toInt32), (nar .byte c1.toInt8.toInt32), (nar .byte c2.toInt8.toInt32), (nar .byte c3.toInt8.toInt32)]) :: (s, oS (.null)) :: (q, oA .char [c0, c1, c2, c3]) :: F) 1 4 51 #[.val (.ref s), .val (.ref q), .val (.int 0), .val (.int 4), .val (.null), .val (.ref b3)] [] (Q_c_si4_4 s q cp c0 c1 c2 c3 F)
  refine wp_aload_n D_jdk_42_m149_51 rfl rfl ?_
  refine wp_aload D_jdk_42_m149_52 rfl rfl ?_
  refine wp_putfield (i := 1) (fi := 0) (ty := (.array .byte)) D_jdk_42_m149_54 (gw hw 25 rfl) rfl rfl rfl (Or.inr ⟨(gw hw 21 rfl), rfl, rfl⟩) (gw hw 6 rfl) (by decide) rfl rfl ?_
  show W4 l Z (rm4 2 1 4 35) ((b3, oA .byte [(nar .byte c0.toInt8.toInt32), (nar .byte c1.toInt8.toInt32), (nar .byte c2.toInt8.toInt32), (nar .byte c3.toInt8.toInt32)]) :: (s, oS (.ref b3)) :: (q, oA .char [c0, c1, c2, c3]) :: F) 1 4 57 #[.val (.ref s), .val (.ref q), .val (.int 0), .val (.int 4), .val (.null), .val (.ref b3)] [] (Q_c_si4_4 s q cp c0 c1 c2 c3 F)
  refine wp_return D_jdk_42_m149_57 rfl (by decide) (by decide) ?_
  exact ⟨rfl, _, rfl⟩
def Q_c_si1_4 (s q : Addr) (cp : Int32) (c0 c1 c2 c3 : Int32) (F : OH) : Option Value → OH → Prop := fun w' H' => w' = none ∧ ∃ b, H' = ((b, oA .byte [(nar .byte c0.toInt8.toInt32), (nar .byte c1.toInt8.toInt32), (nar .byte c2.toInt8.toInt32), (nar .byte c3.toInt8.toInt32)]) :: (s, oS (.ref b)) :: (q, oA .char [c0, c1, c2, c3]) :: F)
set_option maxRecDepth 65536 in
set_option maxHeartbeats 40000000 in
theorem c_si1_4 (l : Launch) (Z : State) (a0 : Array Value) (hw : HW Z a0) (s q : Addr) (cp : Int32) (c0 c1 c2 c3 : Int32) (F : OH) (S_cp : Sta Z Z.heap "java/lang/String" "COMPACT_STRINGS" "Z" (.int cp)) (hcp : ¬ cp = 0) (h_c0 : 0 ≤ c0.toInt ∧ c0.toInt ≤ 255) (h_c1 : 0 ≤ c1.toInt ∧ c1.toInt ≤ 255) (h_c2 : 0 ≤ c2.toInt ∧ c2.toInt ≤ 255) (h_c3 : 0 ≤ c3.toInt ∧ c3.toInt ≤ 255) :
    Met l Z (⟨"java/lang/String", "<init>", "([C)V"⟩ : MethodName) jdk_42_method_3_code 2 none (rm4 3 1 4 52) [(.ref s), (.ref q)] ((s, oS (.null)) :: (q, oA .char [c0, c1, c2, c3]) :: F) (Q_c_si1_4 s q cp c0 c1 c2 c3 F) := by
  refine Met.of_wp (Ls := #[.val (.ref s), .val (.ref q)]) pn_5 (fun m => (entry_loc m _ _).trans rfl) ?_
  show W5 l Z (rm4 3 1 4 52) ((s, oS (.null)) :: (q, oA .char [c0, c1, c2, c3]) :: F) 0 0 0 #[.val (.ref s), .val (.ref q)] [] (Q_c_si1_4 s q cp c0 c1 c2 c3 F)
  refine wp_aload_n D_jdk_42_m3_0 rfl rfl ?_
  refine wp_aload_n D_jdk_42_m3_1 rfl rfl ?_
  refine wp_iconst 0 D_jdk_42_m3_2 (by decide) ?_
  refine wp_aload_n D_jdk_42_m3_3 rfl rfl ?_
  refine wp_lengthI (i := 1) (4 : Int32) D_jdk_42_m3_4 rfl rfl ?_
  refine wp_aconst_null D_jdk_42_m3_5 ?_
  refine wp_init (c_si4_4 l Z a0 hw s q cp c0 c1 c2 c3 F S_cp hcp h_c0 h_c1 h_c2 h_c3) D_jdk_42_m3_6 rfl (gw hw 12 rfl) (gw hw 13 rfl) (gw hw 7 rfl) (gw hw 15 rfl) (by decide) pd_2 rfl rfl rfl (lb rfl) (lb rfl) (lb rfl) (lb rfl) ?_
  rintro _ _ ⟨rfl, b1, rfl⟩
  show W5 l Z (rm4 3 1 4 52) ((b1, oA .byte [(nar .byte c0.toInt8.toInt32), (nar .byte c1.toInt8.toInt32), (nar .byte c2.toInt8.toInt32), (nar .byte c3.toInt8.toInt32)]) :: (s, oS (.ref b1)) :: (q, oA .char [c0, c1, c2, c3]) :: F) 1 4 9 #[.val (.ref s), .val (.ref q)] [] (Q_c_si1_4 s q cp c0 c1 c2 c3 F)
  refine wp_return D_jdk_42_m3_9 rfl (by decide) (by decide) ?_
  exact ⟨rfl, _, rfl⟩
def Q_c_si4_0 (s q : Addr) (F : OH) : Option Value → OH → Prop := fun w' H' => w' = none ∧ ∃ a1 u1 a2 u2, H' = ((a1, strO u1) :: (u1, fA .byte []) :: (a2, strO u2) :: (u2, fA .byte []) :: (s, oS (.ref u2)) :: (q, oA .char []) :: F)
abbrev W6 (l : Launch) (Z : State) := Wp (some consts_1) l Z "java/lang/String" "<init>" jdk_42_method_149_code 6 none
set_option maxRecDepth 65536 in
set_option maxHeartbeats 40000000 in
theorem c_si4_0 (l : Launch) (Z : State) (a0 : Array Value) (hw : HW Z a0) (s q : Addr) (cp : Int32) (fm : Value) (F : OH) (hs : Std Z cp fm) :
    MetI consts_1 l Z (⟨"java/lang/String", "<init>", "([CIILjava/lang/Void;)V"⟩ : MethodName) jdk_42_method_149_code 6 none (rm4 1 4 8 12) [(.ref s), (.ref q), (.int 0), (.int 0), (.null)] ((s, oS (.null)) :: (q, oA .char []) :: F) (Q_c_si4_0 s q F) := by
  refine MetI.of_wp (Ls := #[.val (.ref s), .val (.ref q), .val (.int 0), .val (.int 0), .val (.null), .unset]) pn_4 (fun m => (entry_loc m _ _).trans rfl) (own_EL l Z a0 hw) ?_
  show W6 l Z (rm4 1 4 8 12) ((s, oS (.null)) :: (q, oA .char []) :: F) 0 0 0 #[.val (.ref s), .val (.ref q), .val (.int 0), .val (.int 0), .val (.null), .unset] [] (Q_c_si4_0 s q F)
  refine wp_aload_n D_jdk_42_m149_0 rfl rfl ?_
  refine wp_initO D_jdk_42_m149_1 (gw hw 16 rfl) (gw hw 17 rfl) (gw hw 18 rfl) rfl (Nat.le_of_ble_eq_true rfl) (Nat.le_of_ble_eq_true rfl) ?_
  refine wp_iload_n D_jdk_42_m149_4 rfl ?_
  refine wp_if_ne D_jdk_42_m149_5 (pc'' := 27) ⟨by decide, by decide⟩ (fun h1 => by exact absurd h1 (by decide)) (fun h1 => ?_)
  refine wp_aload_n D_jdk_42_m149_8 rfl rfl ?_
  refine wp_ldcH (n := 0) [] D_jdk_42_m149_9 (gw hw 19 rfl) (own_wS l Z a0 hw) (own_slo l Z a0 hw) (own_EL l Z a0 hw) (List.mem_of_getElem? (i := 0) rfl) ⟨by decide, by decide⟩ (by decide) (by decide) (by decide) (by decide) (by decide) ?_
  intro s2 v3
  show W6 l Z (rm4 1 4 8 12) ((s2, strO v3) :: (v3, fA .byte []) :: (s, oS (.null)) :: (q, oA .char []) :: F) 2 4 11 #[.val (.ref s), .val (.ref q), .val (.int 0), .val (.int 0), .val (.null), .unset] [(.ref s2), (.ref s)] (Q_c_si4_0 s q F)
  refine wp_getfield D_jdk_42_m149_11 (gw hw 25 rfl) (fld_new (i := 0) (fi := 0) rfl rfl rfl) ?_
  refine wp_putfield (i := 2) (fi := 0) (ty := (.array .byte)) D_jdk_42_m149_14 (gw hw 25 rfl) rfl rfl rfl (Or.inr ⟨(gw hw 21 rfl), rfl, rfl⟩) (gw hw 6 rfl) (by decide) rfl rfl ?_
  show W6 l Z (rm4 1 4 8 12) ((s2, strO v3) :: (v3, fA .byte []) :: (s, oS (.ref v3)) :: (q, oA .char []) :: F) 2 4 17 #[.val (.ref s), .val (.ref q), .val (.int 0), .val (.int 0), .val (.null), .unset] [] (Q_c_si4_0 s q F)
  refine wp_aload_n D_jdk_42_m149_17 rfl rfl ?_
  refine wp_ldcH (n := 0) [] D_jdk_42_m149_18 (gw hw 19 rfl) (own_wS l Z a0 hw) (own_slo l Z a0 hw) (own_EL l Z a0 hw) (List.mem_of_getElem? (i := 0) rfl) ⟨by decide, by decide⟩ (by decide) (by decide) (by decide) (by decide) (by decide) ?_
  intro s4 v5
  show W6 l Z (rm4 1 4 8 12) ((s4, strO v5) :: (v5, fA .byte []) :: (s2, strO v3) :: (v3, fA .byte []) :: (s, oS (.ref v3)) :: (q, oA .char []) :: F) 4 8 20 #[.val (.ref s), .val (.ref q), .val (.int 0), .val (.int 0), .val (.null), .unset] [(.ref s4), (.ref s)] (Q_c_si4_0 s q F)
  refine wp_getfield D_jdk_42_m149_20 (gw hw 26 rfl) (fld_new (i := 0) (fi := 1) rfl rfl rfl) ?_
  refine wp_putfield (i := 4) (fi := 1) (ty := .byte) D_jdk_42_m149_23 (gw hw 26 rfl) rfl rfl rfl (Or.inr ⟨(gw hw 22 rfl), rfl, rfl⟩) (gw hw 6 rfl) (by decide) rfl rfl ?_
  show W6 l Z (rm4 1 4 8 12) ((s4, strO v5) :: (v5, fA .byte []) :: (s2, strO v3) :: (v3, fA .byte []) :: (s, oS (.ref v3)) :: (q, oA .char []) :: F) 4 8 26 #[.val (.ref s), .val (.ref q), .val (.int 0), .val (.int 0), .val (.null), .unset] [] (Q_c_si4_0 s q F)
  refine wp_return D_jdk_42_m149_26 rfl (by decide) (by decide) ?_
  exact ⟨rfl, _, _, _, _, rfl⟩
def Q_c_si1_0 (s q : Addr) (F : OH) : Option Value → OH → Prop := fun w' H' => w' = none ∧ ∃ a1 u1 a2 u2, H' = ((a1, strO u1) :: (u1, fA .byte []) :: (a2, strO u2) :: (u2, fA .byte []) :: (s, oS (.ref u2)) :: (q, oA .char []) :: F)
abbrev W7 (l : Launch) (Z : State) := Wp (some consts_1) l Z "java/lang/String" "<init>" jdk_42_method_3_code 2 none
set_option maxRecDepth 65536 in
set_option maxHeartbeats 40000000 in
theorem c_si1_0 (l : Launch) (Z : State) (a0 : Array Value) (hw : HW Z a0) (s q : Addr) (cp : Int32) (fm : Value) (F : OH) (hs : Std Z cp fm) :
    MetI consts_1 l Z (⟨"java/lang/String", "<init>", "([C)V"⟩ : MethodName) jdk_42_method_3_code 2 none (rm4 2 4 8 29) [(.ref s), (.ref q)] ((s, oS (.null)) :: (q, oA .char []) :: F) (Q_c_si1_0 s q F) := by
  refine MetI.of_wp (Ls := #[.val (.ref s), .val (.ref q)]) pn_5 (fun m => (entry_loc m _ _).trans rfl) (own_EL l Z a0 hw) ?_
  show W7 l Z (rm4 2 4 8 29) ((s, oS (.null)) :: (q, oA .char []) :: F) 0 0 0 #[.val (.ref s), .val (.ref q)] [] (Q_c_si1_0 s q F)
  refine wp_aload_n D_jdk_42_m3_0 rfl rfl ?_
  refine wp_aload_n D_jdk_42_m3_1 rfl rfl ?_
  refine wp_iconst 0 D_jdk_42_m3_2 (by decide) ?_
  refine wp_aload_n D_jdk_42_m3_3 rfl rfl ?_
  refine wp_lengthI (i := 1) (0 : Int32) D_jdk_42_m3_4 rfl rfl ?_
  refine wp_aconst_null D_jdk_42_m3_5 ?_
  refine wp_initI (c_si4_0 l Z a0 hw s q cp fm F hs ) (own_EL l Z a0 hw) D_jdk_42_m3_6 rfl (gw hw 12 rfl) (gw hw 13 rfl) (gw hw 7 rfl) (gw hw 15 rfl) (by decide) pd_2 rfl rfl rfl (lb rfl) (lb rfl) (lb rfl) (lb rfl) ?_
  rintro _ _ ⟨rfl, z1, z2, z3, z4, rfl⟩
  show W7 l Z (rm4 2 4 8 29) ((z1, strO z2) :: (z2, fA .byte []) :: (z3, strO z4) :: (z4, fA .byte []) :: (s, oS (.ref z4)) :: (q, oA .char []) :: F) 4 8 9 #[.val (.ref s), .val (.ref q)] [] (Q_c_si1_0 s q F)
  refine wp_return D_jdk_42_m3_9 rfl (by decide) (by decide) ?_
  exact ⟨rfl, _, _, _, _, rfl⟩
theorem pn_6 : plainFor (⟨"java/lang/String", "coder", "()B"⟩ : MethodName) = true := by first | exact plainFor_of_name (by first | (simp [plainName, overriddenIn]; done) | decide +kernel) | decide +kernel
def Q_c_cod (s v : Addr) (F : OH) : Option Value → OH → Prop := fun w' H' => w' = some (.int 0) ∧ H' = ((s, strO v) :: F)
theorem D_jdk_42_m152_0 : Dc jdk_42_method_152_code 0 (.getstatic 38) 3 3 := ⟨by decide +kernel, rfl⟩
theorem D_jdk_42_m152_3 : Dc jdk_42_method_152_code 3 (.ifCond .eq 10) 3 6 := ⟨by decide +kernel, rfl⟩
theorem D_jdk_42_m152_6 : Dc jdk_42_method_152_code 6 (.aload_n 0) 1 7 := ⟨by decide +kernel, rfl⟩
theorem D_jdk_42_m152_7 : Dc jdk_42_method_152_code 7 (.getfield 15) 3 10 := ⟨by decide +kernel, rfl⟩
theorem D_jdk_42_m152_10 : Dc jdk_42_method_152_code 10 (.goto 4) 3 13 := ⟨by decide +kernel, rfl⟩
theorem D_jdk_42_m152_14 : Dc jdk_42_method_152_code 14 (.ireturn) 1 15 := ⟨by decide +kernel, rfl⟩
abbrev W8 (l : Launch) (Z : State) := Wp none l Z "java/lang/String" "coder" jdk_42_method_152_code 1 (some .byte)
set_option maxRecDepth 65536 in
set_option maxHeartbeats 40000000 in
theorem c_cod (l : Launch) (Z : State) (a0 : Array Value) (hw : HW Z a0) (s v : Addr) (cp : Int32) (fm : Value) (F : OH) (hs : Std Z cp fm) :
    Met l Z (⟨"java/lang/String", "coder", "()B"⟩ : MethodName) jdk_42_method_152_code 1 (some .byte) (rm4 0 0 0 0) [(.ref s)] ((s, strO v) :: F) (Q_c_cod s v F) := by
  refine Met.of_wp (Ls := #[.val (.ref s)]) pn_6 (fun m => (entry_loc m _ _).trans rfl) ?_
  show W8 l Z (rm4 0 0 0 0) ((s, strO v) :: F) 0 0 0 #[.val (.ref s)] [] (Q_c_cod s v F)
  refine wp_getstatic D_jdk_42_m152_0 (gw hw 46 rfl) hs.1 ?_
  refine wp_if_eq D_jdk_42_m152_3 (pc'' := 13) ⟨by decide, by decide⟩ (fun h1 => by exact absurd h1 hs.2.1) (fun h1 => ?_)
  refine wp_aload_n D_jdk_42_m152_6 rfl rfl ?_
  refine wp_getfield D_jdk_42_m152_7 (gw hw 26 rfl) (fld_new (i := 0) (fi := 1) rfl rfl rfl) ?_
  refine wp_goto D_jdk_42_m152_10 (pc'' := 14) ⟨by decide, by decide⟩ ?_
  refine wp_ireturnN D_jdk_42_m152_14 rfl (by simp) (by decide) (by decide) ?_
  exact ⟨rfl, rfl⟩
theorem pn_7 : plainFor (⟨"java/lang/String", "isLatin1", "()Z"⟩ : MethodName) = true := by first | exact plainFor_of_name (by first | (simp [plainName, overriddenIn]; done) | decide +kernel) | decide +kernel
def Q_c_lat (s v : Addr) (F : OH) : Option Value → OH → Prop := fun w' H' => w' = some (.int 1) ∧ H' = ((s, strO v) :: F)
theorem D_jdk_42_m154_0 : Dc jdk_42_method_154_code 0 (.getstatic 38) 3 3 := ⟨by decide +kernel, rfl⟩
theorem D_jdk_42_m154_3 : Dc jdk_42_method_154_code 3 (.ifCond .eq 14) 3 6 := ⟨by decide +kernel, rfl⟩
theorem D_jdk_42_m154_6 : Dc jdk_42_method_154_code 6 (.aload_n 0) 1 7 := ⟨by decide +kernel, rfl⟩
theorem D_jdk_42_m154_7 : Dc jdk_42_method_154_code 7 (.getfield 15) 3 10 := ⟨by decide +kernel, rfl⟩
theorem D_jdk_42_m154_10 : Dc jdk_42_method_154_code 10 (.ifCond .ne 7) 3 13 := ⟨by decide +kernel, rfl⟩
theorem D_jdk_42_m154_13 : Dc jdk_42_method_154_code 13 (.iconst 1) 1 14 := ⟨by decide +kernel, rfl⟩
theorem D_jdk_42_m154_14 : Dc jdk_42_method_154_code 14 (.goto 4) 3 17 := ⟨by decide +kernel, rfl⟩
theorem D_jdk_42_m154_18 : Dc jdk_42_method_154_code 18 (.ireturn) 1 19 := ⟨by decide +kernel, rfl⟩
abbrev W9 (l : Launch) (Z : State) := Wp none l Z "java/lang/String" "isLatin1" jdk_42_method_154_code 1 (some .boolean)
set_option maxRecDepth 65536 in
set_option maxHeartbeats 40000000 in
theorem c_lat (l : Launch) (Z : State) (a0 : Array Value) (hw : HW Z a0) (s v : Addr) (cp : Int32) (fm : Value) (F : OH) (hs : Std Z cp fm) :
    Met l Z (⟨"java/lang/String", "isLatin1", "()Z"⟩ : MethodName) jdk_42_method_154_code 1 (some .boolean) (rm4 0 0 0 0) [(.ref s)] ((s, strO v) :: F) (Q_c_lat s v F) := by
  refine Met.of_wp (Ls := #[.val (.ref s)]) pn_7 (fun m => (entry_loc m _ _).trans rfl) ?_
  show W9 l Z (rm4 0 0 0 0) ((s, strO v) :: F) 0 0 0 #[.val (.ref s)] [] (Q_c_lat s v F)
  refine wp_getstatic D_jdk_42_m154_0 (gw hw 46 rfl) hs.1 ?_
  refine wp_if_eq D_jdk_42_m154_3 (pc'' := 17) ⟨by decide, by decide⟩ (fun h1 => by exact absurd h1 hs.2.1) (fun h1 => ?_)
  refine wp_aload_n D_jdk_42_m154_6 rfl rfl ?_
  refine wp_getfield D_jdk_42_m154_7 (gw hw 26 rfl) (fld_new (i := 0) (fi := 1) rfl rfl rfl) ?_
  refine wp_if_ne D_jdk_42_m154_10 (pc'' := 17) ⟨by decide, by decide⟩ (fun h2 => by exact absurd h2 (by decide)) (fun h2 => ?_)
  refine wp_iconst 1 D_jdk_42_m154_13 (by decide) ?_
  refine wp_goto D_jdk_42_m154_14 (pc'' := 18) ⟨by decide, by decide⟩ ?_
  refine wp_ireturnN D_jdk_42_m154_18 rfl (by simp) (by decide) (by decide) ?_
  exact ⟨rfl, rfl⟩
theorem pn_8 : plainFor (⟨"java/lang/String", "length", "()I"⟩ : MethodName) = true := by first | exact plainFor_of_name (by first | (simp [plainName, overriddenIn]; done) | decide +kernel) | decide +kernel
def Q_c_len_0 (s v : Addr) (F : OH) : Option Value → OH → Prop := fun w' H' => w' = some (.int 0) ∧ H' = ((s, strO v) :: (v, fA .byte []) :: F)
theorem D_jdk_42_m54_0 : Dc jdk_42_method_54_code 0 (.aload_n 0) 1 1 := ⟨by decide +kernel, rfl⟩
theorem D_jdk_42_m54_1 : Dc jdk_42_method_54_code 1 (.getfield 9) 3 4 := ⟨by decide +kernel, rfl⟩
theorem D_jdk_42_m54_4 : Dc jdk_42_method_54_code 4 (.arraylength) 1 5 := ⟨by decide +kernel, rfl⟩
theorem D_jdk_42_m54_5 : Dc jdk_42_method_54_code 5 (.aload_n 0) 1 6 := ⟨by decide +kernel, rfl⟩
theorem D_jdk_42_m54_6 : Dc jdk_42_method_54_code 6 (.invokevirtual 335) 3 9 := ⟨by decide +kernel, rfl⟩
theorem D_jdk_42_m54_9 : Dc jdk_42_method_54_code 9 (.ishr) 1 10 := ⟨by decide +kernel, rfl⟩
theorem D_jdk_42_m54_10 : Dc jdk_42_method_54_code 10 (.ireturn) 1 11 := ⟨by decide +kernel, rfl⟩
abbrev W10 (l : Launch) (Z : State) := Wp none l Z "java/lang/String" "length" jdk_42_method_54_code 1 (some .int)
set_option maxRecDepth 65536 in
set_option maxHeartbeats 40000000 in
theorem c_len_0 (l : Launch) (Z : State) (a0 : Array Value) (hw : HW Z a0) (s v : Addr) (cp : Int32) (fm : Value) (F : OH) (hs : Std Z cp fm) :
    Met l Z (⟨"java/lang/String", "length", "()I"⟩ : MethodName) jdk_42_method_54_code 1 (some .int) (rm4 1 0 0 13) [(.ref s)] ((s, strO v) :: (v, fA .byte []) :: F) (Q_c_len_0 s v F) := by
  refine Met.of_wp (Ls := #[.val (.ref s)]) pn_8 (fun m => (entry_loc m _ _).trans rfl) ?_
  show W10 l Z (rm4 1 0 0 13) ((s, strO v) :: (v, fA .byte []) :: F) 0 0 0 #[.val (.ref s)] [] (Q_c_len_0 s v F)
  refine wp_aload_n D_jdk_42_m54_0 rfl rfl ?_
  refine wp_getfield D_jdk_42_m54_1 (gw hw 25 rfl) (fld_new (i := 0) (fi := 0) rfl rfl rfl) ?_
  refine wp_lengthI (i := 1) (0 : Int32) D_jdk_42_m54_4 rfl rfl ?_
  refine wp_aload_n D_jdk_42_m54_5 rfl rfl ?_
  refine wp_virtual (c_cod l Z a0 hw s v cp fm ((v, fA .byte []) :: F) hs ) (exa_new (i := 0) rfl) D_jdk_42_m54_6 (gw hw 52 rfl) (gw hw 53 rfl) (gw hw 55 rfl) (gw hw 55 rfl) (gw hw 54 rfl) (gw hw 7 rfl) (gw hw 56 rfl) (by decide) pd_6 rfl rfl rfl (lb rfl) (lb rfl) (lb rfl) (lb rfl) ?_
  rintro _ _ ⟨rfl, rfl⟩
  show W10 l Z (rm4 1 0 0 13) ((s, strO v) :: (v, fA .byte []) :: F) 0 0 9 #[.val (.ref s)] [(.int 0), (.int 0)] (Q_c_len_0 s v F)
  refine wp_ishr D_jdk_42_m54_9 ?_
  rw [show ((0 : Int32) >>> ((0 : Int32) &&& 31)) = (0 : Int32) from by decide]
  refine wp_ireturn D_jdk_42_m54_10 rfl (by decide) (by decide) ?_
  exact ⟨rfl, rfl⟩
def Q_c_len_1 (s v : Addr) (y0 : Int32) (F : OH) : Option Value → OH → Prop := fun w' H' => w' = some (.int 1) ∧ H' = ((s, strO v) :: (v, fA .byte [y0]) :: F)
set_option maxRecDepth 65536 in
set_option maxHeartbeats 40000000 in
theorem c_len_1 (l : Launch) (Z : State) (a0 : Array Value) (hw : HW Z a0) (s v : Addr) (y0 : Int32) (cp : Int32) (fm : Value) (F : OH) (hs : Std Z cp fm) :
    Met l Z (⟨"java/lang/String", "length", "()I"⟩ : MethodName) jdk_42_method_54_code 1 (some .int) (rm4 1 0 0 13) [(.ref s)] ((s, strO v) :: (v, fA .byte [y0]) :: F) (Q_c_len_1 s v y0 F) := by
  refine Met.of_wp (Ls := #[.val (.ref s)]) pn_8 (fun m => (entry_loc m _ _).trans rfl) ?_
  show W10 l Z (rm4 1 0 0 13) ((s, strO v) :: (v, fA .byte [y0]) :: F) 0 0 0 #[.val (.ref s)] [] (Q_c_len_1 s v y0 F)
  refine wp_aload_n D_jdk_42_m54_0 rfl rfl ?_
  refine wp_getfield D_jdk_42_m54_1 (gw hw 25 rfl) (fld_new (i := 0) (fi := 0) rfl rfl rfl) ?_
  refine wp_lengthI (i := 1) (1 : Int32) D_jdk_42_m54_4 rfl rfl ?_
  refine wp_aload_n D_jdk_42_m54_5 rfl rfl ?_
  refine wp_virtual (c_cod l Z a0 hw s v cp fm ((v, fA .byte [y0]) :: F) hs ) (exa_new (i := 0) rfl) D_jdk_42_m54_6 (gw hw 52 rfl) (gw hw 53 rfl) (gw hw 55 rfl) (gw hw 55 rfl) (gw hw 54 rfl) (gw hw 7 rfl) (gw hw 56 rfl) (by decide) pd_6 rfl rfl rfl (lb rfl) (lb rfl) (lb rfl) (lb rfl) ?_
  rintro _ _ ⟨rfl, rfl⟩
  show W10 l Z (rm4 1 0 0 13) ((s, strO v) :: (v, fA .byte [y0]) :: F) 0 0 9 #[.val (.ref s)] [(.int 0), (.int 1)] (Q_c_len_1 s v y0 F)
  refine wp_ishr D_jdk_42_m54_9 ?_
  rw [show ((1 : Int32) >>> ((0 : Int32) &&& 31)) = (1 : Int32) from by decide]
  refine wp_ireturn D_jdk_42_m54_10 rfl (by decide) (by decide) ?_
  exact ⟨rfl, rfl⟩
def Q_c_len_2 (s v : Addr) (y0 y1 : Int32) (F : OH) : Option Value → OH → Prop := fun w' H' => w' = some (.int 2) ∧ H' = ((s, strO v) :: (v, fA .byte [y0, y1]) :: F)
set_option maxRecDepth 65536 in
set_option maxHeartbeats 40000000 in
theorem c_len_2 (l : Launch) (Z : State) (a0 : Array Value) (hw : HW Z a0) (s v : Addr) (y0 y1 : Int32) (cp : Int32) (fm : Value) (F : OH) (hs : Std Z cp fm) :
    Met l Z (⟨"java/lang/String", "length", "()I"⟩ : MethodName) jdk_42_method_54_code 1 (some .int) (rm4 1 0 0 13) [(.ref s)] ((s, strO v) :: (v, fA .byte [y0, y1]) :: F) (Q_c_len_2 s v y0 y1 F) := by
  refine Met.of_wp (Ls := #[.val (.ref s)]) pn_8 (fun m => (entry_loc m _ _).trans rfl) ?_
  show W10 l Z (rm4 1 0 0 13) ((s, strO v) :: (v, fA .byte [y0, y1]) :: F) 0 0 0 #[.val (.ref s)] [] (Q_c_len_2 s v y0 y1 F)
  refine wp_aload_n D_jdk_42_m54_0 rfl rfl ?_
  refine wp_getfield D_jdk_42_m54_1 (gw hw 25 rfl) (fld_new (i := 0) (fi := 0) rfl rfl rfl) ?_
  refine wp_lengthI (i := 1) (2 : Int32) D_jdk_42_m54_4 rfl rfl ?_
  refine wp_aload_n D_jdk_42_m54_5 rfl rfl ?_
  refine wp_virtual (c_cod l Z a0 hw s v cp fm ((v, fA .byte [y0, y1]) :: F) hs ) (exa_new (i := 0) rfl) D_jdk_42_m54_6 (gw hw 52 rfl) (gw hw 53 rfl) (gw hw 55 rfl) (gw hw 55 rfl) (gw hw 54 rfl) (gw hw 7 rfl) (gw hw 56 rfl) (by decide) pd_6 rfl rfl rfl (lb rfl) (lb rfl) (lb rfl) (lb rfl) ?_
  rintro _ _ ⟨rfl, rfl⟩
  show W10 l Z (rm4 1 0 0 13) ((s, strO v) :: (v, fA .byte [y0, y1]) :: F) 0 0 9 #[.val (.ref s)] [(.int 0), (.int 2)] (Q_c_len_2 s v y0 y1 F)
  refine wp_ishr D_jdk_42_m54_9 ?_
  rw [show ((2 : Int32) >>> ((0 : Int32) &&& 31)) = (2 : Int32) from by decide]
  refine wp_ireturn D_jdk_42_m54_10 rfl (by decide) (by decide) ?_
  exact ⟨rfl, rfl⟩
def Q_c_len_3 (s v : Addr) (y0 y1 y2 : Int32) (F : OH) : Option Value → OH → Prop := fun w' H' => w' = some (.int 3) ∧ H' = ((s, strO v) :: (v, fA .byte [y0, y1, y2]) :: F)
set_option maxRecDepth 65536 in
set_option maxHeartbeats 40000000 in
theorem c_len_3 (l : Launch) (Z : State) (a0 : Array Value) (hw : HW Z a0) (s v : Addr) (y0 y1 y2 : Int32) (cp : Int32) (fm : Value) (F : OH) (hs : Std Z cp fm) :
    Met l Z (⟨"java/lang/String", "length", "()I"⟩ : MethodName) jdk_42_method_54_code 1 (some .int) (rm4 1 0 0 13) [(.ref s)] ((s, strO v) :: (v, fA .byte [y0, y1, y2]) :: F) (Q_c_len_3 s v y0 y1 y2 F) := by
  refine Met.of_wp (Ls := #[.val (.ref s)]) pn_8 (fun m => (entry_loc m _ _).trans rfl) ?_
  show W10 l Z (rm4 1 0 0 13) ((s, strO v) :: (v, fA .byte [y0, y1, y2]) :: F) 0 0 0 #[.val (.ref s)] [] (Q_c_len_3 s v y0 y1 y2 F)
  refine wp_aload_n D_jdk_42_m54_0 rfl rfl ?_
  refine wp_getfield D_jdk_42_m54_1 (gw hw 25 rfl) (fld_new (i := 0) (fi := 0) rfl rfl rfl) ?_
  refine wp_lengthI (i := 1) (3 : Int32) D_jdk_42_m54_4 rfl rfl ?_
  refine wp_aload_n D_jdk_42_m54_5 rfl rfl ?_
  refine wp_virtual (c_cod l Z a0 hw s v cp fm ((v, fA .byte [y0, y1, y2]) :: F) hs ) (exa_new (i := 0) rfl) D_jdk_42_m54_6 (gw hw 52 rfl) (gw hw 53 rfl) (gw hw 55 rfl) (gw hw 55 rfl) (gw hw 54 rfl) (gw hw 7 rfl) (gw hw 56 rfl) (by decide) pd_6 rfl rfl rfl (lb rfl) (lb rfl) (lb rfl) (lb rfl) ?_
  rintro _ _ ⟨rfl, rfl⟩
  show W10 l Z (rm4 1 0 0 13) ((s, strO v) :: (v, fA .byte [y0, y1, y2]) :: F) 0 0 9 #[.val (.ref s)] [(.int 0), (.int 3)] (Q_c_len_3 s v y0 y1 y2 F)
  refine wp_ishr D_jdk_42_m54_9 ?_
  rw [show ((3 : Int32) >>> ((0 : Int32) &&& 31)) = (3 : Int32) from by decide]
  refine wp_ireturn D_jdk_42_m54_10 rfl (by decide) (by decide) ?_
  exact ⟨rfl, rfl⟩
def Q_c_len_4 (s v : Addr) (y0 y1 y2 y3 : Int32) (F : OH) : Option Value → OH → Prop := fun w' H' => w' = some (.int 4) ∧ H' = ((s, strO v) :: (v, fA .byte [y0, y1, y2, y3]) :: F)
set_option maxRecDepth 65536 in
set_option maxHeartbeats 40000000 in
theorem c_len_4 (l : Launch) (Z : State) (a0 : Array Value) (hw : HW Z a0) (s v : Addr) (y0 y1 y2 y3 : Int32) (cp : Int32) (fm : Value) (F : OH) (hs : Std Z cp fm) :
    Met l Z (⟨"java/lang/String", "length", "()I"⟩ : MethodName) jdk_42_method_54_code 1 (some .int) (rm4 1 0 0 13) [(.ref s)] ((s, strO v) :: (v, fA .byte [y0, y1, y2, y3]) :: F) (Q_c_len_4 s v y0 y1 y2 y3 F) := by
  refine Met.of_wp (Ls := #[.val (.ref s)]) pn_8 (fun m => (entry_loc m _ _).trans rfl) ?_
  show W10 l Z (rm4 1 0 0 13) ((s, strO v) :: (v, fA .byte [y0, y1, y2, y3]) :: F) 0 0 0 #[.val (.ref s)] [] (Q_c_len_4 s v y0 y1 y2 y3 F)
  refine wp_aload_n D_jdk_42_m54_0 rfl rfl ?_
  refine wp_getfield D_jdk_42_m54_1 (gw hw 25 rfl) (fld_new (i := 0) (fi := 0) rfl rfl rfl) ?_
  refine wp_lengthI (i := 1) (4 : Int32) D_jdk_42_m54_4 rfl rfl ?_
  refine wp_aload_n D_jdk_42_m54_5 rfl rfl ?_
  refine wp_virtual (c_cod l Z a0 hw s v cp fm ((v, fA .byte [y0, y1, y2, y3]) :: F) hs ) (exa_new (i := 0) rfl) D_jdk_42_m54_6 (gw hw 52 rfl) (gw hw 53 rfl) (gw hw 55 rfl) (gw hw 55 rfl) (gw hw 54 rfl) (gw hw 7 rfl) (gw hw 56 rfl) (by decide) pd_6 rfl rfl rfl (lb rfl) (lb rfl) (lb rfl) (lb rfl) ?_
  rintro _ _ ⟨rfl, rfl⟩
  show W10 l Z (rm4 1 0 0 13) ((s, strO v) :: (v, fA .byte [y0, y1, y2, y3]) :: F) 0 0 9 #[.val (.ref s)] [(.int 0), (.int 4)] (Q_c_len_4 s v y0 y1 y2 y3 F)
  refine wp_ishr D_jdk_42_m54_9 ?_
  rw [show ((4 : Int32) >>> ((0 : Int32) &&& 31)) = (4 : Int32) from by decide]
  refine wp_ireturn D_jdk_42_m54_10 rfl (by decide) (by decide) ?_
  exact ⟨rfl, rfl⟩
theorem pn_9 : plainFor (⟨"jdk/internal/util/Preconditions", "checkIndex", "(IILjava/util/function/BiFunction;)I"⟩ : MethodName) = true := by first | exact plainFor_of_name (by first | (simp [plainName, overriddenIn]; done) | decide +kernel) | decide +kernel
def Q_c_cixN (i n : Int32) (F : OH) : Option Value → OH → Prop := fun w' H' => w' = some (.int i) ∧ H' = F
theorem D_jdk_41_m11_0 : Dc jdk_41_method_11_code 0 (.iload_n 0) 1 1 := ⟨by decide +kernel, rfl⟩
theorem D_jdk_41_m11_1 : Dc jdk_41_method_11_code 1 (.ifCond .lt 8) 3 4 := ⟨by decide +kernel, rfl⟩
theorem D_jdk_41_m11_4 : Dc jdk_41_method_11_code 4 (.iload_n 0) 1 5 := ⟨by decide +kernel, rfl⟩
theorem D_jdk_41_m11_5 : Dc jdk_41_method_11_code 5 (.iload_n 1) 1 6 := ⟨by decide +kernel, rfl⟩
theorem D_jdk_41_m11_6 : Dc jdk_41_method_11_code 6 (.if_icmp .lt 10) 3 9 := ⟨by decide +kernel, rfl⟩
theorem D_jdk_41_m11_16 : Dc jdk_41_method_11_code 16 (.iload_n 0) 1 17 := ⟨by decide +kernel, rfl⟩
theorem D_jdk_41_m11_17 : Dc jdk_41_method_11_code 17 (.ireturn) 1 18 := ⟨by decide +kernel, rfl⟩
abbrev W11 (l : Launch) (Z : State) := Wp none l Z "jdk/internal/util/Preconditions" "checkIndex" jdk_41_method_11_code 3 (some .int)
set_option maxRecDepth 65536 in
set_option maxHeartbeats 40000000 in
theorem c_cixN (l : Launch) (Z : State) (a0 : Array Value) (hw : HW Z a0) (i n : Int32) (F : OH) (hb0 : ¬ i < 0) (hb1 : i < n) :
    Met l Z (⟨"jdk/internal/util/Preconditions", "checkIndex", "(IILjava/util/function/BiFunction;)I"⟩ : MethodName) jdk_41_method_11_code 3 (some .int) (rm4 0 0 0 0) [(.int i), (.int n), (.null)] F (Q_c_cixN i n F) := by
  refine Met.of_wp (Ls := #[.val (.int i), .val (.int n), .val (.null)]) pn_9 (fun m => (entry_loc m _ _).trans rfl) ?_
  show W11 l Z (rm4 0 0 0 0) F 0 0 0 #[.val (.int i), .val (.int n), .val (.null)] [] (Q_c_cixN i n F)
  refine wp_iload_n D_jdk_41_m11_0 rfl ?_
  refine wp_if_lt D_jdk_41_m11_1 (pc'' := 9) ⟨by decide, by decide⟩ (fun h1 => by exact absurd h1 hb0) (fun h1 => ?_)
  refine wp_iload_n D_jdk_41_m11_4 rfl ?_
  refine wp_iload_n D_jdk_41_m11_5 rfl ?_
  refine wp_icmp_lt D_jdk_41_m11_6 (pc'' := 16) ⟨by decide, by decide⟩ (fun h2 => ?_) (fun h2 => by exact absurd hb1 h2)
  refine wp_iload_n D_jdk_41_m11_16 rfl ?_
  refine wp_ireturn D_jdk_41_m11_17 rfl (by decide) (by decide) ?_
  exact ⟨rfl, rfl⟩
def Q_c_cixR (i n : Int32) (af : Addr) (F : OH) : Option Value → OH → Prop := fun w' H' => w' = some (.int i) ∧ H' = F
set_option maxRecDepth 65536 in
set_option maxHeartbeats 40000000 in
theorem c_cixR (l : Launch) (Z : State) (a0 : Array Value) (hw : HW Z a0) (i n : Int32) (af : Addr) (F : OH) (hb0 : ¬ i < 0) (hb1 : i < n) :
    Met l Z (⟨"jdk/internal/util/Preconditions", "checkIndex", "(IILjava/util/function/BiFunction;)I"⟩ : MethodName) jdk_41_method_11_code 3 (some .int) (rm4 0 0 0 0) [(.int i), (.int n), (.ref af)] F (Q_c_cixR i n af F) := by
  refine Met.of_wp (Ls := #[.val (.int i), .val (.int n), .val (.ref af)]) pn_9 (fun m => (entry_loc m _ _).trans rfl) ?_
  show W11 l Z (rm4 0 0 0 0) F 0 0 0 #[.val (.int i), .val (.int n), .val (.ref af)] [] (Q_c_cixR i n af F)
  refine wp_iload_n D_jdk_41_m11_0 rfl ?_
  refine wp_if_lt D_jdk_41_m11_1 (pc'' := 9) ⟨by decide, by decide⟩ (fun h1 => by exact absurd h1 hb0) (fun h1 => ?_)
  refine wp_iload_n D_jdk_41_m11_4 rfl ?_
  refine wp_iload_n D_jdk_41_m11_5 rfl ?_
  refine wp_icmp_lt D_jdk_41_m11_6 (pc'' := 16) ⟨by decide, by decide⟩ (fun h2 => ?_) (fun h2 => by exact absurd hb1 h2)
  refine wp_iload_n D_jdk_41_m11_16 rfl ?_
  refine wp_ireturn D_jdk_41_m11_17 rfl (by decide) (by decide) ?_
  exact ⟨rfl, rfl⟩
theorem pn_10 : plainFor (⟨"java/lang/String", "checkIndex", "(II)V"⟩ : MethodName) = true := by first | exact plainFor_of_name (by first | (simp [plainName, overriddenIn]; done) | decide +kernel) | decide +kernel
def Q_c_sci (i n : Int32) (F : OH) : Option Value → OH → Prop := fun w' H' => w' = none ∧ H' = F
theorem D_jdk_42_m155_0 : Dc jdk_42_method_155_code 0 (.iload_n 0) 1 1 := ⟨by decide +kernel, rfl⟩
theorem D_jdk_42_m155_1 : Dc jdk_42_method_155_code 1 (.iload_n 1) 1 2 := ⟨by decide +kernel, rfl⟩
theorem D_jdk_42_m155_2 : Dc jdk_42_method_155_code 2 (.getstatic 1053) 3 5 := ⟨by decide +kernel, rfl⟩
theorem D_jdk_42_m155_5 : Dc jdk_42_method_155_code 5 (.invokestatic 1059) 3 8 := ⟨by decide +kernel, rfl⟩
theorem D_jdk_42_m155_8 : Dc jdk_42_method_155_code 8 (.pop) 1 9 := ⟨by decide +kernel, rfl⟩
theorem D_jdk_42_m155_9 : Dc jdk_42_method_155_code 9 (.return_) 1 10 := ⟨by decide +kernel, rfl⟩
abbrev W12 (l : Launch) (Z : State) := Wp none l Z "java/lang/String" "checkIndex" jdk_42_method_155_code 2 none
set_option maxRecDepth 65536 in
set_option maxHeartbeats 40000000 in
theorem c_sci (l : Launch) (Z : State) (a0 : Array Value) (hw : HW Z a0) (i n : Int32) (cp : Int32) (fm : Value) (F : OH) (hs : Std Z cp fm) (hb0 : ¬ i < 0) (hb1 : i < n) :
    Met l Z (⟨"java/lang/String", "checkIndex", "(II)V"⟩ : MethodName) jdk_42_method_155_code 2 none (rm4 1 0 0 14) [(.int i), (.int n)] F (Q_c_sci i n F) := by
  refine Met.of_wp (Ls := #[.val (.int i), .val (.int n)]) pn_10 (fun m => (entry_loc m _ _).trans rfl) ?_
  show W12 l Z (rm4 1 0 0 14) F 0 0 0 #[.val (.int i), .val (.int n)] [] (Q_c_sci i n F)
  rcases ref_cases hs.2.2.2 with rfl | ⟨af, rfl⟩
  · skip
    show W12 l Z (rm4 1 0 0 14) F 0 0 0 #[.val (.int i), .val (.int n)] [] (Q_c_sci i n F)
    refine wp_iload_n D_jdk_42_m155_0 rfl ?_
    refine wp_iload_n D_jdk_42_m155_1 rfl ?_
    refine wp_getstatic D_jdk_42_m155_2 (gw hw 93 rfl) hs.2.2.1 ?_
    refine wp_callS (c_cixN l Z a0 hw i n F hb0 hb1) D_jdk_42_m155_5 (gw hw 113 rfl) (gw hw 114 rfl) (gw hw 94 rfl) (gw hw 115 rfl) (by decide) pd_14 rfl rfl rfl (lb rfl) (lb rfl) (lb rfl) (lb rfl) ?_
    rintro _ H_ ⟨rfl, eH⟩
    rw [eH]
    show W12 l Z (rm4 1 0 0 14) F 0 0 8 #[.val (.int i), .val (.int n)] [(.int i)] (Q_c_sci i n F)
    refine wp_pop D_jdk_42_m155_8 rfl ?_
    refine wp_return D_jdk_42_m155_9 rfl (by decide) (by decide) ?_
    exact ⟨rfl, rfl⟩
  · skip
    show W12 l Z (rm4 1 0 0 14) F 0 0 0 #[.val (.int i), .val (.int n)] [] (Q_c_sci i n F)
    refine wp_iload_n D_jdk_42_m155_0 rfl ?_
    refine wp_iload_n D_jdk_42_m155_1 rfl ?_
    refine wp_getstatic D_jdk_42_m155_2 (gw hw 93 rfl) hs.2.2.1 ?_
    refine wp_callS (c_cixR l Z a0 hw i n af F hb0 hb1) D_jdk_42_m155_5 (gw hw 113 rfl) (gw hw 114 rfl) (gw hw 94 rfl) (gw hw 115 rfl) (by decide) pd_14 rfl rfl rfl (lb rfl) (lb rfl) (lb rfl) (lb rfl) ?_
    rintro _ H_ ⟨rfl, eH⟩
    rw [eH]
    show W12 l Z (rm4 1 0 0 14) F 0 0 8 #[.val (.int i), .val (.int n)] [(.int i)] (Q_c_sci i n F)
    refine wp_pop D_jdk_42_m155_8 rfl ?_
    refine wp_return D_jdk_42_m155_9 rfl (by decide) (by decide) ?_
    exact ⟨rfl, rfl⟩
theorem pd_15 : parseMethodDescriptor "(I)Z" = some ⟨[.int], (some .boolean)⟩ := by decide +kernel
theorem pd_16 : parseMethodDescriptor "(II)V" = some ⟨[.int, .int], none⟩ := by decide +kernel
theorem pd_17 : parseMethodDescriptor "([BII)[B" = some ⟨[(.array .byte), .int, .int], (some (.array .byte))⟩ := by decide +kernel
theorem pd_18 : parseMethodDescriptor "([BB)V" = some ⟨[(.array .byte), .byte], none⟩ := by decide +kernel
theorem pn_11 : plainFor (⟨"java/lang/StringLatin1", "charAt", "([BI)C"⟩ : MethodName) = true := by first | exact plainFor_of_name (by first | (simp [plainName, overriddenIn]; done) | decide +kernel) | decide +kernel
def Q_c_lca_1_0 (s v : Addr) (y0 : Int32) (F : OH) : Option Value → OH → Prop := fun w' H' => w' = some (.int (nar .char (y0 &&& 255).toUInt32.toUInt16.toUInt32.toInt32)) ∧ H' = ((s, strO v) :: (v, fA .byte [y0]) :: F)
theorem D_jdk_43_m2_0 : Dc jdk_43_method_2_code 0 (.iload_n 1) 1 1 := ⟨by decide +kernel, rfl⟩
theorem D_jdk_43_m2_1 : Dc jdk_43_method_2_code 1 (.aload_n 0) 1 2 := ⟨by decide +kernel, rfl⟩
theorem D_jdk_43_m2_2 : Dc jdk_43_method_2_code 2 (.arraylength) 1 3 := ⟨by decide +kernel, rfl⟩
theorem D_jdk_43_m2_3 : Dc jdk_43_method_2_code 3 (.invokestatic 9) 3 6 := ⟨by decide +kernel, rfl⟩
theorem D_jdk_43_m2_6 : Dc jdk_43_method_2_code 6 (.aload_n 0) 1 7 := ⟨by decide +kernel, rfl⟩
theorem D_jdk_43_m2_7 : Dc jdk_43_method_2_code 7 (.iload_n 1) 1 8 := ⟨by decide +kernel, rfl⟩
theorem D_jdk_43_m2_8 : Dc jdk_43_method_2_code 8 (.baload) 1 9 := ⟨by decide +kernel, rfl⟩
theorem D_jdk_43_m2_9 : Dc jdk_43_method_2_code 9 (.sipush 255) 3 12 := ⟨by decide +kernel, rfl⟩
theorem D_jdk_43_m2_12 : Dc jdk_43_method_2_code 12 (.iand) 1 13 := ⟨by decide +kernel, rfl⟩
theorem D_jdk_43_m2_13 : Dc jdk_43_method_2_code 13 (.i2c) 1 14 := ⟨by decide +kernel, rfl⟩
theorem D_jdk_43_m2_14 : Dc jdk_43_method_2_code 14 (.ireturn) 1 15 := ⟨by decide +kernel, rfl⟩
abbrev W13 (l : Launch) (Z : State) := Wp none l Z "java/lang/StringLatin1" "charAt" jdk_43_method_2_code 2 (some .char)
set_option maxRecDepth 65536 in
set_option maxHeartbeats 40000000 in
theorem c_lca_1_0 (l : Launch) (Z : State) (a0 : Array Value) (hw : HW Z a0) (s v : Addr) (y0 : Int32) (cp : Int32) (fm : Value) (F : OH) (hs : Std Z cp fm) :
    Met l Z (⟨"java/lang/StringLatin1", "charAt", "([BI)C"⟩ : MethodName) jdk_43_method_2_code 2 (some .char) (rm4 2 0 0 27) [(.ref v), (.int 0)] ((s, strO v) :: (v, fA .byte [y0]) :: F) (Q_c_lca_1_0 s v y0 F) := by
  refine Met.of_wp (Ls := #[.val (.ref v), .val (.int 0)]) pn_11 (fun m => (entry_loc m _ _).trans rfl) ?_
  show W13 l Z (rm4 2 0 0 27) ((s, strO v) :: (v, fA .byte [y0]) :: F) 0 0 0 #[.val (.ref v), .val (.int 0)] [] (Q_c_lca_1_0 s v y0 F)
  refine wp_iload_n D_jdk_43_m2_0 rfl ?_
  refine wp_aload_n D_jdk_43_m2_1 rfl rfl ?_
  refine wp_lengthI (i := 1) (1 : Int32) D_jdk_43_m2_2 rfl rfl ?_
  refine wp_callS (c_sci l Z a0 hw 0 1 cp fm ((s, strO v) :: (v, fA .byte [y0]) :: F) hs (by decide) (by decide)) D_jdk_43_m2_3 (gw hw 110 rfl) (gw hw 111 rfl) (gw hw 7 rfl) (gw hw 112 rfl) (by decide) pd_16 rfl rfl rfl (lb rfl) (lb rfl) (lb rfl) (lb rfl) ?_
  rintro _ _ ⟨rfl, rfl⟩
  show W13 l Z (rm4 2 0 0 27) ((s, strO v) :: (v, fA .byte [y0]) :: F) 0 0 6 #[.val (.ref v), .val (.int 0)] [] (Q_c_lca_1_0 s v y0 F)
  refine wp_aload_n D_jdk_43_m2_6 rfl rfl ?_
  refine wp_iload_n D_jdk_43_m2_7 rfl ?_
  refine wp_baload (i := 1) (0) D_jdk_43_m2_8 rfl (by decide) (by decide) rfl ?_
  refine wp_sipush 255 D_jdk_43_m2_9 (by decide) ?_
  refine wp_iand D_jdk_43_m2_12 ?_
  refine wp_i2c D_jdk_43_m2_13 ?_
  refine wp_ireturnN D_jdk_43_m2_14 rfl (by simp) (by decide) (by decide) ?_
  exact ⟨rfl, rfl⟩
theorem pn_12 : plainFor (⟨"java/lang/String", "charAt", "(I)C"⟩ : MethodName) = true := by first | exact plainFor_of_name (by first | (simp [plainName, overriddenIn]; done) | decide +kernel) | decide +kernel
def Q_c_cat_1_0 (s v : Addr) (y0 : Int32) (F : OH) : Option Value → OH → Prop := fun w' H' => w' = some (.int (ub y0)) ∧ H' = ((s, strO v) :: (v, fA .byte [y0]) :: F)
theorem D_jdk_42_m56_0 : Dc jdk_42_method_56_code 0 (.aload_n 0) 1 1 := ⟨by decide +kernel, rfl⟩
theorem D_jdk_42_m56_1 : Dc jdk_42_method_56_code 1 (.invokevirtual 492) 3 4 := ⟨by decide +kernel, rfl⟩
theorem D_jdk_42_m56_4 : Dc jdk_42_method_56_code 4 (.ifCond .eq 12) 3 7 := ⟨by decide +kernel, rfl⟩
theorem D_jdk_42_m56_7 : Dc jdk_42_method_56_code 7 (.aload_n 0) 1 8 := ⟨by decide +kernel, rfl⟩
theorem D_jdk_42_m56_8 : Dc jdk_42_method_56_code 8 (.getfield 9) 3 11 := ⟨by decide +kernel, rfl⟩
theorem D_jdk_42_m56_11 : Dc jdk_42_method_56_code 11 (.iload_n 1) 1 12 := ⟨by decide +kernel, rfl⟩
theorem D_jdk_42_m56_12 : Dc jdk_42_method_56_code 12 (.invokestatic 495) 3 15 := ⟨by decide +kernel, rfl⟩
theorem D_jdk_42_m56_15 : Dc jdk_42_method_56_code 15 (.ireturn) 1 16 := ⟨by decide +kernel, rfl⟩
abbrev W14 (l : Launch) (Z : State) := Wp none l Z "java/lang/String" "charAt" jdk_42_method_56_code 2 (some .char)
set_option maxRecDepth 65536 in
set_option maxHeartbeats 40000000 in
theorem c_cat_1_0 (l : Launch) (Z : State) (a0 : Array Value) (hw : HW Z a0) (s v : Addr) (y0 : Int32) (cp : Int32) (fm : Value) (F : OH) (hs : Std Z cp fm) :
    Met l Z (⟨"java/lang/String", "charAt", "(I)C"⟩ : MethodName) jdk_42_method_56_code 2 (some .char) (rm4 3 0 0 40) [(.ref s), (.int 0)] ((s, strO v) :: (v, fA .byte [y0]) :: F) (Q_c_cat_1_0 s v y0 F) := by
  refine Met.of_wp (Ls := #[.val (.ref s), .val (.int 0)]) pn_12 (fun m => (entry_loc m _ _).trans rfl) ?_
  show W14 l Z (rm4 3 0 0 40) ((s, strO v) :: (v, fA .byte [y0]) :: F) 0 0 0 #[.val (.ref s), .val (.int 0)] [] (Q_c_cat_1_0 s v y0 F)
  refine wp_aload_n D_jdk_42_m56_0 rfl rfl ?_
  refine wp_virtual (c_lat l Z a0 hw s v cp fm ((v, fA .byte [y0]) :: F) hs ) (exa_new (i := 0) rfl) D_jdk_42_m56_1 (gw hw 41 rfl) (gw hw 42 rfl) (gw hw 44 rfl) (gw hw 44 rfl) (gw hw 43 rfl) (gw hw 7 rfl) (gw hw 45 rfl) (by decide) pd_4 rfl rfl rfl (lb rfl) (lb rfl) (lb rfl) (lb rfl) ?_
  rintro _ _ ⟨rfl, rfl⟩
  show W14 l Z (rm4 3 0 0 40) ((s, strO v) :: (v, fA .byte [y0]) :: F) 0 0 4 #[.val (.ref s), .val (.int 0)] [(.int 1)] (Q_c_cat_1_0 s v y0 F)
  refine wp_if_eq D_jdk_42_m56_4 (pc'' := 16) ⟨by decide, by decide⟩ (fun h1 => by exact absurd h1 (by decide)) (fun h1 => ?_)
  refine wp_aload_n D_jdk_42_m56_7 rfl rfl ?_
  refine wp_getfield D_jdk_42_m56_8 (gw hw 25 rfl) (fld_new (i := 0) (fi := 0) rfl rfl rfl) ?_
  refine wp_iload_n D_jdk_42_m56_11 rfl ?_
  refine wp_callS (c_lca_1_0 l Z a0 hw s v y0 cp fm F hs ) D_jdk_42_m56_12 (gw hw 107 rfl) (gw hw 108 rfl) (gw hw 59 rfl) (gw hw 109 rfl) (by decide) pd_13 rfl rfl rfl (lb rfl) (lb rfl) (lb rfl) (lb rfl) ?_
  rintro _ _ ⟨rfl, rfl⟩
  show W14 l Z (rm4 3 0 0 40) ((s, strO v) :: (v, fA .byte [y0]) :: F) 0 0 15 #[.val (.ref s), .val (.int 0)] [(.int (nar .char (y0 &&& 255).toUInt32.toUInt16.toUInt32.toInt32))] (Q_c_cat_1_0 s v y0 F)
  refine wp_ireturnN D_jdk_42_m56_15 rfl (by simp) (by decide) (by decide) ?_
  exact ⟨rfl, rfl⟩
def Q_c_lca_2_0 (s v : Addr) (y0 y1 : Int32) (F : OH) : Option Value → OH → Prop := fun w' H' => w' = some (.int (nar .char (y0 &&& 255).toUInt32.toUInt16.toUInt32.toInt32)) ∧ H' = ((s, strO v) :: (v, fA .byte [y0, y1]) :: F)
set_option maxRecDepth 65536 in
set_option maxHeartbeats 40000000 in
theorem c_lca_2_0 (l : Launch) (Z : State) (a0 : Array Value) (hw : HW Z a0) (s v : Addr) (y0 y1 : Int32) (cp : Int32) (fm : Value) (F : OH) (hs : Std Z cp fm) :
    Met l Z (⟨"java/lang/StringLatin1", "charAt", "([BI)C"⟩ : MethodName) jdk_43_method_2_code 2 (some .char) (rm4 2 0 0 27) [(.ref v), (.int 0)] ((s, strO v) :: (v, fA .byte [y0, y1]) :: F) (Q_c_lca_2_0 s v y0 y1 F) := by
  refine Met.of_wp (Ls := #[.val (.ref v), .val (.int 0)]) pn_11 (fun m => (entry_loc m _ _).trans rfl) ?_
  show W13 l Z (rm4 2 0 0 27) ((s, strO v) :: (v, fA .byte [y0, y1]) :: F) 0 0 0 #[.val (.ref v), .val (.int 0)] [] (Q_c_lca_2_0 s v y0 y1 F)
  refine wp_iload_n D_jdk_43_m2_0 rfl ?_
  refine wp_aload_n D_jdk_43_m2_1 rfl rfl ?_
  refine wp_lengthI (i := 1) (2 : Int32) D_jdk_43_m2_2 rfl rfl ?_
  refine wp_callS (c_sci l Z a0 hw 0 2 cp fm ((s, strO v) :: (v, fA .byte [y0, y1]) :: F) hs (by decide) (by decide)) D_jdk_43_m2_3 (gw hw 110 rfl) (gw hw 111 rfl) (gw hw 7 rfl) (gw hw 112 rfl) (by decide) pd_16 rfl rfl rfl (lb rfl) (lb rfl) (lb rfl) (lb rfl) ?_
  rintro _ _ ⟨rfl, rfl⟩
  show W13 l Z (rm4 2 0 0 27) ((s, strO v) :: (v, fA .byte [y0, y1]) :: F) 0 0 6 #[.val (.ref v), .val (.int 0)] [] (Q_c_lca_2_0 s v y0 y1 F)
  refine wp_aload_n D_jdk_43_m2_6 rfl rfl ?_
  refine wp_iload_n D_jdk_43_m2_7 rfl ?_
  refine wp_baload (i := 1) (0) D_jdk_43_m2_8 rfl (by decide) (by decide) rfl ?_
  refine wp_sipush 255 D_jdk_43_m2_9 (by decide) ?_
  refine wp_iand D_jdk_43_m2_12 ?_
  refine wp_i2c D_jdk_43_m2_13 ?_
  refine wp_ireturnN D_jdk_43_m2_14 rfl (by simp) (by decide) (by decide) ?_
  exact ⟨rfl, rfl⟩
def Q_c_cat_2_0 (s v : Addr) (y0 y1 : Int32) (F : OH) : Option Value → OH → Prop := fun w' H' => w' = some (.int (ub y0)) ∧ H' = ((s, strO v) :: (v, fA .byte [y0, y1]) :: F)
set_option maxRecDepth 65536 in
set_option maxHeartbeats 40000000 in
theorem c_cat_2_0 (l : Launch) (Z : State) (a0 : Array Value) (hw : HW Z a0) (s v : Addr) (y0 y1 : Int32) (cp : Int32) (fm : Value) (F : OH) (hs : Std Z cp fm) :
    Met l Z (⟨"java/lang/String", "charAt", "(I)C"⟩ : MethodName) jdk_42_method_56_code 2 (some .char) (rm4 3 0 0 40) [(.ref s), (.int 0)] ((s, strO v) :: (v, fA .byte [y0, y1]) :: F) (Q_c_cat_2_0 s v y0 y1 F) := by
  refine Met.of_wp (Ls := #[.val (.ref s), .val (.int 0)]) pn_12 (fun m => (entry_loc m _ _).trans rfl) ?_
  show W14 l Z (rm4 3 0 0 40) ((s, strO v) :: (v, fA .byte [y0, y1]) :: F) 0 0 0 #[.val (.ref s), .val (.int 0)] [] (Q_c_cat_2_0 s v y0 y1 F)
  refine wp_aload_n D_jdk_42_m56_0 rfl rfl ?_
  refine wp_virtual (c_lat l Z a0 hw s v cp fm ((v, fA .byte [y0, y1]) :: F) hs ) (exa_new (i := 0) rfl) D_jdk_42_m56_1 (gw hw 41 rfl) (gw hw 42 rfl) (gw hw 44 rfl) (gw hw 44 rfl) (gw hw 43 rfl) (gw hw 7 rfl) (gw hw 45 rfl) (by decide) pd_4 rfl rfl rfl (lb rfl) (lb rfl) (lb rfl) (lb rfl) ?_
  rintro _ _ ⟨rfl, rfl⟩
  show W14 l Z (rm4 3 0 0 40) ((s, strO v) :: (v, fA .byte [y0, y1]) :: F) 0 0 4 #[.val (.ref s), .val (.int 0)] [(.int 1)] (Q_c_cat_2_0 s v y0 y1 F)
  refine wp_if_eq D_jdk_42_m56_4 (pc'' := 16) ⟨by decide, by decide⟩ (fun h1 => by exact absurd h1 (by decide)) (fun h1 => ?_)
  refine wp_aload_n D_jdk_42_m56_7 rfl rfl ?_
  refine wp_getfield D_jdk_42_m56_8 (gw hw 25 rfl) (fld_new (i := 0) (fi := 0) rfl rfl rfl) ?_
  refine wp_iload_n D_jdk_42_m56_11 rfl ?_
  refine wp_callS (c_lca_2_0 l Z a0 hw s v y0 y1 cp fm F hs ) D_jdk_42_m56_12 (gw hw 107 rfl) (gw hw 108 rfl) (gw hw 59 rfl) (gw hw 109 rfl) (by decide) pd_13 rfl rfl rfl (lb rfl) (lb rfl) (lb rfl) (lb rfl) ?_
  rintro _ _ ⟨rfl, rfl⟩
  show W14 l Z (rm4 3 0 0 40) ((s, strO v) :: (v, fA .byte [y0, y1]) :: F) 0 0 15 #[.val (.ref s), .val (.int 0)] [(.int (nar .char (y0 &&& 255).toUInt32.toUInt16.toUInt32.toInt32))] (Q_c_cat_2_0 s v y0 y1 F)
  refine wp_ireturnN D_jdk_42_m56_15 rfl (by simp) (by decide) (by decide) ?_
  exact ⟨rfl, rfl⟩
def Q_c_lca_2_1 (s v : Addr) (y0 y1 : Int32) (F : OH) : Option Value → OH → Prop := fun w' H' => w' = some (.int (nar .char (y1 &&& 255).toUInt32.toUInt16.toUInt32.toInt32)) ∧ H' = ((s, strO v) :: (v, fA .byte [y0, y1]) :: F)
set_option maxRecDepth 65536 in
set_option maxHeartbeats 40000000 in
theorem c_lca_2_1 (l : Launch) (Z : State) (a0 : Array Value) (hw : HW Z a0) (s v : Addr) (y0 y1 : Int32) (cp : Int32) (fm : Value) (F : OH) (hs : Std Z cp fm) :
    Met l Z (⟨"java/lang/StringLatin1", "charAt", "([BI)C"⟩ : MethodName) jdk_43_method_2_code 2 (some .char) (rm4 2 0 0 27) [(.ref v), (.int 1)] ((s, strO v) :: (v, fA .byte [y0, y1]) :: F) (Q_c_lca_2_1 s v y0 y1 F) := by
  refine Met.of_wp (Ls := #[.val (.ref v), .val (.int 1)]) pn_11 (fun m => (entry_loc m _ _).trans rfl) ?_
  show W13 l Z (rm4 2 0 0 27) ((s, strO v) :: (v, fA .byte [y0, y1]) :: F) 0 0 0 #[.val (.ref v), .val (.int 1)] [] (Q_c_lca_2_1 s v y0 y1 F)
  refine wp_iload_n D_jdk_43_m2_0 rfl ?_
  refine wp_aload_n D_jdk_43_m2_1 rfl rfl ?_
  refine wp_lengthI (i := 1) (2 : Int32) D_jdk_43_m2_2 rfl rfl ?_
  refine wp_callS (c_sci l Z a0 hw 1 2 cp fm ((s, strO v) :: (v, fA .byte [y0, y1]) :: F) hs (by decide) (by decide)) D_jdk_43_m2_3 (gw hw 110 rfl) (gw hw 111 rfl) (gw hw 7 rfl) (gw hw 112 rfl) (by decide) pd_16 rfl rfl rfl (lb rfl) (lb rfl) (lb rfl) (lb rfl) ?_
  rintro _ _ ⟨rfl, rfl⟩
  show W13 l Z (rm4 2 0 0 27) ((s, strO v) :: (v, fA .byte [y0, y1]) :: F) 0 0 6 #[.val (.ref v), .val (.int 1)] [] (Q_c_lca_2_1 s v y0 y1 F)
  refine wp_aload_n D_jdk_43_m2_6 rfl rfl ?_
  refine wp_iload_n D_jdk_43_m2_7 rfl ?_
  refine wp_baload (i := 1) (1) D_jdk_43_m2_8 rfl (by decide) (by decide) rfl ?_
  refine wp_sipush 255 D_jdk_43_m2_9 (by decide) ?_
  refine wp_iand D_jdk_43_m2_12 ?_
  refine wp_i2c D_jdk_43_m2_13 ?_
  refine wp_ireturnN D_jdk_43_m2_14 rfl (by simp) (by decide) (by decide) ?_
  exact ⟨rfl, rfl⟩
def Q_c_cat_2_1 (s v : Addr) (y0 y1 : Int32) (F : OH) : Option Value → OH → Prop := fun w' H' => w' = some (.int (ub y1)) ∧ H' = ((s, strO v) :: (v, fA .byte [y0, y1]) :: F)
set_option maxRecDepth 65536 in
set_option maxHeartbeats 40000000 in
theorem c_cat_2_1 (l : Launch) (Z : State) (a0 : Array Value) (hw : HW Z a0) (s v : Addr) (y0 y1 : Int32) (cp : Int32) (fm : Value) (F : OH) (hs : Std Z cp fm) :
    Met l Z (⟨"java/lang/String", "charAt", "(I)C"⟩ : MethodName) jdk_42_method_56_code 2 (some .char) (rm4 3 0 0 40) [(.ref s), (.int 1)] ((s, strO v) :: (v, fA .byte [y0, y1]) :: F) (Q_c_cat_2_1 s v y0 y1 F) := by
  refine Met.of_wp (Ls := #[.val (.ref s), .val (.int 1)]) pn_12 (fun m => (entry_loc m _ _).trans rfl) ?_
  show W14 l Z (rm4 3 0 0 40) ((s, strO v) :: (v, fA .byte [y0, y1]) :: F) 0 0 0 #[.val (.ref s), .val (.int 1)] [] (Q_c_cat_2_1 s v y0 y1 F)
  refine wp_aload_n D_jdk_42_m56_0 rfl rfl ?_
  refine wp_virtual (c_lat l Z a0 hw s v cp fm ((v, fA .byte [y0, y1]) :: F) hs ) (exa_new (i := 0) rfl) D_jdk_42_m56_1 (gw hw 41 rfl) (gw hw 42 rfl) (gw hw 44 rfl) (gw hw 44 rfl) (gw hw 43 rfl) (gw hw 7 rfl) (gw hw 45 rfl) (by decide) pd_4 rfl rfl rfl (lb rfl) (lb rfl) (lb rfl) (lb rfl) ?_
  rintro _ _ ⟨rfl, rfl⟩
  show W14 l Z (rm4 3 0 0 40) ((s, strO v) :: (v, fA .byte [y0, y1]) :: F) 0 0 4 #[.val (.ref s), .val (.int 1)] [(.int 1)] (Q_c_cat_2_1 s v y0 y1 F)
  refine wp_if_eq D_jdk_42_m56_4 (pc'' := 16) ⟨by decide, by decide⟩ (fun h1 => by exact absurd h1 (by decide)) (fun h1 => ?_)
  refine wp_aload_n D_jdk_42_m56_7 rfl rfl ?_
  refine wp_getfield D_jdk_42_m56_8 (gw hw 25 rfl) (fld_new (i := 0) (fi := 0) rfl rfl rfl) ?_
  refine wp_iload_n D_jdk_42_m56_11 rfl ?_
  refine wp_callS (c_lca_2_1 l Z a0 hw s v y0 y1 cp fm F hs ) D_jdk_42_m56_12 (gw hw 107 rfl) (gw hw 108 rfl) (gw hw 59 rfl) (gw hw 109 rfl) (by decide) pd_13 rfl rfl rfl (lb rfl) (lb rfl) (lb rfl) (lb rfl) ?_
  rintro _ _ ⟨rfl, rfl⟩
  show W14 l Z (rm4 3 0 0 40) ((s, strO v) :: (v, fA .byte [y0, y1]) :: F) 0 0 15 #[.val (.ref s), .val (.int 1)] [(.int (nar .char (y1 &&& 255).toUInt32.toUInt16.toUInt32.toInt32))] (Q_c_cat_2_1 s v y0 y1 F)
  refine wp_ireturnN D_jdk_42_m56_15 rfl (by simp) (by decide) (by decide) ?_
  exact ⟨rfl, rfl⟩
def Q_c_lca_3_0 (s v : Addr) (y0 y1 y2 : Int32) (F : OH) : Option Value → OH → Prop := fun w' H' => w' = some (.int (nar .char (y0 &&& 255).toUInt32.toUInt16.toUInt32.toInt32)) ∧ H' = ((s, strO v) :: (v, fA .byte [y0, y1, y2]) :: F)
set_option maxRecDepth 65536 in
set_option maxHeartbeats 40000000 in
theorem c_lca_3_0 (l : Launch) (Z : State) (a0 : Array Value) (hw : HW Z a0) (s v : Addr) (y0 y1 y2 : Int32) (cp : Int32) (fm : Value) (F : OH) (hs : Std Z cp fm) :
    Met l Z (⟨"java/lang/StringLatin1", "charAt", "([BI)C"⟩ : MethodName) jdk_43_method_2_code 2 (some .char) (rm4 2 0 0 27) [(.ref v), (.int 0)] ((s, strO v) :: (v, fA .byte [y0, y1, y2]) :: F) (Q_c_lca_3_0 s v y0 y1 y2 F) := by
  refine Met.of_wp (Ls := #[.val (.ref v), .val (.int 0)]) pn_11 (fun m => (entry_loc m _ _).trans rfl) ?_
  show W13 l Z (rm4 2 0 0 27) ((s, strO v) :: (v, fA .byte [y0, y1, y2]) :: F) 0 0 0 #[.val (.ref v), .val (.int 0)] [] (Q_c_lca_3_0 s v y0 y1 y2 F)
  refine wp_iload_n D_jdk_43_m2_0 rfl ?_
  refine wp_aload_n D_jdk_43_m2_1 rfl rfl ?_
  refine wp_lengthI (i := 1) (3 : Int32) D_jdk_43_m2_2 rfl rfl ?_
  refine wp_callS (c_sci l Z a0 hw 0 3 cp fm ((s, strO v) :: (v, fA .byte [y0, y1, y2]) :: F) hs (by decide) (by decide)) D_jdk_43_m2_3 (gw hw 110 rfl) (gw hw 111 rfl) (gw hw 7 rfl) (gw hw 112 rfl) (by decide) pd_16 rfl rfl rfl (lb rfl) (lb rfl) (lb rfl) (lb rfl) ?_
  rintro _ _ ⟨rfl, rfl⟩
  show W13 l Z (rm4 2 0 0 27) ((s, strO v) :: (v, fA .byte [y0, y1, y2]) :: F) 0 0 6 #[.val (.ref v), .val (.int 0)] [] (Q_c_lca_3_0 s v y0 y1 y2 F)
  refine wp_aload_n D_jdk_43_m2_6 rfl rfl ?_
  refine wp_iload_n D_jdk_43_m2_7 rfl ?_
  refine wp_baload (i := 1) (0) D_jdk_43_m2_8 rfl (by decide) (by decide) rfl ?_
  refine wp_sipush 255 D_jdk_43_m2_9 (by decide) ?_
  refine wp_iand D_jdk_43_m2_12 ?_
  refine wp_i2c D_jdk_43_m2_13 ?_
  refine wp_ireturnN D_jdk_43_m2_14 rfl (by simp) (by decide) (by decide) ?_
  exact ⟨rfl, rfl⟩
def Q_c_cat_3_0 (s v : Addr) (y0 y1 y2 : Int32) (F : OH) : Option Value → OH → Prop := fun w' H' => w' = some (.int (ub y0)) ∧ H' = ((s, strO v) :: (v, fA .byte [y0, y1, y2]) :: F)
set_option maxRecDepth 65536 in
set_option maxHeartbeats 40000000 in
theorem c_cat_3_0 (l : Launch) (Z : State) (a0 : Array Value) (hw : HW Z a0) (s v : Addr) (y0 y1 y2 : Int32) (cp : Int32) (fm : Value) (F : OH) (hs : Std Z cp fm) :
    Met l Z (⟨"java/lang/String", "charAt", "(I)C"⟩ : MethodName) jdk_42_method_56_code 2 (some .char) (rm4 3 0 0 40) [(.ref s), (.int 0)] ((s, strO v) :: (v, fA .byte [y0, y1, y2]) :: F) (Q_c_cat_3_0 s v y0 y1 y2 F) := by
  refine Met.of_wp (Ls := #[.val (.ref s), .val (.int 0)]) pn_12 (fun m => (entry_loc m _ _).trans rfl) ?_
  show W14 l Z (rm4 3 0 0 40) ((s, strO v) :: (v, fA .byte [y0, y1, y2]) :: F) 0 0 0 #[.val (.ref s), .val (.int 0)] [] (Q_c_cat_3_0 s v y0 y1 y2 F)
  refine wp_aload_n D_jdk_42_m56_0 rfl rfl ?_
  refine wp_virtual (c_lat l Z a0 hw s v cp fm ((v, fA .byte [y0, y1, y2]) :: F) hs ) (exa_new (i := 0) rfl) D_jdk_42_m56_1 (gw hw 41 rfl) (gw hw 42 rfl) (gw hw 44 rfl) (gw hw 44 rfl) (gw hw 43 rfl) (gw hw 7 rfl) (gw hw 45 rfl) (by decide) pd_4 rfl rfl rfl (lb rfl) (lb rfl) (lb rfl) (lb rfl) ?_
  rintro _ _ ⟨rfl, rfl⟩
  show W14 l Z (rm4 3 0 0 40) ((s, strO v) :: (v, fA .byte [y0, y1, y2]) :: F) 0 0 4 #[.val (.ref s), .val (.int 0)] [(.int 1)] (Q_c_cat_3_0 s v y0 y1 y2 F)
  refine wp_if_eq D_jdk_42_m56_4 (pc'' := 16) ⟨by decide, by decide⟩ (fun h1 => by exact absurd h1 (by decide)) (fun h1 => ?_)
  refine wp_aload_n D_jdk_42_m56_7 rfl rfl ?_
  refine wp_getfield D_jdk_42_m56_8 (gw hw 25 rfl) (fld_new (i := 0) (fi := 0) rfl rfl rfl) ?_
  refine wp_iload_n D_jdk_42_m56_11 rfl ?_
  refine wp_callS (c_lca_3_0 l Z a0 hw s v y0 y1 y2 cp fm F hs ) D_jdk_42_m56_12 (gw hw 107 rfl) (gw hw 108 rfl) (gw hw 59 rfl) (gw hw 109 rfl) (by decide) pd_13 rfl rfl rfl (lb rfl) (lb rfl) (lb rfl) (lb rfl) ?_
  rintro _ _ ⟨rfl, rfl⟩
  show W14 l Z (rm4 3 0 0 40) ((s, strO v) :: (v, fA .byte [y0, y1, y2]) :: F) 0 0 15 #[.val (.ref s), .val (.int 0)] [(.int (nar .char (y0 &&& 255).toUInt32.toUInt16.toUInt32.toInt32))] (Q_c_cat_3_0 s v y0 y1 y2 F)
  refine wp_ireturnN D_jdk_42_m56_15 rfl (by simp) (by decide) (by decide) ?_
  exact ⟨rfl, rfl⟩
def Q_c_lca_3_1 (s v : Addr) (y0 y1 y2 : Int32) (F : OH) : Option Value → OH → Prop := fun w' H' => w' = some (.int (nar .char (y1 &&& 255).toUInt32.toUInt16.toUInt32.toInt32)) ∧ H' = ((s, strO v) :: (v, fA .byte [y0, y1, y2]) :: F)
set_option maxRecDepth 65536 in
set_option maxHeartbeats 40000000 in
theorem c_lca_3_1 (l : Launch) (Z : State) (a0 : Array Value) (hw : HW Z a0) (s v : Addr) (y0 y1 y2 : Int32) (cp : Int32) (fm : Value) (F : OH) (hs : Std Z cp fm) :
    Met l Z (⟨"java/lang/StringLatin1", "charAt", "([BI)C"⟩ : MethodName) jdk_43_method_2_code 2 (some .char) (rm4 2 0 0 27) [(.ref v), (.int 1)] ((s, strO v) :: (v, fA .byte [y0, y1, y2]) :: F) (Q_c_lca_3_1 s v y0 y1 y2 F) := by
  refine Met.of_wp (Ls := #[.val (.ref v), .val (.int 1)]) pn_11 (fun m => (entry_loc m _ _).trans rfl) ?_
  show W13 l Z (rm4 2 0 0 27) ((s, strO v) :: (v, fA .byte [y0, y1, y2]) :: F) 0 0 0 #[.val (.ref v), .val (.int 1)] [] (Q_c_lca_3_1 s v y0 y1 y2 F)
  refine wp_iload_n D_jdk_43_m2_0 rfl ?_
  refine wp_aload_n D_jdk_43_m2_1 rfl rfl ?_
  refine wp_lengthI (i := 1) (3 : Int32) D_jdk_43_m2_2 rfl rfl ?_
  refine wp_callS (c_sci l Z a0 hw 1 3 cp fm ((s, strO v) :: (v, fA .byte [y0, y1, y2]) :: F) hs (by decide) (by decide)) D_jdk_43_m2_3 (gw hw 110 rfl) (gw hw 111 rfl) (gw hw 7 rfl) (gw hw 112 rfl) (by decide) pd_16 rfl rfl rfl (lb rfl) (lb rfl) (lb rfl) (lb rfl) ?_
  rintro _ _ ⟨rfl, rfl⟩
  show W13 l Z (rm4 2 0 0 27) ((s, strO v) :: (v, fA .byte [y0, y1, y2]) :: F) 0 0 6 #[.val (.ref v), .val (.int 1)] [] (Q_c_lca_3_1 s v y0 y1 y2 F)
  refine wp_aload_n D_jdk_43_m2_6 rfl rfl ?_
  refine wp_iload_n D_jdk_43_m2_7 rfl ?_
  refine wp_baload (i := 1) (1) D_jdk_43_m2_8 rfl (by decide) (by decide) rfl ?_
  refine wp_sipush 255 D_jdk_43_m2_9 (by decide) ?_
  refine wp_iand D_jdk_43_m2_12 ?_
  refine wp_i2c D_jdk_43_m2_13 ?_
  refine wp_ireturnN D_jdk_43_m2_14 rfl (by simp) (by decide) (by decide) ?_
  exact ⟨rfl, rfl⟩
def Q_c_cat_3_1 (s v : Addr) (y0 y1 y2 : Int32) (F : OH) : Option Value → OH → Prop := fun w' H' => w' = some (.int (ub y1)) ∧ H' = ((s, strO v) :: (v, fA .byte [y0, y1, y2]) :: F)
set_option maxRecDepth 65536 in
set_option maxHeartbeats 40000000 in
theorem c_cat_3_1 (l : Launch) (Z : State) (a0 : Array Value) (hw : HW Z a0) (s v : Addr) (y0 y1 y2 : Int32) (cp : Int32) (fm : Value) (F : OH) (hs : Std Z cp fm) :
    Met l Z (⟨"java/lang/String", "charAt", "(I)C"⟩ : MethodName) jdk_42_method_56_code 2 (some .char) (rm4 3 0 0 40) [(.ref s), (.int 1)] ((s, strO v) :: (v, fA .byte [y0, y1, y2]) :: F) (Q_c_cat_3_1 s v y0 y1 y2 F) := by
  refine Met.of_wp (Ls := #[.val (.ref s), .val (.int 1)]) pn_12 (fun m => (entry_loc m _ _).trans rfl) ?_
  show W14 l Z (rm4 3 0 0 40) ((s, strO v) :: (v, fA .byte [y0, y1, y2]) :: F) 0 0 0 #[.val (.ref s), .val (.int 1)] [] (Q_c_cat_3_1 s v y0 y1 y2 F)
  refine wp_aload_n D_jdk_42_m56_0 rfl rfl ?_
  refine wp_virtual (c_lat l Z a0 hw s v cp fm ((v, fA .byte [y0, y1, y2]) :: F) hs ) (exa_new (i := 0) rfl) D_jdk_42_m56_1 (gw hw 41 rfl) (gw hw 42 rfl) (gw hw 44 rfl) (gw hw 44 rfl) (gw hw 43 rfl) (gw hw 7 rfl) (gw hw 45 rfl) (by decide) pd_4 rfl rfl rfl (lb rfl) (lb rfl) (lb rfl) (lb rfl) ?_
  rintro _ _ ⟨rfl, rfl⟩
  show W14 l Z (rm4 3 0 0 40) ((s, strO v) :: (v, fA .byte [y0, y1, y2]) :: F) 0 0 4 #[.val (.ref s), .val (.int 1)] [(.int 1)] (Q_c_cat_3_1 s v y0 y1 y2 F)
  refine wp_if_eq D_jdk_42_m56_4 (pc'' := 16) ⟨by decide, by decide⟩ (fun h1 => by exact absurd h1 (by decide)) (fun h1 => ?_)
  refine wp_aload_n D_jdk_42_m56_7 rfl rfl ?_
  refine wp_getfield D_jdk_42_m56_8 (gw hw 25 rfl) (fld_new (i := 0) (fi := 0) rfl rfl rfl) ?_
  refine wp_iload_n D_jdk_42_m56_11 rfl ?_
  refine wp_callS (c_lca_3_1 l Z a0 hw s v y0 y1 y2 cp fm F hs ) D_jdk_42_m56_12 (gw hw 107 rfl) (gw hw 108 rfl) (gw hw 59 rfl) (gw hw 109 rfl) (by decide) pd_13 rfl rfl rfl (lb rfl) (lb rfl) (lb rfl) (lb rfl) ?_
  rintro _ _ ⟨rfl, rfl⟩
  show W14 l Z (rm4 3 0 0 40) ((s, strO v) :: (v, fA .byte [y0, y1, y2]) :: F) 0 0 15 #[.val (.ref s), .val (.int 1)] [(.int (nar .char (y1 &&& 255).toUInt32.toUInt16.toUInt32.toInt32))] (Q_c_cat_3_1 s v y0 y1 y2 F)
  refine wp_ireturnN D_jdk_42_m56_15 rfl (by simp) (by decide) (by decide) ?_
  exact ⟨rfl, rfl⟩
def Q_c_lca_3_2 (s v : Addr) (y0 y1 y2 : Int32) (F : OH) : Option Value → OH → Prop := fun w' H' => w' = some (.int (nar .char (y2 &&& 255).toUInt32.toUInt16.toUInt32.toInt32)) ∧ H' = ((s, strO v) :: (v, fA .byte [y0, y1, y2]) :: F)
set_option maxRecDepth 65536 in
set_option maxHeartbeats 40000000 in
theorem c_lca_3_2 (l : Launch) (Z : State) (a0 : Array Value) (hw : HW Z a0) (s v : Addr) (y0 y1 y2 : Int32) (cp : Int32) (fm : Value) (F : OH) (hs : Std Z cp fm) :
    Met l Z (⟨"java/lang/StringLatin1", "charAt", "([BI)C"⟩ : MethodName) jdk_43_method_2_code 2 (some .char) (rm4 2 0 0 27) [(.ref v), (.int 2)] ((s, strO v) :: (v, fA .byte [y0, y1, y2]) :: F) (Q_c_lca_3_2 s v y0 y1 y2 F) := by
  refine Met.of_wp (Ls := #[.val (.ref v), .val (.int 2)]) pn_11 (fun m => (entry_loc m _ _).trans rfl) ?_
  show W13 l Z (rm4 2 0 0 27) ((s, strO v) :: (v, fA .byte [y0, y1, y2]) :: F) 0 0 0 #[.val (.ref v), .val (.int 2)] [] (Q_c_lca_3_2 s v y0 y1 y2 F)
  refine wp_iload_n D_jdk_43_m2_0 rfl ?_
  refine wp_aload_n D_jdk_43_m2_1 rfl rfl ?_
  refine wp_lengthI (i := 1) (3 : Int32) D_jdk_43_m2_2 rfl rfl ?_
  refine wp_callS (c_sci l Z a0 hw 2 3 cp fm ((s, strO v) :: (v, fA .byte [y0, y1, y2]) :: F) hs (by decide) (by decide)) D_jdk_43_m2_3 (gw hw 110 rfl) (gw hw 111 rfl) (gw hw 7 rfl) (gw hw 112 rfl) (by decide) pd_16 rfl rfl rfl (lb rfl) (lb rfl) (lb rfl) (lb rfl) ?_
  rintro _ _ ⟨rfl, rfl⟩
  show W13 l Z (rm4 2 0 0 27) ((s, strO v) :: (v, fA .byte [y0, y1, y2]) :: F) 0 0 6 #[.val (.ref v), .val (.int 2)] [] (Q_c_lca_3_2 s v y0 y1 y2 F)
  refine wp_aload_n D_jdk_43_m2_6 rfl rfl ?_
  refine wp_iload_n D_jdk_43_m2_7 rfl ?_
  refine wp_baload (i := 1) (2) D_jdk_43_m2_8 rfl (by decide) (by decide) rfl ?_
  refine wp_sipush 255 D_jdk_43_m2_9 (by decide) ?_
  refine wp_iand D_jdk_43_m2_12 ?_
  refine wp_i2c D_jdk_43_m2_13 ?_
  refine wp_ireturnN D_jdk_43_m2_14 rfl (by simp) (by decide) (by decide) ?_
  exact ⟨rfl, rfl⟩
def Q_c_cat_3_2 (s v : Addr) (y0 y1 y2 : Int32) (F : OH) : Option Value → OH → Prop := fun w' H' => w' = some (.int (ub y2)) ∧ H' = ((s, strO v) :: (v, fA .byte [y0, y1, y2]) :: F)
set_option maxRecDepth 65536 in
set_option maxHeartbeats 40000000 in
theorem c_cat_3_2 (l : Launch) (Z : State) (a0 : Array Value) (hw : HW Z a0) (s v : Addr) (y0 y1 y2 : Int32) (cp : Int32) (fm : Value) (F : OH) (hs : Std Z cp fm) :
    Met l Z (⟨"java/lang/String", "charAt", "(I)C"⟩ : MethodName) jdk_42_method_56_code 2 (some .char) (rm4 3 0 0 40) [(.ref s), (.int 2)] ((s, strO v) :: (v, fA .byte [y0, y1, y2]) :: F) (Q_c_cat_3_2 s v y0 y1 y2 F) := by
  refine Met.of_wp (Ls := #[.val (.ref s), .val (.int 2)]) pn_12 (fun m => (entry_loc m _ _).trans rfl) ?_
  show W14 l Z (rm4 3 0 0 40) ((s, strO v) :: (v, fA .byte [y0, y1, y2]) :: F) 0 0 0 #[.val (.ref s), .val (.int 2)] [] (Q_c_cat_3_2 s v y0 y1 y2 F)
  refine wp_aload_n D_jdk_42_m56_0 rfl rfl ?_
  refine wp_virtual (c_lat l Z a0 hw s v cp fm ((v, fA .byte [y0, y1, y2]) :: F) hs ) (exa_new (i := 0) rfl) D_jdk_42_m56_1 (gw hw 41 rfl) (gw hw 42 rfl) (gw hw 44 rfl) (gw hw 44 rfl) (gw hw 43 rfl) (gw hw 7 rfl) (gw hw 45 rfl) (by decide) pd_4 rfl rfl rfl (lb rfl) (lb rfl) (lb rfl) (lb rfl) ?_
  rintro _ _ ⟨rfl, rfl⟩
  show W14 l Z (rm4 3 0 0 40) ((s, strO v) :: (v, fA .byte [y0, y1, y2]) :: F) 0 0 4 #[.val (.ref s), .val (.int 2)] [(.int 1)] (Q_c_cat_3_2 s v y0 y1 y2 F)
  refine wp_if_eq D_jdk_42_m56_4 (pc'' := 16) ⟨by decide, by decide⟩ (fun h1 => by exact absurd h1 (by decide)) (fun h1 => ?_)
  refine wp_aload_n D_jdk_42_m56_7 rfl rfl ?_
  refine wp_getfield D_jdk_42_m56_8 (gw hw 25 rfl) (fld_new (i := 0) (fi := 0) rfl rfl rfl) ?_
  refine wp_iload_n D_jdk_42_m56_11 rfl ?_
  refine wp_callS (c_lca_3_2 l Z a0 hw s v y0 y1 y2 cp fm F hs ) D_jdk_42_m56_12 (gw hw 107 rfl) (gw hw 108 rfl) (gw hw 59 rfl) (gw hw 109 rfl) (by decide) pd_13 rfl rfl rfl (lb rfl) (lb rfl) (lb rfl) (lb rfl) ?_
  rintro _ _ ⟨rfl, rfl⟩
  show W14 l Z (rm4 3 0 0 40) ((s, strO v) :: (v, fA .byte [y0, y1, y2]) :: F) 0 0 15 #[.val (.ref s), .val (.int 2)] [(.int (nar .char (y2 &&& 255).toUInt32.toUInt16.toUInt32.toInt32))] (Q_c_cat_3_2 s v y0 y1 y2 F)
  refine wp_ireturnN D_jdk_42_m56_15 rfl (by simp) (by decide) (by decide) ?_
  exact ⟨rfl, rfl⟩
def Q_c_lca_4_0 (s v : Addr) (y0 y1 y2 y3 : Int32) (F : OH) : Option Value → OH → Prop := fun w' H' => w' = some (.int (nar .char (y0 &&& 255).toUInt32.toUInt16.toUInt32.toInt32)) ∧ H' = ((s, strO v) :: (v, fA .byte [y0, y1, y2, y3]) :: F)
set_option maxRecDepth 65536 in
set_option maxHeartbeats 40000000 in
theorem c_lca_4_0 (l : Launch) (Z : State) (a0 : Array Value) (hw : HW Z a0) (s v : Addr) (y0 y1 y2 y3 : Int32) (cp : Int32) (fm : Value) (F : OH) (hs : Std Z cp fm) :
    Met l Z (⟨"java/lang/StringLatin1", "charAt", "([BI)C"⟩ : MethodName) jdk_43_method_2_code 2 (some .char) (rm4 2 0 0 27) [(.ref v), (.int 0)] ((s, strO v) :: (v, fA .byte [y0, y1, y2, y3]) :: F) (Q_c_lca_4_0 s v y0 y1 y2 y3 F) := by
  refine Met.of_wp (Ls := #[.val (.ref v), .val (.int 0)]) pn_11 (fun m => (entry_loc m _ _).trans rfl) ?_
  show W13 l Z (rm4 2 0 0 27) ((s, strO v) :: (v, fA .byte [y0, y1, y2, y3]) :: F) 0 0 0 #[.val (.ref v), .val (.int 0)] [] (Q_c_lca_4_0 s v y0 y1 y2 y3 F)
  refine wp_iload_n D_jdk_43_m2_0 rfl ?_
  refine wp_aload_n D_jdk_43_m2_1 rfl rfl ?_
  refine wp_lengthI (i := 1) (4 : Int32) D_jdk_43_m2_2 rfl rfl ?_
  refine wp_callS (c_sci l Z a0 hw 0 4 cp fm ((s, strO v) :: (v, fA .byte [y0, y1, y2, y3]) :: F) hs (by decide) (by decide)) D_jdk_43_m2_3 (gw hw 110 rfl) (gw hw 111 rfl) (gw hw 7 rfl) (gw hw 112 rfl) (by decide) pd_16 rfl rfl rfl (lb rfl) (lb rfl) (lb rfl) (lb rfl) ?_
  rintro _ _ ⟨rfl, rfl⟩
  show W13 l Z (rm4 2 0 0 27) ((s, strO v) :: (v, fA .byte [y0, y1, y2, y3]) :: F) 0 0 6 #[.val (.ref v), .val (.int 0)] [] (Q_c_lca_4_0 s v y0 y1 y2 y3 F)
  refine wp_aload_n D_jdk_43_m2_6 rfl rfl ?_
  refine wp_iload_n D_jdk_43_m2_7 rfl ?_
  refine wp_baload (i := 1) (0) D_jdk_43_m2_8 rfl (by decide) (by decide) rfl ?_
  refine wp_sipush 255 D_jdk_43_m2_9 (by decide) ?_
  refine wp_iand D_jdk_43_m2_12 ?_
  refine wp_i2c D_jdk_43_m2_13 ?_
  refine wp_ireturnN D_jdk_43_m2_14 rfl (by simp) (by decide) (by decide) ?_
  exact ⟨rfl, rfl⟩
def Q_c_cat_4_0 (s v : Addr) (y0 y1 y2 y3 : Int32) (F : OH) : Option Value → OH → Prop := fun w' H' => w' = some (.int (ub y0)) ∧ H' = ((s, strO v) :: (v, fA .byte [y0, y1, y2, y3]) :: F)
set_option maxRecDepth 65536 in
set_option maxHeartbeats 40000000 in
theorem c_cat_4_0 (l : Launch) (Z : State) (a0 : Array Value) (hw : HW Z a0) (s v : Addr) (y0 y1 y2 y3 : Int32) (cp : Int32) (fm : Value) (F : OH) (hs : Std Z cp fm) :
    Met l Z (⟨"java/lang/String", "charAt", "(I)C"⟩ : MethodName) jdk_42_method_56_code 2 (some .char) (rm4 3 0 0 40) [(.ref s), (.int 0)] ((s, strO v) :: (v, fA .byte [y0, y1, y2, y3]) :: F) (Q_c_cat_4_0 s v y0 y1 y2 y3 F) := by
  refine Met.of_wp (Ls := #[.val (.ref s), .val (.int 0)]) pn_12 (fun m => (entry_loc m _ _).trans rfl) ?_
  show W14 l Z (rm4 3 0 0 40) ((s, strO v) :: (v, fA .byte [y0, y1, y2, y3]) :: F) 0 0 0 #[.val (.ref s), .val (.int 0)] [] (Q_c_cat_4_0 s v y0 y1 y2 y3 F)
  refine wp_aload_n D_jdk_42_m56_0 rfl rfl ?_
  refine wp_virtual (c_lat l Z a0 hw s v cp fm ((v, fA .byte [y0, y1, y2, y3]) :: F) hs ) (exa_new (i := 0) rfl) D_jdk_42_m56_1 (gw hw 41 rfl) (gw hw 42 rfl) (gw hw 44 rfl) (gw hw 44 rfl) (gw hw 43 rfl) (gw hw 7 rfl) (gw hw 45 rfl) (by decide) pd_4 rfl rfl rfl (lb rfl) (lb rfl) (lb rfl) (lb rfl) ?_
  rintro _ _ ⟨rfl, rfl⟩
  show W14 l Z (rm4 3 0 0 40) ((s, strO v) :: (v, fA .byte [y0, y1, y2, y3]) :: F) 0 0 4 #[.val (.ref s), .val (.int 0)] [(.int 1)] (Q_c_cat_4_0 s v y0 y1 y2 y3 F)
  refine wp_if_eq D_jdk_42_m56_4 (pc'' := 16) ⟨by decide, by decide⟩ (fun h1 => by exact absurd h1 (by decide)) (fun h1 => ?_)
  refine wp_aload_n D_jdk_42_m56_7 rfl rfl ?_
  refine wp_getfield D_jdk_42_m56_8 (gw hw 25 rfl) (fld_new (i := 0) (fi := 0) rfl rfl rfl) ?_
  refine wp_iload_n D_jdk_42_m56_11 rfl ?_
  refine wp_callS (c_lca_4_0 l Z a0 hw s v y0 y1 y2 y3 cp fm F hs ) D_jdk_42_m56_12 (gw hw 107 rfl) (gw hw 108 rfl) (gw hw 59 rfl) (gw hw 109 rfl) (by decide) pd_13 rfl rfl rfl (lb rfl) (lb rfl) (lb rfl) (lb rfl) ?_
  rintro _ _ ⟨rfl, rfl⟩
  show W14 l Z (rm4 3 0 0 40) ((s, strO v) :: (v, fA .byte [y0, y1, y2, y3]) :: F) 0 0 15 #[.val (.ref s), .val (.int 0)] [(.int (nar .char (y0 &&& 255).toUInt32.toUInt16.toUInt32.toInt32))] (Q_c_cat_4_0 s v y0 y1 y2 y3 F)
  refine wp_ireturnN D_jdk_42_m56_15 rfl (by simp) (by decide) (by decide) ?_
  exact ⟨rfl, rfl⟩
def Q_c_lca_4_1 (s v : Addr) (y0 y1 y2 y3 : Int32) (F : OH) : Option Value → OH → Prop := fun w' H' => w' = some (.int (nar .char (y1 &&& 255).toUInt32.toUInt16.toUInt32.toInt32)) ∧ H' = ((s, strO v) :: (v, fA .byte [y0, y1, y2, y3]) :: F)
set_option maxRecDepth 65536 in
set_option maxHeartbeats 40000000 in
theorem c_lca_4_1 (l : Launch) (Z : State) (a0 : Array Value) (hw : HW Z a0) (s v : Addr) (y0 y1 y2 y3 : Int32) (cp : Int32) (fm : Value) (F : OH) (hs : Std Z cp fm) :
    Met l Z (⟨"java/lang/StringLatin1", "charAt", "([BI)C"⟩ : MethodName) jdk_43_method_2_code 2 (some .char) (rm4 2 0 0 27) [(.ref v), (.int 1)] ((s, strO v) :: (v, fA .byte [y0, y1, y2, y3]) :: F) (Q_c_lca_4_1 s v y0 y1 y2 y3 F) := by
  refine Met.of_wp (Ls := #[.val (.ref v), .val (.int 1)]) pn_11 (fun m => (entry_loc m _ _).trans rfl) ?_
  show W13 l Z (rm4 2 0 0 27) ((s, strO v) :: (v, fA .byte [y0, y1, y2, y3]) :: F) 0 0 0 #[.val (.ref v), .val (.int 1)] [] (Q_c_lca_4_1 s v y0 y1 y2 y3 F)
  refine wp_iload_n D_jdk_43_m2_0 rfl ?_
  refine wp_aload_n D_jdk_43_m2_1 rfl rfl ?_
  refine wp_lengthI (i := 1) (4 : Int32) D_jdk_43_m2_2 rfl rfl ?_
  refine wp_callS (c_sci l Z a0 hw 1 4 cp fm ((s, strO v) :: (v, fA .byte [y0, y1, y2, y3]) :: F) hs (by decide) (by decide)) D_jdk_43_m2_3 (gw hw 110 rfl) (gw hw 111 rfl) (gw hw 7 rfl) (gw hw 112 rfl) (by decide) pd_16 rfl rfl rfl (lb rfl) (lb rfl) (lb rfl) (lb rfl) ?_
  rintro _ _ ⟨rfl, rfl⟩
  show W13 l Z (rm4 2 0 0 27) ((s, strO v) :: (v, fA .byte [y0, y1, y2, y3]) :: F) 0 0 6 #[.val (.ref v), .val (.int 1)] [] (Q_c_lca_4_1 s v y0 y1 y2 y3 F)
  refine wp_aload_n D_jdk_43_m2_6 rfl rfl ?_
  refine wp_iload_n D_jdk_43_m2_7 rfl ?_
  refine wp_baload (i := 1) (1) D_jdk_43_m2_8 rfl (by decide) (by decide) rfl ?_
  refine wp_sipush 255 D_jdk_43_m2_9 (by decide) ?_
  refine wp_iand D_jdk_43_m2_12 ?_
  refine wp_i2c D_jdk_43_m2_13 ?_
  refine wp_ireturnN D_jdk_43_m2_14 rfl (by simp) (by decide) (by decide) ?_
  exact ⟨rfl, rfl⟩
def Q_c_cat_4_1 (s v : Addr) (y0 y1 y2 y3 : Int32) (F : OH) : Option Value → OH → Prop := fun w' H' => w' = some (.int (ub y1)) ∧ H' = ((s, strO v) :: (v, fA .byte [y0, y1, y2, y3]) :: F)
set_option maxRecDepth 65536 in
set_option maxHeartbeats 40000000 in
theorem c_cat_4_1 (l : Launch) (Z : State) (a0 : Array Value) (hw : HW Z a0) (s v : Addr) (y0 y1 y2 y3 : Int32) (cp : Int32) (fm : Value) (F : OH) (hs : Std Z cp fm) :
    Met l Z (⟨"java/lang/String", "charAt", "(I)C"⟩ : MethodName) jdk_42_method_56_code 2 (some .char) (rm4 3 0 0 40) [(.ref s), (.int 1)] ((s, strO v) :: (v, fA .byte [y0, y1, y2, y3]) :: F) (Q_c_cat_4_1 s v y0 y1 y2 y3 F) := by
  refine Met.of_wp (Ls := #[.val (.ref s), .val (.int 1)]) pn_12 (fun m => (entry_loc m _ _).trans rfl) ?_
  show W14 l Z (rm4 3 0 0 40) ((s, strO v) :: (v, fA .byte [y0, y1, y2, y3]) :: F) 0 0 0 #[.val (.ref s), .val (.int 1)] [] (Q_c_cat_4_1 s v y0 y1 y2 y3 F)
  refine wp_aload_n D_jdk_42_m56_0 rfl rfl ?_
  refine wp_virtual (c_lat l Z a0 hw s v cp fm ((v, fA .byte [y0, y1, y2, y3]) :: F) hs ) (exa_new (i := 0) rfl) D_jdk_42_m56_1 (gw hw 41 rfl) (gw hw 42 rfl) (gw hw 44 rfl) (gw hw 44 rfl) (gw hw 43 rfl) (gw hw 7 rfl) (gw hw 45 rfl) (by decide) pd_4 rfl rfl rfl (lb rfl) (lb rfl) (lb rfl) (lb rfl) ?_
  rintro _ _ ⟨rfl, rfl⟩
  show W14 l Z (rm4 3 0 0 40) ((s, strO v) :: (v, fA .byte [y0, y1, y2, y3]) :: F) 0 0 4 #[.val (.ref s), .val (.int 1)] [(.int 1)] (Q_c_cat_4_1 s v y0 y1 y2 y3 F)
  refine wp_if_eq D_jdk_42_m56_4 (pc'' := 16) ⟨by decide, by decide⟩ (fun h1 => by exact absurd h1 (by decide)) (fun h1 => ?_)
  refine wp_aload_n D_jdk_42_m56_7 rfl rfl ?_
  refine wp_getfield D_jdk_42_m56_8 (gw hw 25 rfl) (fld_new (i := 0) (fi := 0) rfl rfl rfl) ?_
  refine wp_iload_n D_jdk_42_m56_11 rfl ?_
  refine wp_callS (c_lca_4_1 l Z a0 hw s v y0 y1 y2 y3 cp fm F hs ) D_jdk_42_m56_12 (gw hw 107 rfl) (gw hw 108 rfl) (gw hw 59 rfl) (gw hw 109 rfl) (by decide) pd_13 rfl rfl rfl (lb rfl) (lb rfl) (lb rfl) (lb rfl) ?_
  rintro _ _ ⟨rfl, rfl⟩
  show W14 l Z (rm4 3 0 0 40) ((s, strO v) :: (v, fA .byte [y0, y1, y2, y3]) :: F) 0 0 15 #[.val (.ref s), .val (.int 1)] [(.int (nar .char (y1 &&& 255).toUInt32.toUInt16.toUInt32.toInt32))] (Q_c_cat_4_1 s v y0 y1 y2 y3 F)
  refine wp_ireturnN D_jdk_42_m56_15 rfl (by simp) (by decide) (by decide) ?_
  exact ⟨rfl, rfl⟩
def Q_c_lca_4_2 (s v : Addr) (y0 y1 y2 y3 : Int32) (F : OH) : Option Value → OH → Prop := fun w' H' => w' = some (.int (nar .char (y2 &&& 255).toUInt32.toUInt16.toUInt32.toInt32)) ∧ H' = ((s, strO v) :: (v, fA .byte [y0, y1, y2, y3]) :: F)
set_option maxRecDepth 65536 in
set_option maxHeartbeats 40000000 in
theorem c_lca_4_2 (l : Launch) (Z : State) (a0 : Array Value) (hw : HW Z a0) (s v : Addr) (y0 y1 y2 y3 : Int32) (cp : Int32) (fm : Value) (F : OH) (hs : Std Z cp fm) :
    Met l Z (⟨"java/lang/StringLatin1", "charAt", "([BI)C"⟩ : MethodName) jdk_43_method_2_code 2 (some .char) (rm4 2 0 0 27) [(.ref v), (.int 2)] ((s, strO v) :: (v, fA .byte [y0, y1, y2, y3]) :: F) (Q_c_lca_4_2 s v y0 y1 y2 y3 F) := by
  refine Met.of_wp (Ls := #[.val (.ref v), .val (.int 2)]) pn_11 (fun m => (entry_loc m _ _).trans rfl) ?_
  show W13 l Z (rm4 2 0 0 27) ((s, strO v) :: (v, fA .byte [y0, y1, y2, y3]) :: F) 0 0 0 #[.val (.ref v), .val (.int 2)] [] (Q_c_lca_4_2 s v y0 y1 y2 y3 F)
  refine wp_iload_n D_jdk_43_m2_0 rfl ?_
  refine wp_aload_n D_jdk_43_m2_1 rfl rfl ?_
  refine wp_lengthI (i := 1) (4 : Int32) D_jdk_43_m2_2 rfl rfl ?_
  refine wp_callS (c_sci l Z a0 hw 2 4 cp fm ((s, strO v) :: (v, fA .byte [y0, y1, y2, y3]) :: F) hs (by decide) (by decide)) D_jdk_43_m2_3 (gw hw 110 rfl) (gw hw 111 rfl) (gw hw 7 rfl) (gw hw 112 rfl) (by decide) pd_16 rfl rfl rfl (lb rfl) (lb rfl) (lb rfl) (lb rfl) ?_
  rintro _ _ ⟨rfl, rfl⟩
  show W13 l Z (rm4 2 0 0 27) ((s, strO v) :: (v, fA .byte [y0, y1, y2, y3]) :: F) 0 0 6 #[.val (.ref v), .val (.int 2)] [] (Q_c_lca_4_2 s v y0 y1 y2 y3 F)
  refine wp_aload_n D_jdk_43_m2_6 rfl rfl ?_
  refine wp_iload_n D_jdk_43_m2_7 rfl ?_
  refine wp_baload (i := 1) (2) D_jdk_43_m2_8 rfl (by decide) (by decide) rfl ?_
  refine wp_sipush 255 D_jdk_43_m2_9 (by decide) ?_
  refine wp_iand D_jdk_43_m2_12 ?_
  refine wp_i2c D_jdk_43_m2_13 ?_
  refine wp_ireturnN D_jdk_43_m2_14 rfl (by simp) (by decide) (by decide) ?_
  exact ⟨rfl, rfl⟩
def Q_c_cat_4_2 (s v : Addr) (y0 y1 y2 y3 : Int32) (F : OH) : Option Value → OH → Prop := fun w' H' => w' = some (.int (ub y2)) ∧ H' = ((s, strO v) :: (v, fA .byte [y0, y1, y2, y3]) :: F)
set_option maxRecDepth 65536 in
set_option maxHeartbeats 40000000 in
theorem c_cat_4_2 (l : Launch) (Z : State) (a0 : Array Value) (hw : HW Z a0) (s v : Addr) (y0 y1 y2 y3 : Int32) (cp : Int32) (fm : Value) (F : OH) (hs : Std Z cp fm) :
    Met l Z (⟨"java/lang/String", "charAt", "(I)C"⟩ : MethodName) jdk_42_method_56_code 2 (some .char) (rm4 3 0 0 40) [(.ref s), (.int 2)] ((s, strO v) :: (v, fA .byte [y0, y1, y2, y3]) :: F) (Q_c_cat_4_2 s v y0 y1 y2 y3 F) := by
  refine Met.of_wp (Ls := #[.val (.ref s), .val (.int 2)]) pn_12 (fun m => (entry_loc m _ _).trans rfl) ?_
  show W14 l Z (rm4 3 0 0 40) ((s, strO v) :: (v, fA .byte [y0, y1, y2, y3]) :: F) 0 0 0 #[.val (.ref s), .val (.int 2)] [] (Q_c_cat_4_2 s v y0 y1 y2 y3 F)
  refine wp_aload_n D_jdk_42_m56_0 rfl rfl ?_
  refine wp_virtual (c_lat l Z a0 hw s v cp fm ((v, fA .byte [y0, y1, y2, y3]) :: F) hs ) (exa_new (i := 0) rfl) D_jdk_42_m56_1 (gw hw 41 rfl) (gw hw 42 rfl) (gw hw 44 rfl) (gw hw 44 rfl) (gw hw 43 rfl) (gw hw 7 rfl) (gw hw 45 rfl) (by decide) pd_4 rfl rfl rfl (lb rfl) (lb rfl) (lb rfl) (lb rfl) ?_
  rintro _ _ ⟨rfl, rfl⟩
  show W14 l Z (rm4 3 0 0 40) ((s, strO v) :: (v, fA .byte [y0, y1, y2, y3]) :: F) 0 0 4 #[.val (.ref s), .val (.int 2)] [(.int 1)] (Q_c_cat_4_2 s v y0 y1 y2 y3 F)
  refine wp_if_eq D_jdk_42_m56_4 (pc'' := 16) ⟨by decide, by decide⟩ (fun h1 => by exact absurd h1 (by decide)) (fun h1 => ?_)
  refine wp_aload_n D_jdk_42_m56_7 rfl rfl ?_
  refine wp_getfield D_jdk_42_m56_8 (gw hw 25 rfl) (fld_new (i := 0) (fi := 0) rfl rfl rfl) ?_
  refine wp_iload_n D_jdk_42_m56_11 rfl ?_
  refine wp_callS (c_lca_4_2 l Z a0 hw s v y0 y1 y2 y3 cp fm F hs ) D_jdk_42_m56_12 (gw hw 107 rfl) (gw hw 108 rfl) (gw hw 59 rfl) (gw hw 109 rfl) (by decide) pd_13 rfl rfl rfl (lb rfl) (lb rfl) (lb rfl) (lb rfl) ?_
  rintro _ _ ⟨rfl, rfl⟩
  show W14 l Z (rm4 3 0 0 40) ((s, strO v) :: (v, fA .byte [y0, y1, y2, y3]) :: F) 0 0 15 #[.val (.ref s), .val (.int 2)] [(.int (nar .char (y2 &&& 255).toUInt32.toUInt16.toUInt32.toInt32))] (Q_c_cat_4_2 s v y0 y1 y2 y3 F)
  refine wp_ireturnN D_jdk_42_m56_15 rfl (by simp) (by decide) (by decide) ?_
  exact ⟨rfl, rfl⟩
def Q_c_lca_4_3 (s v : Addr) (y0 y1 y2 y3 : Int32) (F : OH) : Option Value → OH → Prop := fun w' H' => w' = some (.int (nar .char (y3 &&& 255).toUInt32.toUInt16.toUInt32.toInt32)) ∧ H' = ((s, strO v) :: (v, fA .byte [y0, y1, y2, y3]) :: F)
set_option maxRecDepth 65536 in
set_option maxHeartbeats 40000000 in
theorem c_lca_4_3 (l : Launch) (Z : State) (a0 : Array Value) (hw : HW Z a0) (s v : Addr) (y0 y1 y2 y3 : Int32) (cp : Int32) (fm : Value) (F : OH) (hs : Std Z cp fm) :
    Met l Z (⟨"java/lang/StringLatin1", "charAt", "([BI)C"⟩ : MethodName) jdk_43_method_2_code 2 (some .char) (rm4 2 0 0 27) [(.ref v), (.int 3)] ((s, strO v) :: (v, fA .byte [y0, y1, y2, y3]) :: F) (Q_c_lca_4_3 s v y0 y1 y2 y3 F) := by
  refine Met.of_wp (Ls := #[.val (.ref v), .val (.int 3)]) pn_11 (fun m => (entry_loc m _ _).trans rfl) ?_
  show W13 l Z (rm4 2 0 0 27) ((s, strO v) :: (v, fA .byte [y0, y1, y2, y3]) :: F) 0 0 0 #[.val (.ref v), .val (.int 3)] [] (Q_c_lca_4_3 s v y0 y1 y2 y3 F)
  refine wp_iload_n D_jdk_43_m2_0 rfl ?_
  refine wp_aload_n D_jdk_43_m2_1 rfl rfl ?_
  refine wp_lengthI (i := 1) (4 : Int32) D_jdk_43_m2_2 rfl rfl ?_
  refine wp_callS (c_sci l Z a0 hw 3 4 cp fm ((s, strO v) :: (v, fA .byte [y0, y1, y2, y3]) :: F) hs (by decide) (by decide)) D_jdk_43_m2_3 (gw hw 110 rfl) (gw hw 111 rfl) (gw hw 7 rfl) (gw hw 112 rfl) (by decide) pd_16 rfl rfl rfl (lb rfl) (lb rfl) (lb rfl) (lb rfl) ?_
  rintro _ _ ⟨rfl, rfl⟩
  show W13 l Z (rm4 2 0 0 27) ((s, strO v) :: (v, fA .byte [y0, y1, y2, y3]) :: F) 0 0 6 #[.val (.ref v), .val (.int 3)] [] (Q_c_lca_4_3 s v y0 y1 y2 y3 F)
  refine wp_aload_n D_jdk_43_m2_6 rfl rfl ?_
  refine wp_iload_n D_jdk_43_m2_7 rfl ?_
  refine wp_baload (i := 1) (3) D_jdk_43_m2_8 rfl (by decide) (by decide) rfl ?_
  refine wp_sipush 255 D_jdk_43_m2_9 (by decide) ?_
  refine wp_iand D_jdk_43_m2_12 ?_
  refine wp_i2c D_jdk_43_m2_13 ?_
  refine wp_ireturnN D_jdk_43_m2_14 rfl (by simp) (by decide) (by decide) ?_
  exact ⟨rfl, rfl⟩
def Q_c_cat_4_3 (s v : Addr) (y0 y1 y2 y3 : Int32) (F : OH) : Option Value → OH → Prop := fun w' H' => w' = some (.int (ub y3)) ∧ H' = ((s, strO v) :: (v, fA .byte [y0, y1, y2, y3]) :: F)
set_option maxRecDepth 65536 in
set_option maxHeartbeats 40000000 in
theorem c_cat_4_3 (l : Launch) (Z : State) (a0 : Array Value) (hw : HW Z a0) (s v : Addr) (y0 y1 y2 y3 : Int32) (cp : Int32) (fm : Value) (F : OH) (hs : Std Z cp fm) :
    Met l Z (⟨"java/lang/String", "charAt", "(I)C"⟩ : MethodName) jdk_42_method_56_code 2 (some .char) (rm4 3 0 0 40) [(.ref s), (.int 3)] ((s, strO v) :: (v, fA .byte [y0, y1, y2, y3]) :: F) (Q_c_cat_4_3 s v y0 y1 y2 y3 F) := by
  refine Met.of_wp (Ls := #[.val (.ref s), .val (.int 3)]) pn_12 (fun m => (entry_loc m _ _).trans rfl) ?_
  show W14 l Z (rm4 3 0 0 40) ((s, strO v) :: (v, fA .byte [y0, y1, y2, y3]) :: F) 0 0 0 #[.val (.ref s), .val (.int 3)] [] (Q_c_cat_4_3 s v y0 y1 y2 y3 F)
  refine wp_aload_n D_jdk_42_m56_0 rfl rfl ?_
  refine wp_virtual (c_lat l Z a0 hw s v cp fm ((v, fA .byte [y0, y1, y2, y3]) :: F) hs ) (exa_new (i := 0) rfl) D_jdk_42_m56_1 (gw hw 41 rfl) (gw hw 42 rfl) (gw hw 44 rfl) (gw hw 44 rfl) (gw hw 43 rfl) (gw hw 7 rfl) (gw hw 45 rfl) (by decide) pd_4 rfl rfl rfl (lb rfl) (lb rfl) (lb rfl) (lb rfl) ?_
  rintro _ _ ⟨rfl, rfl⟩
  show W14 l Z (rm4 3 0 0 40) ((s, strO v) :: (v, fA .byte [y0, y1, y2, y3]) :: F) 0 0 4 #[.val (.ref s), .val (.int 3)] [(.int 1)] (Q_c_cat_4_3 s v y0 y1 y2 y3 F)
  refine wp_if_eq D_jdk_42_m56_4 (pc'' := 16) ⟨by decide, by decide⟩ (fun h1 => by exact absurd h1 (by decide)) (fun h1 => ?_)
  refine wp_aload_n D_jdk_42_m56_7 rfl rfl ?_
  refine wp_getfield D_jdk_42_m56_8 (gw hw 25 rfl) (fld_new (i := 0) (fi := 0) rfl rfl rfl) ?_
  refine wp_iload_n D_jdk_42_m56_11 rfl ?_
  refine wp_callS (c_lca_4_3 l Z a0 hw s v y0 y1 y2 y3 cp fm F hs ) D_jdk_42_m56_12 (gw hw 107 rfl) (gw hw 108 rfl) (gw hw 59 rfl) (gw hw 109 rfl) (by decide) pd_13 rfl rfl rfl (lb rfl) (lb rfl) (lb rfl) (lb rfl) ?_
  rintro _ _ ⟨rfl, rfl⟩
  show W14 l Z (rm4 3 0 0 40) ((s, strO v) :: (v, fA .byte [y0, y1, y2, y3]) :: F) 0 0 15 #[.val (.ref s), .val (.int 3)] [(.int (nar .char (y3 &&& 255).toUInt32.toUInt16.toUInt32.toInt32))] (Q_c_cat_4_3 s v y0 y1 y2 y3 F)
  refine wp_ireturnN D_jdk_42_m56_15 rfl (by simp) (by decide) (by decide) ?_
  exact ⟨rfl, rfl⟩
theorem pn_13 : plainFor (⟨"java/lang/StringLatin1", "canEncode", "(I)Z"⟩ : MethodName) = true := by first | exact plainFor_of_name (by first | (simp [plainName, overriddenIn]; done) | decide +kernel) | decide +kernel
def Q_c_can  (F : OH) : Option Value → OH → Prop := fun w' H' => w' = some (.int 1) ∧ H' = F
theorem D_jdk_43_m4_0 : Dc jdk_43_method_4_code 0 (.iload_n 0) 1 1 := ⟨by decide +kernel, rfl⟩
theorem D_jdk_43_m4_1 : Dc jdk_43_method_4_code 1 (.ifCond .lt 14) 3 4 := ⟨by decide +kernel, rfl⟩
theorem D_jdk_43_m4_4 : Dc jdk_43_method_4_code 4 (.iload_n 0) 1 5 := ⟨by decide +kernel, rfl⟩
theorem D_jdk_43_m4_5 : Dc jdk_43_method_4_code 5 (.sipush 255) 3 8 := ⟨by decide +kernel, rfl⟩
theorem D_jdk_43_m4_8 : Dc jdk_43_method_4_code 8 (.if_icmp .gt 7) 3 11 := ⟨by decide +kernel, rfl⟩
theorem D_jdk_43_m4_11 : Dc jdk_43_method_4_code 11 (.iconst 1) 1 12 := ⟨by decide +kernel, rfl⟩
theorem D_jdk_43_m4_12 : Dc jdk_43_method_4_code 12 (.goto 4) 3 15 := ⟨by decide +kernel, rfl⟩
theorem D_jdk_43_m4_16 : Dc jdk_43_method_4_code 16 (.ireturn) 1 17 := ⟨by decide +kernel, rfl⟩
abbrev W15 (l : Launch) (Z : State) := Wp none l Z "java/lang/StringLatin1" "canEncode" jdk_43_method_4_code 1 (some .boolean)
set_option maxRecDepth 65536 in
set_option maxHeartbeats 40000000 in
theorem c_can (l : Launch) (Z : State) (a0 : Array Value) (hw : HW Z a0)  (F : OH) :
    Met l Z (⟨"java/lang/StringLatin1", "canEncode", "(I)Z"⟩ : MethodName) jdk_43_method_4_code 1 (some .boolean) (rm4 0 0 0 0) [(.int 35)] F (Q_c_can F) := by
  refine Met.of_wp (Ls := #[.val (.int 35)]) pn_13 (fun m => (entry_loc m _ _).trans rfl) ?_
  show W15 l Z (rm4 0 0 0 0) F 0 0 0 #[.val (.int 35)] [] (Q_c_can F)
  refine wp_iload_n D_jdk_43_m4_0 rfl ?_
  refine wp_if_lt D_jdk_43_m4_1 (pc'' := 15) ⟨by decide, by decide⟩ (fun h1 => by exact absurd h1 (by decide)) (fun h1 => ?_)
  refine wp_iload_n D_jdk_43_m4_4 rfl ?_
  refine wp_sipush 255 D_jdk_43_m4_5 (by decide) ?_
  refine wp_icmp_gt D_jdk_43_m4_8 (pc'' := 15) ⟨by decide, by decide⟩ (fun h2 => by exact absurd h2 (by decide)) (fun h2 => ?_)
  refine wp_iconst 1 D_jdk_43_m4_11 (by decide) ?_
  refine wp_goto D_jdk_43_m4_12 (pc'' := 16) ⟨by decide, by decide⟩ ?_
  refine wp_ireturnN D_jdk_43_m4_16 rfl (by simp) (by decide) (by decide) ?_
  exact ⟨rfl, rfl⟩
theorem pn_14 : plainFor (⟨"java/lang/Math", "max", "(II)I"⟩ : MethodName) = true := by first | exact plainFor_of_name (by first | (simp [plainName, overriddenIn]; done) | decide +kernel) | decide +kernel
def Q_c_max_0_0  (F : OH) : Option Value → OH → Prop := fun w' H' => w' = some (.int 0) ∧ H' = F
theorem D_jdk_29_m65_0 : Dc jdk_29_method_65_code 0 (.iload_n 0) 1 1 := ⟨by decide +kernel, rfl⟩
theorem D_jdk_29_m65_1 : Dc jdk_29_method_65_code 1 (.iload_n 1) 1 2 := ⟨by decide +kernel, rfl⟩
theorem D_jdk_29_m65_2 : Dc jdk_29_method_65_code 2 (.if_icmp .lt 7) 3 5 := ⟨by decide +kernel, rfl⟩
theorem D_jdk_29_m65_5 : Dc jdk_29_method_65_code 5 (.iload_n 0) 1 6 := ⟨by decide +kernel, rfl⟩
theorem D_jdk_29_m65_6 : Dc jdk_29_method_65_code 6 (.goto 4) 3 9 := ⟨by decide +kernel, rfl⟩
theorem D_jdk_29_m65_10 : Dc jdk_29_method_65_code 10 (.ireturn) 1 11 := ⟨by decide +kernel, rfl⟩
abbrev W16 (l : Launch) (Z : State) := Wp none l Z "java/lang/Math" "max" jdk_29_method_65_code 2 (some .int)
set_option maxRecDepth 65536 in
set_option maxHeartbeats 40000000 in
theorem c_max_0_0 (l : Launch) (Z : State) (a0 : Array Value) (hw : HW Z a0)  (F : OH) :
    Met l Z (⟨"java/lang/Math", "max", "(II)I"⟩ : MethodName) jdk_29_method_65_code 2 (some .int) (rm4 0 0 0 0) [(.int 0), (.int 0)] F (Q_c_max_0_0 F) := by
  refine Met.of_wp (Ls := #[.val (.int 0), .val (.int 0)]) pn_14 (fun m => (entry_loc m _ _).trans rfl) ?_
  show W16 l Z (rm4 0 0 0 0) F 0 0 0 #[.val (.int 0), .val (.int 0)] [] (Q_c_max_0_0 F)
  refine wp_iload_n D_jdk_29_m65_0 rfl ?_
  refine wp_iload_n D_jdk_29_m65_1 rfl ?_
  refine wp_icmp_lt D_jdk_29_m65_2 (pc'' := 9) ⟨by decide, by decide⟩ (fun h1 => by exact absurd h1 (by decide)) (fun h1 => ?_)
  refine wp_iload_n D_jdk_29_m65_5 rfl ?_
  refine wp_goto D_jdk_29_m65_6 (pc'' := 10) ⟨by decide, by decide⟩ ?_
  refine wp_ireturn D_jdk_29_m65_10 rfl (by decide) (by decide) ?_
  exact ⟨rfl, rfl⟩
theorem pn_15 : plainFor (⟨"java/lang/Math", "min", "(II)I"⟩ : MethodName) = true := by first | exact plainFor_of_name (by first | (simp [plainName, overriddenIn]; done) | decide +kernel) | decide +kernel
def Q_c_min_0_0  (F : OH) : Option Value → OH → Prop := fun w' H' => w' = some (.int 0) ∧ H' = F
theorem D_jdk_29_m69_0 : Dc jdk_29_method_69_code 0 (.iload_n 0) 1 1 := ⟨by decide +kernel, rfl⟩
theorem D_jdk_29_m69_1 : Dc jdk_29_method_69_code 1 (.iload_n 1) 1 2 := ⟨by decide +kernel, rfl⟩
theorem D_jdk_29_m69_2 : Dc jdk_29_method_69_code 2 (.if_icmp .gt 7) 3 5 := ⟨by decide +kernel, rfl⟩
theorem D_jdk_29_m69_5 : Dc jdk_29_method_69_code 5 (.iload_n 0) 1 6 := ⟨by decide +kernel, rfl⟩
theorem D_jdk_29_m69_6 : Dc jdk_29_method_69_code 6 (.goto 4) 3 9 := ⟨by decide +kernel, rfl⟩
theorem D_jdk_29_m69_9 : Dc jdk_29_method_69_code 9 (.iload_n 1) 1 10 := ⟨by decide +kernel, rfl⟩
theorem D_jdk_29_m69_10 : Dc jdk_29_method_69_code 10 (.ireturn) 1 11 := ⟨by decide +kernel, rfl⟩
abbrev W17 (l : Launch) (Z : State) := Wp none l Z "java/lang/Math" "min" jdk_29_method_69_code 2 (some .int)
set_option maxRecDepth 65536 in
set_option maxHeartbeats 40000000 in
theorem c_min_0_0 (l : Launch) (Z : State) (a0 : Array Value) (hw : HW Z a0)  (F : OH) :
    Met l Z (⟨"java/lang/Math", "min", "(II)I"⟩ : MethodName) jdk_29_method_69_code 2 (some .int) (rm4 0 0 0 0) [(.int 0), (.int 0)] F (Q_c_min_0_0 F) := by
  refine Met.of_wp (Ls := #[.val (.int 0), .val (.int 0)]) pn_15 (fun m => (entry_loc m _ _).trans rfl) ?_
  show W17 l Z (rm4 0 0 0 0) F 0 0 0 #[.val (.int 0), .val (.int 0)] [] (Q_c_min_0_0 F)
  refine wp_iload_n D_jdk_29_m69_0 rfl ?_
  refine wp_iload_n D_jdk_29_m69_1 rfl ?_
  refine wp_icmp_gt D_jdk_29_m69_2 (pc'' := 9) ⟨by decide, by decide⟩ (fun h1 => by exact absurd h1 (by decide)) (fun h1 => ?_)
  refine wp_iload_n D_jdk_29_m69_5 rfl ?_
  refine wp_goto D_jdk_29_m69_6 (pc'' := 10) ⟨by decide, by decide⟩ ?_
  refine wp_ireturn D_jdk_29_m69_10 rfl (by decide) (by decide) ?_
  exact ⟨rfl, rfl⟩
theorem pn_16 : plainFor (⟨"java/lang/StringLatin1", "indexOfChar", "([BIII)I"⟩ : MethodName) = true := by first | exact plainFor_of_name (by first | (simp [plainName, overriddenIn]; done) | decide +kernel) | decide +kernel
theorem pn_17 : plainFor (⟨"java/lang/StringLatin1", "indexOf", "([BIII)I"⟩ : MethodName) = true := by first | exact plainFor_of_name (by first | (simp [plainName, overriddenIn]; done) | decide +kernel) | decide +kernel
def Q_c_lix_0 (s v : Addr) (F : OH) : Option Value → OH → Prop := fun w' H' => w' = some (.int (-1 : Int32)) ∧ H' = ((s, strO v) :: (v, fA .byte []) :: F)
theorem D_jdk_43_m22_0 : Dc jdk_43_method_22_code 0 (.iload_n 1) 1 1 := ⟨by decide +kernel, rfl⟩
theorem D_jdk_43_m22_1 : Dc jdk_43_method_22_code 1 (.invokestatic 88) 3 4 := ⟨by decide +kernel, rfl⟩
theorem D_jdk_43_m22_4 : Dc jdk_43_method_22_code 4 (.ifCond .ne 5) 3 7 := ⟨by decide +kernel, rfl⟩
theorem D_jdk_43_m22_9 : Dc jdk_43_method_22_code 9 (.iload_n 2) 1 10 := ⟨by decide +kernel, rfl⟩
theorem D_jdk_43_m22_10 : Dc jdk_43_method_22_code 10 (.iconst 0) 1 11 := ⟨by decide +kernel, rfl⟩
theorem D_jdk_43_m22_11 : Dc jdk_43_method_22_code 11 (.invokestatic 92) 3 14 := ⟨by decide +kernel, rfl⟩
theorem D_jdk_43_m22_14 : Dc jdk_43_method_22_code 14 (.istore_n 2) 1 15 := ⟨by decide +kernel, rfl⟩
theorem D_jdk_43_m22_15 : Dc jdk_43_method_22_code 15 (.iload_n 3) 1 16 := ⟨by decide +kernel, rfl⟩
theorem D_jdk_43_m22_16 : Dc jdk_43_method_22_code 16 (.aload_n 0) 1 17 := ⟨by decide +kernel, rfl⟩
theorem D_jdk_43_m22_17 : Dc jdk_43_method_22_code 17 (.arraylength) 1 18 := ⟨by decide +kernel, rfl⟩
theorem D_jdk_43_m22_18 : Dc jdk_43_method_22_code 18 (.invokestatic 38) 3 21 := ⟨by decide +kernel, rfl⟩
theorem D_jdk_43_m22_21 : Dc jdk_43_method_22_code 21 (.istore_n 3) 1 22 := ⟨by decide +kernel, rfl⟩
theorem D_jdk_43_m22_22 : Dc jdk_43_method_22_code 22 (.iload_n 2) 1 23 := ⟨by decide +kernel, rfl⟩
theorem D_jdk_43_m22_23 : Dc jdk_43_method_22_code 23 (.iload_n 3) 1 24 := ⟨by decide +kernel, rfl⟩
theorem D_jdk_43_m22_24 : Dc jdk_43_method_22_code 24 (.if_icmp .lt 5) 3 27 := ⟨by decide +kernel, rfl⟩
theorem D_jdk_43_m22_27 : Dc jdk_43_method_22_code 27 (.iconst (-1)) 1 28 := ⟨by decide +kernel, rfl⟩
theorem D_jdk_43_m22_28 : Dc jdk_43_method_22_code 28 (.ireturn) 1 29 := ⟨by decide +kernel, rfl⟩
theorem D_jdk_43_m22_29 : Dc jdk_43_method_22_code 29 (.aload_n 0) 1 30 := ⟨by decide +kernel, rfl⟩
theorem D_jdk_43_m22_30 : Dc jdk_43_method_22_code 30 (.iload_n 1) 1 31 := ⟨by decide +kernel, rfl⟩
theorem D_jdk_43_m22_31 : Dc jdk_43_method_22_code 31 (.iload_n 2) 1 32 := ⟨by decide +kernel, rfl⟩
theorem D_jdk_43_m22_32 : Dc jdk_43_method_22_code 32 (.iload_n 3) 1 33 := ⟨by decide +kernel, rfl⟩
theorem D_jdk_43_m22_33 : Dc jdk_43_method_22_code 33 (.invokestatic 95) 3 36 := ⟨by decide +kernel, rfl⟩
theorem D_jdk_43_m22_36 : Dc jdk_43_method_22_code 36 (.ireturn) 1 37 := ⟨by decide +kernel, rfl⟩
abbrev W18 (l : Launch) (Z : State) := Wp none l Z "java/lang/StringLatin1" "indexOf" jdk_43_method_22_code 4 (some .int)
set_option maxRecDepth 65536 in
set_option maxHeartbeats 40000000 in
theorem c_lix_0 (l : Launch) (Z : State) (a0 : Array Value) (hw : HW Z a0) (s v : Addr) (cp : Int32) (fm : Value) (F : OH) (hs : Std Z cp fm) :
    Met l Z (⟨"java/lang/StringLatin1", "indexOf", "([BIII)I"⟩ : MethodName) jdk_43_method_22_code 4 (some .int) (rm4 1 0 0 13) [(.ref v), (.int 35), (.int 0), (.int 0)] ((s, strO v) :: (v, fA .byte []) :: F) (Q_c_lix_0 s v F) := by
  refine Met.of_wp (Ls := #[.val (.ref v), .val (.int 35), .val (.int 0), .val (.int 0)]) pn_17 (fun m => (entry_loc m _ _).trans rfl) ?_
  show W18 l Z (rm4 1 0 0 13) ((s, strO v) :: (v, fA .byte []) :: F) 0 0 0 #[.val (.ref v), .val (.int 35), .val (.int 0), .val (.int 0)] [] (Q_c_lix_0 s v F)
  refine wp_iload_n D_jdk_43_m22_0 rfl ?_
  refine wp_callS (c_can l Z a0 hw  ((s, strO v) :: (v, fA .byte []) :: F) ) D_jdk_43_m22_1 (gw hw 61 rfl) (gw hw 62 rfl) (gw hw 59 rfl) (gw hw 63 rfl) (by decide) pd_15 rfl rfl rfl (lb rfl) (lb rfl) (lb rfl) (lb rfl) ?_
  rintro _ _ ⟨rfl, rfl⟩
  show W18 l Z (rm4 1 0 0 13) ((s, strO v) :: (v, fA .byte []) :: F) 0 0 4 #[.val (.ref v), .val (.int 35), .val (.int 0), .val (.int 0)] [(.int 1)] (Q_c_lix_0 s v F)
  refine wp_if_ne D_jdk_43_m22_4 (pc'' := 9) ⟨by decide, by decide⟩ (fun h1 => ?_) (fun h1 => by exact absurd h1 (by decide))
  refine wp_iload_n D_jdk_43_m22_9 rfl ?_
  refine wp_iconst 0 D_jdk_43_m22_10 (by decide) ?_
  refine wp_callS (c_max_0_0 l Z a0 hw  ((s, strO v) :: (v, fA .byte []) :: F) ) D_jdk_43_m22_11 (gw hw 64 rfl) (gw hw 65 rfl) (gw hw 66 rfl) (gw hw 67 rfl) (by decide) pd_3 rfl rfl rfl (lb rfl) (lb rfl) (lb rfl) (lb rfl) ?_
  rintro _ _ ⟨rfl, rfl⟩
  show W18 l Z (rm4 1 0 0 13) ((s, strO v) :: (v, fA .byte []) :: F) 0 0 14 #[.val (.ref v), .val (.int 35), .val (.int 0), .val (.int 0)] [(.int 0)] (Q_c_lix_0 s v F)
  refine wp_istore_n #[.val (.ref v), .val (.int 35), .val (.int 0), .val (.int 0)] D_jdk_43_m22_14 rfl ?_
  refine wp_iload_n D_jdk_43_m22_15 rfl ?_
  refine wp_aload_n D_jdk_43_m22_16 rfl rfl ?_
  refine wp_lengthI (i := 1) (0 : Int32) D_jdk_43_m22_17 rfl rfl ?_
  refine wp_callS (c_min_0_0 l Z a0 hw  ((s, strO v) :: (v, fA .byte []) :: F) ) D_jdk_43_m22_18 (gw hw 68 rfl) (gw hw 69 rfl) (gw hw 66 rfl) (gw hw 70 rfl) (by decide) pd_3 rfl rfl rfl (lb rfl) (lb rfl) (lb rfl) (lb rfl) ?_
  rintro _ _ ⟨rfl, rfl⟩
  show W18 l Z (rm4 1 0 0 13) ((s, strO v) :: (v, fA .byte []) :: F) 0 0 21 #[.val (.ref v), .val (.int 35), .val (.int 0), .val (.int 0)] [(.int 0)] (Q_c_lix_0 s v F)
  refine wp_istore_n #[.val (.ref v), .val (.int 35), .val (.int 0), .val (.int 0)] D_jdk_43_m22_21 rfl ?_
  refine wp_iload_n D_jdk_43_m22_22 rfl ?_
  refine wp_iload_n D_jdk_43_m22_23 rfl ?_
  refine wp_icmp_lt D_jdk_43_m22_24 (pc'' := 29) ⟨by decide, by decide⟩ (fun h2 => by exact absurd h2 (by decide)) (fun h2 => ?_)
  refine wp_iconst (-1) D_jdk_43_m22_27 (by decide) ?_
  refine wp_ireturn D_jdk_43_m22_28 rfl (by decide) (by decide) ?_
  exact ⟨rfl, rfl⟩
theorem pn_18 : plainFor (⟨"java/lang/String", "indexOf", "(II)I"⟩ : MethodName) = true := by first | exact plainFor_of_name (by first | (simp [plainName, overriddenIn]; done) | decide +kernel) | decide +kernel
def Q_c_six_0 (s v : Addr) (F : OH) : Option Value → OH → Prop := fun w' H' => w' = some (.int (-1 : Int32)) ∧ H' = ((s, strO v) :: (v, fA .byte []) :: F)
theorem D_jdk_42_m80_0 : Dc jdk_42_method_80_code 0 (.aload_n 0) 1 1 := ⟨by decide +kernel, rfl⟩
theorem D_jdk_42_m80_1 : Dc jdk_42_method_80_code 1 (.invokevirtual 492) 3 4 := ⟨by decide +kernel, rfl⟩
theorem D_jdk_42_m80_4 : Dc jdk_42_method_80_code 4 (.ifCond .eq 19) 3 7 := ⟨by decide +kernel, rfl⟩
theorem D_jdk_42_m80_7 : Dc jdk_42_method_80_code 7 (.aload_n 0) 1 8 := ⟨by decide +kernel, rfl⟩
theorem D_jdk_42_m80_8 : Dc jdk_42_method_80_code 8 (.getfield 9) 3 11 := ⟨by decide +kernel, rfl⟩
theorem D_jdk_42_m80_11 : Dc jdk_42_method_80_code 11 (.iload_n 1) 1 12 := ⟨by decide +kernel, rfl⟩
theorem D_jdk_42_m80_12 : Dc jdk_42_method_80_code 12 (.iload_n 2) 1 13 := ⟨by decide +kernel, rfl⟩
theorem D_jdk_42_m80_13 : Dc jdk_42_method_80_code 13 (.aload_n 0) 1 14 := ⟨by decide +kernel, rfl⟩
theorem D_jdk_42_m80_14 : Dc jdk_42_method_80_code 14 (.invokevirtual 505) 3 17 := ⟨by decide +kernel, rfl⟩
theorem D_jdk_42_m80_17 : Dc jdk_42_method_80_code 17 (.invokestatic 637) 3 20 := ⟨by decide +kernel, rfl⟩
theorem D_jdk_42_m80_20 : Dc jdk_42_method_80_code 20 (.goto 16) 3 23 := ⟨by decide +kernel, rfl⟩
theorem D_jdk_42_m80_36 : Dc jdk_42_method_80_code 36 (.ireturn) 1 37 := ⟨by decide +kernel, rfl⟩
abbrev W19 (l : Launch) (Z : State) := Wp none l Z "java/lang/String" "indexOf" jdk_42_method_80_code 3 (some .int)
set_option maxRecDepth 65536 in
set_option maxHeartbeats 40000000 in
theorem c_six_0 (l : Launch) (Z : State) (a0 : Array Value) (hw : HW Z a0) (s v : Addr) (cp : Int32) (fm : Value) (F : OH) (hs : Std Z cp fm) :
    Met l Z (⟨"java/lang/String", "indexOf", "(II)I"⟩ : MethodName) jdk_42_method_80_code 3 (some .int) (rm4 2 0 0 28) [(.ref s), (.int 35), (.int 0)] ((s, strO v) :: (v, fA .byte []) :: F) (Q_c_six_0 s v F) := by
  refine Met.of_wp (Ls := #[.val (.ref s), .val (.int 35), .val (.int 0)]) pn_18 (fun m => (entry_loc m _ _).trans rfl) ?_
  show W19 l Z (rm4 2 0 0 28) ((s, strO v) :: (v, fA .byte []) :: F) 0 0 0 #[.val (.ref s), .val (.int 35), .val (.int 0)] [] (Q_c_six_0 s v F)
  refine wp_aload_n D_jdk_42_m80_0 rfl rfl ?_
  refine wp_virtual (c_lat l Z a0 hw s v cp fm ((v, fA .byte []) :: F) hs ) (exa_new (i := 0) rfl) D_jdk_42_m80_1 (gw hw 41 rfl) (gw hw 42 rfl) (gw hw 44 rfl) (gw hw 44 rfl) (gw hw 43 rfl) (gw hw 7 rfl) (gw hw 45 rfl) (by decide) pd_4 rfl rfl rfl (lb rfl) (lb rfl) (lb rfl) (lb rfl) ?_
  rintro _ _ ⟨rfl, rfl⟩
  show W19 l Z (rm4 2 0 0 28) ((s, strO v) :: (v, fA .byte []) :: F) 0 0 4 #[.val (.ref s), .val (.int 35), .val (.int 0)] [(.int 1)] (Q_c_six_0 s v F)
  refine wp_if_eq D_jdk_42_m80_4 (pc'' := 23) ⟨by decide, by decide⟩ (fun h1 => by exact absurd h1 (by decide)) (fun h1 => ?_)
  refine wp_aload_n D_jdk_42_m80_7 rfl rfl ?_
  refine wp_getfield D_jdk_42_m80_8 (gw hw 25 rfl) (fld_new (i := 0) (fi := 0) rfl rfl rfl) ?_
  refine wp_iload_n D_jdk_42_m80_11 rfl ?_
  refine wp_iload_n D_jdk_42_m80_12 rfl ?_
  refine wp_aload_n D_jdk_42_m80_13 rfl rfl ?_
  refine wp_virtual (c_len_0 l Z a0 hw s v cp fm F hs ) (exa_new (i := 0) rfl) D_jdk_42_m80_14 (gw hw 47 rfl) (gw hw 48 rfl) (gw hw 50 rfl) (gw hw 50 rfl) (gw hw 49 rfl) (gw hw 7 rfl) (gw hw 51 rfl) (by decide) pd_5 rfl rfl rfl (lb rfl) (lb rfl) (lb rfl) (lb rfl) ?_
  rintro _ _ ⟨rfl, rfl⟩
  show W19 l Z (rm4 2 0 0 28) ((s, strO v) :: (v, fA .byte []) :: F) 0 0 17 #[.val (.ref s), .val (.int 35), .val (.int 0)] [(.int 0), (.int 0), (.int 35), (.ref v)] (Q_c_six_0 s v F)
  refine wp_callS (c_lix_0 l Z a0 hw s v cp fm F hs ) D_jdk_42_m80_17 (gw hw 57 rfl) (gw hw 58 rfl) (gw hw 59 rfl) (gw hw 60 rfl) (by decide) pd_7 rfl rfl rfl (lb rfl) (lb rfl) (lb rfl) (lb rfl) ?_
  rintro _ _ ⟨rfl, rfl⟩
  show W19 l Z (rm4 2 0 0 28) ((s, strO v) :: (v, fA .byte []) :: F) 0 0 20 #[.val (.ref s), .val (.int 35), .val (.int 0)] [(.int (-1))] (Q_c_six_0 s v F)
  refine wp_goto D_jdk_42_m80_20 (pc'' := 36) ⟨by decide, by decide⟩ ?_
  refine wp_ireturn D_jdk_42_m80_36 rfl (by decide) (by decide) ?_
  exact ⟨rfl, rfl⟩
theorem pn_19 : plainFor (⟨"java/lang/String", "indexOf", "(I)I"⟩ : MethodName) = true := by first | exact plainFor_of_name (by first | (simp [plainName, overriddenIn]; done) | decide +kernel) | decide +kernel
def Q_c_si_0 (s v : Addr) (F : OH) : Option Value → OH → Prop := fun w' H' => w' = some (.int (-1 : Int32)) ∧ H' = ((s, strO v) :: (v, fA .byte []) :: F)
theorem D_jdk_42_m79_0 : Dc jdk_42_method_79_code 0 (.aload_n 0) 1 1 := ⟨by decide +kernel, rfl⟩
theorem D_jdk_42_m79_1 : Dc jdk_42_method_79_code 1 (.iload_n 1) 1 2 := ⟨by decide +kernel, rfl⟩
theorem D_jdk_42_m79_2 : Dc jdk_42_method_79_code 2 (.iconst 0) 1 3 := ⟨by decide +kernel, rfl⟩
theorem D_jdk_42_m79_3 : Dc jdk_42_method_79_code 3 (.invokevirtual 633) 3 6 := ⟨by decide +kernel, rfl⟩
theorem D_jdk_42_m79_6 : Dc jdk_42_method_79_code 6 (.ireturn) 1 7 := ⟨by decide +kernel, rfl⟩
abbrev W20 (l : Launch) (Z : State) := Wp none l Z "java/lang/String" "indexOf" jdk_42_method_79_code 2 (some .int)
set_option maxRecDepth 65536 in
set_option maxHeartbeats 40000000 in
theorem c_si_0 (l : Launch) (Z : State) (a0 : Array Value) (hw : HW Z a0) (s v : Addr) (cp : Int32) (fm : Value) (F : OH) (hs : Std Z cp fm) :
    Met l Z (⟨"java/lang/String", "indexOf", "(I)I"⟩ : MethodName) jdk_42_method_79_code 2 (some .int) (rm4 3 0 0 42) [(.ref s), (.int 35)] ((s, strO v) :: (v, fA .byte []) :: F) (Q_c_si_0 s v F) := by
  refine Met.of_wp (Ls := #[.val (.ref s), .val (.int 35)]) pn_19 (fun m => (entry_loc m _ _).trans rfl) ?_
  show W20 l Z (rm4 3 0 0 42) ((s, strO v) :: (v, fA .byte []) :: F) 0 0 0 #[.val (.ref s), .val (.int 35)] [] (Q_c_si_0 s v F)
  refine wp_aload_n D_jdk_42_m79_0 rfl rfl ?_
  refine wp_iload_n D_jdk_42_m79_1 rfl ?_
  refine wp_iconst 0 D_jdk_42_m79_2 (by decide) ?_
  refine wp_virtual (c_six_0 l Z a0 hw s v cp fm F hs ) (exa_new (i := 0) rfl) D_jdk_42_m79_3 (gw hw 36 rfl) (gw hw 37 rfl) (gw hw 39 rfl) (gw hw 39 rfl) (gw hw 38 rfl) (gw hw 7 rfl) (gw hw 40 rfl) (by decide) pd_3 rfl rfl rfl (lb rfl) (lb rfl) (lb rfl) (lb rfl) ?_
  rintro _ _ ⟨rfl, rfl⟩
  show W20 l Z (rm4 3 0 0 42) ((s, strO v) :: (v, fA .byte []) :: F) 0 0 6 #[.val (.ref s), .val (.int 35)] [(.int (-1))] (Q_c_si_0 s v F)
  refine wp_ireturn D_jdk_42_m79_6 rfl (by decide) (by decide) ?_
  exact ⟨rfl, rfl⟩
theorem pd_19 : parseMethodDescriptor "(I)I" = some ⟨[.int], (some .int)⟩ := by decide +kernel
theorem pd_20 : parseMethodDescriptor "(II)Ljava/lang/String;" = some ⟨[.int, .int], (some (.object "java/lang/String"))⟩ := by decide +kernel
theorem pn_20 : plainFor (⟨"com/example/bylint/bylint/description/UriReferences", "withoutFragment", "(Ljava/lang/String;)Ljava/lang/String;"⟩ : MethodName) = true := by first | exact plainFor_of_name (by first | (simp [plainName, overriddenIn]; done) | decide +kernel) | decide +kernel
def Q_c_wf_0_m (s v : Addr) (F : OH) : Option Value → OH → Prop := fun w' H' => w' = some (.ref s) ∧ H' = ((s, strO v) :: (v, fA .byte []) :: F)
theorem D_prog_9_m5_0 : Dc prog_9_method_5_code 0 (.aload_n 0) 1 1 := ⟨by decide +kernel, rfl⟩
theorem D_prog_9_m5_1 : Dc prog_9_method_5_code 1 (.bipush 35) 2 3 := ⟨by decide +kernel, rfl⟩
theorem D_prog_9_m5_3 : Dc prog_9_method_5_code 3 (.invokevirtual 73) 3 6 := ⟨by decide +kernel, rfl⟩
theorem D_prog_9_m5_6 : Dc prog_9_method_5_code 6 (.istore_n 1) 1 7 := ⟨by decide +kernel, rfl⟩
theorem D_prog_9_m5_7 : Dc prog_9_method_5_code 7 (.iload_n 1) 1 8 := ⟨by decide +kernel, rfl⟩
theorem D_prog_9_m5_8 : Dc prog_9_method_5_code 8 (.ifCond .ge 7) 3 11 := ⟨by decide +kernel, rfl⟩
theorem D_prog_9_m5_11 : Dc prog_9_method_5_code 11 (.aload_n 0) 1 12 := ⟨by decide +kernel, rfl⟩
theorem D_prog_9_m5_12 : Dc prog_9_method_5_code 12 (.goto 9) 3 15 := ⟨by decide +kernel, rfl⟩
theorem D_prog_9_m5_15 : Dc prog_9_method_5_code 15 (.aload_n 0) 1 16 := ⟨by decide +kernel, rfl⟩
theorem D_prog_9_m5_16 : Dc prog_9_method_5_code 16 (.iconst 0) 1 17 := ⟨by decide +kernel, rfl⟩
theorem D_prog_9_m5_17 : Dc prog_9_method_5_code 17 (.iload_n 1) 1 18 := ⟨by decide +kernel, rfl⟩
theorem D_prog_9_m5_18 : Dc prog_9_method_5_code 18 (.invokevirtual 77) 3 21 := ⟨by decide +kernel, rfl⟩
theorem D_prog_9_m5_21 : Dc prog_9_method_5_code 21 (.areturn) 1 22 := ⟨by decide +kernel, rfl⟩
abbrev W21 (l : Launch) (Z : State) := Wp none l Z "com/example/bylint/bylint/description/UriReferences" "withoutFragment" prog_9_method_5_code 2 (some (.object "java/lang/String"))
set_option maxRecDepth 65536 in
set_option maxHeartbeats 40000000 in
theorem c_wf_0_m (l : Launch) (Z : State) (a0 : Array Value) (hw : HW Z a0) (s v : Addr) (cp : Int32) (fm : Value) (F : OH) (hs : Std Z cp fm) :
    Met l Z (⟨"com/example/bylint/bylint/description/UriReferences", "withoutFragment", "(Ljava/lang/String;)Ljava/lang/String;"⟩ : MethodName) prog_9_method_5_code 2 (some (.object "java/lang/String")) (rm4 4 0 0 55) [(.ref s)] ((s, strO v) :: (v, fA .byte []) :: F) (Q_c_wf_0_m s v F) := by
  refine Met.of_wp (Ls := #[.val (.ref s), .unset]) pn_20 (fun m => (entry_loc m _ _).trans rfl) ?_
  show W21 l Z (rm4 4 0 0 55) ((s, strO v) :: (v, fA .byte []) :: F) 0 0 0 #[.val (.ref s), .unset] [] (Q_c_wf_0_m s v F)
  refine wp_aload_n D_prog_9_m5_0 rfl rfl ?_
  refine wp_bipush 35 D_prog_9_m5_1 (by decide) ?_
  refine wp_virtual (c_si_0 l Z a0 hw s v cp fm F hs ) (exa_new (i := 0) rfl) D_prog_9_m5_3 (gw hw 31 rfl) (gw hw 32 rfl) (gw hw 34 rfl) (gw hw 34 rfl) (gw hw 33 rfl) (gw hw 7 rfl) (gw hw 35 rfl) (by decide) pd_19 rfl rfl rfl (lb rfl) (lb rfl) (lb rfl) (lb rfl) ?_
  rintro _ _ ⟨rfl, rfl⟩
  show W21 l Z (rm4 4 0 0 55) ((s, strO v) :: (v, fA .byte []) :: F) 0 0 6 #[.val (.ref s), .unset] [(.int (-1))] (Q_c_wf_0_m s v F)
  refine wp_istore_n #[.val (.ref s), .val (.int (-1))] D_prog_9_m5_6 rfl ?_
  refine wp_iload_n D_prog_9_m5_7 rfl ?_
  refine wp_if_ge D_prog_9_m5_8 (pc'' := 15) ⟨by decide, by decide⟩ (fun h1 => by exact absurd h1 (by decide)) (fun h1 => ?_)
  refine wp_aload_n D_prog_9_m5_11 rfl rfl ?_
  refine wp_goto D_prog_9_m5_12 (pc'' := 21) ⟨by decide, by decide⟩ ?_
  refine wp_areturn D_prog_9_m5_21 rfl rfl rfl rfl (by decide) (by decide) ?_
  exact ⟨rfl, rfl⟩
def Q_c_min_1_1  (F : OH) : Option Value → OH → Prop := fun w' H' => w' = some (.int 1) ∧ H' = F
set_option maxRecDepth 65536 in
set_option maxHeartbeats 40000000 in
theorem c_min_1_1 (l : Launch) (Z : State) (a0 : Array Value) (hw : HW Z a0)  (F : OH) :
    Met l Z (⟨"java/lang/Math", "min", "(II)I"⟩ : MethodName) jdk_29_method_69_code 2 (some .int) (rm4 0 0 0 0) [(.int 1), (.int 1)] F (Q_c_min_1_1 F) := by
  refine Met.of_wp (Ls := #[.val (.int 1), .val (.int 1)]) pn_15 (fun m => (entry_loc m _ _).trans rfl) ?_
  show W17 l Z (rm4 0 0 0 0) F 0 0 0 #[.val (.int 1), .val (.int 1)] [] (Q_c_min_1_1 F)
  refine wp_iload_n D_jdk_29_m69_0 rfl ?_
  refine wp_iload_n D_jdk_29_m69_1 rfl ?_
  refine wp_icmp_gt D_jdk_29_m69_2 (pc'' := 9) ⟨by decide, by decide⟩ (fun h1 => by exact absurd h1 (by decide)) (fun h1 => ?_)
  refine wp_iload_n D_jdk_29_m69_5 rfl ?_
  refine wp_goto D_jdk_29_m69_6 (pc'' := 10) ⟨by decide, by decide⟩ ?_
  refine wp_ireturn D_jdk_29_m69_10 rfl (by decide) (by decide) ?_
  exact ⟨rfl, rfl⟩
def Q_ioc_1 (s v : Addr) (y0 : Int32) (r : Int32) (F : OH) : Option Value → OH → Prop := fun w' H' => w' = some (.int r) ∧ H' = ((s, strO v) :: (v, fA .byte [y0]) :: F)
def Q_c_lix_1 (s v : Addr) (y0 : Int32) (r : Int32) (F : OH) : Option Value → OH → Prop := fun w' H' => w' = some (.int r) ∧ H' = ((s, strO v) :: (v, fA .byte [y0]) :: F)
set_option maxRecDepth 65536 in
set_option maxHeartbeats 40000000 in
theorem c_lix_1 (l : Launch) (Z : State) (a0 : Array Value) (hw : HW Z a0) (s v : Addr) (y0 : Int32) (r : Int32) (cp : Int32) (fm : Value) (F : OH) (hs : Std Z cp fm) (hM : Met l Z (⟨"java/lang/StringLatin1", "indexOfChar", "([BIII)I"⟩ : MethodName) jdk_43_method_23_code 6 (some .int) (rm4 0 0 0 0) [.ref v, .int 35, .int 0, .int 1] ((s, strO v) :: (v, fA .byte [y0]) :: F) (Q_ioc_1 s v y0 r F)) :
    Met l Z (⟨"java/lang/StringLatin1", "indexOf", "([BIII)I"⟩ : MethodName) jdk_43_method_22_code 4 (some .int) (rm4 1 0 0 17) [(.ref v), (.int 35), (.int 0), (.int 1)] ((s, strO v) :: (v, fA .byte [y0]) :: F) (Q_c_lix_1 s v y0 r F) := by
  refine Met.of_wp (Ls := #[.val (.ref v), .val (.int 35), .val (.int 0), .val (.int 1)]) pn_17 (fun m => (entry_loc m _ _).trans rfl) ?_
  show W18 l Z (rm4 1 0 0 17) ((s, strO v) :: (v, fA .byte [y0]) :: F) 0 0 0 #[.val (.ref v), .val (.int 35), .val (.int 0), .val (.int 1)] [] (Q_c_lix_1 s v y0 r F)
  refine wp_iload_n D_jdk_43_m22_0 rfl ?_
  refine wp_callS (c_can l Z a0 hw  ((s, strO v) :: (v, fA .byte [y0]) :: F) ) D_jdk_43_m22_1 (gw hw 61 rfl) (gw hw 62 rfl) (gw hw 59 rfl) (gw hw 63 rfl) (by decide) pd_15 rfl rfl rfl (lb rfl) (lb rfl) (lb rfl) (lb rfl) ?_
  rintro _ _ ⟨rfl, rfl⟩
  show W18 l Z (rm4 1 0 0 17) ((s, strO v) :: (v, fA .byte [y0]) :: F) 0 0 4 #[.val (.ref v), .val (.int 35), .val (.int 0), .val (.int 1)] [(.int 1)] (Q_c_lix_1 s v y0 r F)
  refine wp_if_ne D_jdk_43_m22_4 (pc'' := 9) ⟨by decide, by decide⟩ (fun h1 => ?_) (fun h1 => by exact absurd h1 (by decide))
  refine wp_iload_n D_jdk_43_m22_9 rfl ?_
  refine wp_iconst 0 D_jdk_43_m22_10 (by decide) ?_
  refine wp_callS (c_max_0_0 l Z a0 hw  ((s, strO v) :: (v, fA .byte [y0]) :: F) ) D_jdk_43_m22_11 (gw hw 64 rfl) (gw hw 65 rfl) (gw hw 66 rfl) (gw hw 67 rfl) (by decide) pd_3 rfl rfl rfl (lb rfl) (lb rfl) (lb rfl) (lb rfl) ?_
  rintro _ _ ⟨rfl, rfl⟩
  show W18 l Z (rm4 1 0 0 17) ((s, strO v) :: (v, fA .byte [y0]) :: F) 0 0 14 #[.val (.ref v), .val (.int 35), .val (.int 0), .val (.int 1)] [(.int 0)] (Q_c_lix_1 s v y0 r F)
  refine wp_istore_n #[.val (.ref v), .val (.int 35), .val (.int 0), .val (.int 1)] D_jdk_43_m22_14 rfl ?_
  refine wp_iload_n D_jdk_43_m22_15 rfl ?_
  refine wp_aload_n D_jdk_43_m22_16 rfl rfl ?_
  refine wp_lengthI (i := 1) (1 : Int32) D_jdk_43_m22_17 rfl rfl ?_
  refine wp_callS (c_min_1_1 l Z a0 hw  ((s, strO v) :: (v, fA .byte [y0]) :: F) ) D_jdk_43_m22_18 (gw hw 68 rfl) (gw hw 69 rfl) (gw hw 66 rfl) (gw hw 70 rfl) (by decide) pd_3 rfl rfl rfl (lb rfl) (lb rfl) (lb rfl) (lb rfl) ?_
  rintro _ _ ⟨rfl, rfl⟩
  show W18 l Z (rm4 1 0 0 17) ((s, strO v) :: (v, fA .byte [y0]) :: F) 0 0 21 #[.val (.ref v), .val (.int 35), .val (.int 0), .val (.int 1)] [(.int 1)] (Q_c_lix_1 s v y0 r F)
  refine wp_istore_n #[.val (.ref v), .val (.int 35), .val (.int 0), .val (.int 1)] D_jdk_43_m22_21 rfl ?_
  refine wp_iload_n D_jdk_43_m22_22 rfl ?_
  refine wp_iload_n D_jdk_43_m22_23 rfl ?_
  refine wp_icmp_lt D_jdk_43_m22_24 (pc'' := 29) ⟨by decide, by decide⟩ (fun h2 => ?_) (fun h2 => by exact absurd h2 (by decide))
  refine wp_aload_n D_jdk_43_m22_29 rfl rfl ?_
  refine wp_iload_n D_jdk_43_m22_30 rfl ?_
  refine wp_iload_n D_jdk_43_m22_31 rfl ?_
  refine wp_iload_n D_jdk_43_m22_32 rfl ?_
  refine wp_callS hM D_jdk_43_m22_33 (gw hw 82 rfl) (gw hw 83 rfl) (gw hw 59 rfl) (gw hw 84 rfl) (by decide) pd_7 rfl rfl rfl (lb rfl) (lb rfl) (lb rfl) (lb rfl) ?_
  rintro _ _ ⟨rfl, rfl⟩
  show W18 l Z (rm4 1 0 0 17) ((s, strO v) :: (v, fA .byte [y0]) :: F) 0 0 36 #[.val (.ref v), .val (.int 35), .val (.int 0), .val (.int 1)] [(.int r)] (Q_c_lix_1 s v y0 r F)
  refine wp_ireturn D_jdk_43_m22_36 rfl (by decide) (by decide) ?_
  exact ⟨rfl, rfl⟩
def Q_c_six_1 (s v : Addr) (y0 : Int32) (r : Int32) (F : OH) : Option Value → OH → Prop := fun w' H' => w' = some (.int r) ∧ H' = ((s, strO v) :: (v, fA .byte [y0]) :: F)
set_option maxRecDepth 65536 in
set_option maxHeartbeats 40000000 in
theorem c_six_1 (l : Launch) (Z : State) (a0 : Array Value) (hw : HW Z a0) (s v : Addr) (y0 : Int32) (r : Int32) (cp : Int32) (fm : Value) (F : OH) (hs : Std Z cp fm) (hM : Met l Z (⟨"java/lang/StringLatin1", "indexOfChar", "([BIII)I"⟩ : MethodName) jdk_43_method_23_code 6 (some .int) (rm4 0 0 0 0) [.ref v, .int 35, .int 0, .int 1] ((s, strO v) :: (v, fA .byte [y0]) :: F) (Q_ioc_1 s v y0 r F)) :
    Met l Z (⟨"java/lang/String", "indexOf", "(II)I"⟩ : MethodName) jdk_42_method_80_code 3 (some .int) (rm4 2 0 0 32) [(.ref s), (.int 35), (.int 0)] ((s, strO v) :: (v, fA .byte [y0]) :: F) (Q_c_six_1 s v y0 r F) := by
  refine Met.of_wp (Ls := #[.val (.ref s), .val (.int 35), .val (.int 0)]) pn_18 (fun m => (entry_loc m _ _).trans rfl) ?_
  show W19 l Z (rm4 2 0 0 32) ((s, strO v) :: (v, fA .byte [y0]) :: F) 0 0 0 #[.val (.ref s), .val (.int 35), .val (.int 0)] [] (Q_c_six_1 s v y0 r F)
  refine wp_aload_n D_jdk_42_m80_0 rfl rfl ?_
  refine wp_virtual (c_lat l Z a0 hw s v cp fm ((v, fA .byte [y0]) :: F) hs ) (exa_new (i := 0) rfl) D_jdk_42_m80_1 (gw hw 41 rfl) (gw hw 42 rfl) (gw hw 44 rfl) (gw hw 44 rfl) (gw hw 43 rfl) (gw hw 7 rfl) (gw hw 45 rfl) (by decide) pd_4 rfl rfl rfl (lb rfl) (lb rfl) (lb rfl) (lb rfl) ?_
  rintro _ _ ⟨rfl, rfl⟩
  show W19 l Z (rm4 2 0 0 32) ((s, strO v) :: (v, fA .byte [y0]) :: F) 0 0 4 #[.val (.ref s), .val (.int 35), .val (.int 0)] [(.int 1)] (Q_c_six_1 s v y0 r F)
  refine wp_if_eq D_jdk_42_m80_4 (pc'' := 23) ⟨by decide, by decide⟩ (fun h1 => by exact absurd h1 (by decide)) (fun h1 => ?_)
  refine wp_aload_n D_jdk_42_m80_7 rfl rfl ?_
  refine wp_getfield D_jdk_42_m80_8 (gw hw 25 rfl) (fld_new (i := 0) (fi := 0) rfl rfl rfl) ?_
  refine wp_iload_n D_jdk_42_m80_11 rfl ?_
  refine wp_iload_n D_jdk_42_m80_12 rfl ?_
  refine wp_aload_n D_jdk_42_m80_13 rfl rfl ?_
  refine wp_virtual (c_len_1 l Z a0 hw s v y0 cp fm F hs ) (exa_new (i := 0) rfl) D_jdk_42_m80_14 (gw hw 47 rfl) (gw hw 48 rfl) (gw hw 50 rfl) (gw hw 50 rfl) (gw hw 49 rfl) (gw hw 7 rfl) (gw hw 51 rfl) (by decide) pd_5 rfl rfl rfl (lb rfl) (lb rfl) (lb rfl) (lb rfl) ?_
  rintro _ _ ⟨rfl, rfl⟩
  show W19 l Z (rm4 2 0 0 32) ((s, strO v) :: (v, fA .byte [y0]) :: F) 0 0 17 #[.val (.ref s), .val (.int 35), .val (.int 0)] [(.int 1), (.int 0), (.int 35), (.ref v)] (Q_c_six_1 s v y0 r F)
  refine wp_callS (c_lix_1 l Z a0 hw s v y0 r cp fm F hs hM) D_jdk_42_m80_17 (gw hw 57 rfl) (gw hw 58 rfl) (gw hw 59 rfl) (gw hw 60 rfl) (by decide) pd_7 rfl rfl rfl (lb rfl) (lb rfl) (lb rfl) (lb rfl) ?_
  rintro _ _ ⟨rfl, rfl⟩
  show W19 l Z (rm4 2 0 0 32) ((s, strO v) :: (v, fA .byte [y0]) :: F) 0 0 20 #[.val (.ref s), .val (.int 35), .val (.int 0)] [(.int r)] (Q_c_six_1 s v y0 r F)
  refine wp_goto D_jdk_42_m80_20 (pc'' := 36) ⟨by decide, by decide⟩ ?_
  refine wp_ireturn D_jdk_42_m80_36 rfl (by decide) (by decide) ?_
  exact ⟨rfl, rfl⟩
def Q_c_si_1 (s v : Addr) (y0 : Int32) (r : Int32) (F : OH) : Option Value → OH → Prop := fun w' H' => w' = some (.int r) ∧ H' = ((s, strO v) :: (v, fA .byte [y0]) :: F)
set_option maxRecDepth 65536 in
set_option maxHeartbeats 40000000 in
theorem c_si_1 (l : Launch) (Z : State) (a0 : Array Value) (hw : HW Z a0) (s v : Addr) (y0 : Int32) (r : Int32) (cp : Int32) (fm : Value) (F : OH) (hs : Std Z cp fm) (hM : Met l Z (⟨"java/lang/StringLatin1", "indexOfChar", "([BIII)I"⟩ : MethodName) jdk_43_method_23_code 6 (some .int) (rm4 0 0 0 0) [.ref v, .int 35, .int 0, .int 1] ((s, strO v) :: (v, fA .byte [y0]) :: F) (Q_ioc_1 s v y0 r F)) :
    Met l Z (⟨"java/lang/String", "indexOf", "(I)I"⟩ : MethodName) jdk_42_method_79_code 2 (some .int) (rm4 3 0 0 46) [(.ref s), (.int 35)] ((s, strO v) :: (v, fA .byte [y0]) :: F) (Q_c_si_1 s v y0 r F) := by
  refine Met.of_wp (Ls := #[.val (.ref s), .val (.int 35)]) pn_19 (fun m => (entry_loc m _ _).trans rfl) ?_
  show W20 l Z (rm4 3 0 0 46) ((s, strO v) :: (v, fA .byte [y0]) :: F) 0 0 0 #[.val (.ref s), .val (.int 35)] [] (Q_c_si_1 s v y0 r F)
  refine wp_aload_n D_jdk_42_m79_0 rfl rfl ?_
  refine wp_iload_n D_jdk_42_m79_1 rfl ?_
  refine wp_iconst 0 D_jdk_42_m79_2 (by decide) ?_
  refine wp_virtual (c_six_1 l Z a0 hw s v y0 r cp fm F hs hM) (exa_new (i := 0) rfl) D_jdk_42_m79_3 (gw hw 36 rfl) (gw hw 37 rfl) (gw hw 39 rfl) (gw hw 39 rfl) (gw hw 38 rfl) (gw hw 7 rfl) (gw hw 40 rfl) (by decide) pd_3 rfl rfl rfl (lb rfl) (lb rfl) (lb rfl) (lb rfl) ?_
  rintro _ _ ⟨rfl, rfl⟩
  show W20 l Z (rm4 3 0 0 46) ((s, strO v) :: (v, fA .byte [y0]) :: F) 0 0 6 #[.val (.ref s), .val (.int 35)] [(.int r)] (Q_c_si_1 s v y0 r F)
  refine wp_ireturn D_jdk_42_m79_6 rfl (by decide) (by decide) ?_
  exact ⟨rfl, rfl⟩
theorem D_jdk_43_m23_0 : Dc jdk_43_method_23_code 0 (.iload_n 1) 1 1 := ⟨by decide +kernel, rfl⟩
theorem D_jdk_43_m23_1 : Dc jdk_43_method_23_code 1 (.i2b) 1 2 := ⟨by decide +kernel, rfl⟩
theorem D_jdk_43_m23_2 : Dc jdk_43_method_23_code 2 (.istore 4) 2 4 := ⟨by decide +kernel, rfl⟩
theorem D_jdk_43_m23_4 : Dc jdk_43_method_23_code 4 (.iload_n 2) 1 5 := ⟨by decide +kernel, rfl⟩
theorem D_jdk_43_m23_5 : Dc jdk_43_method_23_code 5 (.istore 5) 2 7 := ⟨by decide +kernel, rfl⟩
theorem D_jdk_43_m23_7 : Dc jdk_43_method_23_code 7 (.iload 5) 2 9 := ⟨by decide +kernel, rfl⟩
theorem D_jdk_43_m23_9 : Dc jdk_43_method_23_code 9 (.iload_n 3) 1 10 := ⟨by decide +kernel, rfl⟩
theorem D_jdk_43_m23_10 : Dc jdk_43_method_23_code 10 (.if_icmp .ge 21) 3 13 := ⟨by decide +kernel, rfl⟩
theorem D_jdk_43_m23_13 : Dc jdk_43_method_23_code 13 (.aload_n 0) 1 14 := ⟨by decide +kernel, rfl⟩
theorem D_jdk_43_m23_14 : Dc jdk_43_method_23_code 14 (.iload 5) 2 16 := ⟨by decide +kernel, rfl⟩
theorem D_jdk_43_m23_16 : Dc jdk_43_method_23_code 16 (.baload) 1 17 := ⟨by decide +kernel, rfl⟩
theorem D_jdk_43_m23_17 : Dc jdk_43_method_23_code 17 (.iload 4) 2 19 := ⟨by decide +kernel, rfl⟩
theorem D_jdk_43_m23_19 : Dc jdk_43_method_23_code 19 (.if_icmp .ne 6) 3 22 := ⟨by decide +kernel, rfl⟩
theorem D_jdk_43_m23_22 : Dc jdk_43_method_23_code 22 (.iload 5) 2 24 := ⟨by decide +kernel, rfl⟩
theorem D_jdk_43_m23_24 : Dc jdk_43_method_23_code 24 (.ireturn) 1 25 := ⟨by decide +kernel, rfl⟩
theorem D_jdk_43_m23_25 : Dc jdk_43_method_23_code 25 (.iinc 5 1) 3 28 := ⟨by decide +kernel, rfl⟩
theorem D_jdk_43_m23_28 : Dc jdk_43_method_23_code 28 (.goto (-21)) 3 31 := ⟨by decide +kernel, rfl⟩
theorem D_jdk_43_m23_31 : Dc jdk_43_method_23_code 31 (.iconst (-1)) 1 32 := ⟨by decide +kernel, rfl⟩
theorem D_jdk_43_m23_32 : Dc jdk_43_method_23_code 32 (.ireturn) 1 33 := ⟨by decide +kernel, rfl⟩
abbrev W22 (l : Launch) (Z : State) := Wp none l Z "java/lang/StringLatin1" "indexOfChar" jdk_43_method_23_code 6 (some .int)
set_option maxRecDepth 65536 in
set_option maxHeartbeats 40000000 in
theorem c_ioc_1_m (l : Launch) (Z : State) (a0 : Array Value) (hw : HW Z a0) (s v : Addr) (y0 : Int32) (F : OH) (hq0 : ¬ y0 = 35) :
    Met l Z (⟨"java/lang/StringLatin1", "indexOfChar", "([BIII)I"⟩ : MethodName) jdk_43_method_23_code 6 (some .int) (rm4 0 0 0 0) [(.ref v), (.int 35), (.int 0), (.int 1)] ((s, strO v) :: (v, fA .byte [y0]) :: F) (Q_ioc_1 s v y0 (-1 : Int32) F) := by
  refine Met.of_wp (Ls := #[.val (.ref v), .val (.int 35), .val (.int 0), .val (.int 1), .unset, .unset]) pn_16 (fun m => (entry_loc m _ _).trans rfl) ?_
  show W22 l Z (rm4 0 0 0 0) ((s, strO v) :: (v, fA .byte [y0]) :: F) 0 0 0 #[.val (.ref v), .val (.int 35), .val (.int 0), .val (.int 1), .unset, .unset] [] (Q_ioc_1 s v y0 (-1 : Int32) F)
  refine wp_iload_n D_jdk_43_m23_0 rfl ?_
  refine wp_i2b D_jdk_43_m23_1 ?_
  rw [show (35 : Int32).toInt8.toInt32 = (35 : Int32) from by decide]
  refine wp_istore #[.val (.ref v), .val (.int 35), .val (.int 0), .val (.int 1), .val (.int 35), .unset] D_jdk_43_m23_2 rfl ?_
  refine wp_iload_n D_jdk_43_m23_4 rfl ?_
  refine wp_istore #[.val (.ref v), .val (.int 35), .val (.int 0), .val (.int 1), .val (.int 35), .val (.int 0)] D_jdk_43_m23_5 rfl ?_
  refine wp_iload D_jdk_43_m23_7 rfl ?_
  refine wp_iload_n D_jdk_43_m23_9 rfl ?_
  refine wp_icmp_ge D_jdk_43_m23_10 (pc'' := 31) ⟨by decide, by decide⟩ (fun h1 => by exact absurd h1 (by decide)) (fun h1 => ?_)
  refine wp_aload_n D_jdk_43_m23_13 rfl rfl ?_
  refine wp_iload D_jdk_43_m23_14 rfl ?_
  refine wp_baload (i := 1) (0) D_jdk_43_m23_16 rfl (by decide) (by decide) rfl ?_
  refine wp_iload D_jdk_43_m23_17 rfl ?_
  refine wp_icmp_ne D_jdk_43_m23_19 (pc'' := 25) ⟨by decide, by decide⟩ (fun h2 => ?_) (fun h2 => by exact absurd h2 hq0)
  refine wp_iinc 1 #[.val (.ref v), .val (.int 35), .val (.int 0), .val (.int 1), .val (.int 35), .val (.int 1)] D_jdk_43_m23_25 rfl rfl (by rw [show (0 : Int32) + (1 : Int32) = (1 : Int32) from by decide]; rfl) ?_
  refine wp_goto D_jdk_43_m23_28 (pc'' := 7) ⟨by decide, by decide⟩ ?_
  refine wp_iload D_jdk_43_m23_7 rfl ?_
  refine wp_iload_n D_jdk_43_m23_9 rfl ?_
  refine wp_icmp_ge D_jdk_43_m23_10 (pc'' := 31) ⟨by decide, by decide⟩ (fun h3 => ?_) (fun h3 => by exact absurd h3 (by decide))
  refine wp_iconst (-1) D_jdk_43_m23_31 (by decide) ?_
  refine wp_ireturn D_jdk_43_m23_32 rfl (by decide) (by decide) ?_
  exact ⟨rfl, rfl⟩
def Q_c_wf_1_m (s v : Addr) (y0 : Int32) (F : OH) : Option Value → OH → Prop := fun w' H' => w' = some (.ref s) ∧ H' = ((s, strO v) :: (v, fA .byte [y0]) :: F)
set_option maxRecDepth 65536 in
set_option maxHeartbeats 40000000 in
theorem c_wf_1_m (l : Launch) (Z : State) (a0 : Array Value) (hw : HW Z a0) (s v : Addr) (y0 : Int32) (cp : Int32) (fm : Value) (F : OH) (hs : Std Z cp fm) (hq0 : ¬ y0 = 35) :
    Met l Z (⟨"com/example/bylint/bylint/description/UriReferences", "withoutFragment", "(Ljava/lang/String;)Ljava/lang/String;"⟩ : MethodName) prog_9_method_5_code 2 (some (.object "java/lang/String")) (rm4 4 0 0 59) [(.ref s)] ((s, strO v) :: (v, fA .byte [y0]) :: F) (Q_c_wf_1_m s v y0 F) := by
  refine Met.of_wp (Ls := #[.val (.ref s), .unset]) pn_20 (fun m => (entry_loc m _ _).trans rfl) ?_
  show W21 l Z (rm4 4 0 0 59) ((s, strO v) :: (v, fA .byte [y0]) :: F) 0 0 0 #[.val (.ref s), .unset] [] (Q_c_wf_1_m s v y0 F)
  refine wp_aload_n D_prog_9_m5_0 rfl rfl ?_
  refine wp_bipush 35 D_prog_9_m5_1 (by decide) ?_
  refine wp_virtual (c_si_1 l Z a0 hw s v y0 (-1 : Int32) cp fm F hs (c_ioc_1_m l Z a0 hw s v y0 F hq0)) (exa_new (i := 0) rfl) D_prog_9_m5_3 (gw hw 31 rfl) (gw hw 32 rfl) (gw hw 34 rfl) (gw hw 34 rfl) (gw hw 33 rfl) (gw hw 7 rfl) (gw hw 35 rfl) (by decide) pd_19 rfl rfl rfl (lb rfl) (lb rfl) (lb rfl) (lb rfl) ?_
  rintro _ _ ⟨rfl, rfl⟩
  show W21 l Z (rm4 4 0 0 59) ((s, strO v) :: (v, fA .byte [y0]) :: F) 0 0 6 #[.val (.ref s), .unset] [(.int (-1))] (Q_c_wf_1_m s v y0 F)
  refine wp_istore_n #[.val (.ref s), .val (.int (-1))] D_prog_9_m5_6 rfl ?_
  refine wp_iload_n D_prog_9_m5_7 rfl ?_
  refine wp_if_ge D_prog_9_m5_8 (pc'' := 15) ⟨by decide, by decide⟩ (fun h1 => by exact absurd h1 (by decide)) (fun h1 => ?_)
  refine wp_aload_n D_prog_9_m5_11 rfl rfl ?_
  refine wp_goto D_prog_9_m5_12 (pc'' := 21) ⟨by decide, by decide⟩ ?_
  refine wp_areturn D_prog_9_m5_21 rfl rfl rfl rfl (by decide) (by decide) ?_
  exact ⟨rfl, rfl⟩
set_option maxRecDepth 65536 in
set_option maxHeartbeats 40000000 in
theorem c_ioc_1_0 (l : Launch) (Z : State) (a0 : Array Value) (hw : HW Z a0) (s v : Addr) (y0 : Int32) (F : OH) (hq0 : y0 = 35) :
    Met l Z (⟨"java/lang/StringLatin1", "indexOfChar", "([BIII)I"⟩ : MethodName) jdk_43_method_23_code 6 (some .int) (rm4 0 0 0 0) [(.ref v), (.int 35), (.int 0), (.int 1)] ((s, strO v) :: (v, fA .byte [y0]) :: F) (Q_ioc_1 s v y0 (0 : Int32) F) := by
  refine Met.of_wp (Ls := #[.val (.ref v), .val (.int 35), .val (.int 0), .val (.int 1), .unset, .unset]) pn_16 (fun m => (entry_loc m _ _).trans rfl) ?_
  show W22 l Z (rm4 0 0 0 0) ((s, strO v) :: (v, fA .byte [y0]) :: F) 0 0 0 #[.val (.ref v), .val (.int 35), .val (.int 0), .val (.int 1), .unset, .unset] [] (Q_ioc_1 s v y0 (0 : Int32) F)
  refine wp_iload_n D_jdk_43_m23_0 rfl ?_
  refine wp_i2b D_jdk_43_m23_1 ?_
  rw [show (35 : Int32).toInt8.toInt32 = (35 : Int32) from by decide]
  refine wp_istore #[.val (.ref v), .val (.int 35), .val (.int 0), .val (.int 1), .val (.int 35), .unset] D_jdk_43_m23_2 rfl ?_
  refine wp_iload_n D_jdk_43_m23_4 rfl ?_
  refine wp_istore #[.val (.ref v), .val (.int 35), .val (.int 0), .val (.int 1), .val (.int 35), .val (.int 0)] D_jdk_43_m23_5 rfl ?_
  refine wp_iload D_jdk_43_m23_7 rfl ?_
  refine wp_iload_n D_jdk_43_m23_9 rfl ?_
  refine wp_icmp_ge D_jdk_43_m23_10 (pc'' := 31) ⟨by decide, by decide⟩ (fun h1 => by exact absurd h1 (by decide)) (fun h1 => ?_)
  refine wp_aload_n D_jdk_43_m23_13 rfl rfl ?_
  refine wp_iload D_jdk_43_m23_14 rfl ?_
  refine wp_baload (i := 1) (0) D_jdk_43_m23_16 rfl (by decide) (by decide) rfl ?_
  refine wp_iload D_jdk_43_m23_17 rfl ?_
  refine wp_icmp_ne D_jdk_43_m23_19 (pc'' := 25) ⟨by decide, by decide⟩ (fun h2 => by exact absurd hq0 h2) (fun h2 => ?_)
  refine wp_iload D_jdk_43_m23_22 rfl ?_
  refine wp_ireturn D_jdk_43_m23_24 rfl (by decide) (by decide) ?_
  exact ⟨rfl, rfl⟩
theorem pn_21 : plainFor (⟨"jdk/internal/util/Preconditions", "checkFromToIndex", "(IIILjava/util/function/BiFunction;)I"⟩ : MethodName) = true := by first | exact plainFor_of_name (by first | (simp [plainName, overriddenIn]; done) | decide +kernel) | decide +kernel
def Q_c_cftN (b e n : Int32) (F : OH) : Option Value → OH → Prop := fun w' H' => w' = some (.int b) ∧ H' = F
theorem D_jdk_41_m12_0 : Dc jdk_41_method_12_code 0 (.iload_n 0) 1 1 := ⟨by decide +kernel, rfl⟩
theorem D_jdk_41_m12_1 : Dc jdk_41_method_12_code 1 (.ifCond .lt 13) 3 4 := ⟨by decide +kernel, rfl⟩
theorem D_jdk_41_m12_4 : Dc jdk_41_method_12_code 4 (.iload_n 0) 1 5 := ⟨by decide +kernel, rfl⟩
theorem D_jdk_41_m12_5 : Dc jdk_41_method_12_code 5 (.iload_n 1) 1 6 := ⟨by decide +kernel, rfl⟩
theorem D_jdk_41_m12_6 : Dc jdk_41_method_12_code 6 (.if_icmp .gt 8) 3 9 := ⟨by decide +kernel, rfl⟩
theorem D_jdk_41_m12_9 : Dc jdk_41_method_12_code 9 (.iload_n 1) 1 10 := ⟨by decide +kernel, rfl⟩
theorem D_jdk_41_m12_10 : Dc jdk_41_method_12_code 10 (.iload_n 2) 1 11 := ⟨by decide +kernel, rfl⟩
theorem D_jdk_41_m12_11 : Dc jdk_41_method_12_code 11 (.if_icmp .le 11) 3 14 := ⟨by decide +kernel, rfl⟩
theorem D_jdk_41_m12_22 : Dc jdk_41_method_12_code 22 (.iload_n 0) 1 23 := ⟨by decide +kernel, rfl⟩
theorem D_jdk_41_m12_23 : Dc jdk_41_method_12_code 23 (.ireturn) 1 24 := ⟨by decide +kernel, rfl⟩
abbrev W23 (l : Launch) (Z : State) := Wp none l Z "jdk/internal/util/Preconditions" "checkFromToIndex" jdk_41_method_12_code 4 (some .int)
set_option maxRecDepth 65536 in
set_option maxHeartbeats 40000000 in
theorem c_cftN (l : Launch) (Z : State) (a0 : Array Value) (hw : HW Z a0) (b e n : Int32) (F : OH) (hb0 : ¬ b < 0) (hb1 : ¬ e < b) (hb2 : ¬ n < e) :
    Met l Z (⟨"jdk/internal/util/Preconditions", "checkFromToIndex", "(IIILjava/util/function/BiFunction;)I"⟩ : MethodName) jdk_41_method_12_code 4 (some .int) (rm4 0 0 0 0) [(.int b), (.int e), (.int n), (.null)] F (Q_c_cftN b e n F) := by
  refine Met.of_wp (Ls := #[.val (.int b), .val (.int e), .val (.int n), .val (.null)]) pn_21 (fun m => (entry_loc m _ _).trans rfl) ?_
  show W23 l Z (rm4 0 0 0 0) F 0 0 0 #[.val (.int b), .val (.int e), .val (.int n), .val (.null)] [] (Q_c_cftN b e n F)
  refine wp_iload_n D_jdk_41_m12_0 rfl ?_
  refine wp_if_lt D_jdk_41_m12_1 (pc'' := 14) ⟨by decide, by decide⟩ (fun h1 => by exact absurd h1 hb0) (fun h1 => ?_)
  refine wp_iload_n D_jdk_41_m12_4 rfl ?_
  refine wp_iload_n D_jdk_41_m12_5 rfl ?_
  refine wp_icmp_gt D_jdk_41_m12_6 (pc'' := 14) ⟨by decide, by decide⟩ (fun h2 => by exact absurd h2 hb1) (fun h2 => ?_)
  refine wp_iload_n D_jdk_41_m12_9 rfl ?_
  refine wp_iload_n D_jdk_41_m12_10 rfl ?_
  refine wp_icmp_le D_jdk_41_m12_11 (pc'' := 22) ⟨by decide, by decide⟩ (fun h3 => ?_) (fun h3 => by exact absurd h3 hb2)
  refine wp_iload_n D_jdk_41_m12_22 rfl ?_
  refine wp_ireturn D_jdk_41_m12_23 rfl (by decide) (by decide) ?_
  exact ⟨rfl, rfl⟩
def Q_c_cftR (b e n : Int32) (af : Addr) (F : OH) : Option Value → OH → Prop := fun w' H' => w' = some (.int b) ∧ H' = F
set_option maxRecDepth 65536 in
set_option maxHeartbeats 40000000 in
theorem c_cftR (l : Launch) (Z : State) (a0 : Array Value) (hw : HW Z a0) (b e n : Int32) (af : Addr) (F : OH) (hb0 : ¬ b < 0) (hb1 : ¬ e < b) (hb2 : ¬ n < e) :
    Met l Z (⟨"jdk/internal/util/Preconditions", "checkFromToIndex", "(IIILjava/util/function/BiFunction;)I"⟩ : MethodName) jdk_41_method_12_code 4 (some .int) (rm4 0 0 0 0) [(.int b), (.int e), (.int n), (.ref af)] F (Q_c_cftR b e n af F) := by
  refine Met.of_wp (Ls := #[.val (.int b), .val (.int e), .val (.int n), .val (.ref af)]) pn_21 (fun m => (entry_loc m _ _).trans rfl) ?_
  show W23 l Z (rm4 0 0 0 0) F 0 0 0 #[.val (.int b), .val (.int e), .val (.int n), .val (.ref af)] [] (Q_c_cftR b e n af F)
  refine wp_iload_n D_jdk_41_m12_0 rfl ?_
  refine wp_if_lt D_jdk_41_m12_1 (pc'' := 14) ⟨by decide, by decide⟩ (fun h1 => by exact absurd h1 hb0) (fun h1 => ?_)
  refine wp_iload_n D_jdk_41_m12_4 rfl ?_
  refine wp_iload_n D_jdk_41_m12_5 rfl ?_
  refine wp_icmp_gt D_jdk_41_m12_6 (pc'' := 14) ⟨by decide, by decide⟩ (fun h2 => by exact absurd h2 hb1) (fun h2 => ?_)
  refine wp_iload_n D_jdk_41_m12_9 rfl ?_
  refine wp_iload_n D_jdk_41_m12_10 rfl ?_
  refine wp_icmp_le D_jdk_41_m12_11 (pc'' := 22) ⟨by decide, by decide⟩ (fun h3 => ?_) (fun h3 => by exact absurd h3 hb2)
  refine wp_iload_n D_jdk_41_m12_22 rfl ?_
  refine wp_ireturn D_jdk_41_m12_23 rfl (by decide) (by decide) ?_
  exact ⟨rfl, rfl⟩
theorem pn_22 : plainFor (⟨"java/lang/String", "checkBoundsBeginEnd", "(III)V"⟩ : MethodName) = true := by first | exact plainFor_of_name (by first | (simp [plainName, overriddenIn]; done) | decide +kernel) | decide +kernel
def Q_c_cbe (b e n : Int32) (F : OH) : Option Value → OH → Prop := fun w' H' => w' = none ∧ H' = F
theorem D_jdk_42_m158_0 : Dc jdk_42_method_158_code 0 (.iload_n 0) 1 1 := ⟨by decide +kernel, rfl⟩
theorem D_jdk_42_m158_1 : Dc jdk_42_method_158_code 1 (.iload_n 1) 1 2 := ⟨by decide +kernel, rfl⟩
theorem D_jdk_42_m158_2 : Dc jdk_42_method_158_code 2 (.iload_n 2) 1 3 := ⟨by decide +kernel, rfl⟩
theorem D_jdk_42_m158_3 : Dc jdk_42_method_158_code 3 (.getstatic 1053) 3 6 := ⟨by decide +kernel, rfl⟩
theorem D_jdk_42_m158_6 : Dc jdk_42_method_158_code 6 (.invokestatic 1062) 3 9 := ⟨by decide +kernel, rfl⟩
theorem D_jdk_42_m158_9 : Dc jdk_42_method_158_code 9 (.pop) 1 10 := ⟨by decide +kernel, rfl⟩
theorem D_jdk_42_m158_10 : Dc jdk_42_method_158_code 10 (.return_) 1 11 := ⟨by decide +kernel, rfl⟩
abbrev W24 (l : Launch) (Z : State) := Wp none l Z "java/lang/String" "checkBoundsBeginEnd" jdk_42_method_158_code 3 none
set_option maxRecDepth 65536 in
set_option maxHeartbeats 40000000 in
theorem c_cbe (l : Launch) (Z : State) (a0 : Array Value) (hw : HW Z a0) (b e n : Int32) (cp : Int32) (fm : Value) (F : OH) (hs : Std Z cp fm) (hb0 : ¬ b < 0) (hb1 : ¬ e < b) (hb2 : ¬ n < e) :
    Met l Z (⟨"java/lang/String", "checkBoundsBeginEnd", "(III)V"⟩ : MethodName) jdk_42_method_158_code 3 none (rm4 1 0 0 15) [(.int b), (.int e), (.int n)] F (Q_c_cbe b e n F) := by
  refine Met.of_wp (Ls := #[.val (.int b), .val (.int e), .val (.int n)]) pn_22 (fun m => (entry_loc m _ _).trans rfl) ?_
  show W24 l Z (rm4 1 0 0 15) F 0 0 0 #[.val (.int b), .val (.int e), .val (.int n)] [] (Q_c_cbe b e n F)
  rcases ref_cases hs.2.2.2 with rfl | ⟨af, rfl⟩
  · skip
    show W24 l Z (rm4 1 0 0 15) F 0 0 0 #[.val (.int b), .val (.int e), .val (.int n)] [] (Q_c_cbe b e n F)
    refine wp_iload_n D_jdk_42_m158_0 rfl ?_
    refine wp_iload_n D_jdk_42_m158_1 rfl ?_
    refine wp_iload_n D_jdk_42_m158_2 rfl ?_
    refine wp_getstatic D_jdk_42_m158_3 (gw hw 93 rfl) hs.2.2.1 ?_
    refine wp_callS (c_cftN l Z a0 hw b e n F hb0 hb1 hb2) D_jdk_42_m158_6 (gw hw 95 rfl) (gw hw 96 rfl) (gw hw 94 rfl) (gw hw 97 rfl) (by decide) pd_11 rfl rfl rfl (lb rfl) (lb rfl) (lb rfl) (lb rfl) ?_
    rintro _ H_ ⟨rfl, eH⟩
    rw [eH]
    show W24 l Z (rm4 1 0 0 15) F 0 0 9 #[.val (.int b), .val (.int e), .val (.int n)] [(.int b)] (Q_c_cbe b e n F)
    refine wp_pop D_jdk_42_m158_9 rfl ?_
    refine wp_return D_jdk_42_m158_10 rfl (by decide) (by decide) ?_
    exact ⟨rfl, rfl⟩
  · skip
    show W24 l Z (rm4 1 0 0 15) F 0 0 0 #[.val (.int b), .val (.int e), .val (.int n)] [] (Q_c_cbe b e n F)
    refine wp_iload_n D_jdk_42_m158_0 rfl ?_
    refine wp_iload_n D_jdk_42_m158_1 rfl ?_
    refine wp_iload_n D_jdk_42_m158_2 rfl ?_
    refine wp_getstatic D_jdk_42_m158_3 (gw hw 93 rfl) hs.2.2.1 ?_
    refine wp_callS (c_cftR l Z a0 hw b e n af F hb0 hb1 hb2) D_jdk_42_m158_6 (gw hw 95 rfl) (gw hw 96 rfl) (gw hw 94 rfl) (gw hw 97 rfl) (by decide) pd_11 rfl rfl rfl (lb rfl) (lb rfl) (lb rfl) (lb rfl) ?_
    rintro _ H_ ⟨rfl, eH⟩
    rw [eH]
    show W24 l Z (rm4 1 0 0 15) F 0 0 9 #[.val (.int b), .val (.int e), .val (.int n)] [(.int b)] (Q_c_cbe b e n F)
    refine wp_pop D_jdk_42_m158_9 rfl ?_
    refine wp_return D_jdk_42_m158_10 rfl (by decide) (by decide) ?_
    exact ⟨rfl, rfl⟩
theorem pn_23 : plainFor (⟨"java/lang/StringLatin1", "newString", "([BII)Ljava/lang/String;"⟩ : MethodName) = true := by first | exact plainFor_of_name (by first | (simp [plainName, overriddenIn]; done) | decide +kernel) | decide +kernel
def Q_c_nst_1_0_0 (s v : Addr) (y0 : Int32) (F : OH) : Option Value → OH → Prop := fun w' H' => ∃ a u, w' = some (.ref a) ∧ H' = ((a, strO u) :: (u, fA .byte []) :: (s, strO v) :: (v, fA .byte [y0]) :: F)
theorem D_jdk_43_m47_0 : Dc jdk_43_method_47_code 0 (.iload_n 2) 1 1 := ⟨by decide +kernel, rfl⟩
theorem D_jdk_43_m47_1 : Dc jdk_43_method_47_code 1 (.ifCond .ne 6) 3 4 := ⟨by decide +kernel, rfl⟩
theorem D_jdk_43_m47_4 : Dc jdk_43_method_47_code 4 (.ldc 151) 2 6 := ⟨by decide +kernel, rfl⟩
theorem D_jdk_43_m47_6 : Dc jdk_43_method_47_code 6 (.areturn) 1 7 := ⟨by decide +kernel, rfl⟩
theorem D_jdk_43_m47_7 : Dc jdk_43_method_47_code 7 (.new 1) 3 10 := ⟨by decide +kernel, rfl⟩
theorem D_jdk_43_m47_10 : Dc jdk_43_method_47_code 10 (.dup) 1 11 := ⟨by decide +kernel, rfl⟩
theorem D_jdk_43_m47_11 : Dc jdk_43_method_47_code 11 (.aload_n 0) 1 12 := ⟨by decide +kernel, rfl⟩
theorem D_jdk_43_m47_12 : Dc jdk_43_method_47_code 12 (.iload_n 1) 1 13 := ⟨by decide +kernel, rfl⟩
theorem D_jdk_43_m47_13 : Dc jdk_43_method_47_code 13 (.iload_n 1) 1 14 := ⟨by decide +kernel, rfl⟩
theorem D_jdk_43_m47_14 : Dc jdk_43_method_47_code 14 (.iload_n 2) 1 15 := ⟨by decide +kernel, rfl⟩
theorem D_jdk_43_m47_15 : Dc jdk_43_method_47_code 15 (.iadd) 1 16 := ⟨by decide +kernel, rfl⟩
theorem D_jdk_43_m47_16 : Dc jdk_43_method_47_code 16 (.invokestatic 232) 3 19 := ⟨by decide +kernel, rfl⟩
theorem D_jdk_43_m47_19 : Dc jdk_43_method_47_code 19 (.iconst 0) 1 20 := ⟨by decide +kernel, rfl⟩
theorem D_jdk_43_m47_20 : Dc jdk_43_method_47_code 20 (.invokespecial 112) 3 23 := ⟨by decide +kernel, rfl⟩
theorem D_jdk_43_m47_23 : Dc jdk_43_method_47_code 23 (.areturn) 1 24 := ⟨by decide +kernel, rfl⟩
abbrev W25 (l : Launch) (Z : State) := Wp (some consts_1) l Z "java/lang/StringLatin1" "newString" jdk_43_method_47_code 3 (some (.object "java/lang/String"))
set_option maxRecDepth 65536 in
set_option maxHeartbeats 40000000 in
theorem c_nst_1_0_0 (l : Launch) (Z : State) (a0 : Array Value) (hw : HW Z a0) (s v : Addr) (y0 : Int32) (cp : Int32) (fm : Value) (F : OH) (hs : Std Z cp fm) :
    MetI consts_1 l Z (⟨"java/lang/StringLatin1", "newString", "([BII)Ljava/lang/String;"⟩ : MethodName) jdk_43_method_47_code 3 (some (.object "java/lang/String")) (rm4 0 2 4 0) [(.ref v), (.int 0), (.int 0)] ((s, strO v) :: (v, fA .byte [y0]) :: F) (Q_c_nst_1_0_0 s v y0 F) := by
  refine MetI.of_wp (Ls := #[.val (.ref v), .val (.int 0), .val (.int 0)]) pn_23 (fun m => (entry_loc m _ _).trans rfl) (own_EL l Z a0 hw) ?_
  show W25 l Z (rm4 0 2 4 0) ((s, strO v) :: (v, fA .byte [y0]) :: F) 0 0 0 #[.val (.ref v), .val (.int 0), .val (.int 0)] [] (Q_c_nst_1_0_0 s v y0 F)
  refine wp_iload_n D_jdk_43_m47_0 rfl ?_
  refine wp_if_ne D_jdk_43_m47_1 (pc'' := 7) ⟨by decide, by decide⟩ (fun h1 => by exact absurd h1 (by decide)) (fun h1 => ?_)
  refine wp_ldcH (n := 0) [] D_jdk_43_m47_4 (gw hw 101 rfl) (own_wS l Z a0 hw) (own_slo l Z a0 hw) (own_EL l Z a0 hw) (List.mem_of_getElem? (i := 1) rfl) ⟨by decide, by decide⟩ (by decide) (by decide) (by decide) (by decide) (by decide) ?_
  intro s2 v3
  show W25 l Z (rm4 0 2 4 0) ((s2, strO v3) :: (v3, fA .byte []) :: (s, strO v) :: (v, fA .byte [y0]) :: F) 2 4 6 #[.val (.ref v), .val (.int 0), .val (.int 0)] [(.ref s2)] (Q_c_nst_1_0_0 s v y0 F)
  refine wp_areturn D_jdk_43_m47_6 rfl rfl rfl rfl (by decide) (by decide) ?_
  exact ⟨_, _, rfl, rfl⟩
theorem pn_24 : plainFor (⟨"java/lang/String", "substring", "(II)Ljava/lang/String;"⟩ : MethodName) = true := by first | exact plainFor_of_name (by first | (simp [plainName, overriddenIn]; done) | decide +kernel) | decide +kernel
def Q_c_sub_1_0_0 (s v : Addr) (y0 : Int32) (F : OH) : Option Value → OH → Prop := fun w' H' => ∃ a u, w' = some (.ref a) ∧ H' = ((a, strO u) :: (u, fA .byte []) :: (s, strO v) :: (v, fA .byte [y0]) :: F)
theorem D_jdk_42_m92_0 : Dc jdk_42_method_92_code 0 (.aload_n 0) 1 1 := ⟨by decide +kernel, rfl⟩
theorem D_jdk_42_m92_1 : Dc jdk_42_method_92_code 1 (.invokevirtual 505) 3 4 := ⟨by decide +kernel, rfl⟩
theorem D_jdk_42_m92_4 : Dc jdk_42_method_92_code 4 (.istore_n 3) 1 5 := ⟨by decide +kernel, rfl⟩
theorem D_jdk_42_m92_5 : Dc jdk_42_method_92_code 5 (.iload_n 1) 1 6 := ⟨by decide +kernel, rfl⟩
theorem D_jdk_42_m92_6 : Dc jdk_42_method_92_code 6 (.iload_n 2) 1 7 := ⟨by decide +kernel, rfl⟩
theorem D_jdk_42_m92_7 : Dc jdk_42_method_92_code 7 (.iload_n 3) 1 8 := ⟨by decide +kernel, rfl⟩
theorem D_jdk_42_m92_8 : Dc jdk_42_method_92_code 8 (.invokestatic 521) 3 11 := ⟨by decide +kernel, rfl⟩
theorem D_jdk_42_m92_11 : Dc jdk_42_method_92_code 11 (.iload_n 1) 1 12 := ⟨by decide +kernel, rfl⟩
theorem D_jdk_42_m92_12 : Dc jdk_42_method_92_code 12 (.ifCond .ne 10) 3 15 := ⟨by decide +kernel, rfl⟩
theorem D_jdk_42_m92_15 : Dc jdk_42_method_92_code 15 (.iload_n 2) 1 16 := ⟨by decide +kernel, rfl⟩
theorem D_jdk_42_m92_16 : Dc jdk_42_method_92_code 16 (.iload_n 3) 1 17 := ⟨by decide +kernel, rfl⟩
theorem D_jdk_42_m92_17 : Dc jdk_42_method_92_code 17 (.if_icmp .ne 5) 3 20 := ⟨by decide +kernel, rfl⟩
theorem D_jdk_42_m92_22 : Dc jdk_42_method_92_code 22 (.iload_n 2) 1 23 := ⟨by decide +kernel, rfl⟩
theorem D_jdk_42_m92_23 : Dc jdk_42_method_92_code 23 (.iload_n 1) 1 24 := ⟨by decide +kernel, rfl⟩
theorem D_jdk_42_m92_24 : Dc jdk_42_method_92_code 24 (.isub) 1 25 := ⟨by decide +kernel, rfl⟩
theorem D_jdk_42_m92_25 : Dc jdk_42_method_92_code 25 (.istore 4) 2 27 := ⟨by decide +kernel, rfl⟩
theorem D_jdk_42_m92_27 : Dc jdk_42_method_92_code 27 (.aload_n 0) 1 28 := ⟨by decide +kernel, rfl⟩
theorem D_jdk_42_m92_28 : Dc jdk_42_method_92_code 28 (.invokevirtual 492) 3 31 := ⟨by decide +kernel, rfl⟩
theorem D_jdk_42_m92_31 : Dc jdk_42_method_92_code 31 (.ifCond .eq 16) 3 34 := ⟨by decide +kernel, rfl⟩
theorem D_jdk_42_m92_34 : Dc jdk_42_method_92_code 34 (.aload_n 0) 1 35 := ⟨by decide +kernel, rfl⟩
theorem D_jdk_42_m92_35 : Dc jdk_42_method_92_code 35 (.getfield 9) 3 38 := ⟨by decide +kernel, rfl⟩
theorem D_jdk_42_m92_38 : Dc jdk_42_method_92_code 38 (.iload_n 1) 1 39 := ⟨by decide +kernel, rfl⟩
theorem D_jdk_42_m92_39 : Dc jdk_42_method_92_code 39 (.iload 4) 2 41 := ⟨by decide +kernel, rfl⟩
theorem D_jdk_42_m92_41 : Dc jdk_42_method_92_code 41 (.invokestatic 685) 3 44 := ⟨by decide +kernel, rfl⟩
theorem D_jdk_42_m92_44 : Dc jdk_42_method_92_code 44 (.goto 13) 3 47 := ⟨by decide +kernel, rfl⟩
theorem D_jdk_42_m92_57 : Dc jdk_42_method_92_code 57 (.areturn) 1 58 := ⟨by decide +kernel, rfl⟩
abbrev W26 (l : Launch) (Z : State) := Wp (some consts_1) l Z "java/lang/String" "substring" jdk_42_method_92_code 5 (some (.object "java/lang/String"))
set_option maxRecDepth 65536 in
set_option maxHeartbeats 40000000 in
theorem c_sub_1_0_0 (l : Launch) (Z : State) (a0 : Array Value) (hw : HW Z a0) (s v : Addr) (y0 : Int32) (cp : Int32) (fm : Value) (F : OH) (hs : Std Z cp fm) :
    MetI consts_1 l Z (⟨"java/lang/String", "substring", "(II)Ljava/lang/String;"⟩ : MethodName) jdk_42_method_92_code 5 (some (.object "java/lang/String")) (rm4 2 2 4 29) [(.ref s), (.int 0), (.int 0)] ((s, strO v) :: (v, fA .byte [y0]) :: F) (Q_c_sub_1_0_0 s v y0 F) := by
  refine MetI.of_wp (Ls := #[.val (.ref s), .val (.int 0), .val (.int 0), .unset, .unset]) pn_24 (fun m => (entry_loc m _ _).trans rfl) (own_EL l Z a0 hw) ?_
  show W26 l Z (rm4 2 2 4 29) ((s, strO v) :: (v, fA .byte [y0]) :: F) 0 0 0 #[.val (.ref s), .val (.int 0), .val (.int 0), .unset, .unset] [] (Q_c_sub_1_0_0 s v y0 F)
  refine wp_aload_n D_jdk_42_m92_0 rfl rfl ?_
  refine wp_virtual (c_len_1 l Z a0 hw s v y0 cp fm F hs ) (exa_new (i := 0) rfl) D_jdk_42_m92_1 (gw hw 47 rfl) (gw hw 48 rfl) (gw hw 50 rfl) (gw hw 50 rfl) (gw hw 49 rfl) (gw hw 7 rfl) (gw hw 51 rfl) (by decide) pd_5 rfl rfl rfl (lb rfl) (lb rfl) (lb rfl) (lb rfl) ?_
  rintro _ _ ⟨rfl, rfl⟩
  show W26 l Z (rm4 2 2 4 29) ((s, strO v) :: (v, fA .byte [y0]) :: F) 0 0 4 #[.val (.ref s), .val (.int 0), .val (.int 0), .unset, .unset] [(.int 1)] (Q_c_sub_1_0_0 s v y0 F)
  refine wp_istore_n #[.val (.ref s), .val (.int 0), .val (.int 0), .val (.int 1), .unset] D_jdk_42_m92_4 rfl ?_
  refine wp_iload_n D_jdk_42_m92_5 rfl ?_
  refine wp_iload_n D_jdk_42_m92_6 rfl ?_
  refine wp_iload_n D_jdk_42_m92_7 rfl ?_
  refine wp_callS (c_cbe l Z a0 hw 0 0 1 cp fm ((s, strO v) :: (v, fA .byte [y0]) :: F) hs (by decide) (by decide) (by decide)) D_jdk_42_m92_8 (gw hw 90 rfl) (gw hw 91 rfl) (gw hw 7 rfl) (gw hw 92 rfl) (by decide) pd_10 rfl rfl rfl (lb rfl) (lb rfl) (lb rfl) (lb rfl) ?_
  rintro _ _ ⟨rfl, rfl⟩
  show W26 l Z (rm4 2 2 4 29) ((s, strO v) :: (v, fA .byte [y0]) :: F) 0 0 11 #[.val (.ref s), .val (.int 0), .val (.int 0), .val (.int 1), .unset] [] (Q_c_sub_1_0_0 s v y0 F)
  refine wp_iload_n D_jdk_42_m92_11 rfl ?_
  refine wp_if_ne D_jdk_42_m92_12 (pc'' := 22) ⟨by decide, by decide⟩ (fun h1 => by exact absurd h1 (by decide)) (fun h1 => ?_)
  refine wp_iload_n D_jdk_42_m92_15 rfl ?_
  refine wp_iload_n D_jdk_42_m92_16 rfl ?_
  refine wp_icmp_ne D_jdk_42_m92_17 (pc'' := 22) ⟨by decide, by decide⟩ (fun h2 => ?_) (fun h2 => by exact absurd h2 (by decide))
  refine wp_iload_n D_jdk_42_m92_22 rfl ?_
  refine wp_iload_n D_jdk_42_m92_23 rfl ?_
  refine wp_isub D_jdk_42_m92_24 ?_
  rw [show ((0 : Int32) - (0 : Int32)) = (0 : Int32) from by decide]
  refine wp_istore #[.val (.ref s), .val (.int 0), .val (.int 0), .val (.int 1), .val (.int 0)] D_jdk_42_m92_25 rfl ?_
  refine wp_aload_n D_jdk_42_m92_27 rfl rfl ?_
  refine wp_virtual (c_lat l Z a0 hw s v cp fm ((v, fA .byte [y0]) :: F) hs ) (exa_new (i := 0) rfl) D_jdk_42_m92_28 (gw hw 41 rfl) (gw hw 42 rfl) (gw hw 44 rfl) (gw hw 44 rfl) (gw hw 43 rfl) (gw hw 7 rfl) (gw hw 45 rfl) (by decide) pd_4 rfl rfl rfl (lb rfl) (lb rfl) (lb rfl) (lb rfl) ?_
  rintro _ _ ⟨rfl, rfl⟩
  show W26 l Z (rm4 2 2 4 29) ((s, strO v) :: (v, fA .byte [y0]) :: F) 0 0 31 #[.val (.ref s), .val (.int 0), .val (.int 0), .val (.int 1), .val (.int 0)] [(.int 1)] (Q_c_sub_1_0_0 s v y0 F)
  refine wp_if_eq D_jdk_42_m92_31 (pc'' := 47) ⟨by decide, by decide⟩ (fun h3 => by exact absurd h3 (by decide)) (fun h3 => ?_)
  refine wp_aload_n D_jdk_42_m92_34 rfl rfl ?_
  refine wp_getfield D_jdk_42_m92_35 (gw hw 25 rfl) (fld_new (i := 0) (fi := 0) rfl rfl rfl) ?_
  refine wp_iload_n D_jdk_42_m92_38 rfl ?_
  refine wp_iload D_jdk_42_m92_39 rfl ?_
  refine wp_callSI (c_nst_1_0_0 l Z a0 hw s v y0 cp fm F hs ) (own_EL l Z a0 hw) D_jdk_42_m92_41 (gw hw 98 rfl) (gw hw 99 rfl) (gw hw 59 rfl) (gw hw 100 rfl) (by decide) pd_12 rfl rfl rfl (lb rfl) (lb rfl) (lb rfl) (lb rfl) ?_
  rintro _ _ ⟨sa4, su5, rfl, rfl⟩
  show W26 l Z (rm4 2 2 4 29) ((sa4, strO su5) :: (su5, fA .byte []) :: (s, strO v) :: (v, fA .byte [y0]) :: F) 2 4 44 #[.val (.ref s), .val (.int 0), .val (.int 0), .val (.int 1), .val (.int 0)] [(.ref sa4)] (Q_c_sub_1_0_0 s v y0 F)
  refine wp_goto D_jdk_42_m92_44 (pc'' := 57) ⟨by decide, by decide⟩ ?_
  refine wp_areturn D_jdk_42_m92_57 rfl rfl rfl rfl (by decide) (by decide) ?_
  exact ⟨_, _, rfl, rfl⟩
def Q_c_wf_1_0 (s v : Addr) (y0 : Int32) (F : OH) : Option Value → OH → Prop := fun w' H' => ∃ a u, w' = some (.ref a) ∧ H' = ((a, strO u) :: (u, fA .byte []) :: (s, strO v) :: (v, fA .byte [y0]) :: F)
abbrev W27 (l : Launch) (Z : State) := Wp (some consts_1) l Z "com/example/bylint/bylint/description/UriReferences" "withoutFragment" prog_9_method_5_code 2 (some (.object "java/lang/String"))
set_option maxRecDepth 65536 in
set_option maxHeartbeats 40000000 in
theorem c_wf_1_0 (l : Launch) (Z : State) (a0 : Array Value) (hw : HW Z a0) (s v : Addr) (y0 : Int32) (cp : Int32) (fm : Value) (F : OH) (hs : Std Z cp fm) (hq0 : y0 = 35) :
    MetI consts_1 l Z (⟨"com/example/bylint/bylint/description/UriReferences", "withoutFragment", "(Ljava/lang/String;)Ljava/lang/String;"⟩ : MethodName) prog_9_method_5_code 2 (some (.object "java/lang/String")) (rm4 4 2 4 59) [(.ref s)] ((s, strO v) :: (v, fA .byte [y0]) :: F) (Q_c_wf_1_0 s v y0 F) := by
  refine MetI.of_wp (Ls := #[.val (.ref s), .unset]) pn_20 (fun m => (entry_loc m _ _).trans rfl) (own_EL l Z a0 hw) ?_
  show W27 l Z (rm4 4 2 4 59) ((s, strO v) :: (v, fA .byte [y0]) :: F) 0 0 0 #[.val (.ref s), .unset] [] (Q_c_wf_1_0 s v y0 F)
  refine wp_aload_n D_prog_9_m5_0 rfl rfl ?_
  refine wp_bipush 35 D_prog_9_m5_1 (by decide) ?_
  refine wp_virtual (c_si_1 l Z a0 hw s v y0 (0 : Int32) cp fm F hs (c_ioc_1_0 l Z a0 hw s v y0 F hq0)) (exa_new (i := 0) rfl) D_prog_9_m5_3 (gw hw 31 rfl) (gw hw 32 rfl) (gw hw 34 rfl) (gw hw 34 rfl) (gw hw 33 rfl) (gw hw 7 rfl) (gw hw 35 rfl) (by decide) pd_19 rfl rfl rfl (lb rfl) (lb rfl) (lb rfl) (lb rfl) ?_
  rintro _ _ ⟨rfl, rfl⟩
  show W27 l Z (rm4 4 2 4 59) ((s, strO v) :: (v, fA .byte [y0]) :: F) 0 0 6 #[.val (.ref s), .unset] [(.int 0)] (Q_c_wf_1_0 s v y0 F)
  refine wp_istore_n #[.val (.ref s), .val (.int 0)] D_prog_9_m5_6 rfl ?_
  refine wp_iload_n D_prog_9_m5_7 rfl ?_
  refine wp_if_ge D_prog_9_m5_8 (pc'' := 15) ⟨by decide, by decide⟩ (fun h1 => ?_) (fun h1 => by exact absurd h1 (by decide))
  refine wp_aload_n D_prog_9_m5_15 rfl rfl ?_
  refine wp_iconst 0 D_prog_9_m5_16 (by decide) ?_
  refine wp_iload_n D_prog_9_m5_17 rfl ?_
  refine wp_virtualI (c_sub_1_0_0 l Z a0 hw s v y0 cp fm F hs ) (exa_new (i := 0) rfl) (own_EL l Z a0 hw) D_prog_9_m5_18 (gw hw 85 rfl) (gw hw 86 rfl) (gw hw 88 rfl) (gw hw 88 rfl) (gw hw 87 rfl) (gw hw 7 rfl) (gw hw 89 rfl) (by decide) pd_20 rfl rfl rfl (lb rfl) (lb rfl) (lb rfl) (lb rfl) ?_
  rintro _ _ ⟨sa2, su3, rfl, rfl⟩
  show W27 l Z (rm4 4 2 4 59) ((sa2, strO su3) :: (su3, fA .byte []) :: (s, strO v) :: (v, fA .byte [y0]) :: F) 2 4 21 #[.val (.ref s), .val (.int 0)] [(.ref sa2)] (Q_c_wf_1_0 s v y0 F)
  refine wp_areturn D_prog_9_m5_21 rfl rfl rfl rfl (by decide) (by decide) ?_
  exact ⟨_, _, rfl, rfl⟩
def Q_c_min_2_2  (F : OH) : Option Value → OH → Prop := fun w' H' => w' = some (.int 2) ∧ H' = F
set_option maxRecDepth 65536 in
set_option maxHeartbeats 40000000 in
theorem c_min_2_2 (l : Launch) (Z : State) (a0 : Array Value) (hw : HW Z a0)  (F : OH) :
    Met l Z (⟨"java/lang/Math", "min", "(II)I"⟩ : MethodName) jdk_29_method_69_code 2 (some .int) (rm4 0 0 0 0) [(.int 2), (.int 2)] F (Q_c_min_2_2 F) := by
  refine Met.of_wp (Ls := #[.val (.int 2), .val (.int 2)]) pn_15 (fun m => (entry_loc m _ _).trans rfl) ?_
  show W17 l Z (rm4 0 0 0 0) F 0 0 0 #[.val (.int 2), .val (.int 2)] [] (Q_c_min_2_2 F)
  refine wp_iload_n D_jdk_29_m69_0 rfl ?_
  refine wp_iload_n D_jdk_29_m69_1 rfl ?_
  refine wp_icmp_gt D_jdk_29_m69_2 (pc'' := 9) ⟨by decide, by decide⟩ (fun h1 => by exact absurd h1 (by decide)) (fun h1 => ?_)
  refine wp_iload_n D_jdk_29_m69_5 rfl ?_
  refine wp_goto D_jdk_29_m69_6 (pc'' := 10) ⟨by decide, by decide⟩ ?_
  refine wp_ireturn D_jdk_29_m69_10 rfl (by decide) (by decide) ?_
  exact ⟨rfl, rfl⟩
def Q_ioc_2 (s v : Addr) (y0 y1 : Int32) (r : Int32) (F : OH) : Option Value → OH → Prop := fun w' H' => w' = some (.int r) ∧ H' = ((s, strO v) :: (v, fA .byte [y0, y1]) :: F)
def Q_c_lix_2 (s v : Addr) (y0 y1 : Int32) (r : Int32) (F : OH) : Option Value → OH → Prop := fun w' H' => w' = some (.int r) ∧ H' = ((s, strO v) :: (v, fA .byte [y0, y1]) :: F)
set_option maxRecDepth 65536 in
set_option maxHeartbeats 40000000 in
theorem c_lix_2 (l : Launch) (Z : State) (a0 : Array Value) (hw : HW Z a0) (s v : Addr) (y0 y1 : Int32) (r : Int32) (cp : Int32) (fm : Value) (F : OH) (hs : Std Z cp fm) (hM : Met l Z (⟨"java/lang/StringLatin1", "indexOfChar", "([BIII)I"⟩ : MethodName) jdk_43_method_23_code 6 (some .int) (rm4 0 0 0 0) [.ref v, .int 35, .int 0, .int 2] ((s, strO v) :: (v, fA .byte [y0, y1]) :: F) (Q_ioc_2 s v y0 y1 r F)) :
    Met l Z (⟨"java/lang/StringLatin1", "indexOf", "([BIII)I"⟩ : MethodName) jdk_43_method_22_code 4 (some .int) (rm4 1 0 0 17) [(.ref v), (.int 35), (.int 0), (.int 2)] ((s, strO v) :: (v, fA .byte [y0, y1]) :: F) (Q_c_lix_2 s v y0 y1 r F) := by
  refine Met.of_wp (Ls := #[.val (.ref v), .val (.int 35), .val (.int 0), .val (.int 2)]) pn_17 (fun m => (entry_loc m _ _).trans rfl) ?_
  show W18 l Z (rm4 1 0 0 17) ((s, strO v) :: (v, fA .byte [y0, y1]) :: F) 0 0 0 #[.val (.ref v), .val (.int 35), .val (.int 0), .val (.int 2)] [] (Q_c_lix_2 s v y0 y1 r F)
  refine wp_iload_n D_jdk_43_m22_0 rfl ?_
  refine wp_callS (c_can l Z a0 hw  ((s, strO v) :: (v, fA .byte [y0, y1]) :: F) ) D_jdk_43_m22_1 (gw hw 61 rfl) (gw hw 62 rfl) (gw hw 59 rfl) (gw hw 63 rfl) (by decide) pd_15 rfl rfl rfl (lb rfl) (lb rfl) (lb rfl) (lb rfl) ?_
  rintro _ _ ⟨rfl, rfl⟩
  show W18 l Z (rm4 1 0 0 17) ((s, strO v) :: (v, fA .byte [y0, y1]) :: F) 0 0 4 #[.val (.ref v), .val (.int 35), .val (.int 0), .val (.int 2)] [(.int 1)] (Q_c_lix_2 s v y0 y1 r F)
  refine wp_if_ne D_jdk_43_m22_4 (pc'' := 9) ⟨by decide, by decide⟩ (fun h1 => ?_) (fun h1 => by exact absurd h1 (by decide))
  refine wp_iload_n D_jdk_43_m22_9 rfl ?_
  refine wp_iconst 0 D_jdk_43_m22_10 (by decide) ?_
  refine wp_callS (c_max_0_0 l Z a0 hw  ((s, strO v) :: (v, fA .byte [y0, y1]) :: F) ) D_jdk_43_m22_11 (gw hw 64 rfl) (gw hw 65 rfl) (gw hw 66 rfl) (gw hw 67 rfl) (by decide) pd_3 rfl rfl rfl (lb rfl) (lb rfl) (lb rfl) (lb rfl) ?_
  rintro _ _ ⟨rfl, rfl⟩
  show W18 l Z (rm4 1 0 0 17) ((s, strO v) :: (v, fA .byte [y0, y1]) :: F) 0 0 14 #[.val (.ref v), .val (.int 35), .val (.int 0), .val (.int 2)] [(.int 0)] (Q_c_lix_2 s v y0 y1 r F)
  refine wp_istore_n #[.val (.ref v), .val (.int 35), .val (.int 0), .val (.int 2)] D_jdk_43_m22_14 rfl ?_
  refine wp_iload_n D_jdk_43_m22_15 rfl ?_
  refine wp_aload_n D_jdk_43_m22_16 rfl rfl ?_
  refine wp_lengthI (i := 1) (2 : Int32) D_jdk_43_m22_17 rfl rfl ?_
  refine wp_callS (c_min_2_2 l Z a0 hw  ((s, strO v) :: (v, fA .byte [y0, y1]) :: F) ) D_jdk_43_m22_18 (gw hw 68 rfl) (gw hw 69 rfl) (gw hw 66 rfl) (gw hw 70 rfl) (by decide) pd_3 rfl rfl rfl (lb rfl) (lb rfl) (lb rfl) (lb rfl) ?_
  rintro _ _ ⟨rfl, rfl⟩
  show W18 l Z (rm4 1 0 0 17) ((s, strO v) :: (v, fA .byte [y0, y1]) :: F) 0 0 21 #[.val (.ref v), .val (.int 35), .val (.int 0), .val (.int 2)] [(.int 2)] (Q_c_lix_2 s v y0 y1 r F)
  refine wp_istore_n #[.val (.ref v), .val (.int 35), .val (.int 0), .val (.int 2)] D_jdk_43_m22_21 rfl ?_
  refine wp_iload_n D_jdk_43_m22_22 rfl ?_
  refine wp_iload_n D_jdk_43_m22_23 rfl ?_
  refine wp_icmp_lt D_jdk_43_m22_24 (pc'' := 29) ⟨by decide, by decide⟩ (fun h2 => ?_) (fun h2 => by exact absurd h2 (by decide))
  refine wp_aload_n D_jdk_43_m22_29 rfl rfl ?_
  refine wp_iload_n D_jdk_43_m22_30 rfl ?_
  refine wp_iload_n D_jdk_43_m22_31 rfl ?_
  refine wp_iload_n D_jdk_43_m22_32 rfl ?_
  refine wp_callS hM D_jdk_43_m22_33 (gw hw 82 rfl) (gw hw 83 rfl) (gw hw 59 rfl) (gw hw 84 rfl) (by decide) pd_7 rfl rfl rfl (lb rfl) (lb rfl) (lb rfl) (lb rfl) ?_
  rintro _ _ ⟨rfl, rfl⟩
  show W18 l Z (rm4 1 0 0 17) ((s, strO v) :: (v, fA .byte [y0, y1]) :: F) 0 0 36 #[.val (.ref v), .val (.int 35), .val (.int 0), .val (.int 2)] [(.int r)] (Q_c_lix_2 s v y0 y1 r F)
  refine wp_ireturn D_jdk_43_m22_36 rfl (by decide) (by decide) ?_
  exact ⟨rfl, rfl⟩
def Q_c_six_2 (s v : Addr) (y0 y1 : Int32) (r : Int32) (F : OH) : Option Value → OH → Prop := fun w' H' => w' = some (.int r) ∧ H' = ((s, strO v) :: (v, fA .byte [y0, y1]) :: F)
set_option maxRecDepth 65536 in
set_option maxHeartbeats 40000000 in
theorem c_six_2 (l : Launch) (Z : State) (a0 : Array Value) (hw : HW Z a0) (s v : Addr) (y0 y1 : Int32) (r : Int32) (cp : Int32) (fm : Value) (F : OH) (hs : Std Z cp fm) (hM : Met l Z (⟨"java/lang/StringLatin1", "indexOfChar", "([BIII)I"⟩ : MethodName) jdk_43_method_23_code 6 (some .int) (rm4 0 0 0 0) [.ref v, .int 35, .int 0, .int 2] ((s, strO v) :: (v, fA .byte [y0, y1]) :: F) (Q_ioc_2 s v y0 y1 r F)) :
    Met l Z (⟨"java/lang/String", "indexOf", "(II)I"⟩ : MethodName) jdk_42_method_80_code 3 (some .int) (rm4 2 0 0 32) [(.ref s), (.int 35), (.int 0)] ((s, strO v) :: (v, fA .byte [y0, y1]) :: F) (Q_c_six_2 s v y0 y1 r F) := by
  refine Met.of_wp (Ls := #[.val (.ref s), .val (.int 35), .val (.int 0)]) pn_18 (fun m => (entry_loc m _ _).trans rfl) ?_
  show W19 l Z (rm4 2 0 0 32) ((s, strO v) :: (v, fA .byte [y0, y1]) :: F) 0 0 0 #[.val (.ref s), .val (.int 35), .val (.int 0)] [] (Q_c_six_2 s v y0 y1 r F)
  refine wp_aload_n D_jdk_42_m80_0 rfl rfl ?_
  refine wp_virtual (c_lat l Z a0 hw s v cp fm ((v, fA .byte [y0, y1]) :: F) hs ) (exa_new (i := 0) rfl) D_jdk_42_m80_1 (gw hw 41 rfl) (gw hw 42 rfl) (gw hw 44 rfl) (gw hw 44 rfl) (gw hw 43 rfl) (gw hw 7 rfl) (gw hw 45 rfl) (by decide) pd_4 rfl rfl rfl (lb rfl) (lb rfl) (lb rfl) (lb rfl) ?_
  rintro _ _ ⟨rfl, rfl⟩
  show W19 l Z (rm4 2 0 0 32) ((s, strO v) :: (v, fA .byte [y0, y1]) :: F) 0 0 4 #[.val (.ref s), .val (.int 35), .val (.int 0)] [(.int 1)] (Q_c_six_2 s v y0 y1 r F)
  refine wp_if_eq D_jdk_42_m80_4 (pc'' := 23) ⟨by decide, by decide⟩ (fun h1 => by exact absurd h1 (by decide)) (fun h1 => ?_)
  refine wp_aload_n D_jdk_42_m80_7 rfl rfl ?_
  refine wp_getfield D_jdk_42_m80_8 (gw hw 25 rfl) (fld_new (i := 0) (fi := 0) rfl rfl rfl) ?_
  refine wp_iload_n D_jdk_42_m80_11 rfl ?_
  refine wp_iload_n D_jdk_42_m80_12 rfl ?_
  refine wp_aload_n D_jdk_42_m80_13 rfl rfl ?_
  refine wp_virtual (c_len_2 l Z a0 hw s v y0 y1 cp fm F hs ) (exa_new (i := 0) rfl) D_jdk_42_m80_14 (gw hw 47 rfl) (gw hw 48 rfl) (gw hw 50 rfl) (gw hw 50 rfl) (gw hw 49 rfl) (gw hw 7 rfl) (gw hw 51 rfl) (by decide) pd_5 rfl rfl rfl (lb rfl) (lb rfl) (lb rfl) (lb rfl) ?_
  rintro _ _ ⟨rfl, rfl⟩
  show W19 l Z (rm4 2 0 0 32) ((s, strO v) :: (v, fA .byte [y0, y1]) :: F) 0 0 17 #[.val (.ref s), .val (.int 35), .val (.int 0)] [(.int 2), (.int 0), (.int 35), (.ref v)] (Q_c_six_2 s v y0 y1 r F)
  refine wp_callS (c_lix_2 l Z a0 hw s v y0 y1 r cp fm F hs hM) D_jdk_42_m80_17 (gw hw 57 rfl) (gw hw 58 rfl) (gw hw 59 rfl) (gw hw 60 rfl) (by decide) pd_7 rfl rfl rfl (lb rfl) (lb rfl) (lb rfl) (lb rfl) ?_
  rintro _ _ ⟨rfl, rfl⟩
  show W19 l Z (rm4 2 0 0 32) ((s, strO v) :: (v, fA .byte [y0, y1]) :: F) 0 0 20 #[.val (.ref s), .val (.int 35), .val (.int 0)] [(.int r)] (Q_c_six_2 s v y0 y1 r F)
  refine wp_goto D_jdk_42_m80_20 (pc'' := 36) ⟨by decide, by decide⟩ ?_
  refine wp_ireturn D_jdk_42_m80_36 rfl (by decide) (by decide) ?_
  exact ⟨rfl, rfl⟩
def Q_c_si_2 (s v : Addr) (y0 y1 : Int32) (r : Int32) (F : OH) : Option Value → OH → Prop := fun w' H' => w' = some (.int r) ∧ H' = ((s, strO v) :: (v, fA .byte [y0, y1]) :: F)
set_option maxRecDepth 65536 in
set_option maxHeartbeats 40000000 in
theorem c_si_2 (l : Launch) (Z : State) (a0 : Array Value) (hw : HW Z a0) (s v : Addr) (y0 y1 : Int32) (r : Int32) (cp : Int32) (fm : Value) (F : OH) (hs : Std Z cp fm) (hM : Met l Z (⟨"java/lang/StringLatin1", "indexOfChar", "([BIII)I"⟩ : MethodName) jdk_43_method_23_code 6 (some .int) (rm4 0 0 0 0) [.ref v, .int 35, .int 0, .int 2] ((s, strO v) :: (v, fA .byte [y0, y1]) :: F) (Q_ioc_2 s v y0 y1 r F)) :
    Met l Z (⟨"java/lang/String", "indexOf", "(I)I"⟩ : MethodName) jdk_42_method_79_code 2 (some .int) (rm4 3 0 0 46) [(.ref s), (.int 35)] ((s, strO v) :: (v, fA .byte [y0, y1]) :: F) (Q_c_si_2 s v y0 y1 r F) := by
  refine Met.of_wp (Ls := #[.val (.ref s), .val (.int 35)]) pn_19 (fun m => (entry_loc m _ _).trans rfl) ?_
  show W20 l Z (rm4 3 0 0 46) ((s, strO v) :: (v, fA .byte [y0, y1]) :: F) 0 0 0 #[.val (.ref s), .val (.int 35)] [] (Q_c_si_2 s v y0 y1 r F)
  refine wp_aload_n D_jdk_42_m79_0 rfl rfl ?_
  refine wp_iload_n D_jdk_42_m79_1 rfl ?_
  refine wp_iconst 0 D_jdk_42_m79_2 (by decide) ?_
  refine wp_virtual (c_six_2 l Z a0 hw s v y0 y1 r cp fm F hs hM) (exa_new (i := 0) rfl) D_jdk_42_m79_3 (gw hw 36 rfl) (gw hw 37 rfl) (gw hw 39 rfl) (gw hw 39 rfl) (gw hw 38 rfl) (gw hw 7 rfl) (gw hw 40 rfl) (by decide) pd_3 rfl rfl rfl (lb rfl) (lb rfl) (lb rfl) (lb rfl) ?_
  rintro _ _ ⟨rfl, rfl⟩
  show W20 l Z (rm4 3 0 0 46) ((s, strO v) :: (v, fA .byte [y0, y1]) :: F) 0 0 6 #[.val (.ref s), .val (.int 35)] [(.int r)] (Q_c_si_2 s v y0 y1 r F)
  refine wp_ireturn D_jdk_42_m79_6 rfl (by decide) (by decide) ?_
  exact ⟨rfl, rfl⟩
set_option maxRecDepth 65536 in
set_option maxHeartbeats 40000000 in
theorem c_ioc_2_m (l : Launch) (Z : State) (a0 : Array Value) (hw : HW Z a0) (s v : Addr) (y0 y1 : Int32) (F : OH) (hq0 : ¬ y0 = 35) (hq1 : ¬ y1 = 35) :
    Met l Z (⟨"java/lang/StringLatin1", "indexOfChar", "([BIII)I"⟩ : MethodName) jdk_43_method_23_code 6 (some .int) (rm4 0 0 0 0) [(.ref v), (.int 35), (.int 0), (.int 2)] ((s, strO v) :: (v, fA .byte [y0, y1]) :: F) (Q_ioc_2 s v y0 y1 (-1 : Int32) F) := by
  refine Met.of_wp (Ls := #[.val (.ref v), .val (.int 35), .val (.int 0), .val (.int 2), .unset, .unset]) pn_16 (fun m => (entry_loc m _ _).trans rfl) ?_
  show W22 l Z (rm4 0 0 0 0) ((s, strO v) :: (v, fA .byte [y0, y1]) :: F) 0 0 0 #[.val (.ref v), .val (.int 35), .val (.int 0), .val (.int 2), .unset, .unset] [] (Q_ioc_2 s v y0 y1 (-1 : Int32) F)
  refine wp_iload_n D_jdk_43_m23_0 rfl ?_
  refine wp_i2b D_jdk_43_m23_1 ?_
  rw [show (35 : Int32).toInt8.toInt32 = (35 : Int32) from by decide]
  refine wp_istore #[.val (.ref v), .val (.int 35), .val (.int 0), .val (.int 2), .val (.int 35), .unset] D_jdk_43_m23_2 rfl ?_
  refine wp_iload_n D_jdk_43_m23_4 rfl ?_
  refine wp_istore #[.val (.ref v), .val (.int 35), .val (.int 0), .val (.int 2), .val (.int 35), .val (.int 0)] D_jdk_43_m23_5 rfl ?_
  refine wp_iload D_jdk_43_m23_7 rfl ?_
  refine wp_iload_n D_jdk_43_m23_9 rfl ?_
  refine wp_icmp_ge D_jdk_43_m23_10 (pc'' := 31) ⟨by decide, by decide⟩ (fun h1 => by exact absurd h1 (by decide)) (fun h1 => ?_)
  refine wp_aload_n D_jdk_43_m23_13 rfl rfl ?_
  refine wp_iload D_jdk_43_m23_14 rfl ?_
  refine wp_baload (i := 1) (0) D_jdk_43_m23_16 rfl (by decide) (by decide) rfl ?_
  refine wp_iload D_jdk_43_m23_17 rfl ?_
  refine wp_icmp_ne D_jdk_43_m23_19 (pc'' := 25) ⟨by decide, by decide⟩ (fun h2 => ?_) (fun h2 => by exact absurd h2 hq0)
  refine wp_iinc 1 #[.val (.ref v), .val (.int 35), .val (.int 0), .val (.int 2), .val (.int 35), .val (.int 1)] D_jdk_43_m23_25 rfl rfl (by rw [show (0 : Int32) + (1 : Int32) = (1 : Int32) from by decide]; rfl) ?_
  refine wp_goto D_jdk_43_m23_28 (pc'' := 7) ⟨by decide, by decide⟩ ?_
  refine wp_iload D_jdk_43_m23_7 rfl ?_
  refine wp_iload_n D_jdk_43_m23_9 rfl ?_
  refine wp_icmp_ge D_jdk_43_m23_10 (pc'' := 31) ⟨by decide, by decide⟩ (fun h3 => by exact absurd h3 (by decide)) (fun h3 => ?_)
  refine wp_aload_n D_jdk_43_m23_13 rfl rfl ?_
  refine wp_iload D_jdk_43_m23_14 rfl ?_
  refine wp_baload (i := 1) (1) D_jdk_43_m23_16 rfl (by decide) (by decide) rfl ?_
  refine wp_iload D_jdk_43_m23_17 rfl ?_
  refine wp_icmp_ne D_jdk_43_m23_19 (pc'' := 25) ⟨by decide, by decide⟩ (fun h4 => ?_) (fun h4 => by exact absurd h4 hq1)
  refine wp_iinc 1 #[.val (.ref v), .val (.int 35), .val (.int 0), .val (.int 2), .val (.int 35), .val (.int 2)] D_jdk_43_m23_25 rfl rfl (by rw [show (1 : Int32) + (1 : Int32) = (2 : Int32) from by decide]; rfl) ?_
  refine wp_goto D_jdk_43_m23_28 (pc'' := 7) ⟨by decide, by decide⟩ ?_
  refine wp_iload D_jdk_43_m23_7 rfl ?_
  refine wp_iload_n D_jdk_43_m23_9 rfl ?_
  refine wp_icmp_ge D_jdk_43_m23_10 (pc'' := 31) ⟨by decide, by decide⟩ (fun h5 => ?_) (fun h5 => by exact absurd h5 (by decide))
  refine wp_iconst (-1) D_jdk_43_m23_31 (by decide) ?_
  refine wp_ireturn D_jdk_43_m23_32 rfl (by decide) (by decide) ?_
  exact ⟨rfl, rfl⟩
def Q_c_wf_2_m (s v : Addr) (y0 y1 : Int32) (F : OH) : Option Value → OH → Prop := fun w' H' => w' = some (.ref s) ∧ H' = ((s, strO v) :: (v, fA .byte [y0, y1]) :: F)
set_option maxRecDepth 65536 in
set_option maxHeartbeats 40000000 in
theorem c_wf_2_m (l : Launch) (Z : State) (a0 : Array Value) (hw : HW Z a0) (s v : Addr) (y0 y1 : Int32) (cp : Int32) (fm : Value) (F : OH) (hs : Std Z cp fm) (hq0 : ¬ y0 = 35) (hq1 : ¬ y1 = 35) :
    Met l Z (⟨"com/example/bylint/bylint/description/UriReferences", "withoutFragment", "(Ljava/lang/String;)Ljava/lang/String;"⟩ : MethodName) prog_9_method_5_code 2 (some (.object "java/lang/String")) (rm4 4 0 0 59) [(.ref s)] ((s, strO v) :: (v, fA .byte [y0, y1]) :: F) (Q_c_wf_2_m s v y0 y1 F) := by
  refine Met.of_wp (Ls := #[.val (.ref s), .unset]) pn_20 (fun m => (entry_loc m _ _).trans rfl) ?_
  show W21 l Z (rm4 4 0 0 59) ((s, strO v) :: (v, fA .byte [y0, y1]) :: F) 0 0 0 #[.val (.ref s), .unset] [] (Q_c_wf_2_m s v y0 y1 F)
  refine wp_aload_n D_prog_9_m5_0 rfl rfl ?_
  refine wp_bipush 35 D_prog_9_m5_1 (by decide) ?_
  refine wp_virtual (c_si_2 l Z a0 hw s v y0 y1 (-1 : Int32) cp fm F hs (c_ioc_2_m l Z a0 hw s v y0 y1 F hq0 hq1)) (exa_new (i := 0) rfl) D_prog_9_m5_3 (gw hw 31 rfl) (gw hw 32 rfl) (gw hw 34 rfl) (gw hw 34 rfl) (gw hw 33 rfl) (gw hw 7 rfl) (gw hw 35 rfl) (by decide) pd_19 rfl rfl rfl (lb rfl) (lb rfl) (lb rfl) (lb rfl) ?_
  rintro _ _ ⟨rfl, rfl⟩
  show W21 l Z (rm4 4 0 0 59) ((s, strO v) :: (v, fA .byte [y0, y1]) :: F) 0 0 6 #[.val (.ref s), .unset] [(.int (-1))] (Q_c_wf_2_m s v y0 y1 F)
  refine wp_istore_n #[.val (.ref s), .val (.int (-1))] D_prog_9_m5_6 rfl ?_
  refine wp_iload_n D_prog_9_m5_7 rfl ?_
  refine wp_if_ge D_prog_9_m5_8 (pc'' := 15) ⟨by decide, by decide⟩ (fun h1 => by exact absurd h1 (by decide)) (fun h1 => ?_)
  refine wp_aload_n D_prog_9_m5_11 rfl rfl ?_
  refine wp_goto D_prog_9_m5_12 (pc'' := 21) ⟨by decide, by decide⟩ ?_
  refine wp_areturn D_prog_9_m5_21 rfl rfl rfl rfl (by decide) (by decide) ?_
  exact ⟨rfl, rfl⟩
set_option maxRecDepth 65536 in
set_option maxHeartbeats 40000000 in
theorem c_ioc_2_0 (l : Launch) (Z : State) (a0 : Array Value) (hw : HW Z a0) (s v : Addr) (y0 y1 : Int32) (F : OH) (hq0 : y0 = 35) :
    Met l Z (⟨"java/lang/StringLatin1", "indexOfChar", "([BIII)I"⟩ : MethodName) jdk_43_method_23_code 6 (some .int) (rm4 0 0 0 0) [(.ref v), (.int 35), (.int 0), (.int 2)] ((s, strO v) :: (v, fA .byte [y0, y1]) :: F) (Q_ioc_2 s v y0 y1 (0 : Int32) F) := by
  refine Met.of_wp (Ls := #[.val (.ref v), .val (.int 35), .val (.int 0), .val (.int 2), .unset, .unset]) pn_16 (fun m => (entry_loc m _ _).trans rfl) ?_
  show W22 l Z (rm4 0 0 0 0) ((s, strO v) :: (v, fA .byte [y0, y1]) :: F) 0 0 0 #[.val (.ref v), .val (.int 35), .val (.int 0), .val (.int 2), .unset, .unset] [] (Q_ioc_2 s v y0 y1 (0 : Int32) F)
  refine wp_iload_n D_jdk_43_m23_0 rfl ?_
  refine wp_i2b D_jdk_43_m23_1 ?_
  rw [show (35 : Int32).toInt8.toInt32 = (35 : Int32) from by decide]
  refine wp_istore #[.val (.ref v), .val (.int 35), .val (.int 0), .val (.int 2), .val (.int 35), .unset] D_jdk_43_m23_2 rfl ?_
  refine wp_iload_n D_jdk_43_m23_4 rfl ?_
  refine wp_istore #[.val (.ref v), .val (.int 35), .val (.int 0), .val (.int 2), .val (.int 35), .val (.int 0)] D_jdk_43_m23_5 rfl ?_
  refine wp_iload D_jdk_43_m23_7 rfl ?_
  refine wp_iload_n D_jdk_43_m23_9 rfl ?_
  refine wp_icmp_ge D_jdk_43_m23_10 (pc'' := 31) ⟨by decide, by decide⟩ (fun h1 => by exact absurd h1 (by decide)) (fun h1 => ?_)
  refine wp_aload_n D_jdk_43_m23_13 rfl rfl ?_
  refine wp_iload D_jdk_43_m23_14 rfl ?_
  refine wp_baload (i := 1) (0) D_jdk_43_m23_16 rfl (by decide) (by decide) rfl ?_
  refine wp_iload D_jdk_43_m23_17 rfl ?_
  refine wp_icmp_ne D_jdk_43_m23_19 (pc'' := 25) ⟨by decide, by decide⟩ (fun h2 => by exact absurd hq0 h2) (fun h2 => ?_)
  refine wp_iload D_jdk_43_m23_22 rfl ?_
  refine wp_ireturn D_jdk_43_m23_24 rfl (by decide) (by decide) ?_
  exact ⟨rfl, rfl⟩
def Q_c_nst_2_0_0 (s v : Addr) (y0 y1 : Int32) (F : OH) : Option Value → OH → Prop := fun w' H' => ∃ a u, w' = some (.ref a) ∧ H' = ((a, strO u) :: (u, fA .byte []) :: (s, strO v) :: (v, fA .byte [y0, y1]) :: F)
set_option maxRecDepth 65536 in
set_option maxHeartbeats 40000000 in
theorem c_nst_2_0_0 (l : Launch) (Z : State) (a0 : Array Value) (hw : HW Z a0) (s v : Addr) (y0 y1 : Int32) (cp : Int32) (fm : Value) (F : OH) (hs : Std Z cp fm) :
    MetI consts_1 l Z (⟨"java/lang/StringLatin1", "newString", "([BII)Ljava/lang/String;"⟩ : MethodName) jdk_43_method_47_code 3 (some (.object "java/lang/String")) (rm4 0 2 4 0) [(.ref v), (.int 0), (.int 0)] ((s, strO v) :: (v, fA .byte [y0, y1]) :: F) (Q_c_nst_2_0_0 s v y0 y1 F) := by
  refine MetI.of_wp (Ls := #[.val (.ref v), .val (.int 0), .val (.int 0)]) pn_23 (fun m => (entry_loc m _ _).trans rfl) (own_EL l Z a0 hw) ?_
  show W25 l Z (rm4 0 2 4 0) ((s, strO v) :: (v, fA .byte [y0, y1]) :: F) 0 0 0 #[.val (.ref v), .val (.int 0), .val (.int 0)] [] (Q_c_nst_2_0_0 s v y0 y1 F)
  refine wp_iload_n D_jdk_43_m47_0 rfl ?_
  refine wp_if_ne D_jdk_43_m47_1 (pc'' := 7) ⟨by decide, by decide⟩ (fun h1 => by exact absurd h1 (by decide)) (fun h1 => ?_)
  refine wp_ldcH (n := 0) [] D_jdk_43_m47_4 (gw hw 101 rfl) (own_wS l Z a0 hw) (own_slo l Z a0 hw) (own_EL l Z a0 hw) (List.mem_of_getElem? (i := 1) rfl) ⟨by decide, by decide⟩ (by decide) (by decide) (by decide) (by decide) (by decide) ?_
  intro s2 v3
  show W25 l Z (rm4 0 2 4 0) ((s2, strO v3) :: (v3, fA .byte []) :: (s, strO v) :: (v, fA .byte [y0, y1]) :: F) 2 4 6 #[.val (.ref v), .val (.int 0), .val (.int 0)] [(.ref s2)] (Q_c_nst_2_0_0 s v y0 y1 F)
  refine wp_areturn D_jdk_43_m47_6 rfl rfl rfl rfl (by decide) (by decide) ?_
  exact ⟨_, _, rfl, rfl⟩
def Q_c_sub_2_0_0 (s v : Addr) (y0 y1 : Int32) (F : OH) : Option Value → OH → Prop := fun w' H' => ∃ a u, w' = some (.ref a) ∧ H' = ((a, strO u) :: (u, fA .byte []) :: (s, strO v) :: (v, fA .byte [y0, y1]) :: F)
set_option maxRecDepth 65536 in
set_option maxHeartbeats 40000000 in
theorem c_sub_2_0_0 (l : Launch) (Z : State) (a0 : Array Value) (hw : HW Z a0) (s v : Addr) (y0 y1 : Int32) (cp : Int32) (fm : Value) (F : OH) (hs : Std Z cp fm) :
    MetI consts_1 l Z (⟨"java/lang/String", "substring", "(II)Ljava/lang/String;"⟩ : MethodName) jdk_42_method_92_code 5 (some (.object "java/lang/String")) (rm4 2 2 4 29) [(.ref s), (.int 0), (.int 0)] ((s, strO v) :: (v, fA .byte [y0, y1]) :: F) (Q_c_sub_2_0_0 s v y0 y1 F) := by
  refine MetI.of_wp (Ls := #[.val (.ref s), .val (.int 0), .val (.int 0), .unset, .unset]) pn_24 (fun m => (entry_loc m _ _).trans rfl) (own_EL l Z a0 hw) ?_
  show W26 l Z (rm4 2 2 4 29) ((s, strO v) :: (v, fA .byte [y0, y1]) :: F) 0 0 0 #[.val (.ref s), .val (.int 0), .val (.int 0), .unset, .unset] [] (Q_c_sub_2_0_0 s v y0 y1 F)
  refine wp_aload_n D_jdk_42_m92_0 rfl rfl ?_
  refine wp_virtual (c_len_2 l Z a0 hw s v y0 y1 cp fm F hs ) (exa_new (i := 0) rfl) D_jdk_42_m92_1 (gw hw 47 rfl) (gw hw 48 rfl) (gw hw 50 rfl) (gw hw 50 rfl) (gw hw 49 rfl) (gw hw 7 rfl) (gw hw 51 rfl) (by decide) pd_5 rfl rfl rfl (lb rfl) (lb rfl) (lb rfl) (lb rfl) ?_
  rintro _ _ ⟨rfl, rfl⟩
  show W26 l Z (rm4 2 2 4 29) ((s, strO v) :: (v, fA .byte [y0, y1]) :: F) 0 0 4 #[.val (.ref s), .val (.int 0), .val (.int 0), .unset, .unset] [(.int 2)] (Q_c_sub_2_0_0 s v y0 y1 F)
  refine wp_istore_n #[.val (.ref s), .val (.int 0), .val (.int 0), .val (.int 2), .unset] D_jdk_42_m92_4 rfl ?_
  refine wp_iload_n D_jdk_42_m92_5 rfl ?_
  refine wp_iload_n D_jdk_42_m92_6 rfl ?_
  refine wp_iload_n D_jdk_42_m92_7 rfl ?_
  refine wp_callS (c_cbe l Z a0 hw 0 0 2 cp fm ((s, strO v) :: (v, fA .byte [y0, y1]) :: F) hs (by decide) (by decide) (by decide)) D_jdk_42_m92_8 (gw hw 90 rfl) (gw hw 91 rfl) (gw hw 7 rfl) (gw hw 92 rfl) (by decide) pd_10 rfl rfl rfl (lb rfl) (lb rfl) (lb rfl) (lb rfl) ?_
  rintro _ _ ⟨rfl, rfl⟩
  show W26 l Z (rm4 2 2 4 29) ((s, strO v) :: (v, fA .byte [y0, y1]) :: F) 0 0 11 #[.val (.ref s), .val (.int 0), .val (.int 0), .val (.int 2), .unset] [] (Q_c_sub_2_0_0 s v y0 y1 F)
  refine wp_iload_n D_jdk_42_m92_11 rfl ?_
  refine wp_if_ne D_jdk_42_m92_12 (pc'' := 22) ⟨by decide, by decide⟩ (fun h1 => by exact absurd h1 (by decide)) (fun h1 => ?_)
  refine wp_iload_n D_jdk_42_m92_15 rfl ?_
  refine wp_iload_n D_jdk_42_m92_16 rfl ?_
  refine wp_icmp_ne D_jdk_42_m92_17 (pc'' := 22) ⟨by decide, by decide⟩ (fun h2 => ?_) (fun h2 => by exact absurd h2 (by decide))
  refine wp_iload_n D_jdk_42_m92_22 rfl ?_
  refine wp_iload_n D_jdk_42_m92_23 rfl ?_
  refine wp_isub D_jdk_42_m92_24 ?_
  rw [show ((0 : Int32) - (0 : Int32)) = (0 : Int32) from by decide]
  refine wp_istore #[.val (.ref s), .val (.int 0), .val (.int 0), .val (.int 2), .val (.int 0)] D_jdk_42_m92_25 rfl ?_
  refine wp_aload_n D_jdk_42_m92_27 rfl rfl ?_
  refine wp_virtual (c_lat l Z a0 hw s v cp fm ((v, fA .byte [y0, y1]) :: F) hs ) (exa_new (i := 0) rfl) D_jdk_42_m92_28 (gw hw 41 rfl) (gw hw 42 rfl) (gw hw 44 rfl) (gw hw 44 rfl) (gw hw 43 rfl) (gw hw 7 rfl) (gw hw 45 rfl) (by decide) pd_4 rfl rfl rfl (lb rfl) (lb rfl) (lb rfl) (lb rfl) ?_
  rintro _ _ ⟨rfl, rfl⟩
  show W26 l Z (rm4 2 2 4 29) ((s, strO v) :: (v, fA .byte [y0, y1]) :: F) 0 0 31 #[.val (.ref s), .val (.int 0), .val (.int 0), .val (.int 2), .val (.int 0)] [(.int 1)] (Q_c_sub_2_0_0 s v y0 y1 F)
  refine wp_if_eq D_jdk_42_m92_31 (pc'' := 47) ⟨by decide, by decide⟩ (fun h3 => by exact absurd h3 (by decide)) (fun h3 => ?_)
  refine wp_aload_n D_jdk_42_m92_34 rfl rfl ?_
  refine wp_getfield D_jdk_42_m92_35 (gw hw 25 rfl) (fld_new (i := 0) (fi := 0) rfl rfl rfl) ?_
  refine wp_iload_n D_jdk_42_m92_38 rfl ?_
  refine wp_iload D_jdk_42_m92_39 rfl ?_
  refine wp_callSI (c_nst_2_0_0 l Z a0 hw s v y0 y1 cp fm F hs ) (own_EL l Z a0 hw) D_jdk_42_m92_41 (gw hw 98 rfl) (gw hw 99 rfl) (gw hw 59 rfl) (gw hw 100 rfl) (by decide) pd_12 rfl rfl rfl (lb rfl) (lb rfl) (lb rfl) (lb rfl) ?_
  rintro _ _ ⟨sa4, su5, rfl, rfl⟩
  show W26 l Z (rm4 2 2 4 29) ((sa4, strO su5) :: (su5, fA .byte []) :: (s, strO v) :: (v, fA .byte [y0, y1]) :: F) 2 4 44 #[.val (.ref s), .val (.int 0), .val (.int 0), .val (.int 2), .val (.int 0)] [(.ref sa4)] (Q_c_sub_2_0_0 s v y0 y1 F)
  refine wp_goto D_jdk_42_m92_44 (pc'' := 57) ⟨by decide, by decide⟩ ?_
  refine wp_areturn D_jdk_42_m92_57 rfl rfl rfl rfl (by decide) (by decide) ?_
  exact ⟨_, _, rfl, rfl⟩
def Q_c_wf_2_0 (s v : Addr) (y0 y1 : Int32) (F : OH) : Option Value → OH → Prop := fun w' H' => ∃ a u, w' = some (.ref a) ∧ H' = ((a, strO u) :: (u, fA .byte []) :: (s, strO v) :: (v, fA .byte [y0, y1]) :: F)
set_option maxRecDepth 65536 in
set_option maxHeartbeats 40000000 in
theorem c_wf_2_0 (l : Launch) (Z : State) (a0 : Array Value) (hw : HW Z a0) (s v : Addr) (y0 y1 : Int32) (cp : Int32) (fm : Value) (F : OH) (hs : Std Z cp fm) (hq0 : y0 = 35) :
    MetI consts_1 l Z (⟨"com/example/bylint/bylint/description/UriReferences", "withoutFragment", "(Ljava/lang/String;)Ljava/lang/String;"⟩ : MethodName) prog_9_method_5_code 2 (some (.object "java/lang/String")) (rm4 4 2 4 59) [(.ref s)] ((s, strO v) :: (v, fA .byte [y0, y1]) :: F) (Q_c_wf_2_0 s v y0 y1 F) := by
  refine MetI.of_wp (Ls := #[.val (.ref s), .unset]) pn_20 (fun m => (entry_loc m _ _).trans rfl) (own_EL l Z a0 hw) ?_
  show W27 l Z (rm4 4 2 4 59) ((s, strO v) :: (v, fA .byte [y0, y1]) :: F) 0 0 0 #[.val (.ref s), .unset] [] (Q_c_wf_2_0 s v y0 y1 F)
  refine wp_aload_n D_prog_9_m5_0 rfl rfl ?_
  refine wp_bipush 35 D_prog_9_m5_1 (by decide) ?_
  refine wp_virtual (c_si_2 l Z a0 hw s v y0 y1 (0 : Int32) cp fm F hs (c_ioc_2_0 l Z a0 hw s v y0 y1 F hq0)) (exa_new (i := 0) rfl) D_prog_9_m5_3 (gw hw 31 rfl) (gw hw 32 rfl) (gw hw 34 rfl) (gw hw 34 rfl) (gw hw 33 rfl) (gw hw 7 rfl) (gw hw 35 rfl) (by decide) pd_19 rfl rfl rfl (lb rfl) (lb rfl) (lb rfl) (lb rfl) ?_
  rintro _ _ ⟨rfl, rfl⟩
  show W27 l Z (rm4 4 2 4 59) ((s, strO v) :: (v, fA .byte [y0, y1]) :: F) 0 0 6 #[.val (.ref s), .unset] [(.int 0)] (Q_c_wf_2_0 s v y0 y1 F)
  refine wp_istore_n #[.val (.ref s), .val (.int 0)] D_prog_9_m5_6 rfl ?_
  refine wp_iload_n D_prog_9_m5_7 rfl ?_
  refine wp_if_ge D_prog_9_m5_8 (pc'' := 15) ⟨by decide, by decide⟩ (fun h1 => ?_) (fun h1 => by exact absurd h1 (by decide))
  refine wp_aload_n D_prog_9_m5_15 rfl rfl ?_
  refine wp_iconst 0 D_prog_9_m5_16 (by decide) ?_
  refine wp_iload_n D_prog_9_m5_17 rfl ?_
  refine wp_virtualI (c_sub_2_0_0 l Z a0 hw s v y0 y1 cp fm F hs ) (exa_new (i := 0) rfl) (own_EL l Z a0 hw) D_prog_9_m5_18 (gw hw 85 rfl) (gw hw 86 rfl) (gw hw 88 rfl) (gw hw 88 rfl) (gw hw 87 rfl) (gw hw 7 rfl) (gw hw 89 rfl) (by decide) pd_20 rfl rfl rfl (lb rfl) (lb rfl) (lb rfl) (lb rfl) ?_
  rintro _ _ ⟨sa2, su3, rfl, rfl⟩
  show W27 l Z (rm4 4 2 4 59) ((sa2, strO su3) :: (su3, fA .byte []) :: (s, strO v) :: (v, fA .byte [y0, y1]) :: F) 2 4 21 #[.val (.ref s), .val (.int 0)] [(.ref sa2)] (Q_c_wf_2_0 s v y0 y1 F)
  refine wp_areturn D_prog_9_m5_21 rfl rfl rfl rfl (by decide) (by decide) ?_
  exact ⟨_, _, rfl, rfl⟩
set_option maxRecDepth 65536 in
set_option maxHeartbeats 40000000 in
theorem c_ioc_2_1 (l : Launch) (Z : State) (a0 : Array Value) (hw : HW Z a0) (s v : Addr) (y0 y1 : Int32) (F : OH) (hq0 : ¬ y0 = 35) (hq1 : y1 = 35) :
    Met l Z (⟨"java/lang/StringLatin1", "indexOfChar", "([BIII)I"⟩ : MethodName) jdk_43_method_23_code 6 (some .int) (rm4 0 0 0 0) [(.ref v), (.int 35), (.int 0), (.int 2)] ((s, strO v) :: (v, fA .byte [y0, y1]) :: F) (Q_ioc_2 s v y0 y1 (1 : Int32) F) := by
  refine Met.of_wp (Ls := #[.val (.ref v), .val (.int 35), .val (.int 0), .val (.int 2), .unset, .unset]) pn_16 (fun m => (entry_loc m _ _).trans rfl) ?_
  show W22 l Z (rm4 0 0 0 0) ((s, strO v) :: (v, fA .byte [y0, y1]) :: F) 0 0 0 #[.val (.ref v), .val (.int 35), .val (.int 0), .val (.int 2), .unset, .unset] [] (Q_ioc_2 s v y0 y1 (1 : Int32) F)
  refine wp_iload_n D_jdk_43_m23_0 rfl ?_
  refine wp_i2b D_jdk_43_m23_1 ?_
  rw [show (35 : Int32).toInt8.toInt32 = (35 : Int32) from by decide]
  refine wp_istore #[.val (.ref v), .val (.int 35), .val (.int 0), .val (.int 2), .val (.int 35), .unset] D_jdk_43_m23_2 rfl ?_
  refine wp_iload_n D_jdk_43_m23_4 rfl ?_
  refine wp_istore #[.val (.ref v), .val (.int 35), .val (.int 0), .val (.int 2), .val (.int 35), .val (.int 0)] D_jdk_43_m23_5 rfl ?_
  refine wp_iload D_jdk_43_m23_7 rfl ?_
  refine wp_iload_n D_jdk_43_m23_9 rfl ?_
  refine wp_icmp_ge D_jdk_43_m23_10 (pc'' := 31) ⟨by decide, by decide⟩ (fun h1 => by exact absurd h1 (by decide)) (fun h1 => ?_)
  refine wp_aload_n D_jdk_43_m23_13 rfl rfl ?_
  refine wp_iload D_jdk_43_m23_14 rfl ?_
  refine wp_baload (i := 1) (0) D_jdk_43_m23_16 rfl (by decide) (by decide) rfl ?_
  refine wp_iload D_jdk_43_m23_17 rfl ?_
  refine wp_icmp_ne D_jdk_43_m23_19 (pc'' := 25) ⟨by decide, by decide⟩ (fun h2 => ?_) (fun h2 => by exact absurd h2 hq0)
  refine wp_iinc 1 #[.val (.ref v), .val (.int 35), .val (.int 0), .val (.int 2), .val (.int 35), .val (.int 1)] D_jdk_43_m23_25 rfl rfl (by rw [show (0 : Int32) + (1 : Int32) = (1 : Int32) from by decide]; rfl) ?_
  refine wp_goto D_jdk_43_m23_28 (pc'' := 7) ⟨by decide, by decide⟩ ?_
  refine wp_iload D_jdk_43_m23_7 rfl ?_
  refine wp_iload_n D_jdk_43_m23_9 rfl ?_
  refine wp_icmp_ge D_jdk_43_m23_10 (pc'' := 31) ⟨by decide, by decide⟩ (fun h3 => by exact absurd h3 (by decide)) (fun h3 => ?_)
  refine wp_aload_n D_jdk_43_m23_13 rfl rfl ?_
  refine wp_iload D_jdk_43_m23_14 rfl ?_
  refine wp_baload (i := 1) (1) D_jdk_43_m23_16 rfl (by decide) (by decide) rfl ?_
  refine wp_iload D_jdk_43_m23_17 rfl ?_
  refine wp_icmp_ne D_jdk_43_m23_19 (pc'' := 25) ⟨by decide, by decide⟩ (fun h4 => by exact absurd hq1 h4) (fun h4 => ?_)
  refine wp_iload D_jdk_43_m23_22 rfl ?_
  refine wp_ireturn D_jdk_43_m23_24 rfl (by decide) (by decide) ?_
  exact ⟨rfl, rfl⟩
theorem pd_21 : parseMethodDescriptor "(Ljava/lang/Object;ILjava/lang/Object;II)V" = some ⟨[(.object "java/lang/Object"), .int, (.object "java/lang/Object"), .int, .int], none⟩ := by decide +kernel
theorem pn_25 : plainFor (⟨"java/util/Arrays", "checkLength", "(II)V"⟩ : MethodName) = true := by first | exact plainFor_of_name (by first | (simp [plainName, overriddenIn]; done) | decide +kernel) | decide +kernel
def Q_c_ckl (b e : Int32) (F : OH) : Option Value → OH → Prop := fun w' H' => w' = none ∧ H' = F
theorem D_jdk_65_m131_0 : Dc jdk_65_method_131_code 0 (.iload_n 1) 1 1 := ⟨by decide +kernel, rfl⟩
theorem D_jdk_65_m131_1 : Dc jdk_65_method_131_code 1 (.iload_n 0) 1 2 := ⟨by decide +kernel, rfl⟩
theorem D_jdk_65_m131_2 : Dc jdk_65_method_131_code 2 (.if_icmp .ge 35) 3 5 := ⟨by decide +kernel, rfl⟩
theorem D_jdk_65_m131_37 : Dc jdk_65_method_131_code 37 (.return_) 1 38 := ⟨by decide +kernel, rfl⟩
abbrev W28 (l : Launch) (Z : State) := Wp none l Z "java/util/Arrays" "checkLength" jdk_65_method_131_code 2 none
set_option maxRecDepth 65536 in
set_option maxHeartbeats 40000000 in
theorem c_ckl (l : Launch) (Z : State) (a0 : Array Value) (hw : HW Z a0) (b e : Int32) (F : OH) (hb0 : ¬ e < b) :
    Met l Z (⟨"java/util/Arrays", "checkLength", "(II)V"⟩ : MethodName) jdk_65_method_131_code 2 none (rm4 0 0 0 0) [(.int b), (.int e)] F (Q_c_ckl b e F) := by
  refine Met.of_wp (Ls := #[.val (.int b), .val (.int e)]) pn_25 (fun m => (entry_loc m _ _).trans rfl) ?_
  show W28 l Z (rm4 0 0 0 0) F 0 0 0 #[.val (.int b), .val (.int e)] [] (Q_c_ckl b e F)
  refine wp_iload_n D_jdk_65_m131_0 rfl ?_
  refine wp_iload_n D_jdk_65_m131_1 rfl ?_
  refine wp_icmp_ge D_jdk_65_m131_2 (pc'' := 37) ⟨by decide, by decide⟩ (fun h1 => ?_) (fun h1 => by exact absurd h1 hb0)
  refine wp_return D_jdk_65_m131_37 rfl (by decide) (by decide) ?_
  exact ⟨rfl, rfl⟩
def Q_c_min_2_1  (F : OH) : Option Value → OH → Prop := fun w' H' => w' = some (.int 1) ∧ H' = F
set_option maxRecDepth 65536 in
set_option maxHeartbeats 40000000 in
theorem c_min_2_1 (l : Launch) (Z : State) (a0 : Array Value) (hw : HW Z a0)  (F : OH) :
    Met l Z (⟨"java/lang/Math", "min", "(II)I"⟩ : MethodName) jdk_29_method_69_code 2 (some .int) (rm4 0 0 0 0) [(.int 2), (.int 1)] F (Q_c_min_2_1 F) := by
  refine Met.of_wp (Ls := #[.val (.int 2), .val (.int 1)]) pn_15 (fun m => (entry_loc m _ _).trans rfl) ?_
  show W17 l Z (rm4 0 0 0 0) F 0 0 0 #[.val (.int 2), .val (.int 1)] [] (Q_c_min_2_1 F)
  refine wp_iload_n D_jdk_29_m69_0 rfl ?_
  refine wp_iload_n D_jdk_29_m69_1 rfl ?_
  refine wp_icmp_gt D_jdk_29_m69_2 (pc'' := 9) ⟨by decide, by decide⟩ (fun h1 => ?_) (fun h1 => by exact absurd h1 (by decide))
  refine wp_iload_n D_jdk_29_m69_9 rfl ?_
  refine wp_ireturn D_jdk_29_m69_10 rfl (by decide) (by decide) ?_
  exact ⟨rfl, rfl⟩
theorem pn_26 : plainFor (⟨"java/util/Arrays", "copyOfRangeByte", "([BII)[B"⟩ : MethodName) = true := by first | exact plainFor_of_name (by first | (simp [plainName, overriddenIn]; done) | decide +kernel) | decide +kernel
def Q_c_crb_2_0_1 (a s v : Addr) (y0 y1 : Int32) (F : OH) : Option Value → OH → Prop := fun w' H' => ∃ b', w' = some (.ref b') ∧ H' = ((b', oA .byte [y0]) :: (a, oS (.null)) :: (s, strO v) :: (v, fA .byte [y0, y1]) :: F)
theorem D_jdk_65_m133_0 : Dc jdk_65_method_133_code 0 (.iload_n 1) 1 1 := ⟨by decide +kernel, rfl⟩
theorem D_jdk_65_m133_1 : Dc jdk_65_method_133_code 1 (.iload_n 2) 1 2 := ⟨by decide +kernel, rfl⟩
theorem D_jdk_65_m133_2 : Dc jdk_65_method_133_code 2 (.invokestatic 343) 3 5 := ⟨by decide +kernel, rfl⟩
theorem D_jdk_65_m133_5 : Dc jdk_65_method_133_code 5 (.iload_n 2) 1 6 := ⟨by decide +kernel, rfl⟩
theorem D_jdk_65_m133_6 : Dc jdk_65_method_133_code 6 (.iload_n 1) 1 7 := ⟨by decide +kernel, rfl⟩
theorem D_jdk_65_m133_7 : Dc jdk_65_method_133_code 7 (.isub) 1 8 := ⟨by decide +kernel, rfl⟩
theorem D_jdk_65_m133_8 : Dc jdk_65_method_133_code 8 (.istore_n 3) 1 9 := ⟨by decide +kernel, rfl⟩
theorem D_jdk_65_m133_9 : Dc jdk_65_method_133_code 9 (.iload_n 3) 1 10 := ⟨by decide +kernel, rfl⟩
theorem D_jdk_65_m133_10 : Dc jdk_65_method_133_code 10 (.newarray .byte) 2 12 := ⟨by decide +kernel, rfl⟩
theorem D_jdk_65_m133_12 : Dc jdk_65_method_133_code 12 (.astore 4) 2 14 := ⟨by decide +kernel, rfl⟩
theorem D_jdk_65_m133_14 : Dc jdk_65_method_133_code 14 (.aload_n 0) 1 15 := ⟨by decide +kernel, rfl⟩
theorem D_jdk_65_m133_15 : Dc jdk_65_method_133_code 15 (.iload_n 1) 1 16 := ⟨by decide +kernel, rfl⟩
theorem D_jdk_65_m133_16 : Dc jdk_65_method_133_code 16 (.aload 4) 2 18 := ⟨by decide +kernel, rfl⟩
theorem D_jdk_65_m133_18 : Dc jdk_65_method_133_code 18 (.iconst 0) 1 19 := ⟨by decide +kernel, rfl⟩
theorem D_jdk_65_m133_19 : Dc jdk_65_method_133_code 19 (.aload_n 0) 1 20 := ⟨by decide +kernel, rfl⟩
theorem D_jdk_65_m133_20 : Dc jdk_65_method_133_code 20 (.arraylength) 1 21 := ⟨by decide +kernel, rfl⟩
theorem D_jdk_65_m133_21 : Dc jdk_65_method_133_code 21 (.iload_n 1) 1 22 := ⟨by decide +kernel, rfl⟩
theorem D_jdk_65_m133_22 : Dc jdk_65_method_133_code 22 (.isub) 1 23 := ⟨by decide +kernel, rfl⟩
theorem D_jdk_65_m133_23 : Dc jdk_65_method_133_code 23 (.iload_n 3) 1 24 := ⟨by decide +kernel, rfl⟩
theorem D_jdk_65_m133_24 : Dc jdk_65_method_133_code 24 (.invokestatic 304) 3 27 := ⟨by decide +kernel, rfl⟩
theorem D_jdk_65_m133_27 : Dc jdk_65_method_133_code 27 (.invokestatic 150) 3 30 := ⟨by decide +kernel, rfl⟩
theorem D_jdk_65_m133_30 : Dc jdk_65_method_133_code 30 (.aload 4) 2 32 := ⟨by decide +kernel, rfl⟩
theorem D_jdk_65_m133_32 : Dc jdk_65_method_133_code 32 (.areturn) 1 33 := ⟨by decide +kernel, rfl⟩
abbrev W29 (l : Launch) (Z : State) := Wp none l Z "java/util/Arrays" "copyOfRangeByte" jdk_65_method_133_code 5 (some (.array .byte))
set_option maxRecDepth 65536 in
set_option maxHeartbeats 40000000 in
theorem c_crb_2_0_1 (l : Launch) (Z : State) (a0 : Array Value) (hw : HW Z a0) (a s v : Addr) (y0 y1 : Int32) (cp : Int32) (fm : Value) (F : OH) (hs : Std Z cp fm) :
    Met l Z (⟨"java/util/Arrays", "copyOfRangeByte", "([BII)[B"⟩ : MethodName) jdk_65_method_133_code 5 (some (.array .byte)) (rm4 1 1 1 20) [(.ref v), (.int 0), (.int 1)] ((a, oS (.null)) :: (s, strO v) :: (v, fA .byte [y0, y1]) :: F) (Q_c_crb_2_0_1 a s v y0 y1 F) := by
  refine Met.of_wp (Ls := #[.val (.ref v), .val (.int 0), .val (.int 1), .unset, .unset]) pn_26 (fun m => (entry_loc m _ _).trans rfl) ?_
  show W29 l Z (rm4 1 1 1 20) ((a, oS (.null)) :: (s, strO v) :: (v, fA .byte [y0, y1]) :: F) 0 0 0 #[.val (.ref v), .val (.int 0), .val (.int 1), .unset, .unset] [] (Q_c_crb_2_0_1 a s v y0 y1 F)
  refine wp_iload_n D_jdk_65_m133_0 rfl ?_
  refine wp_iload_n D_jdk_65_m133_1 rfl ?_
  refine wp_callS (c_ckl l Z a0 hw 0 1 ((a, oS (.null)) :: (s, strO v) :: (v, fA .byte [y0, y1]) :: F) (by decide)) D_jdk_65_m133_2 (gw hw 124 rfl) (gw hw 125 rfl) (gw hw 119 rfl) (gw hw 126 rfl) (by decide) pd_16 rfl rfl rfl (lb rfl) (lb rfl) (lb rfl) (lb rfl) ?_
  rintro _ _ ⟨rfl, rfl⟩
  show W29 l Z (rm4 1 1 1 20) ((a, oS (.null)) :: (s, strO v) :: (v, fA .byte [y0, y1]) :: F) 0 0 5 #[.val (.ref v), .val (.int 0), .val (.int 1), .unset, .unset] [] (Q_c_crb_2_0_1 a s v y0 y1 F)
  refine wp_iload_n D_jdk_65_m133_5 rfl ?_
  refine wp_iload_n D_jdk_65_m133_6 rfl ?_
  refine wp_isub D_jdk_65_m133_7 ?_
  rw [show ((1 : Int32) - (0 : Int32)) = (1 : Int32) from by decide]
  refine wp_istore_n #[.val (.ref v), .val (.int 0), .val (.int 1), .val (.int 1), .unset] D_jdk_65_m133_8 rfl ?_
  refine wp_iload_n D_jdk_65_m133_9 rfl ?_
  refine wp_newarrayI (n := (1 : Int32)) (1) 1 D_jdk_65_m133_10 rfl rfl rfl (gw hw 20 rfl) (by decide) (by decide) (by decide) (by decide) (by decide) (by decide) ?_
  intro a1
  show W29 l Z (rm4 1 1 1 20) ((a1, oA .byte [(0 : Int32)]) :: (a, oS (.null)) :: (s, strO v) :: (v, fA .byte [y0, y1]) :: F) 1 1 12 #[.val (.ref v), .val (.int 0), .val (.int 1), .val (.int 1), .unset] [(.ref a1)] (Q_c_crb_2_0_1 a s v y0 y1 F)
  refine wp_astore #[.val (.ref v), .val (.int 0), .val (.int 1), .val (.int 1), .val (.ref a1)] D_jdk_65_m133_12 rfl rfl ?_
  refine wp_aload_n D_jdk_65_m133_14 rfl rfl ?_
  refine wp_iload_n D_jdk_65_m133_15 rfl ?_
  refine wp_aload D_jdk_65_m133_16 rfl rfl ?_
  refine wp_iconst 0 D_jdk_65_m133_18 (by decide) ?_
  refine wp_aload_n D_jdk_65_m133_19 rfl rfl ?_
  refine wp_lengthI (i := 3) (2 : Int32) D_jdk_65_m133_20 rfl rfl ?_
  refine wp_iload_n D_jdk_65_m133_21 rfl ?_
  refine wp_isub D_jdk_65_m133_22 ?_
  rw [show ((2 : Int32) - (0 : Int32)) = (2 : Int32) from by decide]
  refine wp_iload_n D_jdk_65_m133_23 rfl ?_
  refine wp_callS (c_min_2_1 l Z a0 hw  ((a1, oA .byte [(0 : Int32)]) :: (a, oS (.null)) :: (s, strO v) :: (v, fA .byte [y0, y1]) :: F) ) D_jdk_65_m133_24 (gw hw 127 rfl) (gw hw 69 rfl) (gw hw 66 rfl) (gw hw 70 rfl) (by decide) pd_3 rfl rfl rfl (lb rfl) (lb rfl) (lb rfl) (lb rfl) ?_
  rintro _ _ ⟨rfl, rfl⟩
  show W29 l Z (rm4 1 1 1 20) ((a1, oA .byte [(0 : Int32)]) :: (a, oS (.null)) :: (s, strO v) :: (v, fA .byte [y0, y1]) :: F) 1 1 27 #[.val (.ref v), .val (.int 0), .val (.int 1), .val (.int 1), .val (.ref a1)] [(.int 1), (.int 0), (.ref a1), (.int 0), (.ref v)] (Q_c_crb_2_0_1 a s v y0 y1 F)
  refine wp_arraycopyI (i := 3) (i' := 0) 0 0 1 D_jdk_65_m133_27 (gw hw 128 rfl) (gw hw 131 rfl) (gw hw 129 rfl) (gw hw 130 rfl) rfl rfl rfl (by decide) (by decide) (by decide) (by decide) (by decide) (by decide) (by first | exact Nat.le_of_ble_eq_true rfl | simp) (by first | exact Nat.le_of_ble_eq_true rfl | simp) (by first | exact Nat.le_of_ble_eq_true rfl | simp) (by first | exact Nat.le_of_ble_eq_true rfl | simp) rfl (by decide) (by decide) ?_
  show W29 l Z (rm4 1 1 1 20) ((a1, oA .byte [y0]) :: (a, oS (.null)) :: (s, strO v) :: (v, fA .byte [y0, y1]) :: F) 1 1 30 #[.val (.ref v), .val (.int 0), .val (.int 1), .val (.int 1), .val (.ref a1)] [] (Q_c_crb_2_0_1 a s v y0 y1 F)
  refine wp_aload D_jdk_65_m133_30 rfl rfl ?_
  refine wp_areturn D_jdk_65_m133_32 rfl rfl rfl rfl (by decide) (by decide) ?_
  exact ⟨_, rfl, rfl⟩
theorem pn_27 : plainFor (⟨"java/util/Arrays", "copyOfRange", "([BII)[B"⟩ : MethodName) = true := by first | exact plainFor_of_name (by first | (simp [plainName, overriddenIn]; done) | decide +kernel) | decide +kernel
def Q_c_cor_2_0_1 (a s v : Addr) (y0 y1 : Int32) (F : OH) : Option Value → OH → Prop := fun w' H' => ∃ b', w' = some (.ref b') ∧ H' = ((b', oA .byte [y0]) :: (a, oS (.null)) :: (s, strO v) :: (v, fA .byte [y0, y1]) :: F)
theorem D_jdk_65_m132_0 : Dc jdk_65_method_132_code 0 (.iload_n 1) 1 1 := ⟨by decide +kernel, rfl⟩
theorem D_jdk_65_m132_1 : Dc jdk_65_method_132_code 1 (.ifCond .ne 9) 3 4 := ⟨by decide +kernel, rfl⟩
theorem D_jdk_65_m132_4 : Dc jdk_65_method_132_code 4 (.iload_n 2) 1 5 := ⟨by decide +kernel, rfl⟩
theorem D_jdk_65_m132_5 : Dc jdk_65_method_132_code 5 (.aload_n 0) 1 6 := ⟨by decide +kernel, rfl⟩
theorem D_jdk_65_m132_6 : Dc jdk_65_method_132_code 6 (.arraylength) 1 7 := ⟨by decide +kernel, rfl⟩
theorem D_jdk_65_m132_7 : Dc jdk_65_method_132_code 7 (.if_icmp .eq 10) 3 10 := ⟨by decide +kernel, rfl⟩
theorem D_jdk_65_m132_10 : Dc jdk_65_method_132_code 10 (.aload_n 0) 1 11 := ⟨by decide +kernel, rfl⟩
theorem D_jdk_65_m132_11 : Dc jdk_65_method_132_code 11 (.iload_n 1) 1 12 := ⟨by decide +kernel, rfl⟩
theorem D_jdk_65_m132_12 : Dc jdk_65_method_132_code 12 (.iload_n 2) 1 13 := ⟨by decide +kernel, rfl⟩
theorem D_jdk_65_m132_13 : Dc jdk_65_method_132_code 13 (.invokestatic 339) 3 16 := ⟨by decide +kernel, rfl⟩
theorem D_jdk_65_m132_16 : Dc jdk_65_method_132_code 16 (.areturn) 1 17 := ⟨by decide +kernel, rfl⟩
abbrev W30 (l : Launch) (Z : State) := Wp none l Z "java/util/Arrays" "copyOfRange" jdk_65_method_132_code 3 (some (.array .byte))
set_option maxRecDepth 65536 in
set_option maxHeartbeats 40000000 in
theorem c_cor_2_0_1 (l : Launch) (Z : State) (a0 : Array Value) (hw : HW Z a0) (a s v : Addr) (y0 y1 : Int32) (cp : Int32) (fm : Value) (F : OH) (hs : Std Z cp fm) :
    Met l Z (⟨"java/util/Arrays", "copyOfRange", "([BII)[B"⟩ : MethodName) jdk_65_method_132_code 3 (some (.array .byte)) (rm4 2 1 1 36) [(.ref v), (.int 0), (.int 1)] ((a, oS (.null)) :: (s, strO v) :: (v, fA .byte [y0, y1]) :: F) (Q_c_cor_2_0_1 a s v y0 y1 F) := by
  refine Met.of_wp (Ls := #[.val (.ref v), .val (.int 0), .val (.int 1)]) pn_27 (fun m => (entry_loc m _ _).trans rfl) ?_
  show W30 l Z (rm4 2 1 1 36) ((a, oS (.null)) :: (s, strO v) :: (v, fA .byte [y0, y1]) :: F) 0 0 0 #[.val (.ref v), .val (.int 0), .val (.int 1)] [] (Q_c_cor_2_0_1 a s v y0 y1 F)
  refine wp_iload_n D_jdk_65_m132_0 rfl ?_
  refine wp_if_ne D_jdk_65_m132_1 (pc'' := 10) ⟨by decide, by decide⟩ (fun h1 => by exact absurd h1 (by decide)) (fun h1 => ?_)
  refine wp_iload_n D_jdk_65_m132_4 rfl ?_
  refine wp_aload_n D_jdk_65_m132_5 rfl rfl ?_
  refine wp_lengthI (i := 2) (2 : Int32) D_jdk_65_m132_6 rfl rfl ?_
  refine wp_icmp_eq D_jdk_65_m132_7 (pc'' := 17) ⟨by decide, by decide⟩ (fun h2 => by exact absurd h2 (by decide)) (fun h2 => ?_)
  refine wp_aload_n D_jdk_65_m132_10 rfl rfl ?_
  refine wp_iload_n D_jdk_65_m132_11 rfl ?_
  refine wp_iload_n D_jdk_65_m132_12 rfl ?_
  refine wp_callS (c_crb_2_0_1 l Z a0 hw a s v y0 y1 cp fm F hs ) D_jdk_65_m132_13 (gw hw 121 rfl) (gw hw 122 rfl) (gw hw 119 rfl) (gw hw 123 rfl) (by decide) pd_17 rfl rfl rfl (lb rfl) (lb rfl) (lb rfl) (lb rfl) ?_
  rintro _ _ ⟨b3, rfl, rfl⟩
  show W30 l Z (rm4 2 1 1 36) ((b3, oA .byte [y0]) :: (a, oS (.null)) :: (s, strO v) :: (v, fA .byte [y0, y1]) :: F) 1 1 16 #[.val (.ref v), .val (.int 0), .val (.int 1)] [(.ref b3)] (Q_c_cor_2_0_1 a s v y0 y1 F)
  refine wp_areturn D_jdk_65_m132_16 rfl rfl rfl rfl (by decide) (by decide) ?_
  exact ⟨_, rfl, rfl⟩
theorem pn_28 : plainFor (⟨"java/lang/String", "<init>", "([BB)V"⟩ : MethodName) = true := by first | exact plainFor_of_name (by first | (simp [plainName, overriddenIn]; done) | decide +kernel) | decide +kernel
def Q_c_sbb (b' a : Addr) (zs : List Int32) (F : OH) : Option Value → OH → Prop := fun w' H' => w' = none ∧ H' = ((b', oA .byte zs) :: (a, oS (.ref b')) :: F)
theorem D_jdk_42_m151_0 : Dc jdk_42_method_151_code 0 (.aload_n 0) 1 1 := ⟨by decide +kernel, rfl⟩
theorem D_jdk_42_m151_1 : Dc jdk_42_method_151_code 1 (.invokespecial 1) 3 4 := ⟨by decide +kernel, rfl⟩
theorem D_jdk_42_m151_4 : Dc jdk_42_method_151_code 4 (.aload_n 0) 1 5 := ⟨by decide +kernel, rfl⟩
theorem D_jdk_42_m151_5 : Dc jdk_42_method_151_code 5 (.aload_n 1) 1 6 := ⟨by decide +kernel, rfl⟩
theorem D_jdk_42_m151_6 : Dc jdk_42_method_151_code 6 (.putfield 9) 3 9 := ⟨by decide +kernel, rfl⟩
theorem D_jdk_42_m151_9 : Dc jdk_42_method_151_code 9 (.aload_n 0) 1 10 := ⟨by decide +kernel, rfl⟩
theorem D_jdk_42_m151_10 : Dc jdk_42_method_151_code 10 (.iload_n 2) 1 11 := ⟨by decide +kernel, rfl⟩
theorem D_jdk_42_m151_11 : Dc jdk_42_method_151_code 11 (.putfield 15) 3 14 := ⟨by decide +kernel, rfl⟩
theorem D_jdk_42_m151_14 : Dc jdk_42_method_151_code 14 (.return_) 1 15 := ⟨by decide +kernel, rfl⟩
abbrev W31 (l : Launch) (Z : State) := Wp none l Z "java/lang/String" "<init>" jdk_42_method_151_code 3 none
set_option maxRecDepth 65536 in
set_option maxHeartbeats 40000000 in
theorem c_sbb (l : Launch) (Z : State) (a0 : Array Value) (hw : HW Z a0) (b' a : Addr) (zs : List Int32) (F : OH) :
    Met l Z (⟨"java/lang/String", "<init>", "([BB)V"⟩ : MethodName) jdk_42_method_151_code 3 none (rm4 1 0 0 12) [(.ref a), (.ref b'), (.int 0)] ((b', oA .byte zs) :: (a, oS (.null)) :: F) (Q_c_sbb b' a zs F) := by
  refine Met.of_wp (Ls := #[.val (.ref a), .val (.ref b'), .val (.int 0)]) pn_28 (fun m => (entry_loc m _ _).trans rfl) ?_
  show W31 l Z (rm4 1 0 0 12) ((b', oA .byte zs) :: (a, oS (.null)) :: F) 0 0 0 #[.val (.ref a), .val (.ref b'), .val (.int 0)] [] (Q_c_sbb b' a zs F)
  refine wp_aload_n D_jdk_42_m151_0 rfl rfl ?_
  refine wp_initO D_jdk_42_m151_1 (gw hw 16 rfl) (gw hw 17 rfl) (gw hw 18 rfl) rfl (Nat.le_of_ble_eq_true rfl) (Nat.le_of_ble_eq_true rfl) ?_
  refine wp_aload_n D_jdk_42_m151_4 rfl rfl ?_
  refine wp_aload_n D_jdk_42_m151_5 rfl rfl ?_
  refine wp_putfield (i := 1) (fi := 0) (ty := (.array .byte)) D_jdk_42_m151_6 (gw hw 25 rfl) rfl rfl rfl (Or.inr ⟨(gw hw 21 rfl), rfl, rfl⟩) (gw hw 6 rfl) (by decide) rfl rfl ?_
  show W31 l Z (rm4 1 0 0 12) ((b', oA .byte zs) :: (a, oS (.ref b')) :: F) 0 0 9 #[.val (.ref a), .val (.ref b'), .val (.int 0)] [] (Q_c_sbb b' a zs F)
  refine wp_aload_n D_jdk_42_m151_9 rfl rfl ?_
  refine wp_iload_n D_jdk_42_m151_10 rfl ?_
  refine wp_putfield (i := 1) (fi := 1) (ty := .byte) D_jdk_42_m151_11 (gw hw 26 rfl) rfl rfl rfl (Or.inr ⟨(gw hw 22 rfl), rfl, rfl⟩) (gw hw 6 rfl) (by decide) rfl rfl ?_
  show W31 l Z (rm4 1 0 0 12) ((b', oA .byte zs) :: (a, oS (.ref b')) :: F) 0 0 14 #[.val (.ref a), .val (.ref b'), .val (.int 0)] [] (Q_c_sbb b' a zs F)
  refine wp_return D_jdk_42_m151_14 rfl (by decide) (by decide) ?_
  exact ⟨rfl, rfl⟩
def Q_c_nst_2_0_1 (s v : Addr) (y0 y1 : Int32) (F : OH) : Option Value → OH → Prop := fun w' H' => ∃ a u, w' = some (.ref a) ∧ H' = ((u, fA .byte [y0]) :: (a, strO u) :: (s, strO v) :: (v, fA .byte [y0, y1]) :: F)
abbrev W32 (l : Launch) (Z : State) := Wp none l Z "java/lang/StringLatin1" "newString" jdk_43_method_47_code 3 (some (.object "java/lang/String"))
set_option maxRecDepth 65536 in
set_option maxHeartbeats 40000000 in
theorem c_nst_2_0_1 (l : Launch) (Z : State) (a0 : Array Value) (hw : HW Z a0) (s v : Addr) (y0 y1 : Int32) (cp : Int32) (fm : Value) (F : OH) (hs : Std Z cp fm) :
    Met l Z (⟨"java/lang/StringLatin1", "newString", "([BII)Ljava/lang/String;"⟩ : MethodName) jdk_43_method_47_code 3 (some (.object "java/lang/String")) (rm4 3 2 5 52) [(.ref v), (.int 0), (.int 1)] ((s, strO v) :: (v, fA .byte [y0, y1]) :: F) (Q_c_nst_2_0_1 s v y0 y1 F) := by
  refine Met.of_wp (Ls := #[.val (.ref v), .val (.int 0), .val (.int 1)]) pn_23 (fun m => (entry_loc m _ _).trans rfl) ?_
  show W32 l Z (rm4 3 2 5 52) ((s, strO v) :: (v, fA .byte [y0, y1]) :: F) 0 0 0 #[.val (.ref v), .val (.int 0), .val (.int 1)] [] (Q_c_nst_2_0_1 s v y0 y1 F)
  refine wp_iload_n D_jdk_43_m47_0 rfl ?_
  refine wp_if_ne D_jdk_43_m47_1 (pc'' := 7) ⟨by decide, by decide⟩ (fun h1 => ?_) (fun h1 => by exact absurd h1 (by decide))
  refine wp_new sgStr [(.null), (.int 0)] D_jdk_43_m47_7 (gw hw 116 rfl) (gw hw 6 rfl) (gw hw 7 rfl) (laid_sgStr l Z a0 hw) (by decide) dfl_sgStr (by decide) (by decide) ?_
  intro a2
  show W32 l Z (rm4 3 2 5 52) ((a2, oS (.null)) :: (s, strO v) :: (v, fA .byte [y0, y1]) :: F) 1 4 10 #[.val (.ref v), .val (.int 0), .val (.int 1)] [(.ref a2)] (Q_c_nst_2_0_1 s v y0 y1 F)
  refine wp_dup D_jdk_43_m47_10 rfl ?_
  refine wp_aload_n D_jdk_43_m47_11 rfl rfl ?_
  refine wp_iload_n D_jdk_43_m47_12 rfl ?_
  refine wp_iload_n D_jdk_43_m47_13 rfl ?_
  refine wp_iload_n D_jdk_43_m47_14 rfl ?_
  refine wp_iadd D_jdk_43_m47_15 ?_
  rw [show ((0 : Int32) + (1 : Int32)) = (1 : Int32) from by decide]
  refine wp_callS (c_cor_2_0_1 l Z a0 hw a2 s v y0 y1 cp fm F hs ) D_jdk_43_m47_16 (gw hw 117 rfl) (gw hw 118 rfl) (gw hw 119 rfl) (gw hw 120 rfl) (by decide) pd_17 rfl rfl rfl (lb rfl) (lb rfl) (lb rfl) (lb rfl) ?_
  rintro _ _ ⟨b3, rfl, rfl⟩
  show W32 l Z (rm4 3 2 5 52) ((b3, oA .byte [y0]) :: (a2, oS (.null)) :: (s, strO v) :: (v, fA .byte [y0, y1]) :: F) 2 5 19 #[.val (.ref v), .val (.int 0), .val (.int 1)] [(.ref b3), (.ref a2), (.ref a2)] (Q_c_nst_2_0_1 s v y0 y1 F)
  refine wp_iconst 0 D_jdk_43_m47_19 (by decide) ?_
  refine wp_init (c_sbb l Z a0 hw b3 a2 [y0] ((s, strO v) :: (v, fA .byte [y0, y1]) :: F) ) D_jdk_43_m47_20 rfl (gw hw 132 rfl) (gw hw 133 rfl) (gw hw 7 rfl) (gw hw 134 rfl) (by decide) pd_18 rfl rfl rfl (lb rfl) (lb rfl) (lb rfl) (lb rfl) ?_
  rintro _ _ ⟨rfl, rfl⟩
  show W32 l Z (rm4 3 2 5 52) ((b3, oA .byte [y0]) :: (a2, oS (.ref b3)) :: (s, strO v) :: (v, fA .byte [y0, y1]) :: F) 2 5 23 #[.val (.ref v), .val (.int 0), .val (.int 1)] [(.ref a2)] (Q_c_nst_2_0_1 s v y0 y1 F)
  refine Wp.frz (i := 0) rfl ?_
  refine Wp.frz (i := 1) rfl ?_
  show W32 l Z (rm4 3 2 5 52) ((b3, fA .byte [y0]) :: (a2, strO b3) :: (s, strO v) :: (v, fA .byte [y0, y1]) :: F) 2 5 23 #[.val (.ref v), .val (.int 0), .val (.int 1)] [(.ref a2)] (Q_c_nst_2_0_1 s v y0 y1 F)
  refine wp_areturn D_jdk_43_m47_23 rfl rfl rfl rfl (by decide) (by decide) ?_
  exact ⟨_, _, rfl, rfl⟩
def Q_c_sub_2_0_1 (s v : Addr) (y0 y1 : Int32) (F : OH) : Option Value → OH → Prop := fun w' H' => ∃ a u, w' = some (.ref a) ∧ H' = ((u, fA .byte [y0]) :: (a, strO u) :: (s, strO v) :: (v, fA .byte [y0, y1]) :: F)
abbrev W33 (l : Launch) (Z : State) := Wp none l Z "java/lang/String" "substring" jdk_42_method_92_code 5 (some (.object "java/lang/String"))
set_option maxRecDepth 65536 in
set_option maxHeartbeats 40000000 in
theorem c_sub_2_0_1 (l : Launch) (Z : State) (a0 : Array Value) (hw : HW Z a0) (s v : Addr) (y0 y1 : Int32) (cp : Int32) (fm : Value) (F : OH) (hs : Std Z cp fm) :
    Met l Z (⟨"java/lang/String", "substring", "(II)Ljava/lang/String;"⟩ : MethodName) jdk_42_method_92_code 5 (some (.object "java/lang/String")) (rm4 4 2 5 66) [(.ref s), (.int 0), (.int 1)] ((s, strO v) :: (v, fA .byte [y0, y1]) :: F) (Q_c_sub_2_0_1 s v y0 y1 F) := by
  refine Met.of_wp (Ls := #[.val (.ref s), .val (.int 0), .val (.int 1), .unset, .unset]) pn_24 (fun m => (entry_loc m _ _).trans rfl) ?_
  show W33 l Z (rm4 4 2 5 66) ((s, strO v) :: (v, fA .byte [y0, y1]) :: F) 0 0 0 #[.val (.ref s), .val (.int 0), .val (.int 1), .unset, .unset] [] (Q_c_sub_2_0_1 s v y0 y1 F)
  refine wp_aload_n D_jdk_42_m92_0 rfl rfl ?_
  refine wp_virtual (c_len_2 l Z a0 hw s v y0 y1 cp fm F hs ) (exa_new (i := 0) rfl) D_jdk_42_m92_1 (gw hw 47 rfl) (gw hw 48 rfl) (gw hw 50 rfl) (gw hw 50 rfl) (gw hw 49 rfl) (gw hw 7 rfl) (gw hw 51 rfl) (by decide) pd_5 rfl rfl rfl (lb rfl) (lb rfl) (lb rfl) (lb rfl) ?_
  rintro _ _ ⟨rfl, rfl⟩
  show W33 l Z (rm4 4 2 5 66) ((s, strO v) :: (v, fA .byte [y0, y1]) :: F) 0 0 4 #[.val (.ref s), .val (.int 0), .val (.int 1), .unset, .unset] [(.int 2)] (Q_c_sub_2_0_1 s v y0 y1 F)
  refine wp_istore_n #[.val (.ref s), .val (.int 0), .val (.int 1), .val (.int 2), .unset] D_jdk_42_m92_4 rfl ?_
  refine wp_iload_n D_jdk_42_m92_5 rfl ?_
  refine wp_iload_n D_jdk_42_m92_6 rfl ?_
  refine wp_iload_n D_jdk_42_m92_7 rfl ?_
  refine wp_callS (c_cbe l Z a0 hw 0 1 2 cp fm ((s, strO v) :: (v, fA .byte [y0, y1]) :: F) hs (by decide) (by decide) (by decide)) D_jdk_42_m92_8 (gw hw 90 rfl) (gw hw 91 rfl) (gw hw 7 rfl) (gw hw 92 rfl) (by decide) pd_10 rfl rfl rfl (lb rfl) (lb rfl) (lb rfl) (lb rfl) ?_
  rintro _ _ ⟨rfl, rfl⟩
  show W33 l Z (rm4 4 2 5 66) ((s, strO v) :: (v, fA .byte [y0, y1]) :: F) 0 0 11 #[.val (.ref s), .val (.int 0), .val (.int 1), .val (.int 2), .unset] [] (Q_c_sub_2_0_1 s v y0 y1 F)
  refine wp_iload_n D_jdk_42_m92_11 rfl ?_
  refine wp_if_ne D_jdk_42_m92_12 (pc'' := 22) ⟨by decide, by decide⟩ (fun h1 => by exact absurd h1 (by decide)) (fun h1 => ?_)
  refine wp_iload_n D_jdk_42_m92_15 rfl ?_
  refine wp_iload_n D_jdk_42_m92_16 rfl ?_
  refine wp_icmp_ne D_jdk_42_m92_17 (pc'' := 22) ⟨by decide, by decide⟩ (fun h2 => ?_) (fun h2 => by exact absurd h2 (by decide))
  refine wp_iload_n D_jdk_42_m92_22 rfl ?_
  refine wp_iload_n D_jdk_42_m92_23 rfl ?_
  refine wp_isub D_jdk_42_m92_24 ?_
  rw [show ((1 : Int32) - (0 : Int32)) = (1 : Int32) from by decide]
  refine wp_istore #[.val (.ref s), .val (.int 0), .val (.int 1), .val (.int 2), .val (.int 1)] D_jdk_42_m92_25 rfl ?_
  refine wp_aload_n D_jdk_42_m92_27 rfl rfl ?_
  refine wp_virtual (c_lat l Z a0 hw s v cp fm ((v, fA .byte [y0, y1]) :: F) hs ) (exa_new (i := 0) rfl) D_jdk_42_m92_28 (gw hw 41 rfl) (gw hw 42 rfl) (gw hw 44 rfl) (gw hw 44 rfl) (gw hw 43 rfl) (gw hw 7 rfl) (gw hw 45 rfl) (by decide) pd_4 rfl rfl rfl (lb rfl) (lb rfl) (lb rfl) (lb rfl) ?_
  rintro _ _ ⟨rfl, rfl⟩
  show W33 l Z (rm4 4 2 5 66) ((s, strO v) :: (v, fA .byte [y0, y1]) :: F) 0 0 31 #[.val (.ref s), .val (.int 0), .val (.int 1), .val (.int 2), .val (.int 1)] [(.int 1)] (Q_c_sub_2_0_1 s v y0 y1 F)
  refine wp_if_eq D_jdk_42_m92_31 (pc'' := 47) ⟨by decide, by decide⟩ (fun h3 => by exact absurd h3 (by decide)) (fun h3 => ?_)
  refine wp_aload_n D_jdk_42_m92_34 rfl rfl ?_
  refine wp_getfield D_jdk_42_m92_35 (gw hw 25 rfl) (fld_new (i := 0) (fi := 0) rfl rfl rfl) ?_
  refine wp_iload_n D_jdk_42_m92_38 rfl ?_
  refine wp_iload D_jdk_42_m92_39 rfl ?_
  refine wp_callS (c_nst_2_0_1 l Z a0 hw s v y0 y1 cp fm F hs ) D_jdk_42_m92_41 (gw hw 98 rfl) (gw hw 99 rfl) (gw hw 59 rfl) (gw hw 100 rfl) (by decide) pd_12 rfl rfl rfl (lb rfl) (lb rfl) (lb rfl) (lb rfl) ?_
  rintro _ _ ⟨sa4, su5, rfl, rfl⟩
  show W33 l Z (rm4 4 2 5 66) ((su5, fA .byte [y0]) :: (sa4, strO su5) :: (s, strO v) :: (v, fA .byte [y0, y1]) :: F) 2 5 44 #[.val (.ref s), .val (.int 0), .val (.int 1), .val (.int 2), .val (.int 1)] [(.ref sa4)] (Q_c_sub_2_0_1 s v y0 y1 F)
  refine wp_goto D_jdk_42_m92_44 (pc'' := 57) ⟨by decide, by decide⟩ ?_
  refine wp_areturn D_jdk_42_m92_57 rfl rfl rfl rfl (by decide) (by decide) ?_
  exact ⟨_, _, rfl, rfl⟩
def Q_c_wf_2_1 (s v : Addr) (y0 y1 : Int32) (F : OH) : Option Value → OH → Prop := fun w' H' => ∃ a u, w' = some (.ref a) ∧ H' = ((u, fA .byte [y0]) :: (a, strO u) :: (s, strO v) :: (v, fA .byte [y0, y1]) :: F)
set_option maxRecDepth 65536 in
set_option maxHeartbeats 40000000 in
theorem c_wf_2_1 (l : Launch) (Z : State) (a0 : Array Value) (hw : HW Z a0) (s v : Addr) (y0 y1 : Int32) (cp : Int32) (fm : Value) (F : OH) (hs : Std Z cp fm) (hq0 : ¬ y0 = 35) (hq1 : y1 = 35) :
    Met l Z (⟨"com/example/bylint/bylint/description/UriReferences", "withoutFragment", "(Ljava/lang/String;)Ljava/lang/String;"⟩ : MethodName) prog_9_method_5_code 2 (some (.object "java/lang/String")) (rm4 5 2 5 82) [(.ref s)] ((s, strO v) :: (v, fA .byte [y0, y1]) :: F) (Q_c_wf_2_1 s v y0 y1 F) := by
  refine Met.of_wp (Ls := #[.val (.ref s), .unset]) pn_20 (fun m => (entry_loc m _ _).trans rfl) ?_
  show W21 l Z (rm4 5 2 5 82) ((s, strO v) :: (v, fA .byte [y0, y1]) :: F) 0 0 0 #[.val (.ref s), .unset] [] (Q_c_wf_2_1 s v y0 y1 F)
  refine wp_aload_n D_prog_9_m5_0 rfl rfl ?_
  refine wp_bipush 35 D_prog_9_m5_1 (by decide) ?_
  refine wp_virtual (c_si_2 l Z a0 hw s v y0 y1 (1 : Int32) cp fm F hs (c_ioc_2_1 l Z a0 hw s v y0 y1 F hq0 hq1)) (exa_new (i := 0) rfl) D_prog_9_m5_3 (gw hw 31 rfl) (gw hw 32 rfl) (gw hw 34 rfl) (gw hw 34 rfl) (gw hw 33 rfl) (gw hw 7 rfl) (gw hw 35 rfl) (by decide) pd_19 rfl rfl rfl (lb rfl) (lb rfl) (lb rfl) (lb rfl) ?_
  rintro _ _ ⟨rfl, rfl⟩
  show W21 l Z (rm4 5 2 5 82) ((s, strO v) :: (v, fA .byte [y0, y1]) :: F) 0 0 6 #[.val (.ref s), .unset] [(.int 1)] (Q_c_wf_2_1 s v y0 y1 F)
  refine wp_istore_n #[.val (.ref s), .val (.int 1)] D_prog_9_m5_6 rfl ?_
  refine wp_iload_n D_prog_9_m5_7 rfl ?_
  refine wp_if_ge D_prog_9_m5_8 (pc'' := 15) ⟨by decide, by decide⟩ (fun h1 => ?_) (fun h1 => by exact absurd h1 (by decide))
  refine wp_aload_n D_prog_9_m5_15 rfl rfl ?_
  refine wp_iconst 0 D_prog_9_m5_16 (by decide) ?_
  refine wp_iload_n D_prog_9_m5_17 rfl ?_
  refine wp_virtual (c_sub_2_0_1 l Z a0 hw s v y0 y1 cp fm F hs ) (exa_new (i := 0) rfl) D_prog_9_m5_18 (gw hw 85 rfl) (gw hw 86 rfl) (gw hw 88 rfl) (gw hw 88 rfl) (gw hw 87 rfl) (gw hw 7 rfl) (gw hw 89 rfl) (by decide) pd_20 rfl rfl rfl (lb rfl) (lb rfl) (lb rfl) (lb rfl) ?_
  rintro _ _ ⟨sa2, su3, rfl, rfl⟩
  show W21 l Z (rm4 5 2 5 82) ((su3, fA .byte [y0]) :: (sa2, strO su3) :: (s, strO v) :: (v, fA .byte [y0, y1]) :: F) 2 5 21 #[.val (.ref s), .val (.int 1)] [(.ref sa2)] (Q_c_wf_2_1 s v y0 y1 F)
  refine wp_areturn D_prog_9_m5_21 rfl rfl rfl rfl (by decide) (by decide) ?_
  exact ⟨_, _, rfl, rfl⟩
def Q_c_min_3_3  (F : OH) : Option Value → OH → Prop := fun w' H' => w' = some (.int 3) ∧ H' = F
set_option maxRecDepth 65536 in
set_option maxHeartbeats 40000000 in
theorem c_min_3_3 (l : Launch) (Z : State) (a0 : Array Value) (hw : HW Z a0)  (F : OH) :
    Met l Z (⟨"java/lang/Math", "min", "(II)I"⟩ : MethodName) jdk_29_method_69_code 2 (some .int) (rm4 0 0 0 0) [(.int 3), (.int 3)] F (Q_c_min_3_3 F) := by
  refine Met.of_wp (Ls := #[.val (.int 3), .val (.int 3)]) pn_15 (fun m => (entry_loc m _ _).trans rfl) ?_
  show W17 l Z (rm4 0 0 0 0) F 0 0 0 #[.val (.int 3), .val (.int 3)] [] (Q_c_min_3_3 F)
  refine wp_iload_n D_jdk_29_m69_0 rfl ?_
  refine wp_iload_n D_jdk_29_m69_1 rfl ?_
  refine wp_icmp_gt D_jdk_29_m69_2 (pc'' := 9) ⟨by decide, by decide⟩ (fun h1 => by exact absurd h1 (by decide)) (fun h1 => ?_)
  refine wp_iload_n D_jdk_29_m69_5 rfl ?_
  refine wp_goto D_jdk_29_m69_6 (pc'' := 10) ⟨by decide, by decide⟩ ?_
  refine wp_ireturn D_jdk_29_m69_10 rfl (by decide) (by decide) ?_
  exact ⟨rfl, rfl⟩
def Q_ioc_3 (s v : Addr) (y0 y1 y2 : Int32) (r : Int32) (F : OH) : Option Value → OH → Prop := fun w' H' => w' = some (.int r) ∧ H' = ((s, strO v) :: (v, fA .byte [y0, y1, y2]) :: F)
def Q_c_lix_3 (s v : Addr) (y0 y1 y2 : Int32) (r : Int32) (F : OH) : Option Value → OH → Prop := fun w' H' => w' = some (.int r) ∧ H' = ((s, strO v) :: (v, fA .byte [y0, y1, y2]) :: F)
set_option maxRecDepth 65536 in
set_option maxHeartbeats 40000000 in
theorem c_lix_3 (l : Launch) (Z : State) (a0 : Array Value) (hw : HW Z a0) (s v : Addr) (y0 y1 y2 : Int32) (r : Int32) (cp : Int32) (fm : Value) (F : OH) (hs : Std Z cp fm) (hM : Met l Z (⟨"java/lang/StringLatin1", "indexOfChar", "([BIII)I"⟩ : MethodName) jdk_43_method_23_code 6 (some .int) (rm4 0 0 0 0) [.ref v, .int 35, .int 0, .int 3] ((s, strO v) :: (v, fA .byte [y0, y1, y2]) :: F) (Q_ioc_3 s v y0 y1 y2 r F)) :
    Met l Z (⟨"java/lang/StringLatin1", "indexOf", "([BIII)I"⟩ : MethodName) jdk_43_method_22_code 4 (some .int) (rm4 1 0 0 17) [(.ref v), (.int 35), (.int 0), (.int 3)] ((s, strO v) :: (v, fA .byte [y0, y1, y2]) :: F) (Q_c_lix_3 s v y0 y1 y2 r F) := by
  refine Met.of_wp (Ls := #[.val (.ref v), .val (.int 35), .val (.int 0), .val (.int 3)]) pn_17 (fun m => (entry_loc m _ _).trans rfl) ?_
  show W18 l Z (rm4 1 0 0 17) ((s, strO v) :: (v, fA .byte [y0, y1, y2]) :: F) 0 0 0 #[.val (.ref v), .val (.int 35), .val (.int 0), .val (.int 3)] [] (Q_c_lix_3 s v y0 y1 y2 r F)
  refine wp_iload_n D_jdk_43_m22_0 rfl ?_
  refine wp_callS (c_can l Z a0 hw  ((s, strO v) :: (v, fA .byte [y0, y1, y2]) :: F) ) D_jdk_43_m22_1 (gw hw 61 rfl) (gw hw 62 rfl) (gw hw 59 rfl) (gw hw 63 rfl) (by decide) pd_15 rfl rfl rfl (lb rfl) (lb rfl) (lb rfl) (lb rfl) ?_
  rintro _ _ ⟨rfl, rfl⟩
  show W18 l Z (rm4 1 0 0 17) ((s, strO v) :: (v, fA .byte [y0, y1, y2]) :: F) 0 0 4 #[.val (.ref v), .val (.int 35), .val (.int 0), .val (.int 3)] [(.int 1)] (Q_c_lix_3 s v y0 y1 y2 r F)
  refine wp_if_ne D_jdk_43_m22_4 (pc'' := 9) ⟨by decide, by decide⟩ (fun h1 => ?_) (fun h1 => by exact absurd h1 (by decide))
  refine wp_iload_n D_jdk_43_m22_9 rfl ?_
  refine wp_iconst 0 D_jdk_43_m22_10 (by decide) ?_
  refine wp_callS (c_max_0_0 l Z a0 hw  ((s, strO v) :: (v, fA .byte [y0, y1, y2]) :: F) ) D_jdk_43_m22_11 (gw hw 64 rfl) (gw hw 65 rfl) (gw hw 66 rfl) (gw hw 67 rfl) (by decide) pd_3 rfl rfl rfl (lb rfl) (lb rfl) (lb rfl) (lb rfl) ?_
  rintro _ _ ⟨rfl, rfl⟩
  show W18 l Z (rm4 1 0 0 17) ((s, strO v) :: (v, fA .byte [y0, y1, y2]) :: F) 0 0 14 #[.val (.ref v), .val (.int 35), .val (.int 0), .val (.int 3)] [(.int 0)] (Q_c_lix_3 s v y0 y1 y2 r F)
  refine wp_istore_n #[.val (.ref v), .val (.int 35), .val (.int 0), .val (.int 3)] D_jdk_43_m22_14 rfl ?_
  refine wp_iload_n D_jdk_43_m22_15 rfl ?_
  refine wp_aload_n D_jdk_43_m22_16 rfl rfl ?_
  refine wp_lengthI (i := 1) (3 : Int32) D_jdk_43_m22_17 rfl rfl ?_
  refine wp_callS (c_min_3_3 l Z a0 hw  ((s, strO v) :: (v, fA .byte [y0, y1, y2]) :: F) ) D_jdk_43_m22_18 (gw hw 68 rfl) (gw hw 69 rfl) (gw hw 66 rfl) (gw hw 70 rfl) (by decide) pd_3 rfl rfl rfl (lb rfl) (lb rfl) (lb rfl) (lb rfl) ?_
  rintro _ _ ⟨rfl, rfl⟩
  show W18 l Z (rm4 1 0 0 17) ((s, strO v) :: (v, fA .byte [y0, y1, y2]) :: F) 0 0 21 #[.val (.ref v), .val (.int 35), .val (.int 0), .val (.int 3)] [(.int 3)] (Q_c_lix_3 s v y0 y1 y2 r F)
  refine wp_istore_n #[.val (.ref v), .val (.int 35), .val (.int 0), .val (.int 3)] D_jdk_43_m22_21 rfl ?_
  refine wp_iload_n D_jdk_43_m22_22 rfl ?_
  refine wp_iload_n D_jdk_43_m22_23 rfl ?_
  refine wp_icmp_lt D_jdk_43_m22_24 (pc'' := 29) ⟨by decide, by decide⟩ (fun h2 => ?_) (fun h2 => by exact absurd h2 (by decide))
  refine wp_aload_n D_jdk_43_m22_29 rfl rfl ?_
  refine wp_iload_n D_jdk_43_m22_30 rfl ?_
  refine wp_iload_n D_jdk_43_m22_31 rfl ?_
  refine wp_iload_n D_jdk_43_m22_32 rfl ?_
  refine wp_callS hM D_jdk_43_m22_33 (gw hw 82 rfl) (gw hw 83 rfl) (gw hw 59 rfl) (gw hw 84 rfl) (by decide) pd_7 rfl rfl rfl (lb rfl) (lb rfl) (lb rfl) (lb rfl) ?_
  rintro _ _ ⟨rfl, rfl⟩
  show W18 l Z (rm4 1 0 0 17) ((s, strO v) :: (v, fA .byte [y0, y1, y2]) :: F) 0 0 36 #[.val (.ref v), .val (.int 35), .val (.int 0), .val (.int 3)] [(.int r)] (Q_c_lix_3 s v y0 y1 y2 r F)
  refine wp_ireturn D_jdk_43_m22_36 rfl (by decide) (by decide) ?_
  exact ⟨rfl, rfl⟩
def Q_c_six_3 (s v : Addr) (y0 y1 y2 : Int32) (r : Int32) (F : OH) : Option Value → OH → Prop := fun w' H' => w' = some (.int r) ∧ H' = ((s, strO v) :: (v, fA .byte [y0, y1, y2]) :: F)
set_option maxRecDepth 65536 in
set_option maxHeartbeats 40000000 in
theorem c_six_3 (l : Launch) (Z : State) (a0 : Array Value) (hw : HW Z a0) (s v : Addr) (y0 y1 y2 : Int32) (r : Int32) (cp : Int32) (fm : Value) (F : OH) (hs : Std Z cp fm) (hM : Met l Z (⟨"java/lang/StringLatin1", "indexOfChar", "([BIII)I"⟩ : MethodName) jdk_43_method_23_code 6 (some .int) (rm4 0 0 0 0) [.ref v, .int 35, .int 0, .int 3] ((s, strO v) :: (v, fA .byte [y0, y1, y2]) :: F) (Q_ioc_3 s v y0 y1 y2 r F)) :
    Met l Z (⟨"java/lang/String", "indexOf", "(II)I"⟩ : MethodName) jdk_42_method_80_code 3 (some .int) (rm4 2 0 0 32) [(.ref s), (.int 35), (.int 0)] ((s, strO v) :: (v, fA .byte [y0, y1, y2]) :: F) (Q_c_six_3 s v y0 y1 y2 r F) := by
  refine Met.of_wp (Ls := #[.val (.ref s), .val (.int 35), .val (.int 0)]) pn_18 (fun m => (entry_loc m _ _).trans rfl) ?_
  show W19 l Z (rm4 2 0 0 32) ((s, strO v) :: (v, fA .byte [y0, y1, y2]) :: F) 0 0 0 #[.val (.ref s), .val (.int 35), .val (.int 0)] [] (Q_c_six_3 s v y0 y1 y2 r F)
  refine wp_aload_n D_jdk_42_m80_0 rfl rfl ?_
  refine wp_virtual (c_lat l Z a0 hw s v cp fm ((v, fA .byte [y0, y1, y2]) :: F) hs ) (exa_new (i := 0) rfl) D_jdk_42_m80_1 (gw hw 41 rfl) (gw hw 42 rfl) (gw hw 44 rfl) (gw hw 44 rfl) (gw hw 43 rfl) (gw hw 7 rfl) (gw hw 45 rfl) (by decide) pd_4 rfl rfl rfl (lb rfl) (lb rfl) (lb rfl) (lb rfl) ?_
  rintro _ _ ⟨rfl, rfl⟩
  show W19 l Z (rm4 2 0 0 32) ((s, strO v) :: (v, fA .byte [y0, y1, y2]) :: F) 0 0 4 #[.val (.ref s), .val (.int 35), .val (.int 0)] [(.int 1)] (Q_c_six_3 s v y0 y1 y2 r F)
  refine wp_if_eq D_jdk_42_m80_4 (pc'' := 23) ⟨by decide, by decide⟩ (fun h1 => by exact absurd h1 (by decide)) (fun h1 => ?_)
  refine wp_aload_n D_jdk_42_m80_7 rfl rfl ?_
  refine wp_getfield D_jdk_42_m80_8 (gw hw 25 rfl) (fld_new (i := 0) (fi := 0) rfl rfl rfl) ?_
  refine wp_iload_n D_jdk_42_m80_11 rfl ?_
  refine wp_iload_n D_jdk_42_m80_12 rfl ?_
  refine wp_aload_n D_jdk_42_m80_13 rfl rfl ?_
  refine wp_virtual (c_len_3 l Z a0 hw s v y0 y1 y2 cp fm F hs ) (exa_new (i := 0) rfl) D_jdk_42_m80_14 (gw hw 47 rfl) (gw hw 48 rfl) (gw hw 50 rfl) (gw hw 50 rfl) (gw hw 49 rfl) (gw hw 7 rfl) (gw hw 51 rfl) (by decide) pd_5 rfl rfl rfl (lb rfl) (lb rfl) (lb rfl) (lb rfl) ?_
  rintro _ _ ⟨rfl, rfl⟩
  show W19 l Z (rm4 2 0 0 32) ((s, strO v) :: (v, fA .byte [y0, y1, y2]) :: F) 0 0 17 #[.val (.ref s), .val (.int 35), .val (.int 0)] [(.int 3), (.int 0), (.int 35), (.ref v)] (Q_c_six_3 s v y0 y1 y2 r F)
  refine wp_callS (c_lix_3 l Z a0 hw s v y0 y1 y2 r cp fm F hs hM) D_jdk_42_m80_17 (gw hw 57 rfl) (gw hw 58 rfl) (gw hw 59 rfl) (gw hw 60 rfl) (by decide) pd_7 rfl rfl rfl (lb rfl) (lb rfl) (lb rfl) (lb rfl) ?_
  rintro _ _ ⟨rfl, rfl⟩
  show W19 l Z (rm4 2 0 0 32) ((s, strO v) :: (v, fA .byte [y0, y1, y2]) :: F) 0 0 20 #[.val (.ref s), .val (.int 35), .val (.int 0)] [(.int r)] (Q_c_six_3 s v y0 y1 y2 r F)
  refine wp_goto D_jdk_42_m80_20 (pc'' := 36) ⟨by decide, by decide⟩ ?_
  refine wp_ireturn D_jdk_42_m80_36 rfl (by decide) (by decide) ?_
  exact ⟨rfl, rfl⟩
def Q_c_si_3 (s v : Addr) (y0 y1 y2 : Int32) (r : Int32) (F : OH) : Option Value → OH → Prop := fun w' H' => w' = some (.int r) ∧ H' = ((s, strO v) :: (v, fA .byte [y0, y1, y2]) :: F)
set_option maxRecDepth 65536 in
set_option maxHeartbeats 40000000 in
theorem c_si_3 (l : Launch) (Z : State) (a0 : Array Value) (hw : HW Z a0) (s v : Addr) (y0 y1 y2 : Int32) (r : Int32) (cp : Int32) (fm : Value) (F : OH) (hs : Std Z cp fm) (hM : Met l Z (⟨"java/lang/StringLatin1", "indexOfChar", "([BIII)I"⟩ : MethodName) jdk_43_method_23_code 6 (some .int) (rm4 0 0 0 0) [.ref v, .int 35, .int 0, .int 3] ((s, strO v) :: (v, fA .byte [y0, y1, y2]) :: F) (Q_ioc_3 s v y0 y1 y2 r F)) :
    Met l Z (⟨"java/lang/String", "indexOf", "(I)I"⟩ : MethodName) jdk_42_method_79_code 2 (some .int) (rm4 3 0 0 46) [(.ref s), (.int 35)] ((s, strO v) :: (v, fA .byte [y0, y1, y2]) :: F) (Q_c_si_3 s v y0 y1 y2 r F) := by
  refine Met.of_wp (Ls := #[.val (.ref s), .val (.int 35)]) pn_19 (fun m => (entry_loc m _ _).trans rfl) ?_
  show W20 l Z (rm4 3 0 0 46) ((s, strO v) :: (v, fA .byte [y0, y1, y2]) :: F) 0 0 0 #[.val (.ref s), .val (.int 35)] [] (Q_c_si_3 s v y0 y1 y2 r F)
  refine wp_aload_n D_jdk_42_m79_0 rfl rfl ?_
  refine wp_iload_n D_jdk_42_m79_1 rfl ?_
  refine wp_iconst 0 D_jdk_42_m79_2 (by decide) ?_
  refine wp_virtual (c_six_3 l Z a0 hw s v y0 y1 y2 r cp fm F hs hM) (exa_new (i := 0) rfl) D_jdk_42_m79_3 (gw hw 36 rfl) (gw hw 37 rfl) (gw hw 39 rfl) (gw hw 39 rfl) (gw hw 38 rfl) (gw hw 7 rfl) (gw hw 40 rfl) (by decide) pd_3 rfl rfl rfl (lb rfl) (lb rfl) (lb rfl) (lb rfl) ?_
  rintro _ _ ⟨rfl, rfl⟩
  show W20 l Z (rm4 3 0 0 46) ((s, strO v) :: (v, fA .byte [y0, y1, y2]) :: F) 0 0 6 #[.val (.ref s), .val (.int 35)] [(.int r)] (Q_c_si_3 s v y0 y1 y2 r F)
  refine wp_ireturn D_jdk_42_m79_6 rfl (by decide) (by decide) ?_
  exact ⟨rfl, rfl⟩
set_option maxRecDepth 65536 in
set_option maxHeartbeats 40000000 in
theorem c_ioc_3_m (l : Launch) (Z : State) (a0 : Array Value) (hw : HW Z a0) (s v : Addr) (y0 y1 y2 : Int32) (F : OH) (hq0 : ¬ y0 = 35) (hq1 : ¬ y1 = 35) (hq2 : ¬ y2 = 35) :
    Met l Z (⟨"java/lang/StringLatin1", "indexOfChar", "([BIII)I"⟩ : MethodName) jdk_43_method_23_code 6 (some .int) (rm4 0 0 0 0) [(.ref v), (.int 35), (.int 0), (.int 3)] ((s, strO v) :: (v, fA .byte [y0, y1, y2]) :: F) (Q_ioc_3 s v y0 y1 y2 (-1 : Int32) F) := by
  refine Met.of_wp (Ls := #[.val (.ref v), .val (.int 35), .val (.int 0), .val (.int 3), .unset, .unset]) pn_16 (fun m => (entry_loc m _ _).trans rfl) ?_
  show W22 l Z (rm4 0 0 0 0) ((s, strO v) :: (v, fA .byte [y0, y1, y2]) :: F) 0 0 0 #[.val (.ref v), .val (.int 35), .val (.int 0), .val (.int 3), .unset, .unset] [] (Q_ioc_3 s v y0 y1 y2 (-1 : Int32) F)
  refine wp_iload_n D_jdk_43_m23_0 rfl ?_
  refine wp_i2b D_jdk_43_m23_1 ?_
  rw [show (35 : Int32).toInt8.toInt32 = (35 : Int32) from by decide]
  refine wp_istore #[.val (.ref v), .val (.int 35), .val (.int 0), .val (.int 3), .val (.int 35), .unset] D_jdk_43_m23_2 rfl ?_
  refine wp_iload_n D_jdk_43_m23_4 rfl ?_
  refine wp_istore #[.val (.ref v), .val (.int 35), .val (.int 0), .val (.int 3), .val (.int 35), .val (.int 0)] D_jdk_43_m23_5 rfl ?_
  refine wp_iload D_jdk_43_m23_7 rfl ?_
  refine wp_iload_n D_jdk_43_m23_9 rfl ?_
  refine wp_icmp_ge D_jdk_43_m23_10 (pc'' := 31) ⟨by decide, by decide⟩ (fun h1 => by exact absurd h1 (by decide)) (fun h1 => ?_)
  refine wp_aload_n D_jdk_43_m23_13 rfl rfl ?_
  refine wp_iload D_jdk_43_m23_14 rfl ?_
  refine wp_baload (i := 1) (0) D_jdk_43_m23_16 rfl (by decide) (by decide) rfl ?_
  refine wp_iload D_jdk_43_m23_17 rfl ?_
  refine wp_icmp_ne D_jdk_43_m23_19 (pc'' := 25) ⟨by decide, by decide⟩ (fun h2 => ?_) (fun h2 => by exact absurd h2 hq0)
  refine wp_iinc 1 #[.val (.ref v), .val (.int 35), .val (.int 0), .val (.int 3), .val (.int 35), .val (.int 1)] D_jdk_43_m23_25 rfl rfl (by rw [show (0 : Int32) + (1 : Int32) = (1 : Int32) from by decide]; rfl) ?_
  refine wp_goto D_jdk_43_m23_28 (pc'' := 7) ⟨by decide, by decide⟩ ?_
  refine wp_iload D_jdk_43_m23_7 rfl ?_
  refine wp_iload_n D_jdk_43_m23_9 rfl ?_
  refine wp_icmp_ge D_jdk_43_m23_10 (pc'' := 31) ⟨by decide, by decide⟩ (fun h3 => by exact absurd h3 (by decide)) (fun h3 => ?_)
  refine wp_aload_n D_jdk_43_m23_13 rfl rfl ?_
  refine wp_iload D_jdk_43_m23_14 rfl ?_
  refine wp_baload (i := 1) (1) D_jdk_43_m23_16 rfl (by decide) (by decide) rfl ?_
  refine wp_iload D_jdk_43_m23_17 rfl ?_
  refine wp_icmp_ne D_jdk_43_m23_19 (pc'' := 25) ⟨by decide, by decide⟩ (fun h4 => ?_) (fun h4 => by exact absurd h4 hq1)
  refine wp_iinc 1 #[.val (.ref v), .val (.int 35), .val (.int 0), .val (.int 3), .val (.int 35), .val (.int 2)] D_jdk_43_m23_25 rfl rfl (by rw [show (1 : Int32) + (1 : Int32) = (2 : Int32) from by decide]; rfl) ?_
  refine wp_goto D_jdk_43_m23_28 (pc'' := 7) ⟨by decide, by decide⟩ ?_
  refine wp_iload D_jdk_43_m23_7 rfl ?_
  refine wp_iload_n D_jdk_43_m23_9 rfl ?_
  refine wp_icmp_ge D_jdk_43_m23_10 (pc'' := 31) ⟨by decide, by decide⟩ (fun h5 => by exact absurd h5 (by decide)) (fun h5 => ?_)
  refine wp_aload_n D_jdk_43_m23_13 rfl rfl ?_
  refine wp_iload D_jdk_43_m23_14 rfl ?_
  refine wp_baload (i := 1) (2) D_jdk_43_m23_16 rfl (by decide) (by decide) rfl ?_
  refine wp_iload D_jdk_43_m23_17 rfl ?_
  refine wp_icmp_ne D_jdk_43_m23_19 (pc'' := 25) ⟨by decide, by decide⟩ (fun h6 => ?_) (fun h6 => by exact absurd h6 hq2)
  refine wp_iinc 1 #[.val (.ref v), .val (.int 35), .val (.int 0), .val (.int 3), .val (.int 35), .val (.int 3)] D_jdk_43_m23_25 rfl rfl (by rw [show (2 : Int32) + (1 : Int32) = (3 : Int32) from by decide]; rfl) ?_
  refine wp_goto D_jdk_43_m23_28 (pc'' := 7) ⟨by decide, by decide⟩ ?_
  refine wp_iload D_jdk_43_m23_7 rfl ?_
  refine wp_iload_n D_jdk_43_m23_9 rfl ?_
  refine wp_icmp_ge D_jdk_43_m23_10 (pc'' := 31) ⟨by decide, by decide⟩ (fun h7 => ?_) (fun h7 => by exact absurd h7 (by decide))
  refine wp_iconst (-1) D_jdk_43_m23_31 (by decide) ?_
  refine wp_ireturn D_jdk_43_m23_32 rfl (by decide) (by decide) ?_
  exact ⟨rfl, rfl⟩
def Q_c_wf_3_m (s v : Addr) (y0 y1 y2 : Int32) (F : OH) : Option Value → OH → Prop := fun w' H' => w' = some (.ref s) ∧ H' = ((s, strO v) :: (v, fA .byte [y0, y1, y2]) :: F)
set_option maxRecDepth 65536 in
set_option maxHeartbeats 40000000 in
theorem c_wf_3_m (l : Launch) (Z : State) (a0 : Array Value) (hw : HW Z a0) (s v : Addr) (y0 y1 y2 : Int32) (cp : Int32) (fm : Value) (F : OH) (hs : Std Z cp fm) (hq0 : ¬ y0 = 35) (hq1 : ¬ y1 = 35) (hq2 : ¬ y2 = 35) :
    Met l Z (⟨"com/example/bylint/bylint/description/UriReferences", "withoutFragment", "(Ljava/lang/String;)Ljava/lang/String;"⟩ : MethodName) prog_9_method_5_code 2 (some (.object "java/lang/String")) (rm4 4 0 0 59) [(.ref s)] ((s, strO v) :: (v, fA .byte [y0, y1, y2]) :: F) (Q_c_wf_3_m s v y0 y1 y2 F) := by
  refine Met.of_wp (Ls := #[.val (.ref s), .unset]) pn_20 (fun m => (entry_loc m _ _).trans rfl) ?_
  show W21 l Z (rm4 4 0 0 59) ((s, strO v) :: (v, fA .byte [y0, y1, y2]) :: F) 0 0 0 #[.val (.ref s), .unset] [] (Q_c_wf_3_m s v y0 y1 y2 F)
  refine wp_aload_n D_prog_9_m5_0 rfl rfl ?_
  refine wp_bipush 35 D_prog_9_m5_1 (by decide) ?_
  refine wp_virtual (c_si_3 l Z a0 hw s v y0 y1 y2 (-1 : Int32) cp fm F hs (c_ioc_3_m l Z a0 hw s v y0 y1 y2 F hq0 hq1 hq2)) (exa_new (i := 0) rfl) D_prog_9_m5_3 (gw hw 31 rfl) (gw hw 32 rfl) (gw hw 34 rfl) (gw hw 34 rfl) (gw hw 33 rfl) (gw hw 7 rfl) (gw hw 35 rfl) (by decide) pd_19 rfl rfl rfl (lb rfl) (lb rfl) (lb rfl) (lb rfl) ?_
  rintro _ _ ⟨rfl, rfl⟩
  show W21 l Z (rm4 4 0 0 59) ((s, strO v) :: (v, fA .byte [y0, y1, y2]) :: F) 0 0 6 #[.val (.ref s), .unset] [(.int (-1))] (Q_c_wf_3_m s v y0 y1 y2 F)
  refine wp_istore_n #[.val (.ref s), .val (.int (-1))] D_prog_9_m5_6 rfl ?_
  refine wp_iload_n D_prog_9_m5_7 rfl ?_
  refine wp_if_ge D_prog_9_m5_8 (pc'' := 15) ⟨by decide, by decide⟩ (fun h1 => by exact absurd h1 (by decide)) (fun h1 => ?_)
  refine wp_aload_n D_prog_9_m5_11 rfl rfl ?_
  refine wp_goto D_prog_9_m5_12 (pc'' := 21) ⟨by decide, by decide⟩ ?_
  refine wp_areturn D_prog_9_m5_21 rfl rfl rfl rfl (by decide) (by decide) ?_
  exact ⟨rfl, rfl⟩
set_option maxRecDepth 65536 in
set_option maxHeartbeats 40000000 in
theorem c_ioc_3_0 (l : Launch) (Z : State) (a0 : Array Value) (hw : HW Z a0) (s v : Addr) (y0 y1 y2 : Int32) (F : OH) (hq0 : y0 = 35) :
    Met l Z (⟨"java/lang/StringLatin1", "indexOfChar", "([BIII)I"⟩ : MethodName) jdk_43_method_23_code 6 (some .int) (rm4 0 0 0 0) [(.ref v), (.int 35), (.int 0), (.int 3)] ((s, strO v) :: (v, fA .byte [y0, y1, y2]) :: F) (Q_ioc_3 s v y0 y1 y2 (0 : Int32) F) := by
  refine Met.of_wp (Ls := #[.val (.ref v), .val (.int 35), .val (.int 0), .val (.int 3), .unset, .unset]) pn_16 (fun m => (entry_loc m _ _).trans rfl) ?_
  show W22 l Z (rm4 0 0 0 0) ((s, strO v) :: (v, fA .byte [y0, y1, y2]) :: F) 0 0 0 #[.val (.ref v), .val (.int 35), .val (.int 0), .val (.int 3), .unset, .unset] [] (Q_ioc_3 s v y0 y1 y2 (0 : Int32) F)
  refine wp_iload_n D_jdk_43_m23_0 rfl ?_
  refine wp_i2b D_jdk_43_m23_1 ?_
  rw [show (35 : Int32).toInt8.toInt32 = (35 : Int32) from by decide]
  refine wp_istore #[.val (.ref v), .val (.int 35), .val (.int 0), .val (.int 3), .val (.int 35), .unset] D_jdk_43_m23_2 rfl ?_
  refine wp_iload_n D_jdk_43_m23_4 rfl ?_
  refine wp_istore #[.val (.ref v), .val (.int 35), .val (.int 0), .val (.int 3), .val (.int 35), .val (.int 0)] D_jdk_43_m23_5 rfl ?_
  refine wp_iload D_jdk_43_m23_7 rfl ?_
  refine wp_iload_n D_jdk_43_m23_9 rfl ?_
  refine wp_icmp_ge D_jdk_43_m23_10 (pc'' := 31) ⟨by decide, by decide⟩ (fun h1 => by exact absurd h1 (by decide)) (fun h1 => ?_)
  refine wp_aload_n D_jdk_43_m23_13 rfl rfl ?_
  refine wp_iload D_jdk_43_m23_14 rfl ?_
  refine wp_baload (i := 1) (0) D_jdk_43_m23_16 rfl (by decide) (by decide) rfl ?_
  refine wp_iload D_jdk_43_m23_17 rfl ?_
  refine wp_icmp_ne D_jdk_43_m23_19 (pc'' := 25) ⟨by decide, by decide⟩ (fun h2 => by exact absurd hq0 h2) (fun h2 => ?_)
  refine wp_iload D_jdk_43_m23_22 rfl ?_
  refine wp_ireturn D_jdk_43_m23_24 rfl (by decide) (by decide) ?_
  exact ⟨rfl, rfl⟩
def Q_c_nst_3_0_0 (s v : Addr) (y0 y1 y2 : Int32) (F : OH) : Option Value → OH → Prop := fun w' H' => ∃ a u, w' = some (.ref a) ∧ H' = ((a, strO u) :: (u, fA .byte []) :: (s, strO v) :: (v, fA .byte [y0, y1, y2]) :: F)
set_option maxRecDepth 65536 in
set_option maxHeartbeats 40000000 in
theorem c_nst_3_0_0 (l : Launch) (Z : State) (a0 : Array Value) (hw : HW Z a0) (s v : Addr) (y0 y1 y2 : Int32) (cp : Int32) (fm : Value) (F : OH) (hs : Std Z cp fm) :
    MetI consts_1 l Z (⟨"java/lang/StringLatin1", "newString", "([BII)Ljava/lang/String;"⟩ : MethodName) jdk_43_method_47_code 3 (some (.object "java/lang/String")) (rm4 0 2 4 0) [(.ref v), (.int 0), (.int 0)] ((s, strO v) :: (v, fA .byte [y0, y1, y2]) :: F) (Q_c_nst_3_0_0 s v y0 y1 y2 F) := by
  refine MetI.of_wp (Ls := #[.val (.ref v), .val (.int 0), .val (.int 0)]) pn_23 (fun m => (entry_loc m _ _).trans rfl) (own_EL l Z a0 hw) ?_
  show W25 l Z (rm4 0 2 4 0) ((s, strO v) :: (v, fA .byte [y0, y1, y2]) :: F) 0 0 0 #[.val (.ref v), .val (.int 0), .val (.int 0)] [] (Q_c_nst_3_0_0 s v y0 y1 y2 F)
  refine wp_iload_n D_jdk_43_m47_0 rfl ?_
  refine wp_if_ne D_jdk_43_m47_1 (pc'' := 7) ⟨by decide, by decide⟩ (fun h1 => by exact absurd h1 (by decide)) (fun h1 => ?_)
  refine wp_ldcH (n := 0) [] D_jdk_43_m47_4 (gw hw 101 rfl) (own_wS l Z a0 hw) (own_slo l Z a0 hw) (own_EL l Z a0 hw) (List.mem_of_getElem? (i := 1) rfl) ⟨by decide, by decide⟩ (by decide) (by decide) (by decide) (by decide) (by decide) ?_
  intro s2 v3
  show W25 l Z (rm4 0 2 4 0) ((s2, strO v3) :: (v3, fA .byte []) :: (s, strO v) :: (v, fA .byte [y0, y1, y2]) :: F) 2 4 6 #[.val (.ref v), .val (.int 0), .val (.int 0)] [(.ref s2)] (Q_c_nst_3_0_0 s v y0 y1 y2 F)
  refine wp_areturn D_jdk_43_m47_6 rfl rfl rfl rfl (by decide) (by decide) ?_
  exact ⟨_, _, rfl, rfl⟩
def Q_c_sub_3_0_0 (s v : Addr) (y0 y1 y2 : Int32) (F : OH) : Option Value → OH → Prop := fun w' H' => ∃ a u, w' = some (.ref a) ∧ H' = ((a, strO u) :: (u, fA .byte []) :: (s, strO v) :: (v, fA .byte [y0, y1, y2]) :: F)
set_option maxRecDepth 65536 in
set_option maxHeartbeats 40000000 in
theorem c_sub_3_0_0 (l : Launch) (Z : State) (a0 : Array Value) (hw : HW Z a0) (s v : Addr) (y0 y1 y2 : Int32) (cp : Int32) (fm : Value) (F : OH) (hs : Std Z cp fm) :
    MetI consts_1 l Z (⟨"java/lang/String", "substring", "(II)Ljava/lang/String;"⟩ : MethodName) jdk_42_method_92_code 5 (some (.object "java/lang/String")) (rm4 2 2 4 29) [(.ref s), (.int 0), (.int 0)] ((s, strO v) :: (v, fA .byte [y0, y1, y2]) :: F) (Q_c_sub_3_0_0 s v y0 y1 y2 F) := by
  refine MetI.of_wp (Ls := #[.val (.ref s), .val (.int 0), .val (.int 0), .unset, .unset]) pn_24 (fun m => (entry_loc m _ _).trans rfl) (own_EL l Z a0 hw) ?_
  show W26 l Z (rm4 2 2 4 29) ((s, strO v) :: (v, fA .byte [y0, y1, y2]) :: F) 0 0 0 #[.val (.ref s), .val (.int 0), .val (.int 0), .unset, .unset] [] (Q_c_sub_3_0_0 s v y0 y1 y2 F)
  refine wp_aload_n D_jdk_42_m92_0 rfl rfl ?_
  refine wp_virtual (c_len_3 l Z a0 hw s v y0 y1 y2 cp fm F hs ) (exa_new (i := 0) rfl) D_jdk_42_m92_1 (gw hw 47 rfl) (gw hw 48 rfl) (gw hw 50 rfl) (gw hw 50 rfl) (gw hw 49 rfl) (gw hw 7 rfl) (gw hw 51 rfl) (by decide) pd_5 rfl rfl rfl (lb rfl) (lb rfl) (lb rfl) (lb rfl) ?_
  rintro _ _ ⟨rfl, rfl⟩
  show W26 l Z (rm4 2 2 4 29) ((s, strO v) :: (v, fA .byte [y0, y1, y2]) :: F) 0 0 4 #[.val (.ref s), .val (.int 0), .val (.int 0), .unset, .unset] [(.int 3)] (Q_c_sub_3_0_0 s v y0 y1 y2 F)
  refine wp_istore_n #[.val (.ref s), .val (.int 0), .val (.int 0), .val (.int 3), .unset] D_jdk_42_m92_4 rfl ?_
  refine wp_iload_n D_jdk_42_m92_5 rfl ?_
  refine wp_iload_n D_jdk_42_m92_6 rfl ?_
  refine wp_iload_n D_jdk_42_m92_7 rfl ?_
  refine wp_callS (c_cbe l Z a0 hw 0 0 3 cp fm ((s, strO v) :: (v, fA .byte [y0, y1, y2]) :: F) hs (by decide) (by decide) (by decide)) D_jdk_42_m92_8 (gw hw 90 rfl) (gw hw 91 rfl) (gw hw 7 rfl) (gw hw 92 rfl) (by decide) pd_10 rfl rfl rfl (lb rfl) (lb rfl) (lb rfl) (lb rfl) ?_
  rintro _ _ ⟨rfl, rfl⟩
  show W26 l Z (rm4 2 2 4 29) ((s, strO v) :: (v, fA .byte [y0, y1, y2]) :: F) 0 0 11 #[.val (.ref s), .val (.int 0), .val (.int 0), .val (.int 3), .unset] [] (Q_c_sub_3_0_0 s v y0 y1 y2 F)
  refine wp_iload_n D_jdk_42_m92_11 rfl ?_
  refine wp_if_ne D_jdk_42_m92_12 (pc'' := 22) ⟨by decide, by decide⟩ (fun h1 => by exact absurd h1 (by decide)) (fun h1 => ?_)
  refine wp_iload_n D_jdk_42_m92_15 rfl ?_
  refine wp_iload_n D_jdk_42_m92_16 rfl ?_
  refine wp_icmp_ne D_jdk_42_m92_17 (pc'' := 22) ⟨by decide, by decide⟩ (fun h2 => ?_) (fun h2 => by exact absurd h2 (by decide))
  refine wp_iload_n D_jdk_42_m92_22 rfl ?_
  refine wp_iload_n D_jdk_42_m92_23 rfl ?_
  refine wp_isub D_jdk_42_m92_24 ?_
  rw [show ((0 : Int32) - (0 : Int32)) = (0 : Int32) from by decide]
  refine wp_istore #[.val (.ref s), .val (.int 0), .val (.int 0), .val (.int 3), .val (.int 0)] D_jdk_42_m92_25 rfl ?_
  refine wp_aload_n D_jdk_42_m92_27 rfl rfl ?_
  refine wp_virtual (c_lat l Z a0 hw s v cp fm ((v, fA .byte [y0, y1, y2]) :: F) hs ) (exa_new (i := 0) rfl) D_jdk_42_m92_28 (gw hw 41 rfl) (gw hw 42 rfl) (gw hw 44 rfl) (gw hw 44 rfl) (gw hw 43 rfl) (gw hw 7 rfl) (gw hw 45 rfl) (by decide) pd_4 rfl rfl rfl (lb rfl) (lb rfl) (lb rfl) (lb rfl) ?_
  rintro _ _ ⟨rfl, rfl⟩
  show W26 l Z (rm4 2 2 4 29) ((s, strO v) :: (v, fA .byte [y0, y1, y2]) :: F) 0 0 31 #[.val (.ref s), .val (.int 0), .val (.int 0), .val (.int 3), .val (.int 0)] [(.int 1)] (Q_c_sub_3_0_0 s v y0 y1 y2 F)
  refine wp_if_eq D_jdk_42_m92_31 (pc'' := 47) ⟨by decide, by decide⟩ (fun h3 => by exact absurd h3 (by decide)) (fun h3 => ?_)
  refine wp_aload_n D_jdk_42_m92_34 rfl rfl ?_
  refine wp_getfield D_jdk_42_m92_35 (gw hw 25 rfl) (fld_new (i := 0) (fi := 0) rfl rfl rfl) ?_
  refine wp_iload_n D_jdk_42_m92_38 rfl ?_
  refine wp_iload D_jdk_42_m92_39 rfl ?_
  refine wp_callSI (c_nst_3_0_0 l Z a0 hw s v y0 y1 y2 cp fm F hs ) (own_EL l Z a0 hw) D_jdk_42_m92_41 (gw hw 98 rfl) (gw hw 99 rfl) (gw hw 59 rfl) (gw hw 100 rfl) (by decide) pd_12 rfl rfl rfl (lb rfl) (lb rfl) (lb rfl) (lb rfl) ?_
  rintro _ _ ⟨sa4, su5, rfl, rfl⟩
  show W26 l Z (rm4 2 2 4 29) ((sa4, strO su5) :: (su5, fA .byte []) :: (s, strO v) :: (v, fA .byte [y0, y1, y2]) :: F) 2 4 44 #[.val (.ref s), .val (.int 0), .val (.int 0), .val (.int 3), .val (.int 0)] [(.ref sa4)] (Q_c_sub_3_0_0 s v y0 y1 y2 F)
  refine wp_goto D_jdk_42_m92_44 (pc'' := 57) ⟨by decide, by decide⟩ ?_
  refine wp_areturn D_jdk_42_m92_57 rfl rfl rfl rfl (by decide) (by decide) ?_
  exact ⟨_, _, rfl, rfl⟩
def Q_c_wf_3_0 (s v : Addr) (y0 y1 y2 : Int32) (F : OH) : Option Value → OH → Prop := fun w' H' => ∃ a u, w' = some (.ref a) ∧ H' = ((a, strO u) :: (u, fA .byte []) :: (s, strO v) :: (v, fA .byte [y0, y1, y2]) :: F)
set_option maxRecDepth 65536 in
set_option maxHeartbeats 40000000 in
theorem c_wf_3_0 (l : Launch) (Z : State) (a0 : Array Value) (hw : HW Z a0) (s v : Addr) (y0 y1 y2 : Int32) (cp : Int32) (fm : Value) (F : OH) (hs : Std Z cp fm) (hq0 : y0 = 35) :
    MetI consts_1 l Z (⟨"com/example/bylint/bylint/description/UriReferences", "withoutFragment", "(Ljava/lang/String;)Ljava/lang/String;"⟩ : MethodName) prog_9_method_5_code 2 (some (.object "java/lang/String")) (rm4 4 2 4 59) [(.ref s)] ((s, strO v) :: (v, fA .byte [y0, y1, y2]) :: F) (Q_c_wf_3_0 s v y0 y1 y2 F) := by
  refine MetI.of_wp (Ls := #[.val (.ref s), .unset]) pn_20 (fun m => (entry_loc m _ _).trans rfl) (own_EL l Z a0 hw) ?_
  show W27 l Z (rm4 4 2 4 59) ((s, strO v) :: (v, fA .byte [y0, y1, y2]) :: F) 0 0 0 #[.val (.ref s), .unset] [] (Q_c_wf_3_0 s v y0 y1 y2 F)
  refine wp_aload_n D_prog_9_m5_0 rfl rfl ?_
  refine wp_bipush 35 D_prog_9_m5_1 (by decide) ?_
  refine wp_virtual (c_si_3 l Z a0 hw s v y0 y1 y2 (0 : Int32) cp fm F hs (c_ioc_3_0 l Z a0 hw s v y0 y1 y2 F hq0)) (exa_new (i := 0) rfl) D_prog_9_m5_3 (gw hw 31 rfl) (gw hw 32 rfl) (gw hw 34 rfl) (gw hw 34 rfl) (gw hw 33 rfl) (gw hw 7 rfl) (gw hw 35 rfl) (by decide) pd_19 rfl rfl rfl (lb rfl) (lb rfl) (lb rfl) (lb rfl) ?_
  rintro _ _ ⟨rfl, rfl⟩
  show W27 l Z (rm4 4 2 4 59) ((s, strO v) :: (v, fA .byte [y0, y1, y2]) :: F) 0 0 6 #[.val (.ref s), .unset] [(.int 0)] (Q_c_wf_3_0 s v y0 y1 y2 F)
  refine wp_istore_n #[.val (.ref s), .val (.int 0)] D_prog_9_m5_6 rfl ?_
  refine wp_iload_n D_prog_9_m5_7 rfl ?_
  refine wp_if_ge D_prog_9_m5_8 (pc'' := 15) ⟨by decide, by decide⟩ (fun h1 => ?_) (fun h1 => by exact absurd h1 (by decide))
  refine wp_aload_n D_prog_9_m5_15 rfl rfl ?_
  refine wp_iconst 0 D_prog_9_m5_16 (by decide) ?_
  refine wp_iload_n D_prog_9_m5_17 rfl ?_
  refine wp_virtualI (c_sub_3_0_0 l Z a0 hw s v y0 y1 y2 cp fm F hs ) (exa_new (i := 0) rfl) (own_EL l Z a0 hw) D_prog_9_m5_18 (gw hw 85 rfl) (gw hw 86 rfl) (gw hw 88 rfl) (gw hw 88 rfl) (gw hw 87 rfl) (gw hw 7 rfl) (gw hw 89 rfl) (by decide) pd_20 rfl rfl rfl (lb rfl) (lb rfl) (lb rfl) (lb rfl) ?_
  rintro _ _ ⟨sa2, su3, rfl, rfl⟩
  show W27 l Z (rm4 4 2 4 59) ((sa2, strO su3) :: (su3, fA .byte []) :: (s, strO v) :: (v, fA .byte [y0, y1, y2]) :: F) 2 4 21 #[.val (.ref s), .val (.int 0)] [(.ref sa2)] (Q_c_wf_3_0 s v y0 y1 y2 F)
  refine wp_areturn D_prog_9_m5_21 rfl rfl rfl rfl (by decide) (by decide) ?_
  exact ⟨_, _, rfl, rfl⟩
set_option maxRecDepth 65536 in
set_option maxHeartbeats 40000000 in
theorem c_ioc_3_1 (l : Launch) (Z : State) (a0 : Array Value) (hw : HW Z a0) (s v : Addr) (y0 y1 y2 : Int32) (F : OH) (hq0 : ¬ y0 = 35) (hq1 : y1 = 35) :
    Met l Z (⟨"java/lang/StringLatin1", "indexOfChar", "([BIII)I"⟩ : MethodName) jdk_43_method_23_code 6 (some .int) (rm4 0 0 0 0) [(.ref v), (.int 35), (.int 0), (.int 3)] ((s, strO v) :: (v, fA .byte [y0, y1, y2]) :: F) (Q_ioc_3 s v y0 y1 y2 (1 : Int32) F) := by
  refine Met.of_wp (Ls := #[.val (.ref v), .val (.int 35), .val (.int 0), .val (.int 3), .unset, .unset]) pn_16 (fun m => (entry_loc m _ _).trans rfl) ?_
  show W22 l Z (rm4 0 0 0 0) ((s, strO v) :: (v, fA .byte [y0, y1, y2]) :: F) 0 0 0 #[.val (.ref v), .val (.int 35), .val (.int 0), .val (.int 3), .unset, .unset] [] (Q_ioc_3 s v y0 y1 y2 (1 : Int32) F)
  refine wp_iload_n D_jdk_43_m23_0 rfl ?_
  refine wp_i2b D_jdk_43_m23_1 ?_
  rw [show (35 : Int32).toInt8.toInt32 = (35 : Int32) from by decide]
  refine wp_istore #[.val (.ref v), .val (.int 35), .val (.int 0), .val (.int 3), .val (.int 35), .unset] D_jdk_43_m23_2 rfl ?_
  refine wp_iload_n D_jdk_43_m23_4 rfl ?_
  refine wp_istore #[.val (.ref v), .val (.int 35), .val (.int 0), .val (.int 3), .val (.int 35), .val (.int 0)] D_jdk_43_m23_5 rfl ?_
  refine wp_iload D_jdk_43_m23_7 rfl ?_
  refine wp_iload_n D_jdk_43_m23_9 rfl ?_
  refine wp_icmp_ge D_jdk_43_m23_10 (pc'' := 31) ⟨by decide, by decide⟩ (fun h1 => by exact absurd h1 (by decide)) (fun h1 => ?_)
  refine wp_aload_n D_jdk_43_m23_13 rfl rfl ?_
  refine wp_iload D_jdk_43_m23_14 rfl ?_
  refine wp_baload (i := 1) (0) D_jdk_43_m23_16 rfl (by decide) (by decide) rfl ?_
  refine wp_iload D_jdk_43_m23_17 rfl ?_
  refine wp_icmp_ne D_jdk_43_m23_19 (pc'' := 25) ⟨by decide, by decide⟩ (fun h2 => ?_) (fun h2 => by exact absurd h2 hq0)
  refine wp_iinc 1 #[.val (.ref v), .val (.int 35), .val (.int 0), .val (.int 3), .val (.int 35), .val (.int 1)] D_jdk_43_m23_25 rfl rfl (by rw [show (0 : Int32) + (1 : Int32) = (1 : Int32) from by decide]; rfl) ?_
  refine wp_goto D_jdk_43_m23_28 (pc'' := 7) ⟨by decide, by decide⟩ ?_
  refine wp_iload D_jdk_43_m23_7 rfl ?_
  refine wp_iload_n D_jdk_43_m23_9 rfl ?_
  refine wp_icmp_ge D_jdk_43_m23_10 (pc'' := 31) ⟨by decide, by decide⟩ (fun h3 => by exact absurd h3 (by decide)) (fun h3 => ?_)
  refine wp_aload_n D_jdk_43_m23_13 rfl rfl ?_
  refine wp_iload D_jdk_43_m23_14 rfl ?_
  refine wp_baload (i := 1) (1) D_jdk_43_m23_16 rfl (by decide) (by decide) rfl ?_
  refine wp_iload D_jdk_43_m23_17 rfl ?_
  refine wp_icmp_ne D_jdk_43_m23_19 (pc'' := 25) ⟨by decide, by decide⟩ (fun h4 => by exact absurd hq1 h4) (fun h4 => ?_)
  refine wp_iload D_jdk_43_m23_22 rfl ?_
  refine wp_ireturn D_jdk_43_m23_24 rfl (by decide) (by decide) ?_
  exact ⟨rfl, rfl⟩
def Q_c_min_3_1  (F : OH) : Option Value → OH → Prop := fun w' H' => w' = some (.int 1) ∧ H' = F
set_option maxRecDepth 65536 in
set_option maxHeartbeats 40000000 in
theorem c_min_3_1 (l : Launch) (Z : State) (a0 : Array Value) (hw : HW Z a0)  (F : OH) :
    Met l Z (⟨"java/lang/Math", "min", "(II)I"⟩ : MethodName) jdk_29_method_69_code 2 (some .int) (rm4 0 0 0 0) [(.int 3), (.int 1)] F (Q_c_min_3_1 F) := by
  refine Met.of_wp (Ls := #[.val (.int 3), .val (.int 1)]) pn_15 (fun m => (entry_loc m _ _).trans rfl) ?_
  show W17 l Z (rm4 0 0 0 0) F 0 0 0 #[.val (.int 3), .val (.int 1)] [] (Q_c_min_3_1 F)
  refine wp_iload_n D_jdk_29_m69_0 rfl ?_
  refine wp_iload_n D_jdk_29_m69_1 rfl ?_
  refine wp_icmp_gt D_jdk_29_m69_2 (pc'' := 9) ⟨by decide, by decide⟩ (fun h1 => ?_) (fun h1 => by exact absurd h1 (by decide))
  refine wp_iload_n D_jdk_29_m69_9 rfl ?_
  refine wp_ireturn D_jdk_29_m69_10 rfl (by decide) (by decide) ?_
  exact ⟨rfl, rfl⟩
def Q_c_crb_3_0_1 (a s v : Addr) (y0 y1 y2 : Int32) (F : OH) : Option Value → OH → Prop := fun w' H' => ∃ b', w' = some (.ref b') ∧ H' = ((b', oA .byte [y0]) :: (a, oS (.null)) :: (s, strO v) :: (v, fA .byte [y0, y1, y2]) :: F)
set_option maxRecDepth 65536 in
set_option maxHeartbeats 40000000 in
theorem c_crb_3_0_1 (l : Launch) (Z : State) (a0 : Array Value) (hw : HW Z a0) (a s v : Addr) (y0 y1 y2 : Int32) (cp : Int32) (fm : Value) (F : OH) (hs : Std Z cp fm) :
    Met l Z (⟨"java/util/Arrays", "copyOfRangeByte", "([BII)[B"⟩ : MethodName) jdk_65_method_133_code 5 (some (.array .byte)) (rm4 1 1 1 20) [(.ref v), (.int 0), (.int 1)] ((a, oS (.null)) :: (s, strO v) :: (v, fA .byte [y0, y1, y2]) :: F) (Q_c_crb_3_0_1 a s v y0 y1 y2 F) := by
  refine Met.of_wp (Ls := #[.val (.ref v), .val (.int 0), .val (.int 1), .unset, .unset]) pn_26 (fun m => (entry_loc m _ _).trans rfl) ?_
  show W29 l Z (rm4 1 1 1 20) ((a, oS (.null)) :: (s, strO v) :: (v, fA .byte [y0, y1, y2]) :: F) 0 0 0 #[.val (.ref v), .val (.int 0), .val (.int 1), .unset, .unset] [] (Q_c_crb_3_0_1 a s v y0 y1 y2 F)
  refine wp_iload_n D_jdk_65_m133_0 rfl ?_
  refine wp_iload_n D_jdk_65_m133_1 rfl ?_
  refine wp_callS (c_ckl l Z a0 hw 0 1 ((a, oS (.null)) :: (s, strO v) :: (v, fA .byte [y0, y1, y2]) :: F) (by decide)) D_jdk_65_m133_2 (gw hw 124 rfl) (gw hw 125 rfl) (gw hw 119 rfl) (gw hw 126 rfl) (by decide) pd_16 rfl rfl rfl (lb rfl) (lb rfl) (lb rfl) (lb rfl) ?_
  rintro _ _ ⟨rfl, rfl⟩
  show W29 l Z (rm4 1 1 1 20) ((a, oS (.null)) :: (s, strO v) :: (v, fA .byte [y0, y1, y2]) :: F) 0 0 5 #[.val (.ref v), .val (.int 0), .val (.int 1), .unset, .unset] [] (Q_c_crb_3_0_1 a s v y0 y1 y2 F)
  refine wp_iload_n D_jdk_65_m133_5 rfl ?_
  refine wp_iload_n D_jdk_65_m133_6 rfl ?_
  refine wp_isub D_jdk_65_m133_7 ?_
  rw [show ((1 : Int32) - (0 : Int32)) = (1 : Int32) from by decide]
  refine wp_istore_n #[.val (.ref v), .val (.int 0), .val (.int 1), .val (.int 1), .unset] D_jdk_65_m133_8 rfl ?_
  refine wp_iload_n D_jdk_65_m133_9 rfl ?_
  refine wp_newarrayI (n := (1 : Int32)) (1) 1 D_jdk_65_m133_10 rfl rfl rfl (gw hw 20 rfl) (by decide) (by decide) (by decide) (by decide) (by decide) (by decide) ?_
  intro a1
  show W29 l Z (rm4 1 1 1 20) ((a1, oA .byte [(0 : Int32)]) :: (a, oS (.null)) :: (s, strO v) :: (v, fA .byte [y0, y1, y2]) :: F) 1 1 12 #[.val (.ref v), .val (.int 0), .val (.int 1), .val (.int 1), .unset] [(.ref a1)] (Q_c_crb_3_0_1 a s v y0 y1 y2 F)
  refine wp_astore #[.val (.ref v), .val (.int 0), .val (.int 1), .val (.int 1), .val (.ref a1)] D_jdk_65_m133_12 rfl rfl ?_
  refine wp_aload_n D_jdk_65_m133_14 rfl rfl ?_
  refine wp_iload_n D_jdk_65_m133_15 rfl ?_
  refine wp_aload D_jdk_65_m133_16 rfl rfl ?_
  refine wp_iconst 0 D_jdk_65_m133_18 (by decide) ?_
  refine wp_aload_n D_jdk_65_m133_19 rfl rfl ?_
  refine wp_lengthI (i := 3) (3 : Int32) D_jdk_65_m133_20 rfl rfl ?_
  refine wp_iload_n D_jdk_65_m133_21 rfl ?_
  refine wp_isub D_jdk_65_m133_22 ?_
  rw [show ((3 : Int32) - (0 : Int32)) = (3 : Int32) from by decide]
  refine wp_iload_n D_jdk_65_m133_23 rfl ?_
  refine wp_callS (c_min_3_1 l Z a0 hw  ((a1, oA .byte [(0 : Int32)]) :: (a, oS (.null)) :: (s, strO v) :: (v, fA .byte [y0, y1, y2]) :: F) ) D_jdk_65_m133_24 (gw hw 127 rfl) (gw hw 69 rfl) (gw hw 66 rfl) (gw hw 70 rfl) (by decide) pd_3 rfl rfl rfl (lb rfl) (lb rfl) (lb rfl) (lb rfl) ?_
  rintro _ _ ⟨rfl, rfl⟩
  show W29 l Z (rm4 1 1 1 20) ((a1, oA .byte [(0 : Int32)]) :: (a, oS (.null)) :: (s, strO v) :: (v, fA .byte [y0, y1, y2]) :: F) 1 1 27 #[.val (.ref v), .val (.int 0), .val (.int 1), .val (.int 1), .val (.ref a1)] [(.int 1), (.int 0), (.ref a1), (.int 0), (.ref v)] (Q_c_crb_3_0_1 a s v y0 y1 y2 F)
  refine wp_arraycopyI (i := 3) (i' := 0) 0 0 1 D_jdk_65_m133_27 (gw hw 128 rfl) (gw hw 131 rfl) (gw hw 129 rfl) (gw hw 130 rfl) rfl rfl rfl (by decide) (by decide) (by decide) (by decide) (by decide) (by decide) (by first | exact Nat.le_of_ble_eq_true rfl | simp) (by first | exact Nat.le_of_ble_eq_true rfl | simp) (by first | exact Nat.le_of_ble_eq_true rfl | simp) (by first | exact Nat.le_of_ble_eq_true rfl | simp) rfl (by decide) (by decide) ?_
  show W29 l Z (rm4 1 1 1 20) ((a1, oA .byte [y0]) :: (a, oS (.null)) :: (s, strO v) :: (v, fA .byte [y0, y1, y2]) :: F) 1 1 30 #[.val (.ref v), .val (.int 0), .val (.int 1), .val (.int 1), .val (.ref a1)] [] (Q_c_crb_3_0_1 a s v y0 y1 y2 F)
  refine wp_aload D_jdk_65_m133_30 rfl rfl ?_
  refine wp_areturn D_jdk_65_m133_32 rfl rfl rfl rfl (by decide) (by decide) ?_
  exact ⟨_, rfl, rfl⟩
def Q_c_cor_3_0_1 (a s v : Addr) (y0 y1 y2 : Int32) (F : OH) : Option Value → OH → Prop := fun w' H' => ∃ b', w' = some (.ref b') ∧ H' = ((b', oA .byte [y0]) :: (a, oS (.null)) :: (s, strO v) :: (v, fA .byte [y0, y1, y2]) :: F)
set_option maxRecDepth 65536 in
set_option maxHeartbeats 40000000 in
theorem c_cor_3_0_1 (l : Launch) (Z : State) (a0 : Array Value) (hw : HW Z a0) (a s v : Addr) (y0 y1 y2 : Int32) (cp : Int32) (fm : Value) (F : OH) (hs : Std Z cp fm) :
    Met l Z (⟨"java/util/Arrays", "copyOfRange", "([BII)[B"⟩ : MethodName) jdk_65_method_132_code 3 (some (.array .byte)) (rm4 2 1 1 36) [(.ref v), (.int 0), (.int 1)] ((a, oS (.null)) :: (s, strO v) :: (v, fA .byte [y0, y1, y2]) :: F) (Q_c_cor_3_0_1 a s v y0 y1 y2 F) := by
  refine Met.of_wp (Ls := #[.val (.ref v), .val (.int 0), .val (.int 1)]) pn_27 (fun m => (entry_loc m _ _).trans rfl) ?_
  show W30 l Z (rm4 2 1 1 36) ((a, oS (.null)) :: (s, strO v) :: (v, fA .byte [y0, y1, y2]) :: F) 0 0 0 #[.val (.ref v), .val (.int 0), .val (.int 1)] [] (Q_c_cor_3_0_1 a s v y0 y1 y2 F)
  refine wp_iload_n D_jdk_65_m132_0 rfl ?_
  refine wp_if_ne D_jdk_65_m132_1 (pc'' := 10) ⟨by decide, by decide⟩ (fun h1 => by exact absurd h1 (by decide)) (fun h1 => ?_)
  refine wp_iload_n D_jdk_65_m132_4 rfl ?_
  refine wp_aload_n D_jdk_65_m132_5 rfl rfl ?_
  refine wp_lengthI (i := 2) (3 : Int32) D_jdk_65_m132_6 rfl rfl ?_
  refine wp_icmp_eq D_jdk_65_m132_7 (pc'' := 17) ⟨by decide, by decide⟩ (fun h2 => by exact absurd h2 (by decide)) (fun h2 => ?_)
  refine wp_aload_n D_jdk_65_m132_10 rfl rfl ?_
  refine wp_iload_n D_jdk_65_m132_11 rfl ?_
  refine wp_iload_n D_jdk_65_m132_12 rfl ?_
  refine wp_callS (c_crb_3_0_1 l Z a0 hw a s v y0 y1 y2 cp fm F hs ) D_jdk_65_m132_13 (gw hw 121 rfl) (gw hw 122 rfl) (gw hw 119 rfl) (gw hw 123 rfl) (by decide) pd_17 rfl rfl rfl (lb rfl) (lb rfl) (lb rfl) (lb rfl) ?_
  rintro _ _ ⟨b3, rfl, rfl⟩
  show W30 l Z (rm4 2 1 1 36) ((b3, oA .byte [y0]) :: (a, oS (.null)) :: (s, strO v) :: (v, fA .byte [y0, y1, y2]) :: F) 1 1 16 #[.val (.ref v), .val (.int 0), .val (.int 1)] [(.ref b3)] (Q_c_cor_3_0_1 a s v y0 y1 y2 F)
  refine wp_areturn D_jdk_65_m132_16 rfl rfl rfl rfl (by decide) (by decide) ?_
  exact ⟨_, rfl, rfl⟩
def Q_c_nst_3_0_1 (s v : Addr) (y0 y1 y2 : Int32) (F : OH) : Option Value → OH → Prop := fun w' H' => ∃ a u, w' = some (.ref a) ∧ H' = ((u, fA .byte [y0]) :: (a, strO u) :: (s, strO v) :: (v, fA .byte [y0, y1, y2]) :: F)
set_option maxRecDepth 65536 in
set_option maxHeartbeats 40000000 in
theorem c_nst_3_0_1 (l : Launch) (Z : State) (a0 : Array Value) (hw : HW Z a0) (s v : Addr) (y0 y1 y2 : Int32) (cp : Int32) (fm : Value) (F : OH) (hs : Std Z cp fm) :
    Met l Z (⟨"java/lang/StringLatin1", "newString", "([BII)Ljava/lang/String;"⟩ : MethodName) jdk_43_method_47_code 3 (some (.object "java/lang/String")) (rm4 3 2 5 52) [(.ref v), (.int 0), (.int 1)] ((s, strO v) :: (v, fA .byte [y0, y1, y2]) :: F) (Q_c_nst_3_0_1 s v y0 y1 y2 F) := by
  refine Met.of_wp (Ls := #[.val (.ref v), .val (.int 0), .val (.int 1)]) pn_23 (fun m => (entry_loc m _ _).trans rfl) ?_
  show W32 l Z (rm4 3 2 5 52) ((s, strO v) :: (v, fA .byte [y0, y1, y2]) :: F) 0 0 0 #[.val (.ref v), .val (.int 0), .val (.int 1)] [] (Q_c_nst_3_0_1 s v y0 y1 y2 F)
  refine wp_iload_n D_jdk_43_m47_0 rfl ?_
  refine wp_if_ne D_jdk_43_m47_1 (pc'' := 7) ⟨by decide, by decide⟩ (fun h1 => ?_) (fun h1 => by exact absurd h1 (by decide))
  refine wp_new sgStr [(.null), (.int 0)] D_jdk_43_m47_7 (gw hw 116 rfl) (gw hw 6 rfl) (gw hw 7 rfl) (laid_sgStr l Z a0 hw) (by decide) dfl_sgStr (by decide) (by decide) ?_
  intro a2
  show W32 l Z (rm4 3 2 5 52) ((a2, oS (.null)) :: (s, strO v) :: (v, fA .byte [y0, y1, y2]) :: F) 1 4 10 #[.val (.ref v), .val (.int 0), .val (.int 1)] [(.ref a2)] (Q_c_nst_3_0_1 s v y0 y1 y2 F)
  refine wp_dup D_jdk_43_m47_10 rfl ?_
  refine wp_aload_n D_jdk_43_m47_11 rfl rfl ?_
  refine wp_iload_n D_jdk_43_m47_12 rfl ?_
  refine wp_iload_n D_jdk_43_m47_13 rfl ?_
  refine wp_iload_n D_jdk_43_m47_14 rfl ?_
  refine wp_iadd D_jdk_43_m47_15 ?_
  rw [show ((0 : Int32) + (1 : Int32)) = (1 : Int32) from by decide]
  refine wp_callS (c_cor_3_0_1 l Z a0 hw a2 s v y0 y1 y2 cp fm F hs ) D_jdk_43_m47_16 (gw hw 117 rfl) (gw hw 118 rfl) (gw hw 119 rfl) (gw hw 120 rfl) (by decide) pd_17 rfl rfl rfl (lb rfl) (lb rfl) (lb rfl) (lb rfl) ?_
  rintro _ _ ⟨b3, rfl, rfl⟩
  show W32 l Z (rm4 3 2 5 52) ((b3, oA .byte [y0]) :: (a2, oS (.null)) :: (s, strO v) :: (v, fA .byte [y0, y1, y2]) :: F) 2 5 19 #[.val (.ref v), .val (.int 0), .val (.int 1)] [(.ref b3), (.ref a2), (.ref a2)] (Q_c_nst_3_0_1 s v y0 y1 y2 F)
  refine wp_iconst 0 D_jdk_43_m47_19 (by decide) ?_
  refine wp_init (c_sbb l Z a0 hw b3 a2 [y0] ((s, strO v) :: (v, fA .byte [y0, y1, y2]) :: F) ) D_jdk_43_m47_20 rfl (gw hw 132 rfl) (gw hw 133 rfl) (gw hw 7 rfl) (gw hw 134 rfl) (by decide) pd_18 rfl rfl rfl (lb rfl) (lb rfl) (lb rfl) (lb rfl) ?_
  rintro _ _ ⟨rfl, rfl⟩
  show W32 l Z (rm4 3 2 5 52) ((b3, oA .byte [y0]) :: (a2, oS (.ref b3)) :: (s, strO v) :: (v, fA .byte [y0, y1, y2]) :: F) 2 5 23 #[.val (.ref v), .val (.int 0), .val (.int 1)] [(.ref a2)] (Q_c_nst_3_0_1 s v y0 y1 y2 F)
  refine Wp.frz (i := 0) rfl ?_
  refine Wp.frz (i := 1) rfl ?_
  show W32 l Z (rm4 3 2 5 52) ((b3, fA .byte [y0]) :: (a2, strO b3) :: (s, strO v) :: (v, fA .byte [y0, y1, y2]) :: F) 2 5 23 #[.val (.ref v), .val (.int 0), .val (.int 1)] [(.ref a2)] (Q_c_nst_3_0_1 s v y0 y1 y2 F)
  refine wp_areturn D_jdk_43_m47_23 rfl rfl rfl rfl (by decide) (by decide) ?_
  exact ⟨_, _, rfl, rfl⟩
def Q_c_sub_3_0_1 (s v : Addr) (y0 y1 y2 : Int32) (F : OH) : Option Value → OH → Prop := fun w' H' => ∃ a u, w' = some (.ref a) ∧ H' = ((u, fA .byte [y0]) :: (a, strO u) :: (s, strO v) :: (v, fA .byte [y0, y1, y2]) :: F)
set_option maxRecDepth 65536 in
set_option maxHeartbeats 40000000 in
theorem c_sub_3_0_1 (l : Launch) (Z : State) (a0 : Array Value) (hw : HW Z a0) (s v : Addr) (y0 y1 y2 : Int32) (cp : Int32) (fm : Value) (F : OH) (hs : Std Z cp fm) :
    Met l Z (⟨"java/lang/String", "substring", "(II)Ljava/lang/String;"⟩ : MethodName) jdk_42_method_92_code 5 (some (.object "java/lang/String")) (rm4 4 2 5 66) [(.ref s), (.int 0), (.int 1)] ((s, strO v) :: (v, fA .byte [y0, y1, y2]) :: F) (Q_c_sub_3_0_1 s v y0 y1 y2 F) := by
  refine Met.of_wp (Ls := #[.val (.ref s), .val (.int 0), .val (.int 1), .unset, .unset]) pn_24 (fun m => (entry_loc m _ _).trans rfl) ?_
  show W33 l Z (rm4 4 2 5 66) ((s, strO v) :: (v, fA .byte [y0, y1, y2]) :: F) 0 0 0 #[.val (.ref s), .val (.int 0), .val (.int 1), .unset, .unset] [] (Q_c_sub_3_0_1 s v y0 y1 y2 F)
  refine wp_aload_n D_jdk_42_m92_0 rfl rfl ?_
  refine wp_virtual (c_len_3 l Z a0 hw s v y0 y1 y2 cp fm F hs ) (exa_new (i := 0) rfl) D_jdk_42_m92_1 (gw hw 47 rfl) (gw hw 48 rfl) (gw hw 50 rfl) (gw hw 50 rfl) (gw hw 49 rfl) (gw hw 7 rfl) (gw hw 51 rfl) (by decide) pd_5 rfl rfl rfl (lb rfl) (lb rfl) (lb rfl) (lb rfl) ?_
  rintro _ _ ⟨rfl, rfl⟩
  show W33 l Z (rm4 4 2 5 66) ((s, strO v) :: (v, fA .byte [y0, y1, y2]) :: F) 0 0 4 #[.val (.ref s), .val (.int 0), .val (.int 1), .unset, .unset] [(.int 3)] (Q_c_sub_3_0_1 s v y0 y1 y2 F)
  refine wp_istore_n #[.val (.ref s), .val (.int 0), .val (.int 1), .val (.int 3), .unset] D_jdk_42_m92_4 rfl ?_
  refine wp_iload_n D_jdk_42_m92_5 rfl ?_
  refine wp_iload_n D_jdk_42_m92_6 rfl ?_
  refine wp_iload_n D_jdk_42_m92_7 rfl ?_
  refine wp_callS (c_cbe l Z a0 hw 0 1 3 cp fm ((s, strO v) :: (v, fA .byte [y0, y1, y2]) :: F) hs (by decide) (by decide) (by decide)) D_jdk_42_m92_8 (gw hw 90 rfl) (gw hw 91 rfl) (gw hw 7 rfl) (gw hw 92 rfl) (by decide) pd_10 rfl rfl rfl (lb rfl) (lb rfl) (lb rfl) (lb rfl) ?_
  rintro _ _ ⟨rfl, rfl⟩
  show W33 l Z (rm4 4 2 5 66) ((s, strO v) :: (v, fA .byte [y0, y1, y2]) :: F) 0 0 11 #[.val (.ref s), .val (.int 0), .val (.int 1), .val (.int 3), .unset] [] (Q_c_sub_3_0_1 s v y0 y1 y2 F)
  refine wp_iload_n D_jdk_42_m92_11 rfl ?_
  refine wp_if_ne D_jdk_42_m92_12 (pc'' := 22) ⟨by decide, by decide⟩ (fun h1 => by exact absurd h1 (by decide)) (fun h1 => ?_)
  refine wp_iload_n D_jdk_42_m92_15 rfl ?_
  refine wp_iload_n D_jdk_42_m92_16 rfl ?_
  refine wp_icmp_ne D_jdk_42_m92_17 (pc'' := 22) ⟨by decide, by decide⟩ (fun h2 => ?_) (fun h2 => by exact absurd h2 (by decide))
  refine wp_iload_n D_jdk_42_m92_22 rfl ?_
  refine wp_iload_n D_jdk_42_m92_23 rfl ?_
  refine wp_isub D_jdk_42_m92_24 ?_
  rw [show ((1 : Int32) - (0 : Int32)) = (1 : Int32) from by decide]
  refine wp_istore #[.val (.ref s), .val (.int 0), .val (.int 1), .val (.int 3), .val (.int 1)] D_jdk_42_m92_25 rfl ?_
  refine wp_aload_n D_jdk_42_m92_27 rfl rfl ?_
  refine wp_virtual (c_lat l Z a0 hw s v cp fm ((v, fA .byte [y0, y1, y2]) :: F) hs ) (exa_new (i := 0) rfl) D_jdk_42_m92_28 (gw hw 41 rfl) (gw hw 42 rfl) (gw hw 44 rfl) (gw hw 44 rfl) (gw hw 43 rfl) (gw hw 7 rfl) (gw hw 45 rfl) (by decide) pd_4 rfl rfl rfl (lb rfl) (lb rfl) (lb rfl) (lb rfl) ?_
  rintro _ _ ⟨rfl, rfl⟩
  show W33 l Z (rm4 4 2 5 66) ((s, strO v) :: (v, fA .byte [y0, y1, y2]) :: F) 0 0 31 #[.val (.ref s), .val (.int 0), .val (.int 1), .val (.int 3), .val (.int 1)] [(.int 1)] (Q_c_sub_3_0_1 s v y0 y1 y2 F)
  refine wp_if_eq D_jdk_42_m92_31 (pc'' := 47) ⟨by decide, by decide⟩ (fun h3 => by exact absurd h3 (by decide)) (fun h3 => ?_)
  refine wp_aload_n D_jdk_42_m92_34 rfl rfl ?_
  refine wp_getfield D_jdk_42_m92_35 (gw hw 25 rfl) (fld_new (i := 0) (fi := 0) rfl rfl rfl) ?_
  refine wp_iload_n D_jdk_42_m92_38 rfl ?_
  refine wp_iload D_jdk_42_m92_39 rfl ?_
  refine wp_callS (c_nst_3_0_1 l Z a0 hw s v y0 y1 y2 cp fm F hs ) D_jdk_42_m92_41 (gw hw 98 rfl) (gw hw 99 rfl) (gw hw 59 rfl) (gw hw 100 rfl) (by decide) pd_12 rfl rfl rfl (lb rfl) (lb rfl) (lb rfl) (lb rfl) ?_
  rintro _ _ ⟨sa4, su5, rfl, rfl⟩
  show W33 l Z (rm4 4 2 5 66) ((su5, fA .byte [y0]) :: (sa4, strO su5) :: (s, strO v) :: (v, fA .byte [y0, y1, y2]) :: F) 2 5 44 #[.val (.ref s), .val (.int 0), .val (.int 1), .val (.int 3), .val (.int 1)] [(.ref sa4)] (Q_c_sub_3_0_1 s v y0 y1 y2 F)
  refine wp_goto D_jdk_42_m92_44 (pc'' := 57) ⟨by decide, by decide⟩ ?_
  refine wp_areturn D_jdk_42_m92_57 rfl rfl rfl rfl (by decide) (by decide) ?_
  exact ⟨_, _, rfl, rfl⟩
def Q_c_wf_3_1 (s v : Addr) (y0 y1 y2 : Int32) (F : OH) : Option Value → OH → Prop := fun w' H' => ∃ a u, w' = some (.ref a) ∧ H' = ((u, fA .byte [y0]) :: (a, strO u) :: (s, strO v) :: (v, fA .byte [y0, y1, y2]) :: F)
set_option maxRecDepth 65536 in
set_option maxHeartbeats 40000000 in
theorem c_wf_3_1 (l : Launch) (Z : State) (a0 : Array Value) (hw : HW Z a0) (s v : Addr) (y0 y1 y2 : Int32) (cp : Int32) (fm : Value) (F : OH) (hs : Std Z cp fm) (hq0 : ¬ y0 = 35) (hq1 : y1 = 35) :
    Met l Z (⟨"com/example/bylint/bylint/description/UriReferences", "withoutFragment", "(Ljava/lang/String;)Ljava/lang/String;"⟩ : MethodName) prog_9_method_5_code 2 (some (.object "java/lang/String")) (rm4 5 2 5 82) [(.ref s)] ((s, strO v) :: (v, fA .byte [y0, y1, y2]) :: F) (Q_c_wf_3_1 s v y0 y1 y2 F) := by
  refine Met.of_wp (Ls := #[.val (.ref s), .unset]) pn_20 (fun m => (entry_loc m _ _).trans rfl) ?_
  show W21 l Z (rm4 5 2 5 82) ((s, strO v) :: (v, fA .byte [y0, y1, y2]) :: F) 0 0 0 #[.val (.ref s), .unset] [] (Q_c_wf_3_1 s v y0 y1 y2 F)
  refine wp_aload_n D_prog_9_m5_0 rfl rfl ?_
  refine wp_bipush 35 D_prog_9_m5_1 (by decide) ?_
  refine wp_virtual (c_si_3 l Z a0 hw s v y0 y1 y2 (1 : Int32) cp fm F hs (c_ioc_3_1 l Z a0 hw s v y0 y1 y2 F hq0 hq1)) (exa_new (i := 0) rfl) D_prog_9_m5_3 (gw hw 31 rfl) (gw hw 32 rfl) (gw hw 34 rfl) (gw hw 34 rfl) (gw hw 33 rfl) (gw hw 7 rfl) (gw hw 35 rfl) (by decide) pd_19 rfl rfl rfl (lb rfl) (lb rfl) (lb rfl) (lb rfl) ?_
  rintro _ _ ⟨rfl, rfl⟩
  show W21 l Z (rm4 5 2 5 82) ((s, strO v) :: (v, fA .byte [y0, y1, y2]) :: F) 0 0 6 #[.val (.ref s), .unset] [(.int 1)] (Q_c_wf_3_1 s v y0 y1 y2 F)
  refine wp_istore_n #[.val (.ref s), .val (.int 1)] D_prog_9_m5_6 rfl ?_
  refine wp_iload_n D_prog_9_m5_7 rfl ?_
  refine wp_if_ge D_prog_9_m5_8 (pc'' := 15) ⟨by decide, by decide⟩ (fun h1 => ?_) (fun h1 => by exact absurd h1 (by decide))
  refine wp_aload_n D_prog_9_m5_15 rfl rfl ?_
  refine wp_iconst 0 D_prog_9_m5_16 (by decide) ?_
  refine wp_iload_n D_prog_9_m5_17 rfl ?_
  refine wp_virtual (c_sub_3_0_1 l Z a0 hw s v y0 y1 y2 cp fm F hs ) (exa_new (i := 0) rfl) D_prog_9_m5_18 (gw hw 85 rfl) (gw hw 86 rfl) (gw hw 88 rfl) (gw hw 88 rfl) (gw hw 87 rfl) (gw hw 7 rfl) (gw hw 89 rfl) (by decide) pd_20 rfl rfl rfl (lb rfl) (lb rfl) (lb rfl) (lb rfl) ?_
  rintro _ _ ⟨sa2, su3, rfl, rfl⟩
  show W21 l Z (rm4 5 2 5 82) ((su3, fA .byte [y0]) :: (sa2, strO su3) :: (s, strO v) :: (v, fA .byte [y0, y1, y2]) :: F) 2 5 21 #[.val (.ref s), .val (.int 1)] [(.ref sa2)] (Q_c_wf_3_1 s v y0 y1 y2 F)
  refine wp_areturn D_prog_9_m5_21 rfl rfl rfl rfl (by decide) (by decide) ?_
  exact ⟨_, _, rfl, rfl⟩
set_option maxRecDepth 65536 in
set_option maxHeartbeats 40000000 in
theorem c_ioc_3_2 (l : Launch) (Z : State) (a0 : Array Value) (hw : HW Z a0) (s v : Addr) (y0 y1 y2 : Int32) (F : OH) (hq0 : ¬ y0 = 35) (hq1 : ¬ y1 = 35) (hq2 : y2 = 35) :
    Met l Z (⟨"java/lang/StringLatin1", "indexOfChar", "([BIII)I"⟩ : MethodName) jdk_43_method_23_code 6 (some .int) (rm4 0 0 0 0) [(.ref v), (.int 35), (.int 0), (.int 3)] ((s, strO v) :: (v, fA .byte [y0, y1, y2]) :: F) (Q_ioc_3 s v y0 y1 y2 (2 : Int32) F) := by
  refine Met.of_wp (Ls := #[.val (.ref v), .val (.int 35), .val (.int 0), .val (.int 3), .unset, .unset]) pn_16 (fun m => (entry_loc m _ _).trans rfl) ?_
  show W22 l Z (rm4 0 0 0 0) ((s, strO v) :: (v, fA .byte [y0, y1, y2]) :: F) 0 0 0 #[.val (.ref v), .val (.int 35), .val (.int 0), .val (.int 3), .unset, .unset] [] (Q_ioc_3 s v y0 y1 y2 (2 : Int32) F)
  refine wp_iload_n D_jdk_43_m23_0 rfl ?_
  refine wp_i2b D_jdk_43_m23_1 ?_
  rw [show (35 : Int32).toInt8.toInt32 = (35 : Int32) from by decide]
  refine wp_istore #[.val (.ref v), .val (.int 35), .val (.int 0), .val (.int 3), .val (.int 35), .unset] D_jdk_43_m23_2 rfl ?_
  refine wp_iload_n D_jdk_43_m23_4 rfl ?_
  refine wp_istore #[.val (.ref v), .val (.int 35), .val (.int 0), .val (.int 3), .val (.int 35), .val (.int 0)] D_jdk_43_m23_5 rfl ?_
  refine wp_iload D_jdk_43_m23_7 rfl ?_
  refine wp_iload_n D_jdk_43_m23_9 rfl ?_
  refine wp_icmp_ge D_jdk_43_m23_10 (pc'' := 31) ⟨by decide, by decide⟩ (fun h1 => by exact absurd h1 (by decide)) (fun h1 => ?_)
  refine wp_aload_n D_jdk_43_m23_13 rfl rfl ?_
  refine wp_iload D_jdk_43_m23_14 rfl ?_
  refine wp_baload (i := 1) (0) D_jdk_43_m23_16 rfl (by decide) (by decide) rfl ?_
  refine wp_iload D_jdk_43_m23_17 rfl ?_
  refine wp_icmp_ne D_jdk_43_m23_19 (pc'' := 25) ⟨by decide, by decide⟩ (fun h2 => ?_) (fun h2 => by exact absurd h2 hq0)
  refine wp_iinc 1 #[.val (.ref v), .val (.int 35), .val (.int 0), .val (.int 3), .val (.int 35), .val (.int 1)] D_jdk_43_m23_25 rfl rfl (by rw [show (0 : Int32) + (1 : Int32) = (1 : Int32) from by decide]; rfl) ?_
  refine wp_goto D_jdk_43_m23_28 (pc'' := 7) ⟨by decide, by decide⟩ ?_
  refine wp_iload D_jdk_43_m23_7 rfl ?_
  refine wp_iload_n D_jdk_43_m23_9 rfl ?_
  refine wp_icmp_ge D_jdk_43_m23_10 (pc'' := 31) ⟨by decide, by decide⟩ (fun h3 => by exact absurd h3 (by decide)) (fun h3 => ?_)
  refine wp_aload_n D_jdk_43_m23_13 rfl rfl ?_
  refine wp_iload D_jdk_43_m23_14 rfl ?_
  refine wp_baload (i := 1) (1) D_jdk_43_m23_16 rfl (by decide) (by decide) rfl ?_
  refine wp_iload D_jdk_43_m23_17 rfl ?_
  refine wp_icmp_ne D_jdk_43_m23_19 (pc'' := 25) ⟨by decide, by decide⟩ (fun h4 => ?_) (fun h4 => by exact absurd h4 hq1)
  refine wp_iinc 1 #[.val (.ref v), .val (.int 35), .val (.int 0), .val (.int 3), .val (.int 35), .val (.int 2)] D_jdk_43_m23_25 rfl rfl (by rw [show (1 : Int32) + (1 : Int32) = (2 : Int32) from by decide]; rfl) ?_
  refine wp_goto D_jdk_43_m23_28 (pc'' := 7) ⟨by decide, by decide⟩ ?_
  refine wp_iload D_jdk_43_m23_7 rfl ?_
  refine wp_iload_n D_jdk_43_m23_9 rfl ?_
  refine wp_icmp_ge D_jdk_43_m23_10 (pc'' := 31) ⟨by decide, by decide⟩ (fun h5 => by exact absurd h5 (by decide)) (fun h5 => ?_)
  refine wp_aload_n D_jdk_43_m23_13 rfl rfl ?_
  refine wp_iload D_jdk_43_m23_14 rfl ?_
  refine wp_baload (i := 1) (2) D_jdk_43_m23_16 rfl (by decide) (by decide) rfl ?_
  refine wp_iload D_jdk_43_m23_17 rfl ?_
  refine wp_icmp_ne D_jdk_43_m23_19 (pc'' := 25) ⟨by decide, by decide⟩ (fun h6 => by exact absurd hq2 h6) (fun h6 => ?_)
  refine wp_iload D_jdk_43_m23_22 rfl ?_
  refine wp_ireturn D_jdk_43_m23_24 rfl (by decide) (by decide) ?_
  exact ⟨rfl, rfl⟩
def Q_c_min_3_2  (F : OH) : Option Value → OH → Prop := fun w' H' => w' = some (.int 2) ∧ H' = F
set_option maxRecDepth 65536 in
set_option maxHeartbeats 40000000 in
theorem c_min_3_2 (l : Launch) (Z : State) (a0 : Array Value) (hw : HW Z a0)  (F : OH) :
    Met l Z (⟨"java/lang/Math", "min", "(II)I"⟩ : MethodName) jdk_29_method_69_code 2 (some .int) (rm4 0 0 0 0) [(.int 3), (.int 2)] F (Q_c_min_3_2 F) := by
  refine Met.of_wp (Ls := #[.val (.int 3), .val (.int 2)]) pn_15 (fun m => (entry_loc m _ _).trans rfl) ?_
  show W17 l Z (rm4 0 0 0 0) F 0 0 0 #[.val (.int 3), .val (.int 2)] [] (Q_c_min_3_2 F)
  refine wp_iload_n D_jdk_29_m69_0 rfl ?_
  refine wp_iload_n D_jdk_29_m69_1 rfl ?_
  refine wp_icmp_gt D_jdk_29_m69_2 (pc'' := 9) ⟨by decide, by decide⟩ (fun h1 => ?_) (fun h1 => by exact absurd h1 (by decide))
  refine wp_iload_n D_jdk_29_m69_9 rfl ?_
  refine wp_ireturn D_jdk_29_m69_10 rfl (by decide) (by decide) ?_
  exact ⟨rfl, rfl⟩
def Q_c_crb_3_0_2 (a s v : Addr) (y0 y1 y2 : Int32) (F : OH) : Option Value → OH → Prop := fun w' H' => ∃ b', w' = some (.ref b') ∧ H' = ((b', oA .byte [y0, y1]) :: (a, oS (.null)) :: (s, strO v) :: (v, fA .byte [y0, y1, y2]) :: F)
set_option maxRecDepth 65536 in
set_option maxHeartbeats 40000000 in
theorem c_crb_3_0_2 (l : Launch) (Z : State) (a0 : Array Value) (hw : HW Z a0) (a s v : Addr) (y0 y1 y2 : Int32) (cp : Int32) (fm : Value) (F : OH) (hs : Std Z cp fm) :
    Met l Z (⟨"java/util/Arrays", "copyOfRangeByte", "([BII)[B"⟩ : MethodName) jdk_65_method_133_code 5 (some (.array .byte)) (rm4 1 1 2 20) [(.ref v), (.int 0), (.int 2)] ((a, oS (.null)) :: (s, strO v) :: (v, fA .byte [y0, y1, y2]) :: F) (Q_c_crb_3_0_2 a s v y0 y1 y2 F) := by
  refine Met.of_wp (Ls := #[.val (.ref v), .val (.int 0), .val (.int 2), .unset, .unset]) pn_26 (fun m => (entry_loc m _ _).trans rfl) ?_
  show W29 l Z (rm4 1 1 2 20) ((a, oS (.null)) :: (s, strO v) :: (v, fA .byte [y0, y1, y2]) :: F) 0 0 0 #[.val (.ref v), .val (.int 0), .val (.int 2), .unset, .unset] [] (Q_c_crb_3_0_2 a s v y0 y1 y2 F)
  refine wp_iload_n D_jdk_65_m133_0 rfl ?_
  refine wp_iload_n D_jdk_65_m133_1 rfl ?_
  refine wp_callS (c_ckl l Z a0 hw 0 2 ((a, oS (.null)) :: (s, strO v) :: (v, fA .byte [y0, y1, y2]) :: F) (by decide)) D_jdk_65_m133_2 (gw hw 124 rfl) (gw hw 125 rfl) (gw hw 119 rfl) (gw hw 126 rfl) (by decide) pd_16 rfl rfl rfl (lb rfl) (lb rfl) (lb rfl) (lb rfl) ?_
  rintro _ _ ⟨rfl, rfl⟩
  show W29 l Z (rm4 1 1 2 20) ((a, oS (.null)) :: (s, strO v) :: (v, fA .byte [y0, y1, y2]) :: F) 0 0 5 #[.val (.ref v), .val (.int 0), .val (.int 2), .unset, .unset] [] (Q_c_crb_3_0_2 a s v y0 y1 y2 F)
  refine wp_iload_n D_jdk_65_m133_5 rfl ?_
  refine wp_iload_n D_jdk_65_m133_6 rfl ?_
  refine wp_isub D_jdk_65_m133_7 ?_
  rw [show ((2 : Int32) - (0 : Int32)) = (2 : Int32) from by decide]
  refine wp_istore_n #[.val (.ref v), .val (.int 0), .val (.int 2), .val (.int 2), .unset] D_jdk_65_m133_8 rfl ?_
  refine wp_iload_n D_jdk_65_m133_9 rfl ?_
  refine wp_newarrayI (n := (2 : Int32)) (2) 2 D_jdk_65_m133_10 rfl rfl rfl (gw hw 20 rfl) (by decide) (by decide) (by decide) (by decide) (by decide) (by decide) ?_
  intro a1
  show W29 l Z (rm4 1 1 2 20) ((a1, oA .byte [(0 : Int32), (0 : Int32)]) :: (a, oS (.null)) :: (s, strO v) :: (v, fA .byte [y0, y1, y2]) :: F) 1 2 12 #[.val (.ref v), .val (.int 0), .val (.int 2), .val (.int 2), .unset] [(.ref a1)] (Q_c_crb_3_0_2 a s v y0 y1 y2 F)
  refine wp_astore #[.val (.ref v), .val (.int 0), .val (.int 2), .val (.int 2), .val (.ref a1)] D_jdk_65_m133_12 rfl rfl ?_
  refine wp_aload_n D_jdk_65_m133_14 rfl rfl ?_
  refine wp_iload_n D_jdk_65_m133_15 rfl ?_
  refine wp_aload D_jdk_65_m133_16 rfl rfl ?_
  refine wp_iconst 0 D_jdk_65_m133_18 (by decide) ?_
  refine wp_aload_n D_jdk_65_m133_19 rfl rfl ?_
  refine wp_lengthI (i := 3) (3 : Int32) D_jdk_65_m133_20 rfl rfl ?_
  refine wp_iload_n D_jdk_65_m133_21 rfl ?_
  refine wp_isub D_jdk_65_m133_22 ?_
  rw [show ((3 : Int32) - (0 : Int32)) = (3 : Int32) from by decide]
  refine wp_iload_n D_jdk_65_m133_23 rfl ?_
  refine wp_callS (c_min_3_2 l Z a0 hw  ((a1, oA .byte [(0 : Int32), (0 : Int32)]) :: (a, oS (.null)) :: (s, strO v) :: (v, fA .byte [y0, y1, y2]) :: F) ) D_jdk_65_m133_24 (gw hw 127 rfl) (gw hw 69 rfl) (gw hw 66 rfl) (gw hw 70 rfl) (by decide) pd_3 rfl rfl rfl (lb rfl) (lb rfl) (lb rfl) (lb rfl) ?_
  rintro _ _ ⟨rfl, rfl⟩
  show W29 l Z (rm4 1 1 2 20) ((a1, oA .byte [(0 : Int32), (0 : Int32)]) :: (a, oS (.null)) :: (s, strO v) :: (v, fA .byte [y0, y1, y2]) :: F) 1 2 27 #[.val (.ref v), .val (.int 0), .val (.int 2), .val (.int 2), .val (.ref a1)] [(.int 2), (.int 0), (.ref a1), (.int 0), (.ref v)] (Q_c_crb_3_0_2 a s v y0 y1 y2 F)
  refine wp_arraycopyI (i := 3) (i' := 0) 0 0 2 D_jdk_65_m133_27 (gw hw 128 rfl) (gw hw 131 rfl) (gw hw 129 rfl) (gw hw 130 rfl) rfl rfl rfl (by decide) (by decide) (by decide) (by decide) (by decide) (by decide) (by first | exact Nat.le_of_ble_eq_true rfl | simp) (by first | exact Nat.le_of_ble_eq_true rfl | simp) (by first | exact Nat.le_of_ble_eq_true rfl | simp) (by first | exact Nat.le_of_ble_eq_true rfl | simp) rfl (by decide) (by decide) ?_
  show W29 l Z (rm4 1 1 2 20) ((a1, oA .byte [y0, y1]) :: (a, oS (.null)) :: (s, strO v) :: (v, fA .byte [y0, y1, y2]) :: F) 1 2 30 #[.val (.ref v), .val (.int 0), .val (.int 2), .val (.int 2), .val (.ref a1)] [] (Q_c_crb_3_0_2 a s v y0 y1 y2 F)
  refine wp_aload D_jdk_65_m133_30 rfl rfl ?_
  refine wp_areturn D_jdk_65_m133_32 rfl rfl rfl rfl (by decide) (by decide) ?_
  exact ⟨_, rfl, rfl⟩
def Q_c_cor_3_0_2 (a s v : Addr) (y0 y1 y2 : Int32) (F : OH) : Option Value → OH → Prop := fun w' H' => ∃ b', w' = some (.ref b') ∧ H' = ((b', oA .byte [y0, y1]) :: (a, oS (.null)) :: (s, strO v) :: (v, fA .byte [y0, y1, y2]) :: F)
set_option maxRecDepth 65536 in
set_option maxHeartbeats 40000000 in
theorem c_cor_3_0_2 (l : Launch) (Z : State) (a0 : Array Value) (hw : HW Z a0) (a s v : Addr) (y0 y1 y2 : Int32) (cp : Int32) (fm : Value) (F : OH) (hs : Std Z cp fm) :
    Met l Z (⟨"java/util/Arrays", "copyOfRange", "([BII)[B"⟩ : MethodName) jdk_65_method_132_code 3 (some (.array .byte)) (rm4 2 1 2 36) [(.ref v), (.int 0), (.int 2)] ((a, oS (.null)) :: (s, strO v) :: (v, fA .byte [y0, y1, y2]) :: F) (Q_c_cor_3_0_2 a s v y0 y1 y2 F) := by
  refine Met.of_wp (Ls := #[.val (.ref v), .val (.int 0), .val (.int 2)]) pn_27 (fun m => (entry_loc m _ _).trans rfl) ?_
  show W30 l Z (rm4 2 1 2 36) ((a, oS (.null)) :: (s, strO v) :: (v, fA .byte [y0, y1, y2]) :: F) 0 0 0 #[.val (.ref v), .val (.int 0), .val (.int 2)] [] (Q_c_cor_3_0_2 a s v y0 y1 y2 F)
  refine wp_iload_n D_jdk_65_m132_0 rfl ?_
  refine wp_if_ne D_jdk_65_m132_1 (pc'' := 10) ⟨by decide, by decide⟩ (fun h1 => by exact absurd h1 (by decide)) (fun h1 => ?_)
  refine wp_iload_n D_jdk_65_m132_4 rfl ?_
  refine wp_aload_n D_jdk_65_m132_5 rfl rfl ?_
  refine wp_lengthI (i := 2) (3 : Int32) D_jdk_65_m132_6 rfl rfl ?_
  refine wp_icmp_eq D_jdk_65_m132_7 (pc'' := 17) ⟨by decide, by decide⟩ (fun h2 => by exact absurd h2 (by decide)) (fun h2 => ?_)
  refine wp_aload_n D_jdk_65_m132_10 rfl rfl ?_
  refine wp_iload_n D_jdk_65_m132_11 rfl ?_
  refine wp_iload_n D_jdk_65_m132_12 rfl ?_
  refine wp_callS (c_crb_3_0_2 l Z a0 hw a s v y0 y1 y2 cp fm F hs ) D_jdk_65_m132_13 (gw hw 121 rfl) (gw hw 122 rfl) (gw hw 119 rfl) (gw hw 123 rfl) (by decide) pd_17 rfl rfl rfl (lb rfl) (lb rfl) (lb rfl) (lb rfl) ?_
  rintro _ _ ⟨b3, rfl, rfl⟩
  show W30 l Z (rm4 2 1 2 36) ((b3, oA .byte [y0, y1]) :: (a, oS (.null)) :: (s, strO v) :: (v, fA .byte [y0, y1, y2]) :: F) 1 2 16 #[.val (.ref v), .val (.int 0), .val (.int 2)] [(.ref b3)] (Q_c_cor_3_0_2 a s v y0 y1 y2 F)
  refine wp_areturn D_jdk_65_m132_16 rfl rfl rfl rfl (by decide) (by decide) ?_
  exact ⟨_, rfl, rfl⟩
def Q_c_nst_3_0_2 (s v : Addr) (y0 y1 y2 : Int32) (F : OH) : Option Value → OH → Prop := fun w' H' => ∃ a u, w' = some (.ref a) ∧ H' = ((u, fA .byte [y0, y1]) :: (a, strO u) :: (s, strO v) :: (v, fA .byte [y0, y1, y2]) :: F)
set_option maxRecDepth 65536 in
set_option maxHeartbeats 40000000 in
theorem c_nst_3_0_2 (l : Launch) (Z : State) (a0 : Array Value) (hw : HW Z a0) (s v : Addr) (y0 y1 y2 : Int32) (cp : Int32) (fm : Value) (F : OH) (hs : Std Z cp fm) :
    Met l Z (⟨"java/lang/StringLatin1", "newString", "([BII)Ljava/lang/String;"⟩ : MethodName) jdk_43_method_47_code 3 (some (.object "java/lang/String")) (rm4 3 2 6 52) [(.ref v), (.int 0), (.int 2)] ((s, strO v) :: (v, fA .byte [y0, y1, y2]) :: F) (Q_c_nst_3_0_2 s v y0 y1 y2 F) := by
  refine Met.of_wp (Ls := #[.val (.ref v), .val (.int 0), .val (.int 2)]) pn_23 (fun m => (entry_loc m _ _).trans rfl) ?_
  show W32 l Z (rm4 3 2 6 52) ((s, strO v) :: (v, fA .byte [y0, y1, y2]) :: F) 0 0 0 #[.val (.ref v), .val (.int 0), .val (.int 2)] [] (Q_c_nst_3_0_2 s v y0 y1 y2 F)
  refine wp_iload_n D_jdk_43_m47_0 rfl ?_
  refine wp_if_ne D_jdk_43_m47_1 (pc'' := 7) ⟨by decide, by decide⟩ (fun h1 => ?_) (fun h1 => by exact absurd h1 (by decide))
  refine wp_new sgStr [(.null), (.int 0)] D_jdk_43_m47_7 (gw hw 116 rfl) (gw hw 6 rfl) (gw hw 7 rfl) (laid_sgStr l Z a0 hw) (by decide) dfl_sgStr (by decide) (by decide) ?_
  intro a2
  show W32 l Z (rm4 3 2 6 52) ((a2, oS (.null)) :: (s, strO v) :: (v, fA .byte [y0, y1, y2]) :: F) 1 4 10 #[.val (.ref v), .val (.int 0), .val (.int 2)] [(.ref a2)] (Q_c_nst_3_0_2 s v y0 y1 y2 F)
  refine wp_dup D_jdk_43_m47_10 rfl ?_
  refine wp_aload_n D_jdk_43_m47_11 rfl rfl ?_
  refine wp_iload_n D_jdk_43_m47_12 rfl ?_
  refine wp_iload_n D_jdk_43_m47_13 rfl ?_
  refine wp_iload_n D_jdk_43_m47_14 rfl ?_
  refine wp_iadd D_jdk_43_m47_15 ?_
  rw [show ((0 : Int32) + (2 : Int32)) = (2 : Int32) from by decide]
  refine wp_callS (c_cor_3_0_2 l Z a0 hw a2 s v y0 y1 y2 cp fm F hs ) D_jdk_43_m47_16 (gw hw 117 rfl) (gw hw 118 rfl) (gw hw 119 rfl) (gw hw 120 rfl) (by decide) pd_17 rfl rfl rfl (lb rfl) (lb rfl) (lb rfl) (lb rfl) ?_
  rintro _ _ ⟨b3, rfl, rfl⟩
  show W32 l Z (rm4 3 2 6 52) ((b3, oA .byte [y0, y1]) :: (a2, oS (.null)) :: (s, strO v) :: (v, fA .byte [y0, y1, y2]) :: F) 2 6 19 #[.val (.ref v), .val (.int 0), .val (.int 2)] [(.ref b3), (.ref a2), (.ref a2)] (Q_c_nst_3_0_2 s v y0 y1 y2 F)
  refine wp_iconst 0 D_jdk_43_m47_19 (by decide) ?_
  refine wp_init (c_sbb l Z a0 hw b3 a2 [y0, y1] ((s, strO v) :: (v, fA .byte [y0, y1, y2]) :: F) ) D_jdk_43_m47_20 rfl (gw hw 132 rfl) (gw hw 133 rfl) (gw hw 7 rfl) (gw hw 134 rfl) (by decide) pd_18 rfl rfl rfl (lb rfl) (lb rfl) (lb rfl) (lb rfl) ?_
  rintro _ _ ⟨rfl, rfl⟩
  show W32 l Z (rm4 3 2 6 52) ((b3, oA .byte [y0, y1]) :: (a2, oS (.ref b3)) :: (s, strO v) :: (v, fA .byte [y0, y1, y2]) :: F) 2 6 23 #[.val (.ref v), .val (.int 0), .val (.int 2)] [(.ref a2)] (Q_c_nst_3_0_2 s v y0 y1 y2 F)
  refine Wp.frz (i := 0) rfl ?_
  refine Wp.frz (i := 1) rfl ?_
  show W32 l Z (rm4 3 2 6 52) ((b3, fA .byte [y0, y1]) :: (a2, strO b3) :: (s, strO v) :: (v, fA .byte [y0, y1, y2]) :: F) 2 6 23 #[.val (.ref v), .val (.int 0), .val (.int 2)] [(.ref a2)] (Q_c_nst_3_0_2 s v y0 y1 y2 F)
  refine wp_areturn D_jdk_43_m47_23 rfl rfl rfl rfl (by decide) (by decide) ?_
  exact ⟨_, _, rfl, rfl⟩
def Q_c_sub_3_0_2 (s v : Addr) (y0 y1 y2 : Int32) (F : OH) : Option Value → OH → Prop := fun w' H' => ∃ a u, w' = some (.ref a) ∧ H' = ((u, fA .byte [y0, y1]) :: (a, strO u) :: (s, strO v) :: (v, fA .byte [y0, y1, y2]) :: F)
set_option maxRecDepth 65536 in
set_option maxHeartbeats 40000000 in
theorem c_sub_3_0_2 (l : Launch) (Z : State) (a0 : Array Value) (hw : HW Z a0) (s v : Addr) (y0 y1 y2 : Int32) (cp : Int32) (fm : Value) (F : OH) (hs : Std Z cp fm) :
    Met l Z (⟨"java/lang/String", "substring", "(II)Ljava/lang/String;"⟩ : MethodName) jdk_42_method_92_code 5 (some (.object "java/lang/String")) (rm4 4 2 6 66) [(.ref s), (.int 0), (.int 2)] ((s, strO v) :: (v, fA .byte [y0, y1, y2]) :: F) (Q_c_sub_3_0_2 s v y0 y1 y2 F) := by
  refine Met.of_wp (Ls := #[.val (.ref s), .val (.int 0), .val (.int 2), .unset, .unset]) pn_24 (fun m => (entry_loc m _ _).trans rfl) ?_
  show W33 l Z (rm4 4 2 6 66) ((s, strO v) :: (v, fA .byte [y0, y1, y2]) :: F) 0 0 0 #[.val (.ref s), .val (.int 0), .val (.int 2), .unset, .unset] [] (Q_c_sub_3_0_2 s v y0 y1 y2 F)
  refine wp_aload_n D_jdk_42_m92_0 rfl rfl ?_
  refine wp_virtual (c_len_3 l Z a0 hw s v y0 y1 y2 cp fm F hs ) (exa_new (i := 0) rfl) D_jdk_42_m92_1 (gw hw 47 rfl) (gw hw 48 rfl) (gw hw 50 rfl) (gw hw 50 rfl) (gw hw 49 rfl) (gw hw 7 rfl) (gw hw 51 rfl) (by decide) pd_5 rfl rfl rfl (lb rfl) (lb rfl) (lb rfl) (lb rfl) ?_
  rintro _ _ ⟨rfl, rfl⟩
  show W33 l Z (rm4 4 2 6 66) ((s, strO v) :: (v, fA .byte [y0, y1, y2]) :: F) 0 0 4 #[.val (.ref s), .val (.int 0), .val (.int 2), .unset, .unset] [(.int 3)] (Q_c_sub_3_0_2 s v y0 y1 y2 F)
  refine wp_istore_n #[.val (.ref s), .val (.int 0), .val (.int 2), .val (.int 3), .unset] D_jdk_42_m92_4 rfl ?_
  refine wp_iload_n D_jdk_42_m92_5 rfl ?_
  refine wp_iload_n D_jdk_42_m92_6 rfl ?_
  refine wp_iload_n D_jdk_42_m92_7 rfl ?_
  refine wp_callS (c_cbe l Z a0 hw 0 2 3 cp fm ((s, strO v) :: (v, fA .byte [y0, y1, y2]) :: F) hs (by decide) (by decide) (by decide)) D_jdk_42_m92_8 (gw hw 90 rfl) (gw hw 91 rfl) (gw hw 7 rfl) (gw hw 92 rfl) (by decide) pd_10 rfl rfl rfl (lb rfl) (lb rfl) (lb rfl) (lb rfl) ?_
  rintro _ _ ⟨rfl, rfl⟩
  show W33 l Z (rm4 4 2 6 66) ((s, strO v) :: (v, fA .byte [y0, y1, y2]) :: F) 0 0 11 #[.val (.ref s), .val (.int 0), .val (.int 2), .val (.int 3), .unset] [] (Q_c_sub_3_0_2 s v y0 y1 y2 F)
  refine wp_iload_n D_jdk_42_m92_11 rfl ?_
  refine wp_if_ne D_jdk_42_m92_12 (pc'' := 22) ⟨by decide, by decide⟩ (fun h1 => by exact absurd h1 (by decide)) (fun h1 => ?_)
  refine wp_iload_n D_jdk_42_m92_15 rfl ?_
  refine wp_iload_n D_jdk_42_m92_16 rfl ?_
  refine wp_icmp_ne D_jdk_42_m92_17 (pc'' := 22) ⟨by decide, by decide⟩ (fun h2 => ?_) (fun h2 => by exact absurd h2 (by decide))
  refine wp_iload_n D_jdk_42_m92_22 rfl ?_
  refine wp_iload_n D_jdk_42_m92_23 rfl ?_
  refine wp_isub D_jdk_42_m92_24 ?_
  rw [show ((2 : Int32) - (0 : Int32)) = (2 : Int32) from by decide]
  refine wp_istore #[.val (.ref s), .val (.int 0), .val (.int 2), .val (.int 3), .val (.int 2)] D_jdk_42_m92_25 rfl ?_
  refine wp_aload_n D_jdk_42_m92_27 rfl rfl ?_
  refine wp_virtual (c_lat l Z a0 hw s v cp fm ((v, fA .byte [y0, y1, y2]) :: F) hs ) (exa_new (i := 0) rfl) D_jdk_42_m92_28 (gw hw 41 rfl) (gw hw 42 rfl) (gw hw 44 rfl) (gw hw 44 rfl) (gw hw 43 rfl) (gw hw 7 rfl) (gw hw 45 rfl) (by decide) pd_4 rfl rfl rfl (lb rfl) (lb rfl) (lb rfl) (lb rfl) ?_
  rintro _ _ ⟨rfl, rfl⟩
  show W33 l Z (rm4 4 2 6 66) ((s, strO v) :: (v, fA .byte [y0, y1, y2]) :: F) 0 0 31 #[.val (.ref s), .val (.int 0), .val (.int 2), .val (.int 3), .val (.int 2)] [(.int 1)] (Q_c_sub_3_0_2 s v y0 y1 y2 F)
  refine wp_if_eq D_jdk_42_m92_31 (pc'' := 47) ⟨by decide, by decide⟩ (fun h3 => by exact absurd h3 (by decide)) (fun h3 => ?_)
  refine wp_aload_n D_jdk_42_m92_34 rfl rfl ?_
  refine wp_getfield D_jdk_42_m92_35 (gw hw 25 rfl) (fld_new (i := 0) (fi := 0) rfl rfl rfl) ?_
  refine wp_iload_n D_jdk_42_m92_38 rfl ?_
  refine wp_iload D_jdk_42_m92_39 rfl ?_
  refine wp_callS (c_nst_3_0_2 l Z a0 hw s v y0 y1 y2 cp fm F hs ) D_jdk_42_m92_41 (gw hw 98 rfl) (gw hw 99 rfl) (gw hw 59 rfl) (gw hw 100 rfl) (by decide) pd_12 rfl rfl rfl (lb rfl) (lb rfl) (lb rfl) (lb rfl) ?_
  rintro _ _ ⟨sa4, su5, rfl, rfl⟩
  show W33 l Z (rm4 4 2 6 66) ((su5, fA .byte [y0, y1]) :: (sa4, strO su5) :: (s, strO v) :: (v, fA .byte [y0, y1, y2]) :: F) 2 6 44 #[.val (.ref s), .val (.int 0), .val (.int 2), .val (.int 3), .val (.int 2)] [(.ref sa4)] (Q_c_sub_3_0_2 s v y0 y1 y2 F)
  refine wp_goto D_jdk_42_m92_44 (pc'' := 57) ⟨by decide, by decide⟩ ?_
  refine wp_areturn D_jdk_42_m92_57 rfl rfl rfl rfl (by decide) (by decide) ?_
  exact ⟨_, _, rfl, rfl⟩
def Q_c_wf_3_2 (s v : Addr) (y0 y1 y2 : Int32) (F : OH) : Option Value → OH → Prop := fun w' H' => ∃ a u, w' = some (.ref a) ∧ H' = ((u, fA .byte [y0, y1]) :: (a, strO u) :: (s, strO v) :: (v, fA .byte [y0, y1, y2]) :: F)
set_option maxRecDepth 65536 in
set_option maxHeartbeats 40000000 in
theorem c_wf_3_2 (l : Launch) (Z : State) (a0 : Array Value) (hw : HW Z a0) (s v : Addr) (y0 y1 y2 : Int32) (cp : Int32) (fm : Value) (F : OH) (hs : Std Z cp fm) (hq0 : ¬ y0 = 35) (hq1 : ¬ y1 = 35) (hq2 : y2 = 35) :
    Met l Z (⟨"com/example/bylint/bylint/description/UriReferences", "withoutFragment", "(Ljava/lang/String;)Ljava/lang/String;"⟩ : MethodName) prog_9_method_5_code 2 (some (.object "java/lang/String")) (rm4 5 2 6 82) [(.ref s)] ((s, strO v) :: (v, fA .byte [y0, y1, y2]) :: F) (Q_c_wf_3_2 s v y0 y1 y2 F) := by
  refine Met.of_wp (Ls := #[.val (.ref s), .unset]) pn_20 (fun m => (entry_loc m _ _).trans rfl) ?_
  show W21 l Z (rm4 5 2 6 82) ((s, strO v) :: (v, fA .byte [y0, y1, y2]) :: F) 0 0 0 #[.val (.ref s), .unset] [] (Q_c_wf_3_2 s v y0 y1 y2 F)
  refine wp_aload_n D_prog_9_m5_0 rfl rfl ?_
  refine wp_bipush 35 D_prog_9_m5_1 (by decide) ?_
  refine wp_virtual (c_si_3 l Z a0 hw s v y0 y1 y2 (2 : Int32) cp fm F hs (c_ioc_3_2 l Z a0 hw s v y0 y1 y2 F hq0 hq1 hq2)) (exa_new (i := 0) rfl) D_prog_9_m5_3 (gw hw 31 rfl) (gw hw 32 rfl) (gw hw 34 rfl) (gw hw 34 rfl) (gw hw 33 rfl) (gw hw 7 rfl) (gw hw 35 rfl) (by decide) pd_19 rfl rfl rfl (lb rfl) (lb rfl) (lb rfl) (lb rfl) ?_
  rintro _ _ ⟨rfl, rfl⟩
  show W21 l Z (rm4 5 2 6 82) ((s, strO v) :: (v, fA .byte [y0, y1, y2]) :: F) 0 0 6 #[.val (.ref s), .unset] [(.int 2)] (Q_c_wf_3_2 s v y0 y1 y2 F)
  refine wp_istore_n #[.val (.ref s), .val (.int 2)] D_prog_9_m5_6 rfl ?_
  refine wp_iload_n D_prog_9_m5_7 rfl ?_
  refine wp_if_ge D_prog_9_m5_8 (pc'' := 15) ⟨by decide, by decide⟩ (fun h1 => ?_) (fun h1 => by exact absurd h1 (by decide))
  refine wp_aload_n D_prog_9_m5_15 rfl rfl ?_
  refine wp_iconst 0 D_prog_9_m5_16 (by decide) ?_
  refine wp_iload_n D_prog_9_m5_17 rfl ?_
  refine wp_virtual (c_sub_3_0_2 l Z a0 hw s v y0 y1 y2 cp fm F hs ) (exa_new (i := 0) rfl) D_prog_9_m5_18 (gw hw 85 rfl) (gw hw 86 rfl) (gw hw 88 rfl) (gw hw 88 rfl) (gw hw 87 rfl) (gw hw 7 rfl) (gw hw 89 rfl) (by decide) pd_20 rfl rfl rfl (lb rfl) (lb rfl) (lb rfl) (lb rfl) ?_
  rintro _ _ ⟨sa2, su3, rfl, rfl⟩
  show W21 l Z (rm4 5 2 6 82) ((su3, fA .byte [y0, y1]) :: (sa2, strO su3) :: (s, strO v) :: (v, fA .byte [y0, y1, y2]) :: F) 2 6 21 #[.val (.ref s), .val (.int 2)] [(.ref sa2)] (Q_c_wf_3_2 s v y0 y1 y2 F)
  refine wp_areturn D_prog_9_m5_21 rfl rfl rfl rfl (by decide) (by decide) ?_
  exact ⟨_, _, rfl, rfl⟩
def Q_c_min_4_4  (F : OH) : Option Value → OH → Prop := fun w' H' => w' = some (.int 4) ∧ H' = F
set_option maxRecDepth 65536 in
set_option maxHeartbeats 40000000 in
theorem c_min_4_4 (l : Launch) (Z : State) (a0 : Array Value) (hw : HW Z a0)  (F : OH) :
    Met l Z (⟨"java/lang/Math", "min", "(II)I"⟩ : MethodName) jdk_29_method_69_code 2 (some .int) (rm4 0 0 0 0) [(.int 4), (.int 4)] F (Q_c_min_4_4 F) := by
  refine Met.of_wp (Ls := #[.val (.int 4), .val (.int 4)]) pn_15 (fun m => (entry_loc m _ _).trans rfl) ?_
  show W17 l Z (rm4 0 0 0 0) F 0 0 0 #[.val (.int 4), .val (.int 4)] [] (Q_c_min_4_4 F)
  refine wp_iload_n D_jdk_29_m69_0 rfl ?_
  refine wp_iload_n D_jdk_29_m69_1 rfl ?_
  refine wp_icmp_gt D_jdk_29_m69_2 (pc'' := 9) ⟨by decide, by decide⟩ (fun h1 => by exact absurd h1 (by decide)) (fun h1 => ?_)
  refine wp_iload_n D_jdk_29_m69_5 rfl ?_
  refine wp_goto D_jdk_29_m69_6 (pc'' := 10) ⟨by decide, by decide⟩ ?_
  refine wp_ireturn D_jdk_29_m69_10 rfl (by decide) (by decide) ?_
  exact ⟨rfl, rfl⟩
def Q_ioc_4 (s v : Addr) (y0 y1 y2 y3 : Int32) (r : Int32) (F : OH) : Option Value → OH → Prop := fun w' H' => w' = some (.int r) ∧ H' = ((s, strO v) :: (v, fA .byte [y0, y1, y2, y3]) :: F)
def Q_c_lix_4 (s v : Addr) (y0 y1 y2 y3 : Int32) (r : Int32) (F : OH) : Option Value → OH → Prop := fun w' H' => w' = some (.int r) ∧ H' = ((s, strO v) :: (v, fA .byte [y0, y1, y2, y3]) :: F)
set_option maxRecDepth 65536 in
set_option maxHeartbeats 40000000 in
theorem c_lix_4 (l : Launch) (Z : State) (a0 : Array Value) (hw : HW Z a0) (s v : Addr) (y0 y1 y2 y3 : Int32) (r : Int32) (cp : Int32) (fm : Value) (F : OH) (hs : Std Z cp fm) (hM : Met l Z (⟨"java/lang/StringLatin1", "indexOfChar", "([BIII)I"⟩ : MethodName) jdk_43_method_23_code 6 (some .int) (rm4 0 0 0 0) [.ref v, .int 35, .int 0, .int 4] ((s, strO v) :: (v, fA .byte [y0, y1, y2, y3]) :: F) (Q_ioc_4 s v y0 y1 y2 y3 r F)) :
    Met l Z (⟨"java/lang/StringLatin1", "indexOf", "([BIII)I"⟩ : MethodName) jdk_43_method_22_code 4 (some .int) (rm4 1 0 0 17) [(.ref v), (.int 35), (.int 0), (.int 4)] ((s, strO v) :: (v, fA .byte [y0, y1, y2, y3]) :: F) (Q_c_lix_4 s v y0 y1 y2 y3 r F) := by
  refine Met.of_wp (Ls := #[.val (.ref v), .val (.int 35), .val (.int 0), .val (.int 4)]) pn_17 (fun m => (entry_loc m _ _).trans rfl) ?_
  show W18 l Z (rm4 1 0 0 17) ((s, strO v) :: (v, fA .byte [y0, y1, y2, y3]) :: F) 0 0 0 #[.val (.ref v), .val (.int 35), .val (.int 0), .val (.int 4)] [] (Q_c_lix_4 s v y0 y1 y2 y3 r F)
  refine wp_iload_n D_jdk_43_m22_0 rfl ?_
  refine wp_callS (c_can l Z a0 hw  ((s, strO v) :: (v, fA .byte [y0, y1, y2, y3]) :: F) ) D_jdk_43_m22_1 (gw hw 61 rfl) (gw hw 62 rfl) (gw hw 59 rfl) (gw hw 63 rfl) (by decide) pd_15 rfl rfl rfl (lb rfl) (lb rfl) (lb rfl) (lb rfl) ?_
  rintro _ _ ⟨rfl, rfl⟩
  show W18 l Z (rm4 1 0 0 17) ((s, strO v) :: (v, fA .byte [y0, y1, y2, y3]) :: F) 0 0 4 #[.val (.ref v), .val (.int 35), .val (.int 0), .val (.int 4)] [(.int 1)] (Q_c_lix_4 s v y0 y1 y2 y3 r F)
  refine wp_if_ne D_jdk_43_m22_4 (pc'' := 9) ⟨by decide, by decide⟩ (fun h1 => ?_) (fun h1 => by exact absurd h1 (by decide))
  refine wp_iload_n D_jdk_43_m22_9 rfl ?_
  refine wp_iconst 0 D_jdk_43_m22_10 (by decide) ?_
  refine wp_callS (c_max_0_0 l Z a0 hw  ((s, strO v) :: (v, fA .byte [y0, y1, y2, y3]) :: F) ) D_jdk_43_m22_11 (gw hw 64 rfl) (gw hw 65 rfl) (gw hw 66 rfl) (gw hw 67 rfl) (by decide) pd_3 rfl rfl rfl (lb rfl) (lb rfl) (lb rfl) (lb rfl) ?_
  rintro _ _ ⟨rfl, rfl⟩
  show W18 l Z (rm4 1 0 0 17) ((s, strO v) :: (v, fA .byte [y0, y1, y2, y3]) :: F) 0 0 14 #[.val (.ref v), .val (.int 35), .val (.int 0), .val (.int 4)] [(.int 0)] (Q_c_lix_4 s v y0 y1 y2 y3 r F)
  refine wp_istore_n #[.val (.ref v), .val (.int 35), .val (.int 0), .val (.int 4)] D_jdk_43_m22_14 rfl ?_
  refine wp_iload_n D_jdk_43_m22_15 rfl ?_
  refine wp_aload_n D_jdk_43_m22_16 rfl rfl ?_
  refine wp_lengthI (i := 1) (4 : Int32) D_jdk_43_m22_17 rfl rfl ?_
  refine wp_callS (c_min_4_4 l Z a0 hw  ((s, strO v) :: (v, fA .byte [y0, y1, y2, y3]) :: F) ) D_jdk_43_m22_18 (gw hw 68 rfl) (gw hw 69 rfl) (gw hw 66 rfl) (gw hw 70 rfl) (by decide) pd_3 rfl rfl rfl (lb rfl) (lb rfl) (lb rfl) (lb rfl) ?_
  rintro _ _ ⟨rfl, rfl⟩
  show W18 l Z (rm4 1 0 0 17) ((s, strO v) :: (v, fA .byte [y0, y1, y2, y3]) :: F) 0 0 21 #[.val (.ref v), .val (.int 35), .val (.int 0), .val (.int 4)] [(.int 4)] (Q_c_lix_4 s v y0 y1 y2 y3 r F)
  refine wp_istore_n #[.val (.ref v), .val (.int 35), .val (.int 0), .val (.int 4)] D_jdk_43_m22_21 rfl ?_
  refine wp_iload_n D_jdk_43_m22_22 rfl ?_
  refine wp_iload_n D_jdk_43_m22_23 rfl ?_
  refine wp_icmp_lt D_jdk_43_m22_24 (pc'' := 29) ⟨by decide, by decide⟩ (fun h2 => ?_) (fun h2 => by exact absurd h2 (by decide))
  refine wp_aload_n D_jdk_43_m22_29 rfl rfl ?_
  refine wp_iload_n D_jdk_43_m22_30 rfl ?_
  refine wp_iload_n D_jdk_43_m22_31 rfl ?_
  refine wp_iload_n D_jdk_43_m22_32 rfl ?_
  refine wp_callS hM D_jdk_43_m22_33 (gw hw 82 rfl) (gw hw 83 rfl) (gw hw 59 rfl) (gw hw 84 rfl) (by decide) pd_7 rfl rfl rfl (lb rfl) (lb rfl) (lb rfl) (lb rfl) ?_
  rintro _ _ ⟨rfl, rfl⟩
  show W18 l Z (rm4 1 0 0 17) ((s, strO v) :: (v, fA .byte [y0, y1, y2, y3]) :: F) 0 0 36 #[.val (.ref v), .val (.int 35), .val (.int 0), .val (.int 4)] [(.int r)] (Q_c_lix_4 s v y0 y1 y2 y3 r F)
  refine wp_ireturn D_jdk_43_m22_36 rfl (by decide) (by decide) ?_
  exact ⟨rfl, rfl⟩
def Q_c_six_4 (s v : Addr) (y0 y1 y2 y3 : Int32) (r : Int32) (F : OH) : Option Value → OH → Prop := fun w' H' => w' = some (.int r) ∧ H' = ((s, strO v) :: (v, fA .byte [y0, y1, y2, y3]) :: F)
set_option maxRecDepth 65536 in
set_option maxHeartbeats 40000000 in
theorem c_six_4 (l : Launch) (Z : State) (a0 : Array Value) (hw : HW Z a0) (s v : Addr) (y0 y1 y2 y3 : Int32) (r : Int32) (cp : Int32) (fm : Value) (F : OH) (hs : Std Z cp fm) (hM : Met l Z (⟨"java/lang/StringLatin1", "indexOfChar", "([BIII)I"⟩ : MethodName) jdk_43_method_23_code 6 (some .int) (rm4 0 0 0 0) [.ref v, .int 35, .int 0, .int 4] ((s, strO v) :: (v, fA .byte [y0, y1, y2, y3]) :: F) (Q_ioc_4 s v y0 y1 y2 y3 r F)) :
    Met l Z (⟨"java/lang/String", "indexOf", "(II)I"⟩ : MethodName) jdk_42_method_80_code 3 (some .int) (rm4 2 0 0 32) [(.ref s), (.int 35), (.int 0)] ((s, strO v) :: (v, fA .byte [y0, y1, y2, y3]) :: F) (Q_c_six_4 s v y0 y1 y2 y3 r F) := by
  refine Met.of_wp (Ls := #[.val (.ref s), .val (.int 35), .val (.int 0)]) pn_18 (fun m => (entry_loc m _ _).trans rfl) ?_
  show W19 l Z (rm4 2 0 0 32) ((s, strO v) :: (v, fA .byte [y0, y1, y2, y3]) :: F) 0 0 0 #[.val (.ref s), .val (.int 35), .val (.int 0)] [] (Q_c_six_4 s v y0 y1 y2 y3 r F)
  refine wp_aload_n D_jdk_42_m80_0 rfl rfl ?_
  refine wp_virtual (c_lat l Z a0 hw s v cp fm ((v, fA .byte [y0, y1, y2, y3]) :: F) hs ) (exa_new (i := 0) rfl) D_jdk_42_m80_1 (gw hw 41 rfl) (gw hw 42 rfl) (gw hw 44 rfl) (gw hw 44 rfl) (gw hw 43 rfl) (gw hw 7 rfl) (gw hw 45 rfl) (by decide) pd_4 rfl rfl rfl (lb rfl) (lb rfl) (lb rfl) (lb rfl) ?_
  rintro _ _ ⟨rfl, rfl⟩
  show W19 l Z (rm4 2 0 0 32) ((s, strO v) :: (v, fA .byte [y0, y1, y2, y3]) :: F) 0 0 4 #[.val (.ref s), .val (.int 35), .val (.int 0)] [(.int 1)] (Q_c_six_4 s v y0 y1 y2 y3 r F)
  refine wp_if_eq D_jdk_42_m80_4 (pc'' := 23) ⟨by decide, by decide⟩ (fun h1 => by exact absurd h1 (by decide)) (fun h1 => ?_)
  refine wp_aload_n D_jdk_42_m80_7 rfl rfl ?_
  refine wp_getfield D_jdk_42_m80_8 (gw hw 25 rfl) (fld_new (i := 0) (fi := 0) rfl rfl rfl) ?_
  refine wp_iload_n D_jdk_42_m80_11 rfl ?_
  refine wp_iload_n D_jdk_42_m80_12 rfl ?_
  refine wp_aload_n D_jdk_42_m80_13 rfl rfl ?_
  refine wp_virtual (c_len_4 l Z a0 hw s v y0 y1 y2 y3 cp fm F hs ) (exa_new (i := 0) rfl) D_jdk_42_m80_14 (gw hw 47 rfl) (gw hw 48 rfl) (gw hw 50 rfl) (gw hw 50 rfl) (gw hw 49 rfl) (gw hw 7 rfl) (gw hw 51 rfl) (by decide) pd_5 rfl rfl rfl (lb rfl) (lb rfl) (lb rfl) (lb rfl) ?_
  rintro _ _ ⟨rfl, rfl⟩
  show W19 l Z (rm4 2 0 0 32) ((s, strO v) :: (v, fA .byte [y0, y1, y2, y3]) :: F) 0 0 17 #[.val (.ref s), .val (.int 35), .val (.int 0)] [(.int 4), (.int 0), (.int 35), (.ref v)] (Q_c_six_4 s v y0 y1 y2 y3 r F)
  refine wp_callS (c_lix_4 l Z a0 hw s v y0 y1 y2 y3 r cp fm F hs hM) D_jdk_42_m80_17 (gw hw 57 rfl) (gw hw 58 rfl) (gw hw 59 rfl) (gw hw 60 rfl) (by decide) pd_7 rfl rfl rfl (lb rfl) (lb rfl) (lb rfl) (lb rfl) ?_
  rintro _ _ ⟨rfl, rfl⟩
  show W19 l Z (rm4 2 0 0 32) ((s, strO v) :: (v, fA .byte [y0, y1, y2, y3]) :: F) 0 0 20 #[.val (.ref s), .val (.int 35), .val (.int 0)] [(.int r)] (Q_c_six_4 s v y0 y1 y2 y3 r F)
  refine wp_goto D_jdk_42_m80_20 (pc'' := 36) ⟨by decide, by decide⟩ ?_
  refine wp_ireturn D_jdk_42_m80_36 rfl (by decide) (by decide) ?_
  exact ⟨rfl, rfl⟩
def Q_c_si_4 (s v : Addr) (y0 y1 y2 y3 : Int32) (r : Int32) (F : OH) : Option Value → OH → Prop := fun w' H' => w' = some (.int r) ∧ H' = ((s, strO v) :: (v, fA .byte [y0, y1, y2, y3]) :: F)
set_option maxRecDepth 65536 in
set_option maxHeartbeats 40000000 in
theorem c_si_4 (l : Launch) (Z : State) (a0 : Array Value) (hw : HW Z a0) (s v : Addr) (y0 y1 y2 y3 : Int32) (r : Int32) (cp : Int32) (fm : Value) (F : OH) (hs : Std Z cp fm) (hM : Met l Z (⟨"java/lang/StringLatin1", "indexOfChar", "([BIII)I"⟩ : MethodName) jdk_43_method_23_code 6 (some .int) (rm4 0 0 0 0) [.ref v, .int 35, .int 0, .int 4] ((s, strO v) :: (v, fA .byte [y0, y1, y2, y3]) :: F) (Q_ioc_4 s v y0 y1 y2 y3 r F)) :
    Met l Z (⟨"java/lang/String", "indexOf", "(I)I"⟩ : MethodName) jdk_42_method_79_code 2 (some .int) (rm4 3 0 0 46) [(.ref s), (.int 35)] ((s, strO v) :: (v, fA .byte [y0, y1, y2, y3]) :: F) (Q_c_si_4 s v y0 y1 y2 y3 r F) := by
  refine Met.of_wp (Ls := #[.val (.ref s), .val (.int 35)]) pn_19 (fun m => (entry_loc m _ _).trans rfl) ?_
  show W20 l Z (rm4 3 0 0 46) ((s, strO v) :: (v, fA .byte [y0, y1, y2, y3]) :: F) 0 0 0 #[.val (.ref s), .val (.int 35)] [] (Q_c_si_4 s v y0 y1 y2 y3 r F)
  refine wp_aload_n D_jdk_42_m79_0 rfl rfl ?_
  refine wp_iload_n D_jdk_42_m79_1 rfl ?_
  refine wp_iconst 0 D_jdk_42_m79_2 (by decide) ?_
  refine wp_virtual (c_six_4 l Z a0 hw s v y0 y1 y2 y3 r cp fm F hs hM) (exa_new (i := 0) rfl) D_jdk_42_m79_3 (gw hw 36 rfl) (gw hw 37 rfl) (gw hw 39 rfl) (gw hw 39 rfl) (gw hw 38 rfl) (gw hw 7 rfl) (gw hw 40 rfl) (by decide) pd_3 rfl rfl rfl (lb rfl) (lb rfl) (lb rfl) (lb rfl) ?_
  rintro _ _ ⟨rfl, rfl⟩
  show W20 l Z (rm4 3 0 0 46) ((s, strO v) :: (v, fA .byte [y0, y1, y2, y3]) :: F) 0 0 6 #[.val (.ref s), .val (.int 35)] [(.int r)] (Q_c_si_4 s v y0 y1 y2 y3 r F)
  refine wp_ireturn D_jdk_42_m79_6 rfl (by decide) (by decide) ?_
  exact ⟨rfl, rfl⟩
set_option maxRecDepth 65536 in
set_option maxHeartbeats 40000000 in
theorem c_ioc_4_m (l : Launch) (Z : State) (a0 : Array Value) (hw : HW Z a0) (s v : Addr) (y0 y1 y2 y3 : Int32) (F : OH) (hq0 : ¬ y0 = 35) (hq1 : ¬ y1 = 35) (hq2 : ¬ y2 = 35) (hq3 : ¬ y3 = 35) :
    Met l Z (⟨"java/lang/StringLatin1", "indexOfChar", "([BIII)I"⟩ : MethodName) jdk_43_method_23_code 6 (some .int) (rm4 0 0 0 0) [(.ref v), (.int 35), (.int 0), (.int 4)] ((s, strO v) :: (v, fA .byte [y0, y1, y2, y3]) :: F) (Q_ioc_4 s v y0 y1 y2 y3 (-1 : Int32) F) := by
  refine Met.of_wp (Ls := #[.val (.ref v), .val (.int 35), .val (.int 0), .val (.int 4), .unset, .unset]) pn_16 (fun m => (entry_loc m _ _).trans rfl) ?_
  show W22 l Z (rm4 0 0 0 0) ((s, strO v) :: (v, fA .byte [y0, y1, y2, y3]) :: F) 0 0 0 #[.val (.ref v), .val (.int 35), .val (.int 0), .val (.int 4), .unset, .unset] [] (Q_ioc_4 s v y0 y1 y2 y3 (-1 : Int32) F)
  refine wp_iload_n D_jdk_43_m23_0 rfl ?_
  refine wp_i2b D_jdk_43_m23_1 ?_
  rw [show (35 : Int32).toInt8.toInt32 = (35 : Int32) from by decide]
  refine wp_istore #[.val (.ref v), .val (.int 35), .val (.int 0), .val (.int 4), .val (.int 35), .unset] D_jdk_43_m23_2 rfl ?_
  refine wp_iload_n D_jdk_43_m23_4 rfl ?_
  refine wp_istore #[.val (.ref v), .val (.int 35), .val (.int 0), .val (.int 4), .val (.int 35), .val (.int 0)] D_jdk_43_m23_5 rfl ?_
  refine wp_iload D_jdk_43_m23_7 rfl ?_
  refine wp_iload_n D_jdk_43_m23_9 rfl ?_
  refine wp_icmp_ge D_jdk_43_m23_10 (pc'' := 31) ⟨by decide, by decide⟩ (fun h1 => by exact absurd h1 (by decide)) (fun h1 => ?_)
  refine wp_aload_n D_jdk_43_m23_13 rfl rfl ?_
  refine wp_iload D_jdk_43_m23_14 rfl ?_
  refine wp_baload (i := 1) (0) D_jdk_43_m23_16 rfl (by decide) (by decide) rfl ?_
  refine wp_iload D_jdk_43_m23_17 rfl ?_
  refine wp_icmp_ne D_jdk_43_m23_19 (pc'' := 25) ⟨by decide, by decide⟩ (fun h2 => ?_) (fun h2 => by exact absurd h2 hq0)
  refine wp_iinc 1 #[.val (.ref v), .val (.int 35), .val (.int 0), .val (.int 4), .val (.int 35), .val (.int 1)] D_jdk_43_m23_25 rfl rfl (by rw [show (0 : Int32) + (1 : Int32) = (1 : Int32) from by decide]; rfl) ?_
  refine wp_goto D_jdk_43_m23_28 (pc'' := 7) ⟨by decide, by decide⟩ ?_
  refine wp_iload D_jdk_43_m23_7 rfl ?_
  refine wp_iload_n D_jdk_43_m23_9 rfl ?_
  refine wp_icmp_ge D_jdk_43_m23_10 (pc'' := 31) ⟨by decide, by decide⟩ (fun h3 => by exact absurd h3 (by decide)) (fun h3 => ?_)
  refine wp_aload_n D_jdk_43_m23_13 rfl rfl ?_
  refine wp_iload D_jdk_43_m23_14 rfl ?_
  refine wp_baload (i := 1) (1) D_jdk_43_m23_16 rfl (by decide) (by decide) rfl ?_
  refine wp_iload D_jdk_43_m23_17 rfl ?_
  refine wp_icmp_ne D_jdk_43_m23_19 (pc'' := 25) ⟨by decide, by decide⟩ (fun h4 => ?_) (fun h4 => by exact absurd h4 hq1)
  refine wp_iinc 1 #[.val (.ref v), .val (.int 35), .val (.int 0), .val (.int 4), .val (.int 35), .val (.int 2)] D_jdk_43_m23_25 rfl rfl (by rw [show (1 : Int32) + (1 : Int32) = (2 : Int32) from by decide]; rfl) ?_
  refine wp_goto D_jdk_43_m23_28 (pc'' := 7) ⟨by decide, by decide⟩ ?_
  refine wp_iload D_jdk_43_m23_7 rfl ?_
  refine wp_iload_n D_jdk_43_m23_9 rfl ?_
  refine wp_icmp_ge D_jdk_43_m23_10 (pc'' := 31) ⟨by decide, by decide⟩ (fun h5 => by exact absurd h5 (by decide)) (fun h5 => ?_)
  refine wp_aload_n D_jdk_43_m23_13 rfl rfl ?_
  refine wp_iload D_jdk_43_m23_14 rfl ?_
  refine wp_baload (i := 1) (2) D_jdk_43_m23_16 rfl (by decide) (by decide) rfl ?_
  refine wp_iload D_jdk_43_m23_17 rfl ?_
  refine wp_icmp_ne D_jdk_43_m23_19 (pc'' := 25) ⟨by decide, by decide⟩ (fun h6 => ?_) (fun h6 => by exact absurd h6 hq2)
  refine wp_iinc 1 #[.val (.ref v), .val (.int 35), .val (.int 0), .val (.int 4), .val (.int 35), .val (.int 3)] D_jdk_43_m23_25 rfl rfl (by rw [show (2 : Int32) + (1 : Int32) = (3 : Int32) from by decide]; rfl) ?_
  refine wp_goto D_jdk_43_m23_28 (pc'' := 7) ⟨by decide, by decide⟩ ?_
  refine wp_iload D_jdk_43_m23_7 rfl ?_
  refine wp_iload_n D_jdk_43_m23_9 rfl ?_
  refine wp_icmp_ge D_jdk_43_m23_10 (pc'' := 31) ⟨by decide, by decide⟩ (fun h7 => by exact absurd h7 (by decide)) (fun h7 => ?_)
  refine wp_aload_n D_jdk_43_m23_13 rfl rfl ?_
  refine wp_iload D_jdk_43_m23_14 rfl ?_
  refine wp_baload (i := 1) (3) D_jdk_43_m23_16 rfl (by decide) (by decide) rfl ?_
  refine wp_iload D_jdk_43_m23_17 rfl ?_
  refine wp_icmp_ne D_jdk_43_m23_19 (pc'' := 25) ⟨by decide, by decide⟩ (fun h8 => ?_) (fun h8 => by exact absurd h8 hq3)
  refine wp_iinc 1 #[.val (.ref v), .val (.int 35), .val (.int 0), .val (.int 4), .val (.int 35), .val (.int 4)] D_jdk_43_m23_25 rfl rfl (by rw [show (3 : Int32) + (1 : Int32) = (4 : Int32) from by decide]; rfl) ?_
  refine wp_goto D_jdk_43_m23_28 (pc'' := 7) ⟨by decide, by decide⟩ ?_
  refine wp_iload D_jdk_43_m23_7 rfl ?_
  refine wp_iload_n D_jdk_43_m23_9 rfl ?_
  refine wp_icmp_ge D_jdk_43_m23_10 (pc'' := 31) ⟨by decide, by decide⟩ (fun h9 => ?_) (fun h9 => by exact absurd h9 (by decide))
  refine wp_iconst (-1) D_jdk_43_m23_31 (by decide) ?_
  refine wp_ireturn D_jdk_43_m23_32 rfl (by decide) (by decide) ?_
  exact ⟨rfl, rfl⟩
def Q_c_wf_4_m (s v : Addr) (y0 y1 y2 y3 : Int32) (F : OH) : Option Value → OH → Prop := fun w' H' => w' = some (.ref s) ∧ H' = ((s, strO v) :: (v, fA .byte [y0, y1, y2, y3]) :: F)
set_option maxRecDepth 65536 in
set_option maxHeartbeats 40000000 in
theorem c_wf_4_m (l : Launch) (Z : State) (a0 : Array Value) (hw : HW Z a0) (s v : Addr) (y0 y1 y2 y3 : Int32) (cp : Int32) (fm : Value) (F : OH) (hs : Std Z cp fm) (hq0 : ¬ y0 = 35) (hq1 : ¬ y1 = 35) (hq2 : ¬ y2 = 35) (hq3 : ¬ y3 = 35) :
    Met l Z (⟨"com/example/bylint/bylint/description/UriReferences", "withoutFragment", "(Ljava/lang/String;)Ljava/lang/String;"⟩ : MethodName) prog_9_method_5_code 2 (some (.object "java/lang/String")) (rm4 4 0 0 59) [(.ref s)] ((s, strO v) :: (v, fA .byte [y0, y1, y2, y3]) :: F) (Q_c_wf_4_m s v y0 y1 y2 y3 F) := by
  refine Met.of_wp (Ls := #[.val (.ref s), .unset]) pn_20 (fun m => (entry_loc m _ _).trans rfl) ?_
  show W21 l Z (rm4 4 0 0 59) ((s, strO v) :: (v, fA .byte [y0, y1, y2, y3]) :: F) 0 0 0 #[.val (.ref s), .unset] [] (Q_c_wf_4_m s v y0 y1 y2 y3 F)
  refine wp_aload_n D_prog_9_m5_0 rfl rfl ?_
  refine wp_bipush 35 D_prog_9_m5_1 (by decide) ?_
  refine wp_virtual (c_si_4 l Z a0 hw s v y0 y1 y2 y3 (-1 : Int32) cp fm F hs (c_ioc_4_m l Z a0 hw s v y0 y1 y2 y3 F hq0 hq1 hq2 hq3)) (exa_new (i := 0) rfl) D_prog_9_m5_3 (gw hw 31 rfl) (gw hw 32 rfl) (gw hw 34 rfl) (gw hw 34 rfl) (gw hw 33 rfl) (gw hw 7 rfl) (gw hw 35 rfl) (by decide) pd_19 rfl rfl rfl (lb rfl) (lb rfl) (lb rfl) (lb rfl) ?_
  rintro _ _ ⟨rfl, rfl⟩
  show W21 l Z (rm4 4 0 0 59) ((s, strO v) :: (v, fA .byte [y0, y1, y2, y3]) :: F) 0 0 6 #[.val (.ref s), .unset] [(.int (-1))] (Q_c_wf_4_m s v y0 y1 y2 y3 F)
  refine wp_istore_n #[.val (.ref s), .val (.int (-1))] D_prog_9_m5_6 rfl ?_
  refine wp_iload_n D_prog_9_m5_7 rfl ?_
  refine wp_if_ge D_prog_9_m5_8 (pc'' := 15) ⟨by decide, by decide⟩ (fun h1 => by exact absurd h1 (by decide)) (fun h1 => ?_)
  refine wp_aload_n D_prog_9_m5_11 rfl rfl ?_
  refine wp_goto D_prog_9_m5_12 (pc'' := 21) ⟨by decide, by decide⟩ ?_
  refine wp_areturn D_prog_9_m5_21 rfl rfl rfl rfl (by decide) (by decide) ?_
  exact ⟨rfl, rfl⟩
set_option maxRecDepth 65536 in
set_option maxHeartbeats 40000000 in
theorem c_ioc_4_0 (l : Launch) (Z : State) (a0 : Array Value) (hw : HW Z a0) (s v : Addr) (y0 y1 y2 y3 : Int32) (F : OH) (hq0 : y0 = 35) :
    Met l Z (⟨"java/lang/StringLatin1", "indexOfChar", "([BIII)I"⟩ : MethodName) jdk_43_method_23_code 6 (some .int) (rm4 0 0 0 0) [(.ref v), (.int 35), (.int 0), (.int 4)] ((s, strO v) :: (v, fA .byte [y0, y1, y2, y3]) :: F) (Q_ioc_4 s v y0 y1 y2 y3 (0 : Int32) F) := by
  refine Met.of_wp (Ls := #[.val (.ref v), .val (.int 35), .val (.int 0), .val (.int 4), .unset, .unset]) pn_16 (fun m => (entry_loc m _ _).trans rfl) ?_
  show W22 l Z (rm4 0 0 0 0) ((s, strO v) :: (v, fA .byte [y0, y1, y2, y3]) :: F) 0 0 0 #[.val (.ref v), .val (.int 35), .val (.int 0), .val (.int 4), .unset, .unset] [] (Q_ioc_4 s v y0 y1 y2 y3 (0 : Int32) F)
  refine wp_iload_n D_jdk_43_m23_0 rfl ?_
  refine wp_i2b D_jdk_43_m23_1 ?_
  rw [show (35 : Int32).toInt8.toInt32 = (35 : Int32) from by decide]
  refine wp_istore #[.val (.ref v), .val (.int 35), .val (.int 0), .val (.int 4), .val (.int 35), .unset] D_jdk_43_m23_2 rfl ?_
  refine wp_iload_n D_jdk_43_m23_4 rfl ?_
  refine wp_istore #[.val (.ref v), .val (.int 35), .val (.int 0), .val (.int 4), .val (.int 35), .val (.int 0)] D_jdk_43_m23_5 rfl ?_
  refine wp_iload D_jdk_43_m23_7 rfl ?_
  refine wp_iload_n D_jdk_43_m23_9 rfl ?_
  refine wp_icmp_ge D_jdk_43_m23_10 (pc'' := 31) ⟨by decide, by decide⟩ (fun h1 => by exact absurd h1 (by decide)) (fun h1 => ?_)
  refine wp_aload_n D_jdk_43_m23_13 rfl rfl ?_
  refine wp_iload D_jdk_43_m23_14 rfl ?_
  refine wp_baload (i := 1) (0) D_jdk_43_m23_16 rfl (by decide) (by decide) rfl ?_
  refine wp_iload D_jdk_43_m23_17 rfl ?_
  refine wp_icmp_ne D_jdk_43_m23_19 (pc'' := 25) ⟨by decide, by decide⟩ (fun h2 => by exact absurd hq0 h2) (fun h2 => ?_)
  refine wp_iload D_jdk_43_m23_22 rfl ?_
  refine wp_ireturn D_jdk_43_m23_24 rfl (by decide) (by decide) ?_
  exact ⟨rfl, rfl⟩
def Q_c_nst_4_0_0 (s v : Addr) (y0 y1 y2 y3 : Int32) (F : OH) : Option Value → OH → Prop := fun w' H' => ∃ a u, w' = some (.ref a) ∧ H' = ((a, strO u) :: (u, fA .byte []) :: (s, strO v) :: (v, fA .byte [y0, y1, y2, y3]) :: F)
set_option maxRecDepth 65536 in
set_option maxHeartbeats 40000000 in
theorem c_nst_4_0_0 (l : Launch) (Z : State) (a0 : Array Value) (hw : HW Z a0) (s v : Addr) (y0 y1 y2 y3 : Int32) (cp : Int32) (fm : Value) (F : OH) (hs : Std Z cp fm) :
    MetI consts_1 l Z (⟨"java/lang/StringLatin1", "newString", "([BII)Ljava/lang/String;"⟩ : MethodName) jdk_43_method_47_code 3 (some (.object "java/lang/String")) (rm4 0 2 4 0) [(.ref v), (.int 0), (.int 0)] ((s, strO v) :: (v, fA .byte [y0, y1, y2, y3]) :: F) (Q_c_nst_4_0_0 s v y0 y1 y2 y3 F) := by
  refine MetI.of_wp (Ls := #[.val (.ref v), .val (.int 0), .val (.int 0)]) pn_23 (fun m => (entry_loc m _ _).trans rfl) (own_EL l Z a0 hw) ?_
  show W25 l Z (rm4 0 2 4 0) ((s, strO v) :: (v, fA .byte [y0, y1, y2, y3]) :: F) 0 0 0 #[.val (.ref v), .val (.int 0), .val (.int 0)] [] (Q_c_nst_4_0_0 s v y0 y1 y2 y3 F)
  refine wp_iload_n D_jdk_43_m47_0 rfl ?_
  refine wp_if_ne D_jdk_43_m47_1 (pc'' := 7) ⟨by decide, by decide⟩ (fun h1 => by exact absurd h1 (by decide)) (fun h1 => ?_)
  refine wp_ldcH (n := 0) [] D_jdk_43_m47_4 (gw hw 101 rfl) (own_wS l Z a0 hw) (own_slo l Z a0 hw) (own_EL l Z a0 hw) (List.mem_of_getElem? (i := 1) rfl) ⟨by decide, by decide⟩ (by decide) (by decide) (by decide) (by decide) (by decide) ?_
  intro s2 v3
  show W25 l Z (rm4 0 2 4 0) ((s2, strO v3) :: (v3, fA .byte []) :: (s, strO v) :: (v, fA .byte [y0, y1, y2, y3]) :: F) 2 4 6 #[.val (.ref v), .val (.int 0), .val (.int 0)] [(.ref s2)] (Q_c_nst_4_0_0 s v y0 y1 y2 y3 F)
  refine wp_areturn D_jdk_43_m47_6 rfl rfl rfl rfl (by decide) (by decide) ?_
  exact ⟨_, _, rfl, rfl⟩
def Q_c_sub_4_0_0 (s v : Addr) (y0 y1 y2 y3 : Int32) (F : OH) : Option Value → OH → Prop := fun w' H' => ∃ a u, w' = some (.ref a) ∧ H' = ((a, strO u) :: (u, fA .byte []) :: (s, strO v) :: (v, fA .byte [y0, y1, y2, y3]) :: F)
set_option maxRecDepth 65536 in
set_option maxHeartbeats 40000000 in
theorem c_sub_4_0_0 (l : Launch) (Z : State) (a0 : Array Value) (hw : HW Z a0) (s v : Addr) (y0 y1 y2 y3 : Int32) (cp : Int32) (fm : Value) (F : OH) (hs : Std Z cp fm) :
    MetI consts_1 l Z (⟨"java/lang/String", "substring", "(II)Ljava/lang/String;"⟩ : MethodName) jdk_42_method_92_code 5 (some (.object "java/lang/String")) (rm4 2 2 4 29) [(.ref s), (.int 0), (.int 0)] ((s, strO v) :: (v, fA .byte [y0, y1, y2, y3]) :: F) (Q_c_sub_4_0_0 s v y0 y1 y2 y3 F) := by
  refine MetI.of_wp (Ls := #[.val (.ref s), .val (.int 0), .val (.int 0), .unset, .unset]) pn_24 (fun m => (entry_loc m _ _).trans rfl) (own_EL l Z a0 hw) ?_
  show W26 l Z (rm4 2 2 4 29) ((s, strO v) :: (v, fA .byte [y0, y1, y2, y3]) :: F) 0 0 0 #[.val (.ref s), .val (.int 0), .val (.int 0), .unset, .unset] [] (Q_c_sub_4_0_0 s v y0 y1 y2 y3 F)
  refine wp_aload_n D_jdk_42_m92_0 rfl rfl ?_
  refine wp_virtual (c_len_4 l Z a0 hw s v y0 y1 y2 y3 cp fm F hs ) (exa_new (i := 0) rfl) D_jdk_42_m92_1 (gw hw 47 rfl) (gw hw 48 rfl) (gw hw 50 rfl) (gw hw 50 rfl) (gw hw 49 rfl) (gw hw 7 rfl) (gw hw 51 rfl) (by decide) pd_5 rfl rfl rfl (lb rfl) (lb rfl) (lb rfl) (lb rfl) ?_
  rintro _ _ ⟨rfl, rfl⟩
  show W26 l Z (rm4 2 2 4 29) ((s, strO v) :: (v, fA .byte [y0, y1, y2, y3]) :: F) 0 0 4 #[.val (.ref s), .val (.int 0), .val (.int 0), .unset, .unset] [(.int 4)] (Q_c_sub_4_0_0 s v y0 y1 y2 y3 F)
  refine wp_istore_n #[.val (.ref s), .val (.int 0), .val (.int 0), .val (.int 4), .unset] D_jdk_42_m92_4 rfl ?_
  refine wp_iload_n D_jdk_42_m92_5 rfl ?_
  refine wp_iload_n D_jdk_42_m92_6 rfl ?_
  refine wp_iload_n D_jdk_42_m92_7 rfl ?_
  refine wp_callS (c_cbe l Z a0 hw 0 0 4 cp fm ((s, strO v) :: (v, fA .byte [y0, y1, y2, y3]) :: F) hs (by decide) (by decide) (by decide)) D_jdk_42_m92_8 (gw hw 90 rfl) (gw hw 91 rfl) (gw hw 7 rfl) (gw hw 92 rfl) (by decide) pd_10 rfl rfl rfl (lb rfl) (lb rfl) (lb rfl) (lb rfl) ?_
  rintro _ _ ⟨rfl, rfl⟩
  show W26 l Z (rm4 2 2 4 29) ((s, strO v) :: (v, fA .byte [y0, y1, y2, y3]) :: F) 0 0 11 #[.val (.ref s), .val (.int 0), .val (.int 0), .val (.int 4), .unset] [] (Q_c_sub_4_0_0 s v y0 y1 y2 y3 F)
  refine wp_iload_n D_jdk_42_m92_11 rfl ?_
  refine wp_if_ne D_jdk_42_m92_12 (pc'' := 22) ⟨by decide, by decide⟩ (fun h1 => by exact absurd h1 (by decide)) (fun h1 => ?_)
  refine wp_iload_n D_jdk_42_m92_15 rfl ?_
  refine wp_iload_n D_jdk_42_m92_16 rfl ?_
  refine wp_icmp_ne D_jdk_42_m92_17 (pc'' := 22) ⟨by decide, by decide⟩ (fun h2 => ?_) (fun h2 => by exact absurd h2 (by decide))
  refine wp_iload_n D_jdk_42_m92_22 rfl ?_
  refine wp_iload_n D_jdk_42_m92_23 rfl ?_
  refine wp_isub D_jdk_42_m92_24 ?_
  rw [show ((0 : Int32) - (0 : Int32)) = (0 : Int32) from by decide]
  refine wp_istore #[.val (.ref s), .val (.int 0), .val (.int 0), .val (.int 4), .val (.int 0)] D_jdk_42_m92_25 rfl ?_
  refine wp_aload_n D_jdk_42_m92_27 rfl rfl ?_
  refine wp_virtual (c_lat l Z a0 hw s v cp fm ((v, fA .byte [y0, y1, y2, y3]) :: F) hs ) (exa_new (i := 0) rfl) D_jdk_42_m92_28 (gw hw 41 rfl) (gw hw 42 rfl) (gw hw 44 rfl) (gw hw 44 rfl) (gw hw 43 rfl) (gw hw 7 rfl) (gw hw 45 rfl) (by decide) pd_4 rfl rfl rfl (lb rfl) (lb rfl) (lb rfl) (lb rfl) ?_
  rintro _ _ ⟨rfl, rfl⟩
  show W26 l Z (rm4 2 2 4 29) ((s, strO v) :: (v, fA .byte [y0, y1, y2, y3]) :: F) 0 0 31 #[.val (.ref s), .val (.int 0), .val (.int 0), .val (.int 4), .val (.int 0)] [(.int 1)] (Q_c_sub_4_0_0 s v y0 y1 y2 y3 F)
  refine wp_if_eq D_jdk_42_m92_31 (pc'' := 47) ⟨by decide, by decide⟩ (fun h3 => by exact absurd h3 (by decide)) (fun h3 => ?_)
  refine wp_aload_n D_jdk_42_m92_34 rfl rfl ?_
  refine wp_getfield D_jdk_42_m92_35 (gw hw 25 rfl) (fld_new (i := 0) (fi := 0) rfl rfl rfl) ?_
  refine wp_iload_n D_jdk_42_m92_38 rfl ?_
  refine wp_iload D_jdk_42_m92_39 rfl ?_
  refine wp_callSI (c_nst_4_0_0 l Z a0 hw s v y0 y1 y2 y3 cp fm F hs ) (own_EL l Z a0 hw) D_jdk_42_m92_41 (gw hw 98 rfl) (gw hw 99 rfl) (gw hw 59 rfl) (gw hw 100 rfl) (by decide) pd_12 rfl rfl rfl (lb rfl) (lb rfl) (lb rfl) (lb rfl) ?_
  rintro _ _ ⟨sa4, su5, rfl, rfl⟩
  show W26 l Z (rm4 2 2 4 29) ((sa4, strO su5) :: (su5, fA .byte []) :: (s, strO v) :: (v, fA .byte [y0, y1, y2, y3]) :: F) 2 4 44 #[.val (.ref s), .val (.int 0), .val (.int 0), .val (.int 4), .val (.int 0)] [(.ref sa4)] (Q_c_sub_4_0_0 s v y0 y1 y2 y3 F)
  refine wp_goto D_jdk_42_m92_44 (pc'' := 57) ⟨by decide, by decide⟩ ?_
  refine wp_areturn D_jdk_42_m92_57 rfl rfl rfl rfl (by decide) (by decide) ?_
  exact ⟨_, _, rfl, rfl⟩
def Q_c_wf_4_0 (s v : Addr) (y0 y1 y2 y3 : Int32) (F : OH) : Option Value → OH → Prop := fun w' H' => ∃ a u, w' = some (.ref a) ∧ H' = ((a, strO u) :: (u, fA .byte []) :: (s, strO v) :: (v, fA .byte [y0, y1, y2, y3]) :: F)
set_option maxRecDepth 65536 in
set_option maxHeartbeats 40000000 in
theorem c_wf_4_0 (l : Launch) (Z : State) (a0 : Array Value) (hw : HW Z a0) (s v : Addr) (y0 y1 y2 y3 : Int32) (cp : Int32) (fm : Value) (F : OH) (hs : Std Z cp fm) (hq0 : y0 = 35) :
    MetI consts_1 l Z (⟨"com/example/bylint/bylint/description/UriReferences", "withoutFragment", "(Ljava/lang/String;)Ljava/lang/String;"⟩ : MethodName) prog_9_method_5_code 2 (some (.object "java/lang/String")) (rm4 4 2 4 59) [(.ref s)] ((s, strO v) :: (v, fA .byte [y0, y1, y2, y3]) :: F) (Q_c_wf_4_0 s v y0 y1 y2 y3 F) := by
  refine MetI.of_wp (Ls := #[.val (.ref s), .unset]) pn_20 (fun m => (entry_loc m _ _).trans rfl) (own_EL l Z a0 hw) ?_
  show W27 l Z (rm4 4 2 4 59) ((s, strO v) :: (v, fA .byte [y0, y1, y2, y3]) :: F) 0 0 0 #[.val (.ref s), .unset] [] (Q_c_wf_4_0 s v y0 y1 y2 y3 F)
  refine wp_aload_n D_prog_9_m5_0 rfl rfl ?_
  refine wp_bipush 35 D_prog_9_m5_1 (by decide) ?_
  refine wp_virtual (c_si_4 l Z a0 hw s v y0 y1 y2 y3 (0 : Int32) cp fm F hs (c_ioc_4_0 l Z a0 hw s v y0 y1 y2 y3 F hq0)) (exa_new (i := 0) rfl) D_prog_9_m5_3 (gw hw 31 rfl) (gw hw 32 rfl) (gw hw 34 rfl) (gw hw 34 rfl) (gw hw 33 rfl) (gw hw 7 rfl) (gw hw 35 rfl) (by decide) pd_19 rfl rfl rfl (lb rfl) (lb rfl) (lb rfl) (lb rfl) ?_
  rintro _ _ ⟨rfl, rfl⟩
  show W27 l Z (rm4 4 2 4 59) ((s, strO v) :: (v, fA .byte [y0, y1, y2, y3]) :: F) 0 0 6 #[.val (.ref s), .unset] [(.int 0)] (Q_c_wf_4_0 s v y0 y1 y2 y3 F)
  refine wp_istore_n #[.val (.ref s), .val (.int 0)] D_prog_9_m5_6 rfl ?_
  refine wp_iload_n D_prog_9_m5_7 rfl ?_
  refine wp_if_ge D_prog_9_m5_8 (pc'' := 15) ⟨by decide, by decide⟩ (fun h1 => ?_) (fun h1 => by exact absurd h1 (by decide))
  refine wp_aload_n D_prog_9_m5_15 rfl rfl ?_
  refine wp_iconst 0 D_prog_9_m5_16 (by decide) ?_
  refine wp_iload_n D_prog_9_m5_17 rfl ?_
  refine wp_virtualI (c_sub_4_0_0 l Z a0 hw s v y0 y1 y2 y3 cp fm F hs ) (exa_new (i := 0) rfl) (own_EL l Z a0 hw) D_prog_9_m5_18 (gw hw 85 rfl) (gw hw 86 rfl) (gw hw 88 rfl) (gw hw 88 rfl) (gw hw 87 rfl) (gw hw 7 rfl) (gw hw 89 rfl) (by decide) pd_20 rfl rfl rfl (lb rfl) (lb rfl) (lb rfl) (lb rfl) ?_
  rintro _ _ ⟨sa2, su3, rfl, rfl⟩
  show W27 l Z (rm4 4 2 4 59) ((sa2, strO su3) :: (su3, fA .byte []) :: (s, strO v) :: (v, fA .byte [y0, y1, y2, y3]) :: F) 2 4 21 #[.val (.ref s), .val (.int 0)] [(.ref sa2)] (Q_c_wf_4_0 s v y0 y1 y2 y3 F)
  refine wp_areturn D_prog_9_m5_21 rfl rfl rfl rfl (by decide) (by decide) ?_
  exact ⟨_, _, rfl, rfl⟩
set_option maxRecDepth 65536 in
set_option maxHeartbeats 40000000 in
theorem c_ioc_4_1 (l : Launch) (Z : State) (a0 : Array Value) (hw : HW Z a0) (s v : Addr) (y0 y1 y2 y3 : Int32) (F : OH) (hq0 : ¬ y0 = 35) (hq1 : y1 = 35) :
    Met l Z (⟨"java/lang/StringLatin1", "indexOfChar", "([BIII)I"⟩ : MethodName) jdk_43_method_23_code 6 (some .int) (rm4 0 0 0 0) [(.ref v), (.int 35), (.int 0), (.int 4)] ((s, strO v) :: (v, fA .byte [y0, y1, y2, y3]) :: F) (Q_ioc_4 s v y0 y1 y2 y3 (1 : Int32) F) := by
  refine Met.of_wp (Ls := #[.val (.ref v), .val (.int 35), .val (.int 0), .val (.int 4), .unset, .unset]) pn_16 (fun m => (entry_loc m _ _).trans rfl) ?_
  show W22 l Z (rm4 0 0 0 0) ((s, strO v) :: (v, fA .byte [y0, y1, y2, y3]) :: F) 0 0 0 #[.val (.ref v), .val (.int 35), .val (.int 0), .val (.int 4), .unset, .unset] [] (Q_ioc_4 s v y0 y1 y2 y3 (1 : Int32) F)
  refine wp_iload_n D_jdk_43_m23_0 rfl ?_
  refine wp_i2b D_jdk_43_m23_1 ?_
  rw [show (35 : Int32).toInt8.toInt32 = (35 : Int32) from by decide]
  refine wp_istore #[.val (.ref v), .val (.int 35), .val (.int 0), .val (.int 4), .val (.int 35), .unset] D_jdk_43_m23_2 rfl ?_
  refine wp_iload_n D_jdk_43_m23_4 rfl ?_
  refine wp_istore #[.val (.ref v), .val (.int 35), .val (.int 0), .val (.int 4), .val (.int 35), .val (.int 0)] D_jdk_43_m23_5 rfl ?_
  refine wp_iload D_jdk_43_m23_7 rfl ?_
  refine wp_iload_n D_jdk_43_m23_9 rfl ?_
  refine wp_icmp_ge D_jdk_43_m23_10 (pc'' := 31) ⟨by decide, by decide⟩ (fun h1 => by exact absurd h1 (by decide)) (fun h1 => ?_)
  refine wp_aload_n D_jdk_43_m23_13 rfl rfl ?_
  refine wp_iload D_jdk_43_m23_14 rfl ?_
  refine wp_baload (i := 1) (0) D_jdk_43_m23_16 rfl (by decide) (by decide) rfl ?_
  refine wp_iload D_jdk_43_m23_17 rfl ?_
  refine wp_icmp_ne D_jdk_43_m23_19 (pc'' := 25) ⟨by decide, by decide⟩ (fun h2 => ?_) (fun h2 => by exact absurd h2 hq0)
  refine wp_iinc 1 #[.val (.ref v), .val (.int 35), .val (.int 0), .val (.int 4), .val (.int 35), .val (.int 1)] D_jdk_43_m23_25 rfl rfl (by rw [show (0 : Int32) + (1 : Int32) = (1 : Int32) from by decide]; rfl) ?_
  refine wp_goto D_jdk_43_m23_28 (pc'' := 7) ⟨by decide, by decide⟩ ?_
  refine wp_iload D_jdk_43_m23_7 rfl ?_
  refine wp_iload_n D_jdk_43_m23_9 rfl ?_
  refine wp_icmp_ge D_jdk_43_m23_10 (pc'' := 31) ⟨by decide, by decide⟩ (fun h3 => by exact absurd h3 (by decide)) (fun h3 => ?_)
  refine wp_aload_n D_jdk_43_m23_13 rfl rfl ?_
  refine wp_iload D_jdk_43_m23_14 rfl ?_
  refine wp_baload (i := 1) (1) D_jdk_43_m23_16 rfl (by decide) (by decide) rfl ?_
  refine wp_iload D_jdk_43_m23_17 rfl ?_
  refine wp_icmp_ne D_jdk_43_m23_19 (pc'' := 25) ⟨by decide, by decide⟩ (fun h4 => by exact absurd hq1 h4) (fun h4 => ?_)
  refine wp_iload D_jdk_43_m23_22 rfl ?_
  refine wp_ireturn D_jdk_43_m23_24 rfl (by decide) (by decide) ?_
  exact ⟨rfl, rfl⟩
def Q_c_min_4_1  (F : OH) : Option Value → OH → Prop := fun w' H' => w' = some (.int 1) ∧ H' = F
set_option maxRecDepth 65536 in
set_option maxHeartbeats 40000000 in
theorem c_min_4_1 (l : Launch) (Z : State) (a0 : Array Value) (hw : HW Z a0)  (F : OH) :
    Met l Z (⟨"java/lang/Math", "min", "(II)I"⟩ : MethodName) jdk_29_method_69_code 2 (some .int) (rm4 0 0 0 0) [(.int 4), (.int 1)] F (Q_c_min_4_1 F) := by
  refine Met.of_wp (Ls := #[.val (.int 4), .val (.int 1)]) pn_15 (fun m => (entry_loc m _ _).trans rfl) ?_
  show W17 l Z (rm4 0 0 0 0) F 0 0 0 #[.val (.int 4), .val (.int 1)] [] (Q_c_min_4_1 F)
  refine wp_iload_n D_jdk_29_m69_0 rfl ?_
  refine wp_iload_n D_jdk_29_m69_1 rfl ?_
  refine wp_icmp_gt D_jdk_29_m69_2 (pc'' := 9) ⟨by decide, by decide⟩ (fun h1 => ?_) (fun h1 => by exact absurd h1 (by decide))
  refine wp_iload_n D_jdk_29_m69_9 rfl ?_
  refine wp_ireturn D_jdk_29_m69_10 rfl (by decide) (by decide) ?_
  exact ⟨rfl, rfl⟩
def Q_c_crb_4_0_1 (a s v : Addr) (y0 y1 y2 y3 : Int32) (F : OH) : Option Value → OH → Prop := fun w' H' => ∃ b', w' = some (.ref b') ∧ H' = ((b', oA .byte [y0]) :: (a, oS (.null)) :: (s, strO v) :: (v, fA .byte [y0, y1, y2, y3]) :: F)
set_option maxRecDepth 65536 in
set_option maxHeartbeats 40000000 in
theorem c_crb_4_0_1 (l : Launch) (Z : State) (a0 : Array Value) (hw : HW Z a0) (a s v : Addr) (y0 y1 y2 y3 : Int32) (cp : Int32) (fm : Value) (F : OH) (hs : Std Z cp fm) :
    Met l Z (⟨"java/util/Arrays", "copyOfRangeByte", "([BII)[B"⟩ : MethodName) jdk_65_method_133_code 5 (some (.array .byte)) (rm4 1 1 1 20) [(.ref v), (.int 0), (.int 1)] ((a, oS (.null)) :: (s, strO v) :: (v, fA .byte [y0, y1, y2, y3]) :: F) (Q_c_crb_4_0_1 a s v y0 y1 y2 y3 F) := by
  refine Met.of_wp (Ls := #[.val (.ref v), .val (.int 0), .val (.int 1), .unset, .unset]) pn_26 (fun m => (entry_loc m _ _).trans rfl) ?_
  show W29 l Z (rm4 1 1 1 20) ((a, oS (.null)) :: (s, strO v) :: (v, fA .byte [y0, y1, y2, y3]) :: F) 0 0 0 #[.val (.ref v), .val (.int 0), .val (.int 1), .unset, .unset] [] (Q_c_crb_4_0_1 a s v y0 y1 y2 y3 F)
  refine wp_iload_n D_jdk_65_m133_0 rfl ?_
  refine wp_iload_n D_jdk_65_m133_1 rfl ?_
  refine wp_callS (c_ckl l Z a0 hw 0 1 ((a, oS (.null)) :: (s, strO v) :: (v, fA .byte [y0, y1, y2, y3]) :: F) (by decide)) D_jdk_65_m133_2 (gw hw 124 rfl) (gw hw 125 rfl) (gw hw 119 rfl) (gw hw 126 rfl) (by decide) pd_16 rfl rfl rfl (lb rfl) (lb rfl) (lb rfl) (lb rfl) ?_
  rintro _ _ ⟨rfl, rfl⟩
  show W29 l Z (rm4 1 1 1 20) ((a, oS (.null)) :: (s, strO v) :: (v, fA .byte [y0, y1, y2, y3]) :: F) 0 0 5 #[.val (.ref v), .val (.int 0), .val (.int 1), .unset, .unset] [] (Q_c_crb_4_0_1 a s v y0 y1 y2 y3 F)
  refine wp_iload_n D_jdk_65_m133_5 rfl ?_
  refine wp_iload_n D_jdk_65_m133_6 rfl ?_
  refine wp_isub D_jdk_65_m133_7 ?_
  rw [show ((1 : Int32) - (0 : Int32)) = (1 : Int32) from by decide]
  refine wp_istore_n #[.val (.ref v), .val (.int 0), .val (.int 1), .val (.int 1), .unset] D_jdk_65_m133_8 rfl ?_
  refine wp_iload_n D_jdk_65_m133_9 rfl ?_
  refine wp_newarrayI (n := (1 : Int32)) (1) 1 D_jdk_65_m133_10 rfl rfl rfl (gw hw 20 rfl) (by decide) (by decide) (by decide) (by decide) (by decide) (by decide) ?_
  intro a1
  show W29 l Z (rm4 1 1 1 20) ((a1, oA .byte [(0 : Int32)]) :: (a, oS (.null)) :: (s, strO v) :: (v, fA .byte [y0, y1, y2, y3]) :: F) 1 1 12 #[.val (.ref v), .val (.int 0), .val (.int 1), .val (.int 1), .unset] [(.ref a1)] (Q_c_crb_4_0_1 a s v y0 y1 y2 y3 F)
  refine wp_astore #[.val (.ref v), .val (.int 0), .val (.int 1), .val (.int 1), .val (.ref a1)] D_jdk_65_m133_12 rfl rfl ?_
  refine wp_aload_n D_jdk_65_m133_14 rfl rfl ?_
  refine wp_iload_n D_jdk_65_m133_15 rfl ?_
  refine wp_aload D_jdk_65_m133_16 rfl rfl ?_
  refine wp_iconst 0 D_jdk_65_m133_18 (by decide) ?_
  refine wp_aload_n D_jdk_65_m133_19 rfl rfl ?_
  refine wp_lengthI (i := 3) (4 : Int32) D_jdk_65_m133_20 rfl rfl ?_
  refine wp_iload_n D_jdk_65_m133_21 rfl ?_
  refine wp_isub D_jdk_65_m133_22 ?_
  rw [show ((4 : Int32) - (0 : Int32)) = (4 : Int32) from by decide]
  refine wp_iload_n D_jdk_65_m133_23 rfl ?_
  refine wp_callS (c_min_4_1 l Z a0 hw  ((a1, oA .byte [(0 : Int32)]) :: (a, oS (.null)) :: (s, strO v) :: (v, fA .byte [y0, y1, y2, y3]) :: F) ) D_jdk_65_m133_24 (gw hw 127 rfl) (gw hw 69 rfl) (gw hw 66 rfl) (gw hw 70 rfl) (by decide) pd_3 rfl rfl rfl (lb rfl) (lb rfl) (lb rfl) (lb rfl) ?_
  rintro _ _ ⟨rfl, rfl⟩
  show W29 l Z (rm4 1 1 1 20) ((a1, oA .byte [(0 : Int32)]) :: (a, oS (.null)) :: (s, strO v) :: (v, fA .byte [y0, y1, y2, y3]) :: F) 1 1 27 #[.val (.ref v), .val (.int 0), .val (.int 1), .val (.int 1), .val (.ref a1)] [(.int 1), (.int 0), (.ref a1), (.int 0), (.ref v)] (Q_c_crb_4_0_1 a s v y0 y1 y2 y3 F)
  refine wp_arraycopyI (i := 3) (i' := 0) 0 0 1 D_jdk_65_m133_27 (gw hw 128 rfl) (gw hw 131 rfl) (gw hw 129 rfl) (gw hw 130 rfl) rfl rfl rfl (by decide) (by decide) (by decide) (by decide) (by decide) (by decide) (by first | exact Nat.le_of_ble_eq_true rfl | simp) (by first | exact Nat.le_of_ble_eq_true rfl | simp) (by first | exact Nat.le_of_ble_eq_true rfl | simp) (by first | exact Nat.le_of_ble_eq_true rfl | simp) rfl (by decide) (by decide) ?_
  show W29 l Z (rm4 1 1 1 20) ((a1, oA .byte [y0]) :: (a, oS (.null)) :: (s, strO v) :: (v, fA .byte [y0, y1, y2, y3]) :: F) 1 1 30 #[.val (.ref v), .val (.int 0), .val (.int 1), .val (.int 1), .val (.ref a1)] [] (Q_c_crb_4_0_1 a s v y0 y1 y2 y3 F)
  refine wp_aload D_jdk_65_m133_30 rfl rfl ?_
  refine wp_areturn D_jdk_65_m133_32 rfl rfl rfl rfl (by decide) (by decide) ?_
  exact ⟨_, rfl, rfl⟩
def Q_c_cor_4_0_1 (a s v : Addr) (y0 y1 y2 y3 : Int32) (F : OH) : Option Value → OH → Prop := fun w' H' => ∃ b', w' = some (.ref b') ∧ H' = ((b', oA .byte [y0]) :: (a, oS (.null)) :: (s, strO v) :: (v, fA .byte [y0, y1, y2, y3]) :: F)
set_option maxRecDepth 65536 in
set_option maxHeartbeats 40000000 in
theorem c_cor_4_0_1 (l : Launch) (Z : State) (a0 : Array Value) (hw : HW Z a0) (a s v : Addr) (y0 y1 y2 y3 : Int32) (cp : Int32) (fm : Value) (F : OH) (hs : Std Z cp fm) :
    Met l Z (⟨"java/util/Arrays", "copyOfRange", "([BII)[B"⟩ : MethodName) jdk_65_method_132_code 3 (some (.array .byte)) (rm4 2 1 1 36) [(.ref v), (.int 0), (.int 1)] ((a, oS (.null)) :: (s, strO v) :: (v, fA .byte [y0, y1, y2, y3]) :: F) (Q_c_cor_4_0_1 a s v y0 y1 y2 y3 F) := by
  refine Met.of_wp (Ls := #[.val (.ref v), .val (.int 0), .val (.int 1)]) pn_27 (fun m => (entry_loc m _ _).trans rfl) ?_
  show W30 l Z (rm4 2 1 1 36) ((a, oS (.null)) :: (s, strO v) :: (v, fA .byte [y0, y1, y2, y3]) :: F) 0 0 0 #[.val (.ref v), .val (.int 0), .val (.int 1)] [] (Q_c_cor_4_0_1 a s v y0 y1 y2 y3 F)
  refine wp_iload_n D_jdk_65_m132_0 rfl ?_
  refine wp_if_ne D_jdk_65_m132_1 (pc'' := 10) ⟨by decide, by decide⟩ (fun h1 => by exact absurd h1 (by decide)) (fun h1 => ?_)
  refine wp_iload_n D_jdk_65_m132_4 rfl ?_
  refine wp_aload_n D_jdk_65_m132_5 rfl rfl ?_
  refine wp_lengthI (i := 2) (4 : Int32) D_jdk_65_m132_6 rfl rfl ?_
  refine wp_icmp_eq D_jdk_65_m132_7 (pc'' := 17) ⟨by decide, by decide⟩ (fun h2 => by exact absurd h2 (by decide)) (fun h2 => ?_)
  refine wp_aload_n D_jdk_65_m132_10 rfl rfl ?_
  refine wp_iload_n D_jdk_65_m132_11 rfl ?_
  refine wp_iload_n D_jdk_65_m132_12 rfl ?_
  refine wp_callS (c_crb_4_0_1 l Z a0 hw a s v y0 y1 y2 y3 cp fm F hs ) D_jdk_65_m132_13 (gw hw 121 rfl) (gw hw 122 rfl) (gw hw 119 rfl) (gw hw 123 rfl) (by decide) pd_17 rfl rfl rfl (lb rfl) (lb rfl) (lb rfl) (lb rfl) ?_
  rintro _ _ ⟨b3, rfl, rfl⟩
  show W30 l Z (rm4 2 1 1 36) ((b3, oA .byte [y0]) :: (a, oS (.null)) :: (s, strO v) :: (v, fA .byte [y0, y1, y2, y3]) :: F) 1 1 16 #[.val (.ref v), .val (.int 0), .val (.int 1)] [(.ref b3)] (Q_c_cor_4_0_1 a s v y0 y1 y2 y3 F)
  refine wp_areturn D_jdk_65_m132_16 rfl rfl rfl rfl (by decide) (by decide) ?_
  exact ⟨_, rfl, rfl⟩
def Q_c_nst_4_0_1 (s v : Addr) (y0 y1 y2 y3 : Int32) (F : OH) : Option Value → OH → Prop := fun w' H' => ∃ a u, w' = some (.ref a) ∧ H' = ((u, fA .byte [y0]) :: (a, strO u) :: (s, strO v) :: (v, fA .byte [y0, y1, y2, y3]) :: F)
set_option maxRecDepth 65536 in
set_option maxHeartbeats 40000000 in
theorem c_nst_4_0_1 (l : Launch) (Z : State) (a0 : Array Value) (hw : HW Z a0) (s v : Addr) (y0 y1 y2 y3 : Int32) (cp : Int32) (fm : Value) (F : OH) (hs : Std Z cp fm) :
    Met l Z (⟨"java/lang/StringLatin1", "newString", "([BII)Ljava/lang/String;"⟩ : MethodName) jdk_43_method_47_code 3 (some (.object "java/lang/String")) (rm4 3 2 5 52) [(.ref v), (.int 0), (.int 1)] ((s, strO v) :: (v, fA .byte [y0, y1, y2, y3]) :: F) (Q_c_nst_4_0_1 s v y0 y1 y2 y3 F) := by
  refine Met.of_wp (Ls := #[.val (.ref v), .val (.int 0), .val (.int 1)]) pn_23 (fun m => (entry_loc m _ _).trans rfl) ?_
  show W32 l Z (rm4 3 2 5 52) ((s, strO v) :: (v, fA .byte [y0, y1, y2, y3]) :: F) 0 0 0 #[.val (.ref v), .val (.int 0), .val (.int 1)] [] (Q_c_nst_4_0_1 s v y0 y1 y2 y3 F)
  refine wp_iload_n D_jdk_43_m47_0 rfl ?_
  refine wp_if_ne D_jdk_43_m47_1 (pc'' := 7) ⟨by decide, by decide⟩ (fun h1 => ?_) (fun h1 => by exact absurd h1 (by decide))
  refine wp_new sgStr [(.null), (.int 0)] D_jdk_43_m47_7 (gw hw 116 rfl) (gw hw 6 rfl) (gw hw 7 rfl) (laid_sgStr l Z a0 hw) (by decide) dfl_sgStr (by decide) (by decide) ?_
  intro a2
  show W32 l Z (rm4 3 2 5 52) ((a2, oS (.null)) :: (s, strO v) :: (v, fA .byte [y0, y1, y2, y3]) :: F) 1 4 10 #[.val (.ref v), .val (.int 0), .val (.int 1)] [(.ref a2)] (Q_c_nst_4_0_1 s v y0 y1 y2 y3 F)
  refine wp_dup D_jdk_43_m47_10 rfl ?_
  refine wp_aload_n D_jdk_43_m47_11 rfl rfl ?_
  refine wp_iload_n D_jdk_43_m47_12 rfl ?_
  refine wp_iload_n D_jdk_43_m47_13 rfl ?_
  refine wp_iload_n D_jdk_43_m47_14 rfl ?_
  refine wp_iadd D_jdk_43_m47_15 ?_
  rw [show ((0 : Int32) + (1 : Int32)) = (1 : Int32) from by decide]
  refine wp_callS (c_cor_4_0_1 l Z a0 hw a2 s v y0 y1 y2 y3 cp fm F hs ) D_jdk_43_m47_16 (gw hw 117 rfl) (gw hw 118 rfl) (gw hw 119 rfl) (gw hw 120 rfl) (by decide) pd_17 rfl rfl rfl (lb rfl) (lb rfl) (lb rfl) (lb rfl) ?_
  rintro _ _ ⟨b3, rfl, rfl⟩
  show W32 l Z (rm4 3 2 5 52) ((b3, oA .byte [y0]) :: (a2, oS (.null)) :: (s, strO v) :: (v, fA .byte [y0, y1, y2, y3]) :: F) 2 5 19 #[.val (.ref v), .val (.int 0), .val (.int 1)] [(.ref b3), (.ref a2), (.ref a2)] (Q_c_nst_4_0_1 s v y0 y1 y2 y3 F)
  refine wp_iconst 0 D_jdk_43_m47_19 (by decide) ?_
  refine wp_init (c_sbb l Z a0 hw b3 a2 [y0] ((s, strO v) :: (v, fA .byte [y0, y1, y2, y3]) :: F) ) D_jdk_43_m47_20 rfl (gw hw 132 rfl) (gw hw 133 rfl) (gw hw 7 rfl) (gw hw 134 rfl) (by decide) pd_18 rfl rfl rfl (lb rfl) (lb rfl) (lb rfl) (lb rfl) ?_
  rintro _ _ ⟨rfl, rfl⟩
  show W32 l Z (rm4 3 2 5 52) ((b3, oA .byte [y0]) :: (a2, oS (.ref b3)) :: (s, strO v) :: (v, fA .byte [y0, y1, y2, y3]) :: F) 2 5 23 #[.val (.ref v), .val (.int 0), .val (.int 1)] [(.ref a2)] (Q_c_nst_4_0_1 s v y0 y1 y2 y3 F)
  refine Wp.frz (i := 0) rfl ?_
  refine Wp.frz (i := 1) rfl ?_
  show W32 l Z (rm4 3 2 5 52) ((b3, fA .byte [y0]) :: (a2, strO b3) :: (s, strO v) :: (v, fA .byte [y0, y1, y2, y3]) :: F) 2 5 23 #[.val (.ref v), .val (.int 0), .val (.int 1)] [(.ref a2)] (Q_c_nst_4_0_1 s v y0 y1 y2 y3 F)
  refine wp_areturn D_jdk_43_m47_23 rfl rfl rfl rfl (by decide) (by decide) ?_
  exact ⟨_, _, rfl, rfl⟩
def Q_c_sub_4_0_1 (s v : Addr) (y0 y1 y2 y3 : Int32) (F : OH) : Option Value → OH → Prop := fun w' H' => ∃ a u, w' = some (.ref a) ∧ H' = ((u, fA .byte [y0]) :: (a, strO u) :: (s, strO v) :: (v, fA .byte [y0, y1, y2, y3]) :: F)
set_option maxRecDepth 65536 in
set_option maxHeartbeats 40000000 in
theorem c_sub_4_0_1 (l : Launch) (Z : State) (a0 : Array Value) (hw : HW Z a0) (s v : Addr) (y0 y1 y2 y3 : Int32) (cp : Int32) (fm : Value) (F : OH) (hs : Std Z cp fm) :
    Met l Z (⟨"java/lang/String", "substring", "(II)Ljava/lang/String;"⟩ : MethodName) jdk_42_method_92_code 5 (some (.object "java/lang/String")) (rm4 4 2 5 66) [(.ref s), (.int 0), (.int 1)] ((s, strO v) :: (v, fA .byte [y0, y1, y2, y3]) :: F) (Q_c_sub_4_0_1 s v y0 y1 y2 y3 F) := by
  refine Met.of_wp (Ls := #[.val (.ref s), .val (.int 0), .val (.int 1), .unset, .unset]) pn_24 (fun m => (entry_loc m _ _).trans rfl) ?_
  show W33 l Z (rm4 4 2 5 66) ((s, strO v) :: (v, fA .byte [y0, y1, y2, y3]) :: F) 0 0 0 #[.val (.ref s), .val (.int 0), .val (.int 1), .unset, .unset] [] (Q_c_sub_4_0_1 s v y0 y1 y2 y3 F)
  refine wp_aload_n D_jdk_42_m92_0 rfl rfl ?_
  refine wp_virtual (c_len_4 l Z a0 hw s v y0 y1 y2 y3 cp fm F hs ) (exa_new (i := 0) rfl) D_jdk_42_m92_1 (gw hw 47 rfl) (gw hw 48 rfl) (gw hw 50 rfl) (gw hw 50 rfl) (gw hw 49 rfl) (gw hw 7 rfl) (gw hw 51 rfl) (by decide) pd_5 rfl rfl rfl (lb rfl) (lb rfl) (lb rfl) (lb rfl) ?_
  rintro _ _ ⟨rfl, rfl⟩
  show W33 l Z (rm4 4 2 5 66) ((s, strO v) :: (v, fA .byte [y0, y1, y2, y3]) :: F) 0 0 4 #[.val (.ref s), .val (.int 0), .val (.int 1), .unset, .unset] [(.int 4)] (Q_c_sub_4_0_1 s v y0 y1 y2 y3 F)
  refine wp_istore_n #[.val (.ref s), .val (.int 0), .val (.int 1), .val (.int 4), .unset] D_jdk_42_m92_4 rfl ?_
  refine wp_iload_n D_jdk_42_m92_5 rfl ?_
  refine wp_iload_n D_jdk_42_m92_6 rfl ?_
  refine wp_iload_n D_jdk_42_m92_7 rfl ?_
  refine wp_callS (c_cbe l Z a0 hw 0 1 4 cp fm ((s, strO v) :: (v, fA .byte [y0, y1, y2, y3]) :: F) hs (by decide) (by decide) (by decide)) D_jdk_42_m92_8 (gw hw 90 rfl) (gw hw 91 rfl) (gw hw 7 rfl) (gw hw 92 rfl) (by decide) pd_10 rfl rfl rfl (lb rfl) (lb rfl) (lb rfl) (lb rfl) ?_
  rintro _ _ ⟨rfl, rfl⟩
  show W33 l Z (rm4 4 2 5 66) ((s, strO v) :: (v, fA .byte [y0, y1, y2, y3]) :: F) 0 0 11 #[.val (.ref s), .val (.int 0), .val (.int 1), .val (.int 4), .unset] [] (Q_c_sub_4_0_1 s v y0 y1 y2 y3 F)
  refine wp_iload_n D_jdk_42_m92_11 rfl ?_
  refine wp_if_ne D_jdk_42_m92_12 (pc'' := 22) ⟨by decide, by decide⟩ (fun h1 => by exact absurd h1 (by decide)) (fun h1 => ?_)
  refine wp_iload_n D_jdk_42_m92_15 rfl ?_
  refine wp_iload_n D_jdk_42_m92_16 rfl ?_
  refine wp_icmp_ne D_jdk_42_m92_17 (pc'' := 22) ⟨by decide, by decide⟩ (fun h2 => ?_) (fun h2 => by exact absurd h2 (by decide))
  refine wp_iload_n D_jdk_42_m92_22 rfl ?_
  refine wp_iload_n D_jdk_42_m92_23 rfl ?_
  refine wp_isub D_jdk_42_m92_24 ?_
  rw [show ((1 : Int32) - (0 : Int32)) = (1 : Int32) from by decide]
  refine wp_istore #[.val (.ref s), .val (.int 0), .val (.int 1), .val (.int 4), .val (.int 1)] D_jdk_42_m92_25 rfl ?_
  refine wp_aload_n D_jdk_42_m92_27 rfl rfl ?_
  refine wp_virtual (c_lat l Z a0 hw s v cp fm ((v, fA .byte [y0, y1, y2, y3]) :: F) hs ) (exa_new (i := 0) rfl) D_jdk_42_m92_28 (gw hw 41 rfl) (gw hw 42 rfl) (gw hw 44 rfl) (gw hw 44 rfl) (gw hw 43 rfl) (gw hw 7 rfl) (gw hw 45 rfl) (by decide) pd_4 rfl rfl rfl (lb rfl) (lb rfl) (lb rfl) (lb rfl) ?_
  rintro _ _ ⟨rfl, rfl⟩
  show W33 l Z (rm4 4 2 5 66) ((s, strO v) :: (v, fA .byte [y0, y1, y2, y3]) :: F) 0 0 31 #[.val (.ref s), .val (.int 0), .val (.int 1), .val (.int 4), .val (.int 1)] [(.int 1)] (Q_c_sub_4_0_1 s v y0 y1 y2 y3 F)
  refine wp_if_eq D_jdk_42_m92_31 (pc'' := 47) ⟨by decide, by decide⟩ (fun h3 => by exact absurd h3 (by decide)) (fun h3 => ?_)
  refine wp_aload_n D_jdk_42_m92_34 rfl rfl ?_
  refine wp_getfield D_jdk_42_m92_35 (gw hw 25 rfl) (fld_new (i := 0) (fi := 0) rfl rfl rfl) ?_
  refine wp_iload_n D_jdk_42_m92_38 rfl ?_
  refine wp_iload D_jdk_42_m92_39 rfl ?_
  refine wp_callS (c_nst_4_0_1 l Z a0 hw s v y0 y1 y2 y3 cp fm F hs ) D_jdk_42_m92_41 (gw hw 98 rfl) (gw hw 99 rfl) (gw hw 59 rfl) (gw hw 100 rfl) (by decide) pd_12 rfl rfl rfl (lb rfl) (lb rfl) (lb rfl) (lb rfl) ?_
  rintro _ _ ⟨sa4, su5, rfl, rfl⟩
  show W33 l Z (rm4 4 2 5 66) ((su5, fA .byte [y0]) :: (sa4, strO su5) :: (s, strO v) :: (v, fA .byte [y0, y1, y2, y3]) :: F) 2 5 44 #[.val (.ref s), .val (.int 0), .val (.int 1), .val (.int 4), .val (.int 1)] [(.ref sa4)] (Q_c_sub_4_0_1 s v y0 y1 y2 y3 F)
  refine wp_goto D_jdk_42_m92_44 (pc'' := 57) ⟨by decide, by decide⟩ ?_
  refine wp_areturn D_jdk_42_m92_57 rfl rfl rfl rfl (by decide) (by decide) ?_
  exact ⟨_, _, rfl, rfl⟩
def Q_c_wf_4_1 (s v : Addr) (y0 y1 y2 y3 : Int32) (F : OH) : Option Value → OH → Prop := fun w' H' => ∃ a u, w' = some (.ref a) ∧ H' = ((u, fA .byte [y0]) :: (a, strO u) :: (s, strO v) :: (v, fA .byte [y0, y1, y2, y3]) :: F)
set_option maxRecDepth 65536 in
set_option maxHeartbeats 40000000 in
theorem c_wf_4_1 (l : Launch) (Z : State) (a0 : Array Value) (hw : HW Z a0) (s v : Addr) (y0 y1 y2 y3 : Int32) (cp : Int32) (fm : Value) (F : OH) (hs : Std Z cp fm) (hq0 : ¬ y0 = 35) (hq1 : y1 = 35) :
    Met l Z (⟨"com/example/bylint/bylint/description/UriReferences", "withoutFragment", "(Ljava/lang/String;)Ljava/lang/String;"⟩ : MethodName) prog_9_method_5_code 2 (some (.object "java/lang/String")) (rm4 5 2 5 82) [(.ref s)] ((s, strO v) :: (v, fA .byte [y0, y1, y2, y3]) :: F) (Q_c_wf_4_1 s v y0 y1 y2 y3 F) := by
  refine Met.of_wp (Ls := #[.val (.ref s), .unset]) pn_20 (fun m => (entry_loc m _ _).trans rfl) ?_
  show W21 l Z (rm4 5 2 5 82) ((s, strO v) :: (v, fA .byte [y0, y1, y2, y3]) :: F) 0 0 0 #[.val (.ref s), .unset] [] (Q_c_wf_4_1 s v y0 y1 y2 y3 F)
  refine wp_aload_n D_prog_9_m5_0 rfl rfl ?_
  refine wp_bipush 35 D_prog_9_m5_1 (by decide) ?_
  refine wp_virtual (c_si_4 l Z a0 hw s v y0 y1 y2 y3 (1 : Int32) cp fm F hs (c_ioc_4_1 l Z a0 hw s v y0 y1 y2 y3 F hq0 hq1)) (exa_new (i := 0) rfl) D_prog_9_m5_3 (gw hw 31 rfl) (gw hw 32 rfl) (gw hw 34 rfl) (gw hw 34 rfl) (gw hw 33 rfl) (gw hw 7 rfl) (gw hw 35 rfl) (by decide) pd_19 rfl rfl rfl (lb rfl) (lb rfl) (lb rfl) (lb rfl) ?_
  rintro _ _ ⟨rfl, rfl⟩
  show W21 l Z (rm4 5 2 5 82) ((s, strO v) :: (v, fA .byte [y0, y1, y2, y3]) :: F) 0 0 6 #[.val (.ref s), .unset] [(.int 1)] (Q_c_wf_4_1 s v y0 y1 y2 y3 F)
  refine wp_istore_n #[.val (.ref s), .val (.int 1)] D_prog_9_m5_6 rfl ?_
  refine wp_iload_n D_prog_9_m5_7 rfl ?_
  refine wp_if_ge D_prog_9_m5_8 (pc'' := 15) ⟨by decide, by decide⟩ (fun h1 => ?_) (fun h1 => by exact absurd h1 (by decide))
  refine wp_aload_n D_prog_9_m5_15 rfl rfl ?_
  refine wp_iconst 0 D_prog_9_m5_16 (by decide) ?_
  refine wp_iload_n D_prog_9_m5_17 rfl ?_
  refine wp_virtual (c_sub_4_0_1 l Z a0 hw s v y0 y1 y2 y3 cp fm F hs ) (exa_new (i := 0) rfl) D_prog_9_m5_18 (gw hw 85 rfl) (gw hw 86 rfl) (gw hw 88 rfl) (gw hw 88 rfl) (gw hw 87 rfl) (gw hw 7 rfl) (gw hw 89 rfl) (by decide) pd_20 rfl rfl rfl (lb rfl) (lb rfl) (lb rfl) (lb rfl) ?_
  rintro _ _ ⟨sa2, su3, rfl, rfl⟩
  show W21 l Z (rm4 5 2 5 82) ((su3, fA .byte [y0]) :: (sa2, strO su3) :: (s, strO v) :: (v, fA .byte [y0, y1, y2, y3]) :: F) 2 5 21 #[.val (.ref s), .val (.int 1)] [(.ref sa2)] (Q_c_wf_4_1 s v y0 y1 y2 y3 F)
  refine wp_areturn D_prog_9_m5_21 rfl rfl rfl rfl (by decide) (by decide) ?_
  exact ⟨_, _, rfl, rfl⟩
set_option maxRecDepth 65536 in
set_option maxHeartbeats 40000000 in
theorem c_ioc_4_2 (l : Launch) (Z : State) (a0 : Array Value) (hw : HW Z a0) (s v : Addr) (y0 y1 y2 y3 : Int32) (F : OH) (hq0 : ¬ y0 = 35) (hq1 : ¬ y1 = 35) (hq2 : y2 = 35) :
    Met l Z (⟨"java/lang/StringLatin1", "indexOfChar", "([BIII)I"⟩ : MethodName) jdk_43_method_23_code 6 (some .int) (rm4 0 0 0 0) [(.ref v), (.int 35), (.int 0), (.int 4)] ((s, strO v) :: (v, fA .byte [y0, y1, y2, y3]) :: F) (Q_ioc_4 s v y0 y1 y2 y3 (2 : Int32) F) := by
  refine Met.of_wp (Ls := #[.val (.ref v), .val (.int 35), .val (.int 0), .val (.int 4), .unset, .unset]) pn_16 (fun m => (entry_loc m _ _).trans rfl) ?_
  show W22 l Z (rm4 0 0 0 0) ((s, strO v) :: (v, fA .byte [y0, y1, y2, y3]) :: F) 0 0 0 #[.val (.ref v), .val (.int 35), .val (.int 0), .val (.int 4), .unset, .unset] [] (Q_ioc_4 s v y0 y1 y2 y3 (2 : Int32) F)
  refine wp_iload_n D_jdk_43_m23_0 rfl ?_
  refine wp_i2b D_jdk_43_m23_1 ?_
  rw [show (35 : Int32).toInt8.toInt32 = (35 : Int32) from by decide]
  refine wp_istore #[.val (.ref v), .val (.int 35), .val (.int 0), .val (.int 4), .val (.int 35), .unset] D_jdk_43_m23_2 rfl ?_
  refine wp_iload_n D_jdk_43_m23_4 rfl ?_
  refine wp_istore #[.val (.ref v), .val (.int 35), .val (.int 0), .val (.int 4), .val (.int 35), .val (.int 0)] D_jdk_43_m23_5 rfl ?_
  refine wp_iload D_jdk_43_m23_7 rfl ?_
  refine wp_iload_n D_jdk_43_m23_9 rfl ?_
  refine wp_icmp_ge D_jdk_43_m23_10 (pc'' := 31) ⟨by decide, by decide⟩ (fun h1 => by exact absurd h1 (by decide)) (fun h1 => ?_)
  refine wp_aload_n D_jdk_43_m23_13 rfl rfl ?_
  refine wp_iload D_jdk_43_m23_14 rfl ?_
  refine wp_baload (i := 1) (0) D_jdk_43_m23_16 rfl (by decide) (by decide) rfl ?_
  refine wp_iload D_jdk_43_m23_17 rfl ?_
  refine wp_icmp_ne D_jdk_43_m23_19 (pc'' := 25) ⟨by decide, by decide⟩ (fun h2 => ?_) (fun h2 => by exact absurd h2 hq0)
  refine wp_iinc 1 #[.val (.ref v), .val (.int 35), .val (.int 0), .val (.int 4), .val (.int 35), .val (.int 1)] D_jdk_43_m23_25 rfl rfl (by rw [show (0 : Int32) + (1 : Int32) = (1 : Int32) from by decide]; rfl) ?_
  refine wp_goto D_jdk_43_m23_28 (pc'' := 7) ⟨by decide, by decide⟩ ?_
  refine wp_iload D_jdk_43_m23_7 rfl ?_
  refine wp_iload_n D_jdk_43_m23_9 rfl ?_
  refine wp_icmp_ge D_jdk_43_m23_10 (pc'' := 31) ⟨by decide, by decide⟩ (fun h3 => by exact absurd h3 (by decide)) (fun h3 => ?_)
  refine wp_aload_n D_jdk_43_m23_13 rfl rfl ?_
  refine wp_iload D_jdk_43_m23_14 rfl ?_
  refine wp_baload (i := 1) (1) D_jdk_43_m23_16 rfl (by decide) (by decide) rfl ?_
  refine wp_iload D_jdk_43_m23_17 rfl ?_
  refine wp_icmp_ne D_jdk_43_m23_19 (pc'' := 25) ⟨by decide, by decide⟩ (fun h4 => ?_) (fun h4 => by exact absurd h4 hq1)
  refine wp_iinc 1 #[.val (.ref v), .val (.int 35), .val (.int 0), .val (.int 4), .val (.int 35), .val (.int 2)] D_jdk_43_m23_25 rfl rfl (by rw [show (1 : Int32) + (1 : Int32) = (2 : Int32) from by decide]; rfl) ?_
  refine wp_goto D_jdk_43_m23_28 (pc'' := 7) ⟨by decide, by decide⟩ ?_
  refine wp_iload D_jdk_43_m23_7 rfl ?_
  refine wp_iload_n D_jdk_43_m23_9 rfl ?_
  refine wp_icmp_ge D_jdk_43_m23_10 (pc'' := 31) ⟨by decide, by decide⟩ (fun h5 => by exact absurd h5 (by decide)) (fun h5 => ?_)
  refine wp_aload_n D_jdk_43_m23_13 rfl rfl ?_
  refine wp_iload D_jdk_43_m23_14 rfl ?_
  refine wp_baload (i := 1) (2) D_jdk_43_m23_16 rfl (by decide) (by decide) rfl ?_
  refine wp_iload D_jdk_43_m23_17 rfl ?_
  refine wp_icmp_ne D_jdk_43_m23_19 (pc'' := 25) ⟨by decide, by decide⟩ (fun h6 => by exact absurd hq2 h6) (fun h6 => ?_)
  refine wp_iload D_jdk_43_m23_22 rfl ?_
  refine wp_ireturn D_jdk_43_m23_24 rfl (by decide) (by decide) ?_
  exact ⟨rfl, rfl⟩
def Q_c_min_4_2  (F : OH) : Option Value → OH → Prop := fun w' H' => w' = some (.int 2) ∧ H' = F
set_option maxRecDepth 65536 in
set_option maxHeartbeats 40000000 in
theorem c_min_4_2 (l : Launch) (Z : State) (a0 : Array Value) (hw : HW Z a0)  (F : OH) :
    Met l Z (⟨"java/lang/Math", "min", "(II)I"⟩ : MethodName) jdk_29_method_69_code 2 (some .int) (rm4 0 0 0 0) [(.int 4), (.int 2)] F (Q_c_min_4_2 F) := by
  refine Met.of_wp (Ls := #[.val (.int 4), .val (.int 2)]) pn_15 (fun m => (entry_loc m _ _).trans rfl) ?_
  show W17 l Z (rm4 0 0 0 0) F 0 0 0 #[.val (.int 4), .val (.int 2)] [] (Q_c_min_4_2 F)
  refine wp_iload_n D_jdk_29_m69_0 rfl ?_
  refine wp_iload_n D_jdk_29_m69_1 rfl ?_
  refine wp_icmp_gt D_jdk_29_m69_2 (pc'' := 9) ⟨by decide, by decide⟩ (fun h1 => ?_) (fun h1 => by exact absurd h1 (by decide))
  refine wp_iload_n D_jdk_29_m69_9 rfl ?_
  refine wp_ireturn D_jdk_29_m69_10 rfl (by decide) (by decide) ?_
  exact ⟨rfl, rfl⟩
def Q_c_crb_4_0_2 (a s v : Addr) (y0 y1 y2 y3 : Int32) (F : OH) : Option Value → OH → Prop := fun w' H' => ∃ b', w' = some (.ref b') ∧ H' = ((b', oA .byte [y0, y1]) :: (a, oS (.null)) :: (s, strO v) :: (v, fA .byte [y0, y1, y2, y3]) :: F)
set_option maxRecDepth 65536 in
set_option maxHeartbeats 40000000 in
theorem c_crb_4_0_2 (l : Launch) (Z : State) (a0 : Array Value) (hw : HW Z a0) (a s v : Addr) (y0 y1 y2 y3 : Int32) (cp : Int32) (fm : Value) (F : OH) (hs : Std Z cp fm) :
    Met l Z (⟨"java/util/Arrays", "copyOfRangeByte", "([BII)[B"⟩ : MethodName) jdk_65_method_133_code 5 (some (.array .byte)) (rm4 1 1 2 20) [(.ref v), (.int 0), (.int 2)] ((a, oS (.null)) :: (s, strO v) :: (v, fA .byte [y0, y1, y2, y3]) :: F) (Q_c_crb_4_0_2 a s v y0 y1 y2 y3 F) := by
  refine Met.of_wp (Ls := #[.val (.ref v), .val (.int 0), .val (.int 2), .unset, .unset]) pn_26 (fun m => (entry_loc m _ _).trans rfl) ?_
  show W29 l Z (rm4 1 1 2 20) ((a, oS (.null)) :: (s, strO v) :: (v, fA .byte [y0, y1, y2, y3]) :: F) 0 0 0 #[.val (.ref v), .val (.int 0), .val (.int 2), .unset, .unset] [] (Q_c_crb_4_0_2 a s v y0 y1 y2 y3 F)
  refine wp_iload_n D_jdk_65_m133_0 rfl ?_
  refine wp_iload_n D_jdk_65_m133_1 rfl ?_
  refine wp_callS (c_ckl l Z a0 hw 0 2 ((a, oS (.null)) :: (s, strO v) :: (v, fA .byte [y0, y1, y2, y3]) :: F) (by decide)) D_jdk_65_m133_2 (gw hw 124 rfl) (gw hw 125 rfl) (gw hw 119 rfl) (gw hw 126 rfl) (by decide) pd_16 rfl rfl rfl (lb rfl) (lb rfl) (lb rfl) (lb rfl) ?_
  rintro _ _ ⟨rfl, rfl⟩
  show W29 l Z (rm4 1 1 2 20) ((a, oS (.null)) :: (s, strO v) :: (v, fA .byte [y0, y1, y2, y3]) :: F) 0 0 5 #[.val (.ref v), .val (.int 0), .val (.int 2), .unset, .unset] [] (Q_c_crb_4_0_2 a s v y0 y1 y2 y3 F)
  refine wp_iload_n D_jdk_65_m133_5 rfl ?_
  refine wp_iload_n D_jdk_65_m133_6 rfl ?_
  refine wp_isub D_jdk_65_m133_7 ?_
  rw [show ((2 : Int32) - (0 : Int32)) = (2 : Int32) from by decide]
  refine wp_istore_n #[.val (.ref v), .val (.int 0), .val (.int 2), .val (.int 2), .unset] D_jdk_65_m133_8 rfl ?_
  refine wp_iload_n D_jdk_65_m133_9 rfl ?_
  refine wp_newarrayI (n := (2 : Int32)) (2) 2 D_jdk_65_m133_10 rfl rfl rfl (gw hw 20 rfl) (by decide) (by decide) (by decide) (by decide) (by decide) (by decide) ?_
  intro a1
  show W29 l Z (rm4 1 1 2 20) ((a1, oA .byte [(0 : Int32), (0 : Int32)]) :: (a, oS (.null)) :: (s, strO v) :: (v, fA .byte [y0, y1, y2, y3]) :: F) 1 2 12 #[.val (.ref v), .val (.int 0), .val (.int 2), .val (.int 2), .unset] [(.ref a1)] (Q_c_crb_4_0_2 a s v y0 y1 y2 y3 F)
  refine wp_astore #[.val (.ref v), .val (.int 0), .val (.int 2), .val (.int 2), .val (.ref a1)] D_jdk_65_m133_12 rfl rfl ?_
  refine wp_aload_n D_jdk_65_m133_14 rfl rfl ?_
  refine wp_iload_n D_jdk_65_m133_15 rfl ?_
  refine wp_aload D_jdk_65_m133_16 rfl rfl ?_
  refine wp_iconst 0 D_jdk_65_m133_18 (by decide) ?_
  refine wp_aload_n D_jdk_65_m133_19 rfl rfl ?_
  refine wp_lengthI (i := 3) (4 : Int32) D_jdk_65_m133_20 rfl rfl ?_
  refine wp_iload_n D_jdk_65_m133_21 rfl ?_
  refine wp_isub D_jdk_65_m133_22 ?_
  rw [show ((4 : Int32) - (0 : Int32)) = (4 : Int32) from by decide]
  refine wp_iload_n D_jdk_65_m133_23 rfl ?_
  refine wp_callS (c_min_4_2 l Z a0 hw  ((a1, oA .byte [(0 : Int32), (0 : Int32)]) :: (a, oS (.null)) :: (s, strO v) :: (v, fA .byte [y0, y1, y2, y3]) :: F) ) D_jdk_65_m133_24 (gw hw 127 rfl) (gw hw 69 rfl) (gw hw 66 rfl) (gw hw 70 rfl) (by decide) pd_3 rfl rfl rfl (lb rfl) (lb rfl) (lb rfl) (lb rfl) ?_
  rintro _ _ ⟨rfl, rfl⟩
  show W29 l Z (rm4 1 1 2 20) ((a1, oA .byte [(0 : Int32), (0 : Int32)]) :: (a, oS (.null)) :: (s, strO v) :: (v, fA .byte [y0, y1, y2, y3]) :: F) 1 2 27 #[.val (.ref v), .val (.int 0), .val (.int 2), .val (.int 2), .val (.ref a1)] [(.int 2), (.int 0), (.ref a1), (.int 0), (.ref v)] (Q_c_crb_4_0_2 a s v y0 y1 y2 y3 F)
  refine wp_arraycopyI (i := 3) (i' := 0) 0 0 2 D_jdk_65_m133_27 (gw hw 128 rfl) (gw hw 131 rfl) (gw hw 129 rfl) (gw hw 130 rfl) rfl rfl rfl (by decide) (by decide) (by decide) (by decide) (by decide) (by decide) (by first | exact Nat.le_of_ble_eq_true rfl | simp) (by first | exact Nat.le_of_ble_eq_true rfl | simp) (by first | exact Nat.le_of_ble_eq_true rfl | simp) (by first | exact Nat.le_of_ble_eq_true rfl | simp) rfl (by decide) (by decide) ?_
  show W29 l Z (rm4 1 1 2 20) ((a1, oA .byte [y0, y1]) :: (a, oS (.null)) :: (s, strO v) :: (v, fA .byte [y0, y1, y2, y3]) :: F) 1 2 30 #[.val (.ref v), .val (.int 0), .val (.int 2), .val (.int 2), .val (.ref a1)] [] (Q_c_crb_4_0_2 a s v y0 y1 y2 y3 F)
  refine wp_aload D_jdk_65_m133_30 rfl rfl ?_
  refine wp_areturn D_jdk_65_m133_32 rfl rfl rfl rfl (by decide) (by decide) ?_
  exact ⟨_, rfl, rfl⟩
def Q_c_cor_4_0_2 (a s v : Addr) (y0 y1 y2 y3 : Int32) (F : OH) : Option Value → OH → Prop := fun w' H' => ∃ b', w' = some (.ref b') ∧ H' = ((b', oA .byte [y0, y1]) :: (a, oS (.null)) :: (s, strO v) :: (v, fA .byte [y0, y1, y2, y3]) :: F)
set_option maxRecDepth 65536 in
set_option maxHeartbeats 40000000 in
theorem c_cor_4_0_2 (l : Launch) (Z : State) (a0 : Array Value) (hw : HW Z a0) (a s v : Addr) (y0 y1 y2 y3 : Int32) (cp : Int32) (fm : Value) (F : OH) (hs : Std Z cp fm) :
    Met l Z (⟨"java/util/Arrays", "copyOfRange", "([BII)[B"⟩ : MethodName) jdk_65_method_132_code 3 (some (.array .byte)) (rm4 2 1 2 36) [(.ref v), (.int 0), (.int 2)] ((a, oS (.null)) :: (s, strO v) :: (v, fA .byte [y0, y1, y2, y3]) :: F) (Q_c_cor_4_0_2 a s v y0 y1 y2 y3 F) := by
  refine Met.of_wp (Ls := #[.val (.ref v), .val (.int 0), .val (.int 2)]) pn_27 (fun m => (entry_loc m _ _).trans rfl) ?_
  show W30 l Z (rm4 2 1 2 36) ((a, oS (.null)) :: (s, strO v) :: (v, fA .byte [y0, y1, y2, y3]) :: F) 0 0 0 #[.val (.ref v), .val (.int 0), .val (.int 2)] [] (Q_c_cor_4_0_2 a s v y0 y1 y2 y3 F)
  refine wp_iload_n D_jdk_65_m132_0 rfl ?_
  refine wp_if_ne D_jdk_65_m132_1 (pc'' := 10) ⟨by decide, by decide⟩ (fun h1 => by exact absurd h1 (by decide)) (fun h1 => ?_)
  refine wp_iload_n D_jdk_65_m132_4 rfl ?_
  refine wp_aload_n D_jdk_65_m132_5 rfl rfl ?_
  refine wp_lengthI (i := 2) (4 : Int32) D_jdk_65_m132_6 rfl rfl ?_
  refine wp_icmp_eq D_jdk_65_m132_7 (pc'' := 17) ⟨by decide, by decide⟩ (fun h2 => by exact absurd h2 (by decide)) (fun h2 => ?_)
  refine wp_aload_n D_jdk_65_m132_10 rfl rfl ?_
  refine wp_iload_n D_jdk_65_m132_11 rfl ?_
  refine wp_iload_n D_jdk_65_m132_12 rfl ?_
  refine wp_callS (c_crb_4_0_2 l Z a0 hw a s v y0 y1 y2 y3 cp fm F hs ) D_jdk_65_m132_13 (gw hw 121 rfl) (gw hw 122 rfl) (gw hw 119 rfl) (gw hw 123 rfl) (by decide) pd_17 rfl rfl rfl (lb rfl) (lb rfl) (lb rfl) (lb rfl) ?_
  rintro _ _ ⟨b3, rfl, rfl⟩
  show W30 l Z (rm4 2 1 2 36) ((b3, oA .byte [y0, y1]) :: (a, oS (.null)) :: (s, strO v) :: (v, fA .byte [y0, y1, y2, y3]) :: F) 1 2 16 #[.val (.ref v), .val (.int 0), .val (.int 2)] [(.ref b3)] (Q_c_cor_4_0_2 a s v y0 y1 y2 y3 F)
  refine wp_areturn D_jdk_65_m132_16 rfl rfl rfl rfl (by decide) (by decide) ?_
  exact ⟨_, rfl, rfl⟩
def Q_c_nst_4_0_2 (s v : Addr) (y0 y1 y2 y3 : Int32) (F : OH) : Option Value → OH → Prop := fun w' H' => ∃ a u, w' = some (.ref a) ∧ H' = ((u, fA .byte [y0, y1]) :: (a, strO u) :: (s, strO v) :: (v, fA .byte [y0, y1, y2, y3]) :: F)
set_option maxRecDepth 65536 in
set_option maxHeartbeats 40000000 in
theorem c_nst_4_0_2 (l : Launch) (Z : State) (a0 : Array Value) (hw : HW Z a0) (s v : Addr) (y0 y1 y2 y3 : Int32) (cp : Int32) (fm : Value) (F : OH) (hs : Std Z cp fm) :
    Met l Z (⟨"java/lang/StringLatin1", "newString", "([BII)Ljava/lang/String;"⟩ : MethodName) jdk_43_method_47_code 3 (some (.object "java/lang/String")) (rm4 3 2 6 52) [(.ref v), (.int 0), (.int 2)] ((s, strO v) :: (v, fA .byte [y0, y1, y2, y3]) :: F) (Q_c_nst_4_0_2 s v y0 y1 y2 y3 F) := by
  refine Met.of_wp (Ls := #[.val (.ref v), .val (.int 0), .val (.int 2)]) pn_23 (fun m => (entry_loc m _ _).trans rfl) ?_
  show W32 l Z (rm4 3 2 6 52) ((s, strO v) :: (v, fA .byte [y0, y1, y2, y3]) :: F) 0 0 0 #[.val (.ref v), .val (.int 0), .val (.int 2)] [] (Q_c_nst_4_0_2 s v y0 y1 y2 y3 F)
  refine wp_iload_n D_jdk_43_m47_0 rfl ?_
  refine wp_if_ne D_jdk_43_m47_1 (pc'' := 7) ⟨by decide, by decide⟩ (fun h1 => ?_) (fun h1 => by exact absurd h1 (by decide))
  refine wp_new sgStr [(.null), (.int 0)] D_jdk_43_m47_7 (gw hw 116 rfl) (gw hw 6 rfl) (gw hw 7 rfl) (laid_sgStr l Z a0 hw) (by decide) dfl_sgStr (by decide) (by decide) ?_
  intro a2
  show W32 l Z (rm4 3 2 6 52) ((a2, oS (.null)) :: (s, strO v) :: (v, fA .byte [y0, y1, y2, y3]) :: F) 1 4 10 #[.val (.ref v), .val (.int 0), .val (.int 2)] [(.ref a2)] (Q_c_nst_4_0_2 s v y0 y1 y2 y3 F)
  refine wp_dup D_jdk_43_m47_10 rfl ?_
  refine wp_aload_n D_jdk_43_m47_11 rfl rfl ?_
  refine wp_iload_n D_jdk_43_m47_12 rfl ?_
  refine wp_iload_n D_jdk_43_m47_13 rfl ?_
  refine wp_iload_n D_jdk_43_m47_14 rfl ?_
  refine wp_iadd D_jdk_43_m47_15 ?_
  rw [show ((0 : Int32) + (2 : Int32)) = (2 : Int32) from by decide]
  refine wp_callS (c_cor_4_0_2 l Z a0 hw a2 s v y0 y1 y2 y3 cp fm F hs ) D_jdk_43_m47_16 (gw hw 117 rfl) (gw hw 118 rfl) (gw hw 119 rfl) (gw hw 120 rfl) (by decide) pd_17 rfl rfl rfl (lb rfl) (lb rfl) (lb rfl) (lb rfl) ?_
  rintro _ _ ⟨b3, rfl, rfl⟩
  show W32 l Z (rm4 3 2 6 52) ((b3, oA .byte [y0, y1]) :: (a2, oS (.null)) :: (s, strO v) :: (v, fA .byte [y0, y1, y2, y3]) :: F) 2 6 19 #[.val (.ref v), .val (.int 0), .val (.int 2)] [(.ref b3), (.ref a2), (.ref a2)] (Q_c_nst_4_0_2 s v y0 y1 y2 y3 F)
  refine wp_iconst 0 D_jdk_43_m47_19 (by decide) ?_
  refine wp_init (c_sbb l Z a0 hw b3 a2 [y0, y1] ((s, strO v) :: (v, fA .byte [y0, y1, y2, y3]) :: F) ) D_jdk_43_m47_20 rfl (gw hw 132 rfl) (gw hw 133 rfl) (gw hw 7 rfl) (gw hw 134 rfl) (by decide) pd_18 rfl rfl rfl (lb rfl) (lb rfl) (lb rfl) (lb rfl) ?_
  rintro _ _ ⟨rfl, rfl⟩
  show W32 l Z (rm4 3 2 6 52) ((b3, oA .byte [y0, y1]) :: (a2, oS (.ref b3)) :: (s, strO v) :: (v, fA .byte [y0, y1, y2, y3]) :: F) 2 6 23 #[.val (.ref v), .val (.int 0), .val (.int 2)] [(.ref a2)] (Q_c_nst_4_0_2 s v y0 y1 y2 y3 F)
  refine Wp.frz (i := 0) rfl ?_
  refine Wp.frz (i := 1) rfl ?_
  show W32 l Z (rm4 3 2 6 52) ((b3, fA .byte [y0, y1]) :: (a2, strO b3) :: (s, strO v) :: (v, fA .byte [y0, y1, y2, y3]) :: F) 2 6 23 #[.val (.ref v), .val (.int 0), .val (.int 2)] [(.ref a2)] (Q_c_nst_4_0_2 s v y0 y1 y2 y3 F)
  refine wp_areturn D_jdk_43_m47_23 rfl rfl rfl rfl (by decide) (by decide) ?_
  exact ⟨_, _, rfl, rfl⟩
def Q_c_sub_4_0_2 (s v : Addr) (y0 y1 y2 y3 : Int32) (F : OH) : Option Value → OH → Prop := fun w' H' => ∃ a u, w' = some (.ref a) ∧ H' = ((u, fA .byte [y0, y1]) :: (a, strO u) :: (s, strO v) :: (v, fA .byte [y0, y1, y2, y3]) :: F)
set_option maxRecDepth 65536 in
set_option maxHeartbeats 40000000 in
theorem c_sub_4_0_2 (l : Launch) (Z : State) (a0 : Array Value) (hw : HW Z a0) (s v : Addr) (y0 y1 y2 y3 : Int32) (cp : Int32) (fm : Value) (F : OH) (hs : Std Z cp fm) :
    Met l Z (⟨"java/lang/String", "substring", "(II)Ljava/lang/String;"⟩ : MethodName) jdk_42_method_92_code 5 (some (.object "java/lang/String")) (rm4 4 2 6 66) [(.ref s), (.int 0), (.int 2)] ((s, strO v) :: (v, fA .byte [y0, y1, y2, y3]) :: F) (Q_c_sub_4_0_2 s v y0 y1 y2 y3 F) := by
  refine Met.of_wp (Ls := #[.val (.ref s), .val (.int 0), .val (.int 2), .unset, .unset]) pn_24 (fun m => (entry_loc m _ _).trans rfl) ?_
  show W33 l Z (rm4 4 2 6 66) ((s, strO v) :: (v, fA .byte [y0, y1, y2, y3]) :: F) 0 0 0 #[.val (.ref s), .val (.int 0), .val (.int 2), .unset, .unset] [] (Q_c_sub_4_0_2 s v y0 y1 y2 y3 F)
  refine wp_aload_n D_jdk_42_m92_0 rfl rfl ?_
  refine wp_virtual (c_len_4 l Z a0 hw s v y0 y1 y2 y3 cp fm F hs ) (exa_new (i := 0) rfl) D_jdk_42_m92_1 (gw hw 47 rfl) (gw hw 48 rfl) (gw hw 50 rfl) (gw hw 50 rfl) (gw hw 49 rfl) (gw hw 7 rfl) (gw hw 51 rfl) (by decide) pd_5 rfl rfl rfl (lb rfl) (lb rfl) (lb rfl) (lb rfl) ?_
  rintro _ _ ⟨rfl, rfl⟩
  show W33 l Z (rm4 4 2 6 66) ((s, strO v) :: (v, fA .byte [y0, y1, y2, y3]) :: F) 0 0 4 #[.val (.ref s), .val (.int 0), .val (.int 2), .unset, .unset] [(.int 4)] (Q_c_sub_4_0_2 s v y0 y1 y2 y3 F)
  refine wp_istore_n #[.val (.ref s), .val (.int 0), .val (.int 2), .val (.int 4), .unset] D_jdk_42_m92_4 rfl ?_
  refine wp_iload_n D_jdk_42_m92_5 rfl ?_
  refine wp_iload_n D_jdk_42_m92_6 rfl ?_
  refine wp_iload_n D_jdk_42_m92_7 rfl ?_
  refine wp_callS (c_cbe l Z a0 hw 0 2 4 cp fm ((s, strO v) :: (v, fA .byte [y0, y1, y2, y3]) :: F) hs (by decide) (by decide) (by decide)) D_jdk_42_m92_8 (gw hw 90 rfl) (gw hw 91 rfl) (gw hw 7 rfl) (gw hw 92 rfl) (by decide) pd_10 rfl rfl rfl (lb rfl) (lb rfl) (lb rfl) (lb rfl) ?_
  rintro _ _ ⟨rfl, rfl⟩
  show W33 l Z (rm4 4 2 6 66) ((s, strO v) :: (v, fA .byte [y0, y1, y2, y3]) :: F) 0 0 11 #[.val (.ref s), .val (.int 0), .val (.int 2), .val (.int 4), .unset] [] (Q_c_sub_4_0_2 s v y0 y1 y2 y3 F)
  refine wp_iload_n D_jdk_42_m92_11 rfl ?_
  refine wp_if_ne D_jdk_42_m92_12 (pc'' := 22) ⟨by decide, by decide⟩ (fun h1 => by exact absurd h1 (by decide)) (fun h1 => ?_)
  refine wp_iload_n D_jdk_42_m92_15 rfl ?_
  refine wp_iload_n D_jdk_42_m92_16 rfl ?_
  refine wp_icmp_ne D_jdk_42_m92_17 (pc'' := 22) ⟨by decide, by decide⟩ (fun h2 => ?_) (fun h2 => by exact absurd h2 (by decide))
  refine wp_iload_n D_jdk_42_m92_22 rfl ?_
  refine wp_iload_n D_jdk_42_m92_23 rfl ?_
  refine wp_isub D_jdk_42_m92_24 ?_
  rw [show ((2 : Int32) - (0 : Int32)) = (2 : Int32) from by decide]
  refine wp_istore #[.val (.ref s), .val (.int 0), .val (.int 2), .val (.int 4), .val (.int 2)] D_jdk_42_m92_25 rfl ?_
  refine wp_aload_n D_jdk_42_m92_27 rfl rfl ?_
  refine wp_virtual (c_lat l Z a0 hw s v cp fm ((v, fA .byte [y0, y1, y2, y3]) :: F) hs ) (exa_new (i := 0) rfl) D_jdk_42_m92_28 (gw hw 41 rfl) (gw hw 42 rfl) (gw hw 44 rfl) (gw hw 44 rfl) (gw hw 43 rfl) (gw hw 7 rfl) (gw hw 45 rfl) (by decide) pd_4 rfl rfl rfl (lb rfl) (lb rfl) (lb rfl) (lb rfl) ?_
  rintro _ _ ⟨rfl, rfl⟩
  show W33 l Z (rm4 4 2 6 66) ((s, strO v) :: (v, fA .byte [y0, y1, y2, y3]) :: F) 0 0 31 #[.val (.ref s), .val (.int 0), .val (.int 2), .val (.int 4), .val (.int 2)] [(.int 1)] (Q_c_sub_4_0_2 s v y0 y1 y2 y3 F)
  refine wp_if_eq D_jdk_42_m92_31 (pc'' := 47) ⟨by decide, by decide⟩ (fun h3 => by exact absurd h3 (by decide)) (fun h3 => ?_)
  refine wp_aload_n D_jdk_42_m92_34 rfl rfl ?_
  refine wp_getfield D_jdk_42_m92_35 (gw hw 25 rfl) (fld_new (i := 0) (fi := 0) rfl rfl rfl) ?_
  refine wp_iload_n D_jdk_42_m92_38 rfl ?_
  refine wp_iload D_jdk_42_m92_39 rfl ?_
  refine wp_callS (c_nst_4_0_2 l Z a0 hw s v y0 y1 y2 y3 cp fm F hs ) D_jdk_42_m92_41 (gw hw 98 rfl) (gw hw 99 rfl) (gw hw 59 rfl) (gw hw 100 rfl) (by decide) pd_12 rfl rfl rfl (lb rfl) (lb rfl) (lb rfl) (lb rfl) ?_
  rintro _ _ ⟨sa4, su5, rfl, rfl⟩
  show W33 l Z (rm4 4 2 6 66) ((su5, fA .byte [y0, y1]) :: (sa4, strO su5) :: (s, strO v) :: (v, fA .byte [y0, y1, y2, y3]) :: F) 2 6 44 #[.val (.ref s), .val (.int 0), .val (.int 2), .val (.int 4), .val (.int 2)] [(.ref sa4)] (Q_c_sub_4_0_2 s v y0 y1 y2 y3 F)
  refine wp_goto D_jdk_42_m92_44 (pc'' := 57) ⟨by decide, by decide⟩ ?_
  refine wp_areturn D_jdk_42_m92_57 rfl rfl rfl rfl (by decide) (by decide) ?_
  exact ⟨_, _, rfl, rfl⟩
def Q_c_wf_4_2 (s v : Addr) (y0 y1 y2 y3 : Int32) (F : OH) : Option Value → OH → Prop := fun w' H' => ∃ a u, w' = some (.ref a) ∧ H' = ((u, fA .byte [y0, y1]) :: (a, strO u) :: (s, strO v) :: (v, fA .byte [y0, y1, y2, y3]) :: F)
set_option maxRecDepth 65536 in
set_option maxHeartbeats 40000000 in
theorem c_wf_4_2 (l : Launch) (Z : State) (a0 : Array Value) (hw : HW Z a0) (s v : Addr) (y0 y1 y2 y3 : Int32) (cp : Int32) (fm : Value) (F : OH) (hs : Std Z cp fm) (hq0 : ¬ y0 = 35) (hq1 : ¬ y1 = 35) (hq2 : y2 = 35) :
    Met l Z (⟨"com/example/bylint/bylint/description/UriReferences", "withoutFragment", "(Ljava/lang/String;)Ljava/lang/String;"⟩ : MethodName) prog_9_method_5_code 2 (some (.object "java/lang/String")) (rm4 5 2 6 82) [(.ref s)] ((s, strO v) :: (v, fA .byte [y0, y1, y2, y3]) :: F) (Q_c_wf_4_2 s v y0 y1 y2 y3 F) := by
  refine Met.of_wp (Ls := #[.val (.ref s), .unset]) pn_20 (fun m => (entry_loc m _ _).trans rfl) ?_
  show W21 l Z (rm4 5 2 6 82) ((s, strO v) :: (v, fA .byte [y0, y1, y2, y3]) :: F) 0 0 0 #[.val (.ref s), .unset] [] (Q_c_wf_4_2 s v y0 y1 y2 y3 F)
  refine wp_aload_n D_prog_9_m5_0 rfl rfl ?_
  refine wp_bipush 35 D_prog_9_m5_1 (by decide) ?_
  refine wp_virtual (c_si_4 l Z a0 hw s v y0 y1 y2 y3 (2 : Int32) cp fm F hs (c_ioc_4_2 l Z a0 hw s v y0 y1 y2 y3 F hq0 hq1 hq2)) (exa_new (i := 0) rfl) D_prog_9_m5_3 (gw hw 31 rfl) (gw hw 32 rfl) (gw hw 34 rfl) (gw hw 34 rfl) (gw hw 33 rfl) (gw hw 7 rfl) (gw hw 35 rfl) (by decide) pd_19 rfl rfl rfl (lb rfl) (lb rfl) (lb rfl) (lb rfl) ?_
  rintro _ _ ⟨rfl, rfl⟩
  show W21 l Z (rm4 5 2 6 82) ((s, strO v) :: (v, fA .byte [y0, y1, y2, y3]) :: F) 0 0 6 #[.val (.ref s), .unset] [(.int 2)] (Q_c_wf_4_2 s v y0 y1 y2 y3 F)
  refine wp_istore_n #[.val (.ref s), .val (.int 2)] D_prog_9_m5_6 rfl ?_
  refine wp_iload_n D_prog_9_m5_7 rfl ?_
  refine wp_if_ge D_prog_9_m5_8 (pc'' := 15) ⟨by decide, by decide⟩ (fun h1 => ?_) (fun h1 => by exact absurd h1 (by decide))
  refine wp_aload_n D_prog_9_m5_15 rfl rfl ?_
  refine wp_iconst 0 D_prog_9_m5_16 (by decide) ?_
  refine wp_iload_n D_prog_9_m5_17 rfl ?_
  refine wp_virtual (c_sub_4_0_2 l Z a0 hw s v y0 y1 y2 y3 cp fm F hs ) (exa_new (i := 0) rfl) D_prog_9_m5_18 (gw hw 85 rfl) (gw hw 86 rfl) (gw hw 88 rfl) (gw hw 88 rfl) (gw hw 87 rfl) (gw hw 7 rfl) (gw hw 89 rfl) (by decide) pd_20 rfl rfl rfl (lb rfl) (lb rfl) (lb rfl) (lb rfl) ?_
  rintro _ _ ⟨sa2, su3, rfl, rfl⟩
  show W21 l Z (rm4 5 2 6 82) ((su3, fA .byte [y0, y1]) :: (sa2, strO su3) :: (s, strO v) :: (v, fA .byte [y0, y1, y2, y3]) :: F) 2 6 21 #[.val (.ref s), .val (.int 2)] [(.ref sa2)] (Q_c_wf_4_2 s v y0 y1 y2 y3 F)
  refine wp_areturn D_prog_9_m5_21 rfl rfl rfl rfl (by decide) (by decide) ?_
  exact ⟨_, _, rfl, rfl⟩
set_option maxRecDepth 65536 in
set_option maxHeartbeats 40000000 in
theorem c_ioc_4_3 (l : Launch) (Z : State) (a0 : Array Value) (hw : HW Z a0) (s v : Addr) (y0 y1 y2 y3 : Int32) (F : OH) (hq0 : ¬ y0 = 35) (hq1 : ¬ y1 = 35) (hq2 : ¬ y2 = 35) (hq3 : y3 = 35) :
    Met l Z (⟨"java/lang/StringLatin1", "indexOfChar", "([BIII)I"⟩ : MethodName) jdk_43_method_23_code 6 (some .int) (rm4 0 0 0 0) [(.ref v), (.int 35), (.int 0), (.int 4)] ((s, strO v) :: (v, fA .byte [y0, y1, y2, y3]) :: F) (Q_ioc_4 s v y0 y1 y2 y3 (3 : Int32) F) := by
  refine Met.of_wp (Ls := #[.val (.ref v), .val (.int 35), .val (.int 0), .val (.int 4), .unset, .unset]) pn_16 (fun m => (entry_loc m _ _).trans rfl) ?_
  show W22 l Z (rm4 0 0 0 0) ((s, strO v) :: (v, fA .byte [y0, y1, y2, y3]) :: F) 0 0 0 #[.val (.ref v), .val (.int 35), .val (.int 0), .val (.int 4), .unset, .unset] [] (Q_ioc_4 s v y0 y1 y2 y3 (3 : Int32) F)
  refine wp_iload_n D_jdk_43_m23_0 rfl ?_
  refine wp_i2b D_jdk_43_m23_1 ?_
  rw [show (35 : Int32).toInt8.toInt32 = (35 : Int32) from by decide]
  refine wp_istore #[.val (.ref v), .val (.int 35), .val (.int 0), .val (.int 4), .val (.int 35), .unset] D_jdk_43_m23_2 rfl ?_
  refine wp_iload_n D_jdk_43_m23_4 rfl ?_
  refine wp_istore #[.val (.ref v), .val (.int 35), .val (.int 0), .val (.int 4), .val (.int 35), .val (.int 0)] D_jdk_43_m23_5 rfl ?_
  refine wp_iload D_jdk_43_m23_7 rfl ?_
  refine wp_iload_n D_jdk_43_m23_9 rfl ?_
  refine wp_icmp_ge D_jdk_43_m23_10 (pc'' := 31) ⟨by decide, by decide⟩ (fun h1 => by exact absurd h1 (by decide)) (fun h1 => ?_)
  refine wp_aload_n D_jdk_43_m23_13 rfl rfl ?_
  refine wp_iload D_jdk_43_m23_14 rfl ?_
  refine wp_baload (i := 1) (0) D_jdk_43_m23_16 rfl (by decide) (by decide) rfl ?_
  refine wp_iload D_jdk_43_m23_17 rfl ?_
  refine wp_icmp_ne D_jdk_43_m23_19 (pc'' := 25) ⟨by decide, by decide⟩ (fun h2 => ?_) (fun h2 => by exact absurd h2 hq0)
  refine wp_iinc 1 #[.val (.ref v), .val (.int 35), .val (.int 0), .val (.int 4), .val (.int 35), .val (.int 1)] D_jdk_43_m23_25 rfl rfl (by rw [show (0 : Int32) + (1 : Int32) = (1 : Int32) from by decide]; rfl) ?_
  refine wp_goto D_jdk_43_m23_28 (pc'' := 7) ⟨by decide, by decide⟩ ?_
  refine wp_iload D_jdk_43_m23_7 rfl ?_
  refine wp_iload_n D_jdk_43_m23_9 rfl ?_
  refine wp_icmp_ge D_jdk_43_m23_10 (pc'' := 31) ⟨by decide, by decide⟩ (fun h3 => by exact absurd h3 (by decide)) (fun h3 => ?_)
  refine wp_aload_n D_jdk_43_m23_13 rfl rfl ?_
  refine wp_iload D_jdk_43_m23_14 rfl ?_
  refine wp_baload (i := 1) (1) D_jdk_43_m23_16 rfl (by decide) (by decide) rfl ?_
  refine wp_iload D_jdk_43_m23_17 rfl ?_
  refine wp_icmp_ne D_jdk_43_m23_19 (pc'' := 25) ⟨by decide, by decide⟩ (fun h4 => ?_) (fun h4 => by exact absurd h4 hq1)
  refine wp_iinc 1 #[.val (.ref v), .val (.int 35), .val (.int 0), .val (.int 4), .val (.int 35), .val (.int 2)] D_jdk_43_m23_25 rfl rfl (by rw [show (1 : Int32) + (1 : Int32) = (2 : Int32) from by decide]; rfl) ?_
  refine wp_goto D_jdk_43_m23_28 (pc'' := 7) ⟨by decide, by decide⟩ ?_
  refine wp_iload D_jdk_43_m23_7 rfl ?_
  refine wp_iload_n D_jdk_43_m23_9 rfl ?_
  refine wp_icmp_ge D_jdk_43_m23_10 (pc'' := 31) ⟨by decide, by decide⟩ (fun h5 => by exact absurd h5 (by decide)) (fun h5 => ?_)
  refine wp_aload_n D_jdk_43_m23_13 rfl rfl ?_
  refine wp_iload D_jdk_43_m23_14 rfl ?_
  refine wp_baload (i := 1) (2) D_jdk_43_m23_16 rfl (by decide) (by decide) rfl ?_
  refine wp_iload D_jdk_43_m23_17 rfl ?_
  refine wp_icmp_ne D_jdk_43_m23_19 (pc'' := 25) ⟨by decide, by decide⟩ (fun h6 => ?_) (fun h6 => by exact absurd h6 hq2)
  refine wp_iinc 1 #[.val (.ref v), .val (.int 35), .val (.int 0), .val (.int 4), .val (.int 35), .val (.int 3)] D_jdk_43_m23_25 rfl rfl (by rw [show (2 : Int32) + (1 : Int32) = (3 : Int32) from by decide]; rfl) ?_
  refine wp_goto D_jdk_43_m23_28 (pc'' := 7) ⟨by decide, by decide⟩ ?_
  refine wp_iload D_jdk_43_m23_7 rfl ?_
  refine wp_iload_n D_jdk_43_m23_9 rfl ?_
  refine wp_icmp_ge D_jdk_43_m23_10 (pc'' := 31) ⟨by decide, by decide⟩ (fun h7 => by exact absurd h7 (by decide)) (fun h7 => ?_)
  refine wp_aload_n D_jdk_43_m23_13 rfl rfl ?_
  refine wp_iload D_jdk_43_m23_14 rfl ?_
  refine wp_baload (i := 1) (3) D_jdk_43_m23_16 rfl (by decide) (by decide) rfl ?_
  refine wp_iload D_jdk_43_m23_17 rfl ?_
  refine wp_icmp_ne D_jdk_43_m23_19 (pc'' := 25) ⟨by decide, by decide⟩ (fun h8 => by exact absurd hq3 h8) (fun h8 => ?_)
  refine wp_iload D_jdk_43_m23_22 rfl ?_
  refine wp_ireturn D_jdk_43_m23_24 rfl (by decide) (by decide) ?_
  exact ⟨rfl, rfl⟩
def Q_c_min_4_3  (F : OH) : Option Value → OH → Prop := fun w' H' => w' = some (.int 3) ∧ H' = F
set_option maxRecDepth 65536 in
set_option maxHeartbeats 40000000 in
theorem c_min_4_3 (l : Launch) (Z : State) (a0 : Array Value) (hw : HW Z a0)  (F : OH) :
    Met l Z (⟨"java/lang/Math", "min", "(II)I"⟩ : MethodName) jdk_29_method_69_code 2 (some .int) (rm4 0 0 0 0) [(.int 4), (.int 3)] F (Q_c_min_4_3 F) := by
  refine Met.of_wp (Ls := #[.val (.int 4), .val (.int 3)]) pn_15 (fun m => (entry_loc m _ _).trans rfl) ?_
  show W17 l Z (rm4 0 0 0 0) F 0 0 0 #[.val (.int 4), .val (.int 3)] [] (Q_c_min_4_3 F)
  refine wp_iload_n D_jdk_29_m69_0 rfl ?_
  refine wp_iload_n D_jdk_29_m69_1 rfl ?_
  refine wp_icmp_gt D_jdk_29_m69_2 (pc'' := 9) ⟨by decide, by decide⟩ (fun h1 => ?_) (fun h1 => by exact absurd h1 (by decide))
  refine wp_iload_n D_jdk_29_m69_9 rfl ?_
  refine wp_ireturn D_jdk_29_m69_10 rfl (by decide) (by decide) ?_
  exact ⟨rfl, rfl⟩
def Q_c_crb_4_0_3 (a s v : Addr) (y0 y1 y2 y3 : Int32) (F : OH) : Option Value → OH → Prop := fun w' H' => ∃ b', w' = some (.ref b') ∧ H' = ((b', oA .byte [y0, y1, y2]) :: (a, oS (.null)) :: (s, strO v) :: (v, fA .byte [y0, y1, y2, y3]) :: F)
set_option maxRecDepth 65536 in
set_option maxHeartbeats 40000000 in
theorem c_crb_4_0_3 (l : Launch) (Z : State) (a0 : Array Value) (hw : HW Z a0) (a s v : Addr) (y0 y1 y2 y3 : Int32) (cp : Int32) (fm : Value) (F : OH) (hs : Std Z cp fm) :
    Met l Z (⟨"java/util/Arrays", "copyOfRangeByte", "([BII)[B"⟩ : MethodName) jdk_65_method_133_code 5 (some (.array .byte)) (rm4 1 1 3 20) [(.ref v), (.int 0), (.int 3)] ((a, oS (.null)) :: (s, strO v) :: (v, fA .byte [y0, y1, y2, y3]) :: F) (Q_c_crb_4_0_3 a s v y0 y1 y2 y3 F) := by
  refine Met.of_wp (Ls := #[.val (.ref v), .val (.int 0), .val (.int 3), .unset, .unset]) pn_26 (fun m => (entry_loc m _ _).trans rfl) ?_
  show W29 l Z (rm4 1 1 3 20) ((a, oS (.null)) :: (s, strO v) :: (v, fA .byte [y0, y1, y2, y3]) :: F) 0 0 0 #[.val (.ref v), .val (.int 0), .val (.int 3), .unset, .unset] [] (Q_c_crb_4_0_3 a s v y0 y1 y2 y3 F)
  refine wp_iload_n D_jdk_65_m133_0 rfl ?_
  refine wp_iload_n D_jdk_65_m133_1 rfl ?_
  refine wp_callS (c_ckl l Z a0 hw 0 3 ((a, oS (.null)) :: (s, strO v) :: (v, fA .byte [y0, y1, y2, y3]) :: F) (by decide)) D_jdk_65_m133_2 (gw hw 124 rfl) (gw hw 125 rfl) (gw hw 119 rfl) (gw hw 126 rfl) (by decide) pd_16 rfl rfl rfl (lb rfl) (lb rfl) (lb rfl) (lb rfl) ?_
  rintro _ _ ⟨rfl, rfl⟩
  show W29 l Z (rm4 1 1 3 20) ((a, oS (.null)) :: (s, strO v) :: (v, fA .byte [y0, y1, y2, y3]) :: F) 0 0 5 #[.val (.ref v), .val (.int 0), .val (.int 3), .unset, .unset] [] (Q_c_crb_4_0_3 a s v y0 y1 y2 y3 F)
  refine wp_iload_n D_jdk_65_m133_5 rfl ?_
  refine wp_iload_n D_jdk_65_m133_6 rfl ?_
  refine wp_isub D_jdk_65_m133_7 ?_
  rw [show ((3 : Int32) - (0 : Int32)) = (3 : Int32) from by decide]
  refine wp_istore_n #[.val (.ref v), .val (.int 0), .val (.int 3), .val (.int 3), .unset] D_jdk_65_m133_8 rfl ?_
  refine wp_iload_n D_jdk_65_m133_9 rfl ?_
  refine wp_newarrayI (n := (3 : Int32)) (3) 3 D_jdk_65_m133_10 rfl rfl rfl (gw hw 20 rfl) (by decide) (by decide) (by decide) (by decide) (by decide) (by decide) ?_
  intro a1
  show W29 l Z (rm4 1 1 3 20) ((a1, oA .byte [(0 : Int32), (0 : Int32), (0 : Int32)]) :: (a, oS (.null)) :: (s, strO v) :: (v, fA .byte [y0, y1, y2, y3]) :: F) 1 3 12 #[.val (.ref v), .val (.int 0), .val (.int 3), .val (.int 3), .unset] [(.ref a1)] (Q_c_crb_4_0_3 a s v y0 y1 y2 y3 F)
  refine wp_astore #[.val (.ref v), .val (.int 0), .val (.int 3), .val (.int 3), .val (.ref a1)] D_jdk_65_m133_12 rfl rfl ?_
  refine wp_aload_n D_jdk_65_m133_14 rfl rfl ?_
  refine wp_iload_n D_jdk_65_m133_15 rfl ?_
  refine wp_aload D_jdk_65_m133_16 rfl rfl ?_
  refine wp_iconst 0 D_jdk_65_m133_18 (by decide) ?_
  refine wp_aload_n D_jdk_65_m133_19 rfl rfl ?_
  refine wp_lengthI (i := 3) (4 : Int32) D_jdk_65_m133_20 rfl rfl ?_
  refine wp_iload_n D_jdk_65_m133_21 rfl ?_
  refine wp_isub D_jdk_65_m133_22 ?_
  rw [show ((4 : Int32) - (0 : Int32)) = (4 : Int32) from by decide]
  refine wp_iload_n D_jdk_65_m133_23 rfl ?_
  refine wp_callS (c_min_4_3 l Z a0 hw  ((a1, oA .byte [(0 : Int32), (0 : Int32), (0 : Int32)]) :: (a, oS (.null)) :: (s, strO v) :: (v, fA .byte [y0, y1, y2, y3]) :: F) ) D_jdk_65_m133_24 (gw hw 127 rfl) (gw hw 69 rfl) (gw hw 66 rfl) (gw hw 70 rfl) (by decide) pd_3 rfl rfl rfl (lb rfl) (lb rfl) (lb rfl) (lb rfl) ?_
  rintro _ _ ⟨rfl, rfl⟩
  show W29 l Z (rm4 1 1 3 20) ((a1, oA .byte [(0 : Int32), (0 : Int32), (0 : Int32)]) :: (a, oS (.null)) :: (s, strO v) :: (v, fA .byte [y0, y1, y2, y3]) :: F) 1 3 27 #[.val (.ref v), .val (.int 0), .val (.int 3), .val (.int 3), .val (.ref a1)] [(.int 3), (.int 0), (.ref a1), (.int 0), (.ref v)] (Q_c_crb_4_0_3 a s v y0 y1 y2 y3 F)
  refine wp_arraycopyI (i := 3) (i' := 0) 0 0 3 D_jdk_65_m133_27 (gw hw 128 rfl) (gw hw 131 rfl) (gw hw 129 rfl) (gw hw 130 rfl) rfl rfl rfl (by decide) (by decide) (by decide) (by decide) (by decide) (by decide) (by first | exact Nat.le_of_ble_eq_true rfl | simp) (by first | exact Nat.le_of_ble_eq_true rfl | simp) (by first | exact Nat.le_of_ble_eq_true rfl | simp) (by first | exact Nat.le_of_ble_eq_true rfl | simp) rfl (by decide) (by decide) ?_
  show W29 l Z (rm4 1 1 3 20) ((a1, oA .byte [y0, y1, y2]) :: (a, oS (.null)) :: (s, strO v) :: (v, fA .byte [y0, y1, y2, y3]) :: F) 1 3 30 #[.val (.ref v), .val (.int 0), .val (.int 3), .val (.int 3), .val (.ref a1)] [] (Q_c_crb_4_0_3 a s v y0 y1 y2 y3 F)
  refine wp_aload D_jdk_65_m133_30 rfl rfl ?_
  refine wp_areturn D_jdk_65_m133_32 rfl rfl rfl rfl (by decide) (by decide) ?_
  exact ⟨_, rfl, rfl⟩
def Q_c_cor_4_0_3 (a s v : Addr) (y0 y1 y2 y3 : Int32) (F : OH) : Option Value → OH → Prop := fun w' H' => ∃ b', w' = some (.ref b') ∧ H' = ((b', oA .byte [y0, y1, y2]) :: (a, oS (.null)) :: (s, strO v) :: (v, fA .byte [y0, y1, y2, y3]) :: F)
set_option maxRecDepth 65536 in
set_option maxHeartbeats 40000000 in
theorem c_cor_4_0_3 (l : Launch) (Z : State) (a0 : Array Value) (hw : HW Z a0) (a s v : Addr) (y0 y1 y2 y3 : Int32) (cp : Int32) (fm : Value) (F : OH) (hs : Std Z cp fm) :
    Met l Z (⟨"java/util/Arrays", "copyOfRange", "([BII)[B"⟩ : MethodName) jdk_65_method_132_code 3 (some (.array .byte)) (rm4 2 1 3 36) [(.ref v), (.int 0), (.int 3)] ((a, oS (.null)) :: (s, strO v) :: (v, fA .byte [y0, y1, y2, y3]) :: F) (Q_c_cor_4_0_3 a s v y0 y1 y2 y3 F) := by
  refine Met.of_wp (Ls := #[.val (.ref v), .val (.int 0), .val (.int 3)]) pn_27 (fun m => (entry_loc m _ _).trans rfl) ?_
  show W30 l Z (rm4 2 1 3 36) ((a, oS (.null)) :: (s, strO v) :: (v, fA .byte [y0, y1, y2, y3]) :: F) 0 0 0 #[.val (.ref v), .val (.int 0), .val (.int 3)] [] (Q_c_cor_4_0_3 a s v y0 y1 y2 y3 F)
  refine wp_iload_n D_jdk_65_m132_0 rfl ?_
  refine wp_if_ne D_jdk_65_m132_1 (pc'' := 10) ⟨by decide, by decide⟩ (fun h1 => by exact absurd h1 (by decide)) (fun h1 => ?_)
  refine wp_iload_n D_jdk_65_m132_4 rfl ?_
  refine wp_aload_n D_jdk_65_m132_5 rfl rfl ?_
  refine wp_lengthI (i := 2) (4 : Int32) D_jdk_65_m132_6 rfl rfl ?_
  refine wp_icmp_eq D_jdk_65_m132_7 (pc'' := 17) ⟨by decide, by decide⟩ (fun h2 => by exact absurd h2 (by decide)) (fun h2 => ?_)
  refine wp_aload_n D_jdk_65_m132_10 rfl rfl ?_
  refine wp_iload_n D_jdk_65_m132_11 rfl ?_
  refine wp_iload_n D_jdk_65_m132_12 rfl ?_
  refine wp_callS (c_crb_4_0_3 l Z a0 hw a s v y0 y1 y2 y3 cp fm F hs ) D_jdk_65_m132_13 (gw hw 121 rfl) (gw hw 122 rfl) (gw hw 119 rfl) (gw hw 123 rfl) (by decide) pd_17 rfl rfl rfl (lb rfl) (lb rfl) (lb rfl) (lb rfl) ?_
  rintro _ _ ⟨b3, rfl, rfl⟩
  show W30 l Z (rm4 2 1 3 36) ((b3, oA .byte [y0, y1, y2]) :: (a, oS (.null)) :: (s, strO v) :: (v, fA .byte [y0, y1, y2, y3]) :: F) 1 3 16 #[.val (.ref v), .val (.int 0), .val (.int 3)] [(.ref b3)] (Q_c_cor_4_0_3 a s v y0 y1 y2 y3 F)
  refine wp_areturn D_jdk_65_m132_16 rfl rfl rfl rfl (by decide) (by decide) ?_
  exact ⟨_, rfl, rfl⟩
def Q_c_nst_4_0_3 (s v : Addr) (y0 y1 y2 y3 : Int32) (F : OH) : Option Value → OH → Prop := fun w' H' => ∃ a u, w' = some (.ref a) ∧ H' = ((u, fA .byte [y0, y1, y2]) :: (a, strO u) :: (s, strO v) :: (v, fA .byte [y0, y1, y2, y3]) :: F)
set_option maxRecDepth 65536 in
set_option maxHeartbeats 40000000 in
theorem c_nst_4_0_3 (l : Launch) (Z : State) (a0 : Array Value) (hw : HW Z a0) (s v : Addr) (y0 y1 y2 y3 : Int32) (cp : Int32) (fm : Value) (F : OH) (hs : Std Z cp fm) :
    Met l Z (⟨"java/lang/StringLatin1", "newString", "([BII)Ljava/lang/String;"⟩ : MethodName) jdk_43_method_47_code 3 (some (.object "java/lang/String")) (rm4 3 2 7 52) [(.ref v), (.int 0), (.int 3)] ((s, strO v) :: (v, fA .byte [y0, y1, y2, y3]) :: F) (Q_c_nst_4_0_3 s v y0 y1 y2 y3 F) := by
  refine Met.of_wp (Ls := #[.val (.ref v), .val (.int 0), .val (.int 3)]) pn_23 (fun m => (entry_loc m _ _).trans rfl) ?_
  show W32 l Z (rm4 3 2 7 52) ((s, strO v) :: (v, fA .byte [y0, y1, y2, y3]) :: F) 0 0 0 #[.val (.ref v), .val (.int 0), .val (.int 3)] [] (Q_c_nst_4_0_3 s v y0 y1 y2 y3 F)
  refine wp_iload_n D_jdk_43_m47_0 rfl ?_
  refine wp_if_ne D_jdk_43_m47_1 (pc'' := 7) ⟨by decide, by decide⟩ (fun h1 => ?_) (fun h1 => by exact absurd h1 (by decide))
  refine wp_new sgStr [(.null), (.int 0)] D_jdk_43_m47_7 (gw hw 116 rfl) (gw hw 6 rfl) (gw hw 7 rfl) (laid_sgStr l Z a0 hw) (by decide) dfl_sgStr (by decide) (by decide) ?_
  intro a2
  show W32 l Z (rm4 3 2 7 52) ((a2, oS (.null)) :: (s, strO v) :: (v, fA .byte [y0, y1, y2, y3]) :: F) 1 4 10 #[.val (.ref v), .val (.int 0), .val (.int 3)] [(.ref a2)] (Q_c_nst_4_0_3 s v y0 y1 y2 y3 F)
  refine wp_dup D_jdk_43_m47_10 rfl ?_
  refine wp_aload_n D_jdk_43_m47_11 rfl rfl ?_
  refine wp_iload_n D_jdk_43_m47_12 rfl ?_
  refine wp_iload_n D_jdk_43_m47_13 rfl ?_
  refine wp_iload_n D_jdk_43_m47_14 rfl ?_
  refine wp_iadd D_jdk_43_m47_15 ?_
  rw [show ((0 : Int32) + (3 : Int32)) = (3 : Int32) from by decide]
  refine wp_callS (c_cor_4_0_3 l Z a0 hw a2 s v y0 y1 y2 y3 cp fm F hs ) D_jdk_43_m47_16 (gw hw 117 rfl) (gw hw 118 rfl) (gw hw 119 rfl) (gw hw 120 rfl) (by decide) pd_17 rfl rfl rfl (lb rfl) (lb rfl) (lb rfl) (lb rfl) ?_
  rintro _ _ ⟨b3, rfl, rfl⟩
  show W32 l Z (rm4 3 2 7 52) ((b3, oA .byte [y0, y1, y2]) :: (a2, oS (.null)) :: (s, strO v) :: (v, fA .byte [y0, y1, y2, y3]) :: F) 2 7 19 #[.val (.ref v), .val (.int 0), .val (.int 3)] [(.ref b3), (.ref a2), (.ref a2)] (Q_c_nst_4_0_3 s v y0 y1 y2 y3 F)
  refine wp_iconst 0 D_jdk_43_m47_19 (by decide) ?_
  refine wp_init (c_sbb l Z a0 hw b3 a2 [y0, y1, y2] ((s, strO v) :: (v, fA .byte [y0, y1, y2, y3]) :: F) ) D_jdk_43_m47_20 rfl (gw hw 132 rfl) (gw hw 133 rfl) (gw hw 7 rfl) (gw hw 134 rfl) (by decide) pd_18 rfl rfl rfl (lb rfl) (lb rfl) (lb rfl) (lb rfl) ?_
  rintro _ _ ⟨rfl, rfl⟩
  show W32 l Z (rm4 3 2 7 52) ((b3, oA .byte [y0, y1, y2]) :: (a2, oS (.ref b3)) :: (s, strO v) :: (v, fA .byte [y0, y1, y2, y3]) :: F) 2 7 23 #[.val (.ref v), .val (.int 0), .val (.int 3)] [(.ref a2)] (Q_c_nst_4_0_3 s v y0 y1 y2 y3 F)
  refine Wp.frz (i := 0) rfl ?_
  refine Wp.frz (i := 1) rfl ?_
  show W32 l Z (rm4 3 2 7 52) ((b3, fA .byte [y0, y1, y2]) :: (a2, strO b3) :: (s, strO v) :: (v, fA .byte [y0, y1, y2, y3]) :: F) 2 7 23 #[.val (.ref v), .val (.int 0), .val (.int 3)] [(.ref a2)] (Q_c_nst_4_0_3 s v y0 y1 y2 y3 F)
  refine wp_areturn D_jdk_43_m47_23 rfl rfl rfl rfl (by decide) (by decide) ?_
  exact ⟨_, _, rfl, rfl⟩
def Q_c_sub_4_0_3 (s v : Addr) (y0 y1 y2 y3 : Int32) (F : OH) : Option Value → OH → Prop := fun w' H' => ∃ a u, w' = some (.ref a) ∧ H' = ((u, fA .byte [y0, y1, y2]) :: (a, strO u) :: (s, strO v) :: (v, fA .byte [y0, y1, y2, y3]) :: F)
set_option maxRecDepth 65536 in
set_option maxHeartbeats 40000000 in
theorem c_sub_4_0_3 (l : Launch) (Z : State) (a0 : Array Value) (hw : HW Z a0) (s v : Addr) (y0 y1 y2 y3 : Int32) (cp : Int32) (fm : Value) (F : OH) (hs : Std Z cp fm) :
    Met l Z (⟨"java/lang/String", "substring", "(II)Ljava/lang/String;"⟩ : MethodName) jdk_42_method_92_code 5 (some (.object "java/lang/String")) (rm4 4 2 7 66) [(.ref s), (.int 0), (.int 3)] ((s, strO v) :: (v, fA .byte [y0, y1, y2, y3]) :: F) (Q_c_sub_4_0_3 s v y0 y1 y2 y3 F) := by
  refine Met.of_wp (Ls := #[.val (.ref s), .val (.int 0), .val (.int 3), .unset, .unset]) pn_24 (fun m => (entry_loc m _ _).trans rfl) ?_
  show W33 l Z (rm4 4 2 7 66) ((s, strO v) :: (v, fA .byte [y0, y1, y2, y3]) :: F) 0 0 0 #[.val (.ref s), .val (.int 0), .val (.int 3), .unset, .unset] [] (Q_c_sub_4_0_3 s v y0 y1 y2 y3 F)
  refine wp_aload_n D_jdk_42_m92_0 rfl rfl ?_
  refine wp_virtual (c_len_4 l Z a0 hw s v y0 y1 y2 y3 cp fm F hs ) (exa_new (i := 0) rfl) D_jdk_42_m92_1 (gw hw 47 rfl) (gw hw 48 rfl) (gw hw 50 rfl) (gw hw 50 rfl) (gw hw 49 rfl) (gw hw 7 rfl) (gw hw 51 rfl) (by decide) pd_5 rfl rfl rfl (lb rfl) (lb rfl) (lb rfl) (lb rfl) ?_
  rintro _ _ ⟨rfl, rfl⟩
  show W33 l Z (rm4 4 2 7 66) ((s, strO v) :: (v, fA .byte [y0, y1, y2, y3]) :: F) 0 0 4 #[.val (.ref s), .val (.int 0), .val (.int 3), .unset, .unset] [(.int 4)] (Q_c_sub_4_0_3 s v y0 y1 y2 y3 F)
  refine wp_istore_n #[.val (.ref s), .val (.int 0), .val (.int 3), .val (.int 4), .unset] D_jdk_42_m92_4 rfl ?_
  refine wp_iload_n D_jdk_42_m92_5 rfl ?_
  refine wp_iload_n D_jdk_42_m92_6 rfl ?_
  refine wp_iload_n D_jdk_42_m92_7 rfl ?_
  refine wp_callS (c_cbe l Z a0 hw 0 3 4 cp fm ((s, strO v) :: (v, fA .byte [y0, y1, y2, y3]) :: F) hs (by decide) (by decide) (by decide)) D_jdk_42_m92_8 (gw hw 90 rfl) (gw hw 91 rfl) (gw hw 7 rfl) (gw hw 92 rfl) (by decide) pd_10 rfl rfl rfl (lb rfl) (lb rfl) (lb rfl) (lb rfl) ?_
  rintro _ _ ⟨rfl, rfl⟩
  show W33 l Z (rm4 4 2 7 66) ((s, strO v) :: (v, fA .byte [y0, y1, y2, y3]) :: F) 0 0 11 #[.val (.ref s), .val (.int 0), .val (.int 3), .val (.int 4), .unset] [] (Q_c_sub_4_0_3 s v y0 y1 y2 y3 F)
  refine wp_iload_n D_jdk_42_m92_11 rfl ?_
  refine wp_if_ne D_jdk_42_m92_12 (pc'' := 22) ⟨by decide, by decide⟩ (fun h1 => by exact absurd h1 (by decide)) (fun h1 => ?_)
  refine wp_iload_n D_jdk_42_m92_15 rfl ?_
  refine wp_iload_n D_jdk_42_m92_16 rfl ?_
  refine wp_icmp_ne D_jdk_42_m92_17 (pc'' := 22) ⟨by decide, by decide⟩ (fun h2 => ?_) (fun h2 => by exact absurd h2 (by decide))
  refine wp_iload_n D_jdk_42_m92_22 rfl ?_
  refine wp_iload_n D_jdk_42_m92_23 rfl ?_
  refine wp_isub D_jdk_42_m92_24 ?_
  rw [show ((3 : Int32) - (0 : Int32)) = (3 : Int32) from by decide]
  refine wp_istore #[.val (.ref s), .val (.int 0), .val (.int 3), .val (.int 4), .val (.int 3)] D_jdk_42_m92_25 rfl ?_
  refine wp_aload_n D_jdk_42_m92_27 rfl rfl ?_
  refine wp_virtual (c_lat l Z a0 hw s v cp fm ((v, fA .byte [y0, y1, y2, y3]) :: F) hs ) (exa_new (i := 0) rfl) D_jdk_42_m92_28 (gw hw 41 rfl) (gw hw 42 rfl) (gw hw 44 rfl) (gw hw 44 rfl) (gw hw 43 rfl) (gw hw 7 rfl) (gw hw 45 rfl) (by decide) pd_4 rfl rfl rfl (lb rfl) (lb rfl) (lb rfl) (lb rfl) ?_
  rintro _ _ ⟨rfl, rfl⟩
  show W33 l Z (rm4 4 2 7 66) ((s, strO v) :: (v, fA .byte [y0, y1, y2, y3]) :: F) 0 0 31 #[.val (.ref s), .val (.int 0), .val (.int 3), .val (.int 4), .val (.int 3)] [(.int 1)] (Q_c_sub_4_0_3 s v y0 y1 y2 y3 F)
  refine wp_if_eq D_jdk_42_m92_31 (pc'' := 47) ⟨by decide, by decide⟩ (fun h3 => by exact absurd h3 (by decide)) (fun h3 => ?_)
  refine wp_aload_n D_jdk_42_m92_34 rfl rfl ?_
  refine wp_getfield D_jdk_42_m92_35 (gw hw 25 rfl) (fld_new (i := 0) (fi := 0) rfl rfl rfl) ?_
  refine wp_iload_n D_jdk_42_m92_38 rfl ?_
  refine wp_iload D_jdk_42_m92_39 rfl ?_
  refine wp_callS (c_nst_4_0_3 l Z a0 hw s v y0 y1 y2 y3 cp fm F hs ) D_jdk_42_m92_41 (gw hw 98 rfl) (gw hw 99 rfl) (gw hw 59 rfl) (gw hw 100 rfl) (by decide) pd_12 rfl rfl rfl (lb rfl) (lb rfl) (lb rfl) (lb rfl) ?_
  rintro _ _ ⟨sa4, su5, rfl, rfl⟩
  show W33 l Z (rm4 4 2 7 66) ((su5, fA .byte [y0, y1, y2]) :: (sa4, strO su5) :: (s, strO v) :: (v, fA .byte [y0, y1, y2, y3]) :: F) 2 7 44 #[.val (.ref s), .val (.int 0), .val (.int 3), .val (.int 4), .val (.int 3)] [(.ref sa4)] (Q_c_sub_4_0_3 s v y0 y1 y2 y3 F)
  refine wp_goto D_jdk_42_m92_44 (pc'' := 57) ⟨by decide, by decide⟩ ?_
  refine wp_areturn D_jdk_42_m92_57 rfl rfl rfl rfl (by decide) (by decide) ?_
  exact ⟨_, _, rfl, rfl⟩
def Q_c_wf_4_3 (s v : Addr) (y0 y1 y2 y3 : Int32) (F : OH) : Option Value → OH → Prop := fun w' H' => ∃ a u, w' = some (.ref a) ∧ H' = ((u, fA .byte [y0, y1, y2]) :: (a, strO u) :: (s, strO v) :: (v, fA .byte [y0, y1, y2, y3]) :: F)
set_option maxRecDepth 65536 in
set_option maxHeartbeats 40000000 in
theorem c_wf_4_3 (l : Launch) (Z : State) (a0 : Array Value) (hw : HW Z a0) (s v : Addr) (y0 y1 y2 y3 : Int32) (cp : Int32) (fm : Value) (F : OH) (hs : Std Z cp fm) (hq0 : ¬ y0 = 35) (hq1 : ¬ y1 = 35) (hq2 : ¬ y2 = 35) (hq3 : y3 = 35) :
    Met l Z (⟨"com/example/bylint/bylint/description/UriReferences", "withoutFragment", "(Ljava/lang/String;)Ljava/lang/String;"⟩ : MethodName) prog_9_method_5_code 2 (some (.object "java/lang/String")) (rm4 5 2 7 82) [(.ref s)] ((s, strO v) :: (v, fA .byte [y0, y1, y2, y3]) :: F) (Q_c_wf_4_3 s v y0 y1 y2 y3 F) := by
  refine Met.of_wp (Ls := #[.val (.ref s), .unset]) pn_20 (fun m => (entry_loc m _ _).trans rfl) ?_
  show W21 l Z (rm4 5 2 7 82) ((s, strO v) :: (v, fA .byte [y0, y1, y2, y3]) :: F) 0 0 0 #[.val (.ref s), .unset] [] (Q_c_wf_4_3 s v y0 y1 y2 y3 F)
  refine wp_aload_n D_prog_9_m5_0 rfl rfl ?_
  refine wp_bipush 35 D_prog_9_m5_1 (by decide) ?_
  refine wp_virtual (c_si_4 l Z a0 hw s v y0 y1 y2 y3 (3 : Int32) cp fm F hs (c_ioc_4_3 l Z a0 hw s v y0 y1 y2 y3 F hq0 hq1 hq2 hq3)) (exa_new (i := 0) rfl) D_prog_9_m5_3 (gw hw 31 rfl) (gw hw 32 rfl) (gw hw 34 rfl) (gw hw 34 rfl) (gw hw 33 rfl) (gw hw 7 rfl) (gw hw 35 rfl) (by decide) pd_19 rfl rfl rfl (lb rfl) (lb rfl) (lb rfl) (lb rfl) ?_
  rintro _ _ ⟨rfl, rfl⟩
  show W21 l Z (rm4 5 2 7 82) ((s, strO v) :: (v, fA .byte [y0, y1, y2, y3]) :: F) 0 0 6 #[.val (.ref s), .unset] [(.int 3)] (Q_c_wf_4_3 s v y0 y1 y2 y3 F)
  refine wp_istore_n #[.val (.ref s), .val (.int 3)] D_prog_9_m5_6 rfl ?_
  refine wp_iload_n D_prog_9_m5_7 rfl ?_
  refine wp_if_ge D_prog_9_m5_8 (pc'' := 15) ⟨by decide, by decide⟩ (fun h1 => ?_) (fun h1 => by exact absurd h1 (by decide))
  refine wp_aload_n D_prog_9_m5_15 rfl rfl ?_
  refine wp_iconst 0 D_prog_9_m5_16 (by decide) ?_
  refine wp_iload_n D_prog_9_m5_17 rfl ?_
  refine wp_virtual (c_sub_4_0_3 l Z a0 hw s v y0 y1 y2 y3 cp fm F hs ) (exa_new (i := 0) rfl) D_prog_9_m5_18 (gw hw 85 rfl) (gw hw 86 rfl) (gw hw 88 rfl) (gw hw 88 rfl) (gw hw 87 rfl) (gw hw 7 rfl) (gw hw 89 rfl) (by decide) pd_20 rfl rfl rfl (lb rfl) (lb rfl) (lb rfl) (lb rfl) ?_
  rintro _ _ ⟨sa2, su3, rfl, rfl⟩
  show W21 l Z (rm4 5 2 7 82) ((su3, fA .byte [y0, y1, y2]) :: (sa2, strO su3) :: (s, strO v) :: (v, fA .byte [y0, y1, y2, y3]) :: F) 2 7 21 #[.val (.ref s), .val (.int 3)] [(.ref sa2)] (Q_c_wf_4_3 s v y0 y1 y2 y3 F)
  refine wp_areturn D_prog_9_m5_21 rfl rfl rfl rfl (by decide) (by decide) ?_
  exact ⟨_, _, rfl, rfl⟩
theorem pd_22 : parseMethodDescriptor "(I)C" = some ⟨[.int], (some .char)⟩ := by decide +kernel
theorem pd_23 : parseMethodDescriptor "([C)V" = some ⟨[(.array .char)], none⟩ := by decide +kernel
theorem pd_24 : parseMethodDescriptor "(Ljava/lang/String;)Ljava/lang/String;" = some ⟨[(.object "java/lang/String")], (some (.object "java/lang/String"))⟩ := by decide +kernel
theorem pn_29 : plainFor (⟨"com/example/bylint/bylint/description/UriReferencesWithoutFragmentPinLaw", "ch", "(I)C"⟩ : MethodName) = true := by first | exact plainFor_of_name (by first | (simp [plainName, overriddenIn]; done) | decide +kernel) | decide +kernel
def Q_c_ch (x : Int32) (F : OH) : Option Value → OH → Prop := fun w' H' => ∃ c, w' = some (.int c) ∧ (0 ≤ c.toInt ∧ c.toInt ≤ 255) ∧ H' = F
theorem D_m2_0 : Dc method_2_code 0 (.iload_n 0) 1 1 := ⟨by decide +kernel, rfl⟩
theorem D_m2_1 : Dc method_2_code 1 (.iconst 3) 1 2 := ⟨by decide +kernel, rfl⟩
theorem D_m2_2 : Dc method_2_code 2 (.iand) 1 3 := ⟨by decide +kernel, rfl⟩
theorem D_m2_3 : Dc method_2_code 3 (.ifCond .ne 8) 3 6 := ⟨by decide +kernel, rfl⟩
theorem D_m2_6 : Dc method_2_code 6 (.bipush 35) 2 8 := ⟨by decide +kernel, rfl⟩
theorem D_m2_8 : Dc method_2_code 8 (.goto 11) 3 11 := ⟨by decide +kernel, rfl⟩
theorem D_m2_11 : Dc method_2_code 11 (.iload_n 0) 1 12 := ⟨by decide +kernel, rfl⟩
theorem D_m2_12 : Dc method_2_code 12 (.iconst 2) 1 13 := ⟨by decide +kernel, rfl⟩
theorem D_m2_13 : Dc method_2_code 13 (.iushr) 1 14 := ⟨by decide +kernel, rfl⟩
theorem D_m2_14 : Dc method_2_code 14 (.sipush 255) 3 17 := ⟨by decide +kernel, rfl⟩
theorem D_m2_17 : Dc method_2_code 17 (.iand) 1 18 := ⟨by decide +kernel, rfl⟩
theorem D_m2_18 : Dc method_2_code 18 (.i2c) 1 19 := ⟨by decide +kernel, rfl⟩
theorem D_m2_19 : Dc method_2_code 19 (.ireturn) 1 20 := ⟨by decide +kernel, rfl⟩
abbrev W34 (l : Launch) (Z : State) := Wp none l Z "com/example/bylint/bylint/description/UriReferencesWithoutFragmentPinLaw" "ch" method_2_code 1 (some .char)
set_option maxRecDepth 65536 in
set_option maxHeartbeats 40000000 in
theorem c_ch (l : Launch) (Z : State) (a0 : Array Value) (hw : HW Z a0) (x : Int32) (F : OH) :
    Met l Z (⟨"com/example/bylint/bylint/description/UriReferencesWithoutFragmentPinLaw", "ch", "(I)C"⟩ : MethodName) method_2_code 1 (some .char) (rm4 0 0 0 0) [(.int x)] F (Q_c_ch x F) := by
  refine Met.of_wp (Ls := #[.val (.int x)]) pn_29 (fun m => (entry_loc m _ _).trans rfl) ?_
  show W34 l Z (rm4 0 0 0 0) F 0 0 0 #[.val (.int x)] [] (Q_c_ch x F)
  refine wp_iload_n D_m2_0 rfl ?_
  refine wp_iconst 3 D_m2_1 (by decide) ?_
  refine wp_iand D_m2_2 ?_
  refine wp_if_ne D_m2_3 (pc'' := 11) ⟨by decide, by decide⟩ (fun h1 => ?_) (fun h1 => ?_)
  · skip
    refine wp_iload_n D_m2_11 rfl ?_
    refine wp_iconst 2 D_m2_12 (by decide) ?_
    refine wp_iushr D_m2_13 ?_
    refine wp_sipush 255 D_m2_14 (by decide) ?_
    refine wp_iand D_m2_17 ?_
    refine wp_i2c D_m2_18 ?_
    refine wp_ireturnN D_m2_19 rfl (by simp) (by decide) (by decide) ?_
    exact ⟨_, rfl, own_ch _, rfl⟩
  · skip
    refine wp_bipush 35 D_m2_6 (by decide) ?_
    refine wp_goto D_m2_8 (pc'' := 19) ⟨by decide, by decide⟩ ?_
    refine wp_ireturnN D_m2_19 rfl (by simp) (by decide) (by decide) ?_
    exact ⟨_, rfl, by decide, rfl⟩
theorem pn_30 : plainFor (⟨"com/example/bylint/bylint/description/UriReferencesWithoutFragmentPinLaw", "law", "(IIIII)Z"⟩ : MethodName) = true := by first | exact plainFor_of_name (by first | (simp [plainName, overriddenIn]; done) | decide +kernel) | decide +kernel
def Q_law : Option Value → OH → Prop := fun v H' => v = some (.int 1)
theorem D_0 : Dc code 0 (.iload_n 0) 1 1 := ⟨at_0, rfl⟩
theorem D_1 : Dc code 1 (.ldc 7) 2 3 := ⟨at_1, rfl⟩
theorem D_3 : Dc code 3 (.iand) 1 4 := ⟨at_3, rfl⟩
theorem D_4 : Dc code 4 (.iconst 5) 1 5 := ⟨at_4, rfl⟩
theorem D_5 : Dc code 5 (.irem) 1 6 := ⟨at_5, rfl⟩
theorem D_6 : Dc code 6 (.istore 5) 2 8 := ⟨at_6, rfl⟩
theorem D_8 : Dc code 8 (.iload_n 1) 1 9 := ⟨at_8, rfl⟩
theorem D_9 : Dc code 9 (.invokestatic 8) 3 12 := ⟨at_9, rfl⟩
theorem D_12 : Dc code 12 (.istore 6) 2 14 := ⟨at_12, rfl⟩
theorem D_14 : Dc code 14 (.iload_n 2) 1 15 := ⟨at_14, rfl⟩
theorem D_15 : Dc code 15 (.invokestatic 8) 3 18 := ⟨at_15, rfl⟩
theorem D_18 : Dc code 18 (.istore 7) 2 20 := ⟨at_18, rfl⟩
theorem D_20 : Dc code 20 (.iload_n 3) 1 21 := ⟨at_20, rfl⟩
theorem D_21 : Dc code 21 (.invokestatic 8) 3 24 := ⟨at_21, rfl⟩
theorem D_24 : Dc code 24 (.istore 8) 2 26 := ⟨at_24, rfl⟩
theorem D_26 : Dc code 26 (.iload 4) 2 28 := ⟨at_26, rfl⟩
theorem D_28 : Dc code 28 (.invokestatic 8) 3 31 := ⟨at_28, rfl⟩
theorem D_31 : Dc code 31 (.istore 9) 2 33 := ⟨at_31, rfl⟩
theorem D_33 : Dc code 33 (.iload 5) 2 35 := ⟨at_33, rfl⟩
theorem D_35 : Dc code 35 (.ifCond .ne 18) 3 38 := ⟨at_35, rfl⟩
theorem D_38 : Dc code 38 (.new 14) 3 41 := ⟨at_38, rfl⟩
theorem D_41 : Dc code 41 (.dup) 1 42 := ⟨at_41, rfl⟩
theorem D_42 : Dc code 42 (.iconst 0) 1 43 := ⟨at_42, rfl⟩
theorem D_43 : Dc code 43 (.newarray .char) 2 45 := ⟨at_43, rfl⟩
theorem D_45 : Dc code 45 (.invokespecial 16) 3 48 := ⟨at_45, rfl⟩
theorem D_48 : Dc code 48 (.astore 10) 2 50 := ⟨at_48, rfl⟩
theorem D_50 : Dc code 50 (.goto 128) 3 53 := ⟨at_50, rfl⟩
theorem D_53 : Dc code 53 (.iload 5) 2 55 := ⟨at_53, rfl⟩
theorem D_55 : Dc code 55 (.iconst 1) 1 56 := ⟨at_55, rfl⟩
theorem D_56 : Dc code 56 (.if_icmp .ne 23) 3 59 := ⟨at_56, rfl⟩
theorem D_59 : Dc code 59 (.new 14) 3 62 := ⟨at_59, rfl⟩
theorem D_62 : Dc code 62 (.dup) 1 63 := ⟨at_62, rfl⟩
theorem D_63 : Dc code 63 (.iconst 1) 1 64 := ⟨at_63, rfl⟩
theorem D_64 : Dc code 64 (.newarray .char) 2 66 := ⟨at_64, rfl⟩
theorem D_66 : Dc code 66 (.dup) 1 67 := ⟨at_66, rfl⟩
theorem D_67 : Dc code 67 (.iconst 0) 1 68 := ⟨at_67, rfl⟩
theorem D_68 : Dc code 68 (.iload 6) 2 70 := ⟨at_68, rfl⟩
theorem D_70 : Dc code 70 (.castore) 1 71 := ⟨at_70, rfl⟩
theorem D_71 : Dc code 71 (.invokespecial 16) 3 74 := ⟨at_71, rfl⟩
theorem D_74 : Dc code 74 (.astore 10) 2 76 := ⟨at_74, rfl⟩
theorem D_76 : Dc code 76 (.goto 102) 3 79 := ⟨at_76, rfl⟩
theorem D_79 : Dc code 79 (.iload 5) 2 81 := ⟨at_79, rfl⟩
theorem D_81 : Dc code 81 (.iconst 2) 1 82 := ⟨at_81, rfl⟩
theorem D_82 : Dc code 82 (.if_icmp .ne 28) 3 85 := ⟨at_82, rfl⟩
theorem D_85 : Dc code 85 (.new 14) 3 88 := ⟨at_85, rfl⟩
theorem D_88 : Dc code 88 (.dup) 1 89 := ⟨at_88, rfl⟩
theorem D_89 : Dc code 89 (.iconst 2) 1 90 := ⟨at_89, rfl⟩
theorem D_90 : Dc code 90 (.newarray .char) 2 92 := ⟨at_90, rfl⟩
theorem D_92 : Dc code 92 (.dup) 1 93 := ⟨at_92, rfl⟩
theorem D_93 : Dc code 93 (.iconst 0) 1 94 := ⟨at_93, rfl⟩
theorem D_94 : Dc code 94 (.iload 6) 2 96 := ⟨at_94, rfl⟩
theorem D_96 : Dc code 96 (.castore) 1 97 := ⟨at_96, rfl⟩
theorem D_97 : Dc code 97 (.dup) 1 98 := ⟨at_97, rfl⟩
theorem D_98 : Dc code 98 (.iconst 1) 1 99 := ⟨at_98, rfl⟩
theorem D_99 : Dc code 99 (.iload 7) 2 101 := ⟨at_99, rfl⟩
theorem D_101 : Dc code 101 (.castore) 1 102 := ⟨at_101, rfl⟩
theorem D_102 : Dc code 102 (.invokespecial 16) 3 105 := ⟨at_102, rfl⟩
theorem D_105 : Dc code 105 (.astore 10) 2 107 := ⟨at_105, rfl⟩
theorem D_107 : Dc code 107 (.goto 71) 3 110 := ⟨at_107, rfl⟩
theorem D_110 : Dc code 110 (.iload 5) 2 112 := ⟨at_110, rfl⟩
theorem D_112 : Dc code 112 (.iconst 3) 1 113 := ⟨at_112, rfl⟩
theorem D_113 : Dc code 113 (.if_icmp .ne 33) 3 116 := ⟨at_113, rfl⟩
theorem D_116 : Dc code 116 (.new 14) 3 119 := ⟨at_116, rfl⟩
theorem D_119 : Dc code 119 (.dup) 1 120 := ⟨at_119, rfl⟩
theorem D_120 : Dc code 120 (.iconst 3) 1 121 := ⟨at_120, rfl⟩
theorem D_121 : Dc code 121 (.newarray .char) 2 123 := ⟨at_121, rfl⟩
theorem D_123 : Dc code 123 (.dup) 1 124 := ⟨at_123, rfl⟩
theorem D_124 : Dc code 124 (.iconst 0) 1 125 := ⟨at_124, rfl⟩
theorem D_125 : Dc code 125 (.iload 6) 2 127 := ⟨at_125, rfl⟩
theorem D_127 : Dc code 127 (.castore) 1 128 := ⟨at_127, rfl⟩
theorem D_128 : Dc code 128 (.dup) 1 129 := ⟨at_128, rfl⟩
theorem D_129 : Dc code 129 (.iconst 1) 1 130 := ⟨at_129, rfl⟩
theorem D_130 : Dc code 130 (.iload 7) 2 132 := ⟨at_130, rfl⟩
theorem D_132 : Dc code 132 (.castore) 1 133 := ⟨at_132, rfl⟩
theorem D_133 : Dc code 133 (.dup) 1 134 := ⟨at_133, rfl⟩
theorem D_134 : Dc code 134 (.iconst 2) 1 135 := ⟨at_134, rfl⟩
theorem D_135 : Dc code 135 (.iload 8) 2 137 := ⟨at_135, rfl⟩
theorem D_137 : Dc code 137 (.castore) 1 138 := ⟨at_137, rfl⟩
theorem D_138 : Dc code 138 (.invokespecial 16) 3 141 := ⟨at_138, rfl⟩
theorem D_141 : Dc code 141 (.astore 10) 2 143 := ⟨at_141, rfl⟩
theorem D_143 : Dc code 143 (.goto 35) 3 146 := ⟨at_143, rfl⟩
theorem D_146 : Dc code 146 (.new 14) 3 149 := ⟨at_146, rfl⟩
theorem D_149 : Dc code 149 (.dup) 1 150 := ⟨at_149, rfl⟩
theorem D_150 : Dc code 150 (.iconst 4) 1 151 := ⟨at_150, rfl⟩
theorem D_151 : Dc code 151 (.newarray .char) 2 153 := ⟨at_151, rfl⟩
theorem D_153 : Dc code 153 (.dup) 1 154 := ⟨at_153, rfl⟩
theorem D_154 : Dc code 154 (.iconst 0) 1 155 := ⟨at_154, rfl⟩
theorem D_155 : Dc code 155 (.iload 6) 2 157 := ⟨at_155, rfl⟩
theorem D_157 : Dc code 157 (.castore) 1 158 := ⟨at_157, rfl⟩
theorem D_158 : Dc code 158 (.dup) 1 159 := ⟨at_158, rfl⟩
theorem D_159 : Dc code 159 (.iconst 1) 1 160 := ⟨at_159, rfl⟩
theorem D_160 : Dc code 160 (.iload 7) 2 162 := ⟨at_160, rfl⟩
theorem D_162 : Dc code 162 (.castore) 1 163 := ⟨at_162, rfl⟩
theorem D_163 : Dc code 163 (.dup) 1 164 := ⟨at_163, rfl⟩
theorem D_164 : Dc code 164 (.iconst 2) 1 165 := ⟨at_164, rfl⟩
theorem D_165 : Dc code 165 (.iload 8) 2 167 := ⟨at_165, rfl⟩
theorem D_167 : Dc code 167 (.castore) 1 168 := ⟨at_167, rfl⟩
theorem D_168 : Dc code 168 (.dup) 1 169 := ⟨at_168, rfl⟩
theorem D_169 : Dc code 169 (.iconst 3) 1 170 := ⟨at_169, rfl⟩
theorem D_170 : Dc code 170 (.iload 9) 2 172 := ⟨at_170, rfl⟩
theorem D_172 : Dc code 172 (.castore) 1 173 := ⟨at_172, rfl⟩
theorem D_173 : Dc code 173 (.invokespecial 16) 3 176 := ⟨at_173, rfl⟩
theorem D_176 : Dc code 176 (.astore 10) 2 178 := ⟨at_176, rfl⟩
theorem D_178 : Dc code 178 (.aload 10) 2 180 := ⟨at_178, rfl⟩
theorem D_180 : Dc code 180 (.invokestatic 19) 3 183 := ⟨at_180, rfl⟩
theorem D_183 : Dc code 183 (.astore 11) 2 185 := ⟨at_183, rfl⟩
theorem D_185 : Dc code 185 (.iload 5) 2 187 := ⟨at_185, rfl⟩
theorem D_187 : Dc code 187 (.istore 12) 2 189 := ⟨at_187, rfl⟩
theorem D_189 : Dc code 189 (.iload 5) 2 191 := ⟨at_189, rfl⟩
theorem D_191 : Dc code 191 (.iconst 3) 1 192 := ⟨at_191, rfl⟩
theorem D_192 : Dc code 192 (.if_icmp .le 13) 3 195 := ⟨at_192, rfl⟩
theorem D_195 : Dc code 195 (.iload 9) 2 197 := ⟨at_195, rfl⟩
theorem D_197 : Dc code 197 (.bipush 35) 2 199 := ⟨at_197, rfl⟩
theorem D_199 : Dc code 199 (.if_icmp .ne 6) 3 202 := ⟨at_199, rfl⟩
theorem D_202 : Dc code 202 (.iconst 3) 1 203 := ⟨at_202, rfl⟩
theorem D_203 : Dc code 203 (.istore 12) 2 205 := ⟨at_203, rfl⟩
theorem D_205 : Dc code 205 (.iload 5) 2 207 := ⟨at_205, rfl⟩
theorem D_207 : Dc code 207 (.iconst 2) 1 208 := ⟨at_207, rfl⟩
theorem D_208 : Dc code 208 (.if_icmp .le 13) 3 211 := ⟨at_208, rfl⟩
theorem D_211 : Dc code 211 (.iload 8) 2 213 := ⟨at_211, rfl⟩
theorem D_213 : Dc code 213 (.bipush 35) 2 215 := ⟨at_213, rfl⟩
theorem D_215 : Dc code 215 (.if_icmp .ne 6) 3 218 := ⟨at_215, rfl⟩
theorem D_218 : Dc code 218 (.iconst 2) 1 219 := ⟨at_218, rfl⟩
theorem D_219 : Dc code 219 (.istore 12) 2 221 := ⟨at_219, rfl⟩
theorem D_221 : Dc code 221 (.iload 5) 2 223 := ⟨at_221, rfl⟩
theorem D_223 : Dc code 223 (.iconst 1) 1 224 := ⟨at_223, rfl⟩
theorem D_224 : Dc code 224 (.if_icmp .le 13) 3 227 := ⟨at_224, rfl⟩
theorem D_227 : Dc code 227 (.iload 7) 2 229 := ⟨at_227, rfl⟩
theorem D_229 : Dc code 229 (.bipush 35) 2 231 := ⟨at_229, rfl⟩
theorem D_231 : Dc code 231 (.if_icmp .ne 6) 3 234 := ⟨at_231, rfl⟩
theorem D_234 : Dc code 234 (.iconst 1) 1 235 := ⟨at_234, rfl⟩
theorem D_235 : Dc code 235 (.istore 12) 2 237 := ⟨at_235, rfl⟩
theorem D_237 : Dc code 237 (.iload 5) 2 239 := ⟨at_237, rfl⟩
theorem D_239 : Dc code 239 (.ifCond .le 13) 3 242 := ⟨at_239, rfl⟩
theorem D_242 : Dc code 242 (.iload 6) 2 244 := ⟨at_242, rfl⟩
theorem D_244 : Dc code 244 (.bipush 35) 2 246 := ⟨at_244, rfl⟩
theorem D_246 : Dc code 246 (.if_icmp .ne 6) 3 249 := ⟨at_246, rfl⟩
theorem D_249 : Dc code 249 (.iconst 0) 1 250 := ⟨at_249, rfl⟩
theorem D_250 : Dc code 250 (.istore 12) 2 252 := ⟨at_250, rfl⟩
theorem D_252 : Dc code 252 (.aload 11) 2 254 := ⟨at_252, rfl⟩
theorem D_254 : Dc code 254 (.ifnull 13) 3 257 := ⟨at_254, rfl⟩
theorem D_257 : Dc code 257 (.aload 11) 2 259 := ⟨at_257, rfl⟩
theorem D_259 : Dc code 259 (.invokevirtual 25) 3 262 := ⟨at_259, rfl⟩
theorem D_262 : Dc code 262 (.iload 12) 2 264 := ⟨at_262, rfl⟩
theorem D_264 : Dc code 264 (.if_icmp .eq 5) 3 267 := ⟨at_264, rfl⟩
theorem D_269 : Dc code 269 (.iconst 1) 1 270 := ⟨at_269, rfl⟩
theorem D_270 : Dc code 270 (.istore 13) 2 272 := ⟨at_270, rfl⟩
theorem D_272 : Dc code 272 (.iload 12) 2 274 := ⟨at_272, rfl⟩
theorem D_274 : Dc code 274 (.ifCond .le 26) 3 277 := ⟨at_274, rfl⟩
theorem D_277 : Dc code 277 (.iload 13) 2 279 := ⟨at_277, rfl⟩
theorem D_279 : Dc code 279 (.ifCond .eq 18) 3 282 := ⟨at_279, rfl⟩
theorem D_282 : Dc code 282 (.aload 11) 2 284 := ⟨at_282, rfl⟩
theorem D_284 : Dc code 284 (.iconst 0) 1 285 := ⟨at_284, rfl⟩
theorem D_285 : Dc code 285 (.invokevirtual 29) 3 288 := ⟨at_285, rfl⟩
theorem D_288 : Dc code 288 (.iload 6) 2 290 := ⟨at_288, rfl⟩
theorem D_290 : Dc code 290 (.if_icmp .ne 7) 3 293 := ⟨at_290, rfl⟩
theorem D_293 : Dc code 293 (.iconst 1) 1 294 := ⟨at_293, rfl⟩
theorem D_294 : Dc code 294 (.goto 4) 3 297 := ⟨at_294, rfl⟩
theorem D_298 : Dc code 298 (.istore 13) 2 300 := ⟨at_298, rfl⟩
theorem D_300 : Dc code 300 (.iload 12) 2 302 := ⟨at_300, rfl⟩
theorem D_302 : Dc code 302 (.iconst 1) 1 303 := ⟨at_302, rfl⟩
theorem D_303 : Dc code 303 (.if_icmp .le 26) 3 306 := ⟨at_303, rfl⟩
theorem D_306 : Dc code 306 (.iload 13) 2 308 := ⟨at_306, rfl⟩
theorem D_308 : Dc code 308 (.ifCond .eq 18) 3 311 := ⟨at_308, rfl⟩
theorem D_311 : Dc code 311 (.aload 11) 2 313 := ⟨at_311, rfl⟩
theorem D_313 : Dc code 313 (.iconst 1) 1 314 := ⟨at_313, rfl⟩
theorem D_314 : Dc code 314 (.invokevirtual 29) 3 317 := ⟨at_314, rfl⟩
theorem D_317 : Dc code 317 (.iload 7) 2 319 := ⟨at_317, rfl⟩
theorem D_319 : Dc code 319 (.if_icmp .ne 7) 3 322 := ⟨at_319, rfl⟩
theorem D_322 : Dc code 322 (.iconst 1) 1 323 := ⟨at_322, rfl⟩
theorem D_323 : Dc code 323 (.goto 4) 3 326 := ⟨at_323, rfl⟩
theorem D_327 : Dc code 327 (.istore 13) 2 329 := ⟨at_327, rfl⟩
theorem D_329 : Dc code 329 (.iload 12) 2 331 := ⟨at_329, rfl⟩
theorem D_331 : Dc code 331 (.iconst 2) 1 332 := ⟨at_331, rfl⟩
theorem D_332 : Dc code 332 (.if_icmp .le 26) 3 335 := ⟨at_332, rfl⟩
theorem D_335 : Dc code 335 (.iload 13) 2 337 := ⟨at_335, rfl⟩
theorem D_337 : Dc code 337 (.ifCond .eq 18) 3 340 := ⟨at_337, rfl⟩
theorem D_340 : Dc code 340 (.aload 11) 2 342 := ⟨at_340, rfl⟩
theorem D_342 : Dc code 342 (.iconst 2) 1 343 := ⟨at_342, rfl⟩
theorem D_343 : Dc code 343 (.invokevirtual 29) 3 346 := ⟨at_343, rfl⟩
theorem D_346 : Dc code 346 (.iload 8) 2 348 := ⟨at_346, rfl⟩
theorem D_348 : Dc code 348 (.if_icmp .ne 7) 3 351 := ⟨at_348, rfl⟩
theorem D_351 : Dc code 351 (.iconst 1) 1 352 := ⟨at_351, rfl⟩
theorem D_352 : Dc code 352 (.goto 4) 3 355 := ⟨at_352, rfl⟩
theorem D_356 : Dc code 356 (.istore 13) 2 358 := ⟨at_356, rfl⟩
theorem D_358 : Dc code 358 (.iload 12) 2 360 := ⟨at_358, rfl⟩
theorem D_360 : Dc code 360 (.iconst 3) 1 361 := ⟨at_360, rfl⟩
theorem D_361 : Dc code 361 (.if_icmp .le 26) 3 364 := ⟨at_361, rfl⟩
theorem D_364 : Dc code 364 (.iload 13) 2 366 := ⟨at_364, rfl⟩
theorem D_366 : Dc code 366 (.ifCond .eq 18) 3 369 := ⟨at_366, rfl⟩
theorem D_369 : Dc code 369 (.aload 11) 2 371 := ⟨at_369, rfl⟩
theorem D_371 : Dc code 371 (.iconst 3) 1 372 := ⟨at_371, rfl⟩
theorem D_372 : Dc code 372 (.invokevirtual 29) 3 375 := ⟨at_372, rfl⟩
theorem D_375 : Dc code 375 (.iload 9) 2 377 := ⟨at_375, rfl⟩
theorem D_377 : Dc code 377 (.if_icmp .ne 7) 3 380 := ⟨at_377, rfl⟩
theorem D_380 : Dc code 380 (.iconst 1) 1 381 := ⟨at_380, rfl⟩
theorem D_381 : Dc code 381 (.goto 4) 3 384 := ⟨at_381, rfl⟩
theorem D_385 : Dc code 385 (.istore 13) 2 387 := ⟨at_385, rfl⟩
theorem D_387 : Dc code 387 (.iload 13) 2 389 := ⟨at_387, rfl⟩
theorem D_389 : Dc code 389 (.ireturn) 1 390 := ⟨at_389, rfl⟩
abbrev W35 (l : Launch) (Z : State) := Wp (some consts_1) l Z "com/example/bylint/bylint/description/UriReferencesWithoutFragmentPinLaw" "law" code maxLocals ret
set_option maxRecDepth 65536 in
set_option maxHeartbeats 40000000 in
theorem law_wp (l : Launch) (Z : State) (a0 : Array Value) (hw : HW Z a0) (g0 : Int32) (g1 : Int32) (g2 : Int32) (g3 : Int32) (g4 : Int32) (cp : Int32) (fm : Value) (hs : Std Z cp fm) : W35 l Z room_1 [] 0 0 0 #[.val (.int g0), .val (.int g1), .val (.int g2), .val (.int g3), .val (.int g4), .unset, .unset, .unset, .unset, .unset, .unset, .unset, .unset, .unset] [] Q_law := by
  have S_cp := hs.1
  have hcp := hs.2.1
  refine wp_iload_n D_0 rfl ?_
  refine wp_ldcI D_1 (gw hw 0 rfl) ?_
  refine wp_iand D_3 ?_
  refine wp_iconst 5 D_4 (by decide) ?_
  refine wp_irem D_5 (by decide) ?_
  generalize hg_x1 : ((g0 &&& (2147483647 : Int32)) % (5 : Int32)) = x1
  refine wp_istore #[.val (.int g0), .val (.int g1), .val (.int g2), .val (.int g3), .val (.int g4), .val (.int x1), .unset, .unset, .unset, .unset, .unset, .unset, .unset, .unset] D_6 rfl ?_
  have hs_x1 : x1 = (0 : Int32) ∨ x1 = (1 : Int32) ∨ x1 = (2 : Int32) ∨ x1 = (3 : Int32) ∨ x1 = (4 : Int32) := by
    rw [← hg_x1]; exact own_mod5 _
  rcases hs_x1 with hs_x1 | hs_x1 | hs_x1 | hs_x1 | hs_x1
  · subst hs_x1
    show W35 l Z room_1 [] 0 0 8 #[.val (.int g0), .val (.int g1), .val (.int g2), .val (.int g3), .val (.int g4), .val (.int 0), .unset, .unset, .unset, .unset, .unset, .unset, .unset, .unset] [] Q_law
    refine wp_iload_n D_8 rfl ?_
    refine wp_callS (c_ch l Z a0 hw g1 [] ) D_9 (gw hw 1 rfl) (gw hw 2 rfl) (gw hw 3 rfl) (gw hw 4 rfl) (by decide) pd_22 rfl rfl rfl (lb rfl) (lb rfl) (lb rfl) (lb rfl) ?_
    rintro _ _ ⟨c0, rfl, hc0, rfl⟩
    show W35 l Z room_1 [] 0 0 12 #[.val (.int g0), .val (.int g1), .val (.int g2), .val (.int g3), .val (.int g4), .val (.int 0), .unset, .unset, .unset, .unset, .unset, .unset, .unset, .unset] [(.int c0)] Q_law
    refine wp_istore #[.val (.int g0), .val (.int g1), .val (.int g2), .val (.int g3), .val (.int g4), .val (.int 0), .val (.int c0), .unset, .unset, .unset, .unset, .unset, .unset, .unset] D_12 rfl ?_
    refine wp_iload_n D_14 rfl ?_
    refine wp_callS (c_ch l Z a0 hw g2 [] ) D_15 (gw hw 1 rfl) (gw hw 2 rfl) (gw hw 3 rfl) (gw hw 4 rfl) (by decide) pd_22 rfl rfl rfl (lb rfl) (lb rfl) (lb rfl) (lb rfl) ?_
    rintro _ _ ⟨c1, rfl, hc1, rfl⟩
    show W35 l Z room_1 [] 0 0 18 #[.val (.int g0), .val (.int g1), .val (.int g2), .val (.int g3), .val (.int g4), .val (.int 0), .val (.int c0), .unset, .unset, .unset, .unset, .unset, .unset, .unset] [(.int c1)] Q_law
    refine wp_istore #[.val (.int g0), .val (.int g1), .val (.int g2), .val (.int g3), .val (.int g4), .val (.int 0), .val (.int c0), .val (.int c1), .unset, .unset, .unset, .unset, .unset, .unset] D_18 rfl ?_
    refine wp_iload_n D_20 rfl ?_
    refine wp_callS (c_ch l Z a0 hw g3 [] ) D_21 (gw hw 1 rfl) (gw hw 2 rfl) (gw hw 3 rfl) (gw hw 4 rfl) (by decide) pd_22 rfl rfl rfl (lb rfl) (lb rfl) (lb rfl) (lb rfl) ?_
    rintro _ _ ⟨c2, rfl, hc2, rfl⟩
    show W35 l Z room_1 [] 0 0 24 #[.val (.int g0), .val (.int g1), .val (.int g2), .val (.int g3), .val (.int g4), .val (.int 0), .val (.int c0), .val (.int c1), .unset, .unset, .unset, .unset, .unset, .unset] [(.int c2)] Q_law
    refine wp_istore #[.val (.int g0), .val (.int g1), .val (.int g2), .val (.int g3), .val (.int g4), .val (.int 0), .val (.int c0), .val (.int c1), .val (.int c2), .unset, .unset, .unset, .unset, .unset] D_24 rfl ?_
    refine wp_iload D_26 rfl ?_
    refine wp_callS (c_ch l Z a0 hw g4 [] ) D_28 (gw hw 1 rfl) (gw hw 2 rfl) (gw hw 3 rfl) (gw hw 4 rfl) (by decide) pd_22 rfl rfl rfl (lb rfl) (lb rfl) (lb rfl) (lb rfl) ?_
    rintro _ _ ⟨c3, rfl, hc3, rfl⟩
    show W35 l Z room_1 [] 0 0 31 #[.val (.int g0), .val (.int g1), .val (.int g2), .val (.int g3), .val (.int g4), .val (.int 0), .val (.int c0), .val (.int c1), .val (.int c2), .unset, .unset, .unset, .unset, .unset] [(.int c3)] Q_law
    refine wp_istore #[.val (.int g0), .val (.int g1), .val (.int g2), .val (.int g3), .val (.int g4), .val (.int 0), .val (.int c0), .val (.int c1), .val (.int c2), .val (.int c3), .unset, .unset, .unset, .unset] D_31 rfl ?_
    refine wp_iload D_33 rfl ?_
    refine wp_if_ne D_35 (pc'' := 53) ⟨by decide, by decide⟩ (fun h2 => by exact absurd h2 (by decide)) (fun h2 => ?_)
    refine wp_new sgStr [(.null), (.int 0)] D_38 (gw hw 5 rfl) (gw hw 6 rfl) (gw hw 7 rfl) (laid_sgStr l Z a0 hw) (by decide) dfl_sgStr (by decide) (by decide) ?_
    intro a3
    show W35 l Z room_1 [(a3, oS (.null))] 1 4 41 #[.val (.int g0), .val (.int g1), .val (.int g2), .val (.int g3), .val (.int g4), .val (.int 0), .val (.int c0), .val (.int c1), .val (.int c2), .val (.int c3), .unset, .unset, .unset, .unset] [(.ref a3)] Q_law
    refine wp_dup D_41 rfl ?_
    refine wp_iconst 0 D_42 (by decide) ?_
    refine wp_newarrayI (n := (0 : Int32)) (0) 0 D_43 rfl rfl rfl (gw hw 8 rfl) (by decide) (by decide) (by decide) (by decide) (by decide) (by decide) ?_
    intro a4
    show W35 l Z room_1 [(a4, oA .char []), (a3, oS (.null))] 2 4 45 #[.val (.int g0), .val (.int g1), .val (.int g2), .val (.int g3), .val (.int g4), .val (.int 0), .val (.int c0), .val (.int c1), .val (.int c2), .val (.int c3), .unset, .unset, .unset, .unset] [(.ref a4), (.ref a3), (.ref a3)] Q_law
    refine Wp.pick [1, 0] (by decide) ?_
    show W35 l Z room_1 [(a3, oS (.null)), (a4, oA .char [])] 2 4 45 #[.val (.int g0), .val (.int g1), .val (.int g2), .val (.int g3), .val (.int g4), .val (.int 0), .val (.int c0), .val (.int c1), .val (.int c2), .val (.int c3), .unset, .unset, .unset, .unset] [(.ref a4), (.ref a3), (.ref a3)] Q_law
    refine wp_initI (c_si1_0 l Z a0 hw a3 a4 cp fm [] hs ) (own_EL l Z a0 hw) D_45 rfl (gw hw 9 rfl) (gw hw 10 rfl) (gw hw 7 rfl) (gw hw 11 rfl) (by decide) pd_23 rfl rfl rfl (lb rfl) (lb rfl) (lb rfl) (lb rfl) ?_
    rintro _ _ ⟨rfl, z5, z6, z7, z8, rfl⟩
    show W35 l Z room_1 [(z5, strO z6), (z6, fA .byte []), (z7, strO z8), (z8, fA .byte []), (a3, oS (.ref z8)), (a4, oA .char [])] 6 12 48 #[.val (.int g0), .val (.int g1), .val (.int g2), .val (.int g3), .val (.int g4), .val (.int 0), .val (.int c0), .val (.int c1), .val (.int c2), .val (.int c3), .unset, .unset, .unset, .unset] [(.ref a3)] Q_law
    refine Wp.frz (i := 4) rfl ?_
    show W35 l Z room_1 [(z5, strO z6), (z6, fA .byte []), (z7, strO z8), (z8, fA .byte []), (a3, strO z8), (a4, oA .char [])] 6 12 48 #[.val (.int g0), .val (.int g1), .val (.int g2), .val (.int g3), .val (.int g4), .val (.int 0), .val (.int c0), .val (.int c1), .val (.int c2), .val (.int c3), .unset, .unset, .unset, .unset] [(.ref a3)] Q_law
    refine wp_astore #[.val (.int g0), .val (.int g1), .val (.int g2), .val (.int g3), .val (.int g4), .val (.int 0), .val (.int c0), .val (.int c1), .val (.int c2), .val (.int c3), .val (.ref a3), .unset, .unset, .unset] D_48 rfl rfl ?_
    refine wp_goto D_50 (pc'' := 178) ⟨by decide, by decide⟩ ?_
    refine wp_aload D_178 rfl rfl ?_
    refine Wp.pick [4, 3, 0, 1, 2, 5] (by decide) ?_
    show W35 l Z room_1 [(a3, strO z8), (z8, fA .byte []), (z5, strO z6), (z6, fA .byte []), (z7, strO z8), (a4, oA .char [])] 6 12 180 #[.val (.int g0), .val (.int g1), .val (.int g2), .val (.int g3), .val (.int g4), .val (.int 0), .val (.int c0), .val (.int c1), .val (.int c2), .val (.int c3), .val (.ref a3), .unset, .unset, .unset] [(.ref a3)] Q_law
    refine wp_callS (c_wf_0_m l Z a0 hw a3 z8 cp fm [(z5, strO z6), (z6, fA .byte []), (z7, strO z8), (a4, oA .char [])] hs ) D_180 (gw hw 27 rfl) (gw hw 28 rfl) (gw hw 29 rfl) (gw hw 30 rfl) (by decide) pd_24 rfl rfl rfl (lb rfl) (lb rfl) (lb rfl) (lb rfl) ?_
    rintro _ _ ⟨rfl, rfl⟩
    show W35 l Z room_1 [(a3, strO z8), (z8, fA .byte []), (z5, strO z6), (z6, fA .byte []), (z7, strO z8), (a4, oA .char [])] 6 12 183 #[.val (.int g0), .val (.int g1), .val (.int g2), .val (.int g3), .val (.int g4), .val (.int 0), .val (.int c0), .val (.int c1), .val (.int c2), .val (.int c3), .val (.ref a3), .unset, .unset, .unset] [(.ref a3)] Q_law
    refine wp_astore #[.val (.int g0), .val (.int g1), .val (.int g2), .val (.int g3), .val (.int g4), .val (.int 0), .val (.int c0), .val (.int c1), .val (.int c2), .val (.int c3), .val (.ref a3), .val (.ref a3), .unset, .unset] D_183 rfl rfl ?_
    refine wp_iload D_185 rfl ?_
    refine wp_istore #[.val (.int g0), .val (.int g1), .val (.int g2), .val (.int g3), .val (.int g4), .val (.int 0), .val (.int c0), .val (.int c1), .val (.int c2), .val (.int c3), .val (.ref a3), .val (.ref a3), .val (.int 0), .unset] D_187 rfl ?_
    refine wp_iload D_189 rfl ?_
    refine wp_iconst 3 D_191 (by decide) ?_
    refine wp_icmp_le D_192 (pc'' := 205) ⟨by decide, by decide⟩ (fun h9 => ?_) (fun h9 => by exact absurd h9 (by decide))
    refine wp_iload D_205 rfl ?_
    refine wp_iconst 2 D_207 (by decide) ?_
    refine wp_icmp_le D_208 (pc'' := 221) ⟨by decide, by decide⟩ (fun h10 => ?_) (fun h10 => by exact absurd h10 (by decide))
    refine wp_iload D_221 rfl ?_
    refine wp_iconst 1 D_223 (by decide) ?_
    refine wp_icmp_le D_224 (pc'' := 237) ⟨by decide, by decide⟩ (fun h11 => ?_) (fun h11 => by exact absurd h11 (by decide))
    refine wp_iload D_237 rfl ?_
    refine wp_if_le D_239 (pc'' := 252) ⟨by decide, by decide⟩ (fun h12 => ?_) (fun h12 => by exact absurd h12 (by decide))
    refine wp_aload D_252 rfl rfl ?_
    refine wp_ifnull_n D_254 ?_
    refine wp_aload D_257 rfl rfl ?_
    refine wp_virtual (c_len_0 l Z a0 hw a3 z8 cp fm [(z5, strO z6), (z6, fA .byte []), (z7, strO z8), (a4, oA .char [])] hs ) (exa_new (i := 0) rfl) D_259 (gw hw 71 rfl) (gw hw 48 rfl) (gw hw 50 rfl) (gw hw 50 rfl) (gw hw 49 rfl) (gw hw 7 rfl) (gw hw 51 rfl) (by decide) pd_5 rfl rfl rfl (lb rfl) (lb rfl) (lb rfl) (lb rfl) ?_
    rintro _ _ ⟨rfl, rfl⟩
    show W35 l Z room_1 [(a3, strO z8), (z8, fA .byte []), (z5, strO z6), (z6, fA .byte []), (z7, strO z8), (a4, oA .char [])] 6 12 262 #[.val (.int g0), .val (.int g1), .val (.int g2), .val (.int g3), .val (.int g4), .val (.int 0), .val (.int c0), .val (.int c1), .val (.int c2), .val (.int c3), .val (.ref a3), .val (.ref a3), .val (.int 0), .unset] [(.int 0)] Q_law
    refine wp_iload D_262 rfl ?_
    refine wp_icmp_eq D_264 (pc'' := 269) ⟨by decide, by decide⟩ (fun h13 => ?_) (fun h13 => by exact absurd h13 (by decide))
    refine wp_iconst 1 D_269 (by decide) ?_
    refine wp_istore #[.val (.int g0), .val (.int g1), .val (.int g2), .val (.int g3), .val (.int g4), .val (.int 0), .val (.int c0), .val (.int c1), .val (.int c2), .val (.int c3), .val (.ref a3), .val (.ref a3), .val (.int 0), .val (.int 1)] D_270 rfl ?_
    refine wp_iload D_272 rfl ?_
    refine wp_if_le D_274 (pc'' := 300) ⟨by decide, by decide⟩ (fun h14 => ?_) (fun h14 => by exact absurd h14 (by decide))
    refine wp_iload D_300 rfl ?_
    refine wp_iconst 1 D_302 (by decide) ?_
    refine wp_icmp_le D_303 (pc'' := 329) ⟨by decide, by decide⟩ (fun h15 => ?_) (fun h15 => by exact absurd h15 (by decide))
    refine wp_iload D_329 rfl ?_
    refine wp_iconst 2 D_331 (by decide) ?_
    refine wp_icmp_le D_332 (pc'' := 358) ⟨by decide, by decide⟩ (fun h16 => ?_) (fun h16 => by exact absurd h16 (by decide))
    refine wp_iload D_358 rfl ?_
    refine wp_iconst 3 D_360 (by decide) ?_
    refine wp_icmp_le D_361 (pc'' := 387) ⟨by decide, by decide⟩ (fun h17 => ?_) (fun h17 => by exact absurd h17 (by decide))
    refine wp_iload D_387 rfl ?_
    refine wp_ireturnN D_389 rfl (by simp) (by decide) (by decide) ?_
    exact rfl
  · subst hs_x1
    show W35 l Z room_1 [] 0 0 8 #[.val (.int g0), .val (.int g1), .val (.int g2), .val (.int g3), .val (.int g4), .val (.int 1), .unset, .unset, .unset, .unset, .unset, .unset, .unset, .unset] [] Q_law
    refine wp_iload_n D_8 rfl ?_
    refine wp_callS (c_ch l Z a0 hw g1 [] ) D_9 (gw hw 1 rfl) (gw hw 2 rfl) (gw hw 3 rfl) (gw hw 4 rfl) (by decide) pd_22 rfl rfl rfl (lb rfl) (lb rfl) (lb rfl) (lb rfl) ?_
    rintro _ _ ⟨c0, rfl, hc0, rfl⟩
    show W35 l Z room_1 [] 0 0 12 #[.val (.int g0), .val (.int g1), .val (.int g2), .val (.int g3), .val (.int g4), .val (.int 1), .unset, .unset, .unset, .unset, .unset, .unset, .unset, .unset] [(.int c0)] Q_law
    refine wp_istore #[.val (.int g0), .val (.int g1), .val (.int g2), .val (.int g3), .val (.int g4), .val (.int 1), .val (.int c0), .unset, .unset, .unset, .unset, .unset, .unset, .unset] D_12 rfl ?_
    refine wp_iload_n D_14 rfl ?_
    refine wp_callS (c_ch l Z a0 hw g2 [] ) D_15 (gw hw 1 rfl) (gw hw 2 rfl) (gw hw 3 rfl) (gw hw 4 rfl) (by decide) pd_22 rfl rfl rfl (lb rfl) (lb rfl) (lb rfl) (lb rfl) ?_
    rintro _ _ ⟨c1, rfl, hc1, rfl⟩
    show W35 l Z room_1 [] 0 0 18 #[.val (.int g0), .val (.int g1), .val (.int g2), .val (.int g3), .val (.int g4), .val (.int 1), .val (.int c0), .unset, .unset, .unset, .unset, .unset, .unset, .unset] [(.int c1)] Q_law
    refine wp_istore #[.val (.int g0), .val (.int g1), .val (.int g2), .val (.int g3), .val (.int g4), .val (.int 1), .val (.int c0), .val (.int c1), .unset, .unset, .unset, .unset, .unset, .unset] D_18 rfl ?_
    refine wp_iload_n D_20 rfl ?_
    refine wp_callS (c_ch l Z a0 hw g3 [] ) D_21 (gw hw 1 rfl) (gw hw 2 rfl) (gw hw 3 rfl) (gw hw 4 rfl) (by decide) pd_22 rfl rfl rfl (lb rfl) (lb rfl) (lb rfl) (lb rfl) ?_
    rintro _ _ ⟨c2, rfl, hc2, rfl⟩
    show W35 l Z room_1 [] 0 0 24 #[.val (.int g0), .val (.int g1), .val (.int g2), .val (.int g3), .val (.int g4), .val (.int 1), .val (.int c0), .val (.int c1), .unset, .unset, .unset, .unset, .unset, .unset] [(.int c2)] Q_law
    refine wp_istore #[.val (.int g0), .val (.int g1), .val (.int g2), .val (.int g3), .val (.int g4), .val (.int 1), .val (.int c0), .val (.int c1), .val (.int c2), .unset, .unset, .unset, .unset, .unset] D_24 rfl ?_
    refine wp_iload D_26 rfl ?_
    refine wp_callS (c_ch l Z a0 hw g4 [] ) D_28 (gw hw 1 rfl) (gw hw 2 rfl) (gw hw 3 rfl) (gw hw 4 rfl) (by decide) pd_22 rfl rfl rfl (lb rfl) (lb rfl) (lb rfl) (lb rfl) ?_
    rintro _ _ ⟨c3, rfl, hc3, rfl⟩
    show W35 l Z room_1 [] 0 0 31 #[.val (.int g0), .val (.int g1), .val (.int g2), .val (.int g3), .val (.int g4), .val (.int 1), .val (.int c0), .val (.int c1), .val (.int c2), .unset, .unset, .unset, .unset, .unset] [(.int c3)] Q_law
    refine wp_istore #[.val (.int g0), .val (.int g1), .val (.int g2), .val (.int g3), .val (.int g4), .val (.int 1), .val (.int c0), .val (.int c1), .val (.int c2), .val (.int c3), .unset, .unset, .unset, .unset] D_31 rfl ?_
    refine wp_iload D_33 rfl ?_
    refine wp_if_ne D_35 (pc'' := 53) ⟨by decide, by decide⟩ (fun h18 => ?_) (fun h18 => by exact absurd h18 (by decide))
    refine wp_iload D_53 rfl ?_
    refine wp_iconst 1 D_55 (by decide) ?_
    refine wp_icmp_ne D_56 (pc'' := 79) ⟨by decide, by decide⟩ (fun h19 => by exact absurd h19 (by decide)) (fun h19 => ?_)
    refine wp_new sgStr [(.null), (.int 0)] D_59 (gw hw 5 rfl) (gw hw 6 rfl) (gw hw 7 rfl) (laid_sgStr l Z a0 hw) (by decide) dfl_sgStr (by decide) (by decide) ?_
    intro a20
    show W35 l Z room_1 [(a20, oS (.null))] 1 4 62 #[.val (.int g0), .val (.int g1), .val (.int g2), .val (.int g3), .val (.int g4), .val (.int 1), .val (.int c0), .val (.int c1), .val (.int c2), .val (.int c3), .unset, .unset, .unset, .unset] [(.ref a20)] Q_law
    refine wp_dup D_62 rfl ?_
    refine wp_iconst 1 D_63 (by decide) ?_
    refine wp_newarrayI (n := (1 : Int32)) (1) 1 D_64 rfl rfl rfl (gw hw 8 rfl) (by decide) (by decide) (by decide) (by decide) (by decide) (by decide) ?_
    intro a21
    show W35 l Z room_1 [(a21, oA .char [(0 : Int32)]), (a20, oS (.null))] 2 5 66 #[.val (.int g0), .val (.int g1), .val (.int g2), .val (.int g3), .val (.int g4), .val (.int 1), .val (.int c0), .val (.int c1), .val (.int c2), .val (.int c3), .unset, .unset, .unset, .unset] [(.ref a21), (.ref a20), (.ref a20)] Q_law
    refine wp_dup D_66 rfl ?_
    refine wp_iconst 0 D_67 (by decide) ?_
    refine wp_iload D_68 rfl ?_
    refine wp_castore (i := 0) (0) D_70 rfl (by decide) (by decide) (by first | decide | exact Nat.le_of_ble_eq_true rfl | simp) ?_
    rw [own_nc c0 hc0]
    show W35 l Z room_1 [(a21, oA .char [c0]), (a20, oS (.null))] 2 5 71 #[.val (.int g0), .val (.int g1), .val (.int g2), .val (.int g3), .val (.int g4), .val (.int 1), .val (.int c0), .val (.int c1), .val (.int c2), .val (.int c3), .unset, .unset, .unset, .unset] [(.ref a21), (.ref a20), (.ref a20)] Q_law
    refine Wp.pick [1, 0] (by decide) ?_
    show W35 l Z room_1 [(a20, oS (.null)), (a21, oA .char [c0])] 2 5 71 #[.val (.int g0), .val (.int g1), .val (.int g2), .val (.int g3), .val (.int g4), .val (.int 1), .val (.int c0), .val (.int c1), .val (.int c2), .val (.int c3), .unset, .unset, .unset, .unset] [(.ref a21), (.ref a20), (.ref a20)] Q_law
    refine wp_init (c_si1_1 l Z a0 hw a20 a21 cp c0 [] S_cp hcp hc0) D_71 rfl (gw hw 9 rfl) (gw hw 10 rfl) (gw hw 7 rfl) (gw hw 11 rfl) (by decide) pd_23 rfl rfl rfl (lb rfl) (lb rfl) (lb rfl) (lb rfl) ?_
    rintro _ _ ⟨rfl, b22, rfl⟩
    show W35 l Z room_1 [(b22, oA .byte [(nar .byte c0.toInt8.toInt32)]), (a20, oS (.ref b22)), (a21, oA .char [c0])] 3 6 74 #[.val (.int g0), .val (.int g1), .val (.int g2), .val (.int g3), .val (.int g4), .val (.int 1), .val (.int c0), .val (.int c1), .val (.int c2), .val (.int c3), .unset, .unset, .unset, .unset] [(.ref a20)] Q_law
    refine Wp.frz (i := 0) rfl ?_
    refine Wp.frz (i := 1) rfl ?_
    show W35 l Z room_1 [(b22, fA .byte [(nar .byte c0.toInt8.toInt32)]), (a20, strO b22), (a21, oA .char [c0])] 3 6 74 #[.val (.int g0), .val (.int g1), .val (.int g2), .val (.int g3), .val (.int g4), .val (.int 1), .val (.int c0), .val (.int c1), .val (.int c2), .val (.int c3), .unset, .unset, .unset, .unset] [(.ref a20)] Q_law
    refine wp_astore #[.val (.int g0), .val (.int g1), .val (.int g2), .val (.int g3), .val (.int g4), .val (.int 1), .val (.int c0), .val (.int c1), .val (.int c2), .val (.int c3), .val (.ref a20), .unset, .unset, .unset] D_74 rfl rfl ?_
    refine wp_goto D_76 (pc'' := 178) ⟨by decide, by decide⟩ ?_
    refine wp_aload D_178 rfl rfl ?_
    refine Wp.pick [1, 0, 2] (by decide) ?_
    show W35 l Z room_1 [(a20, strO b22), (b22, fA .byte [(nar .byte c0.toInt8.toInt32)]), (a21, oA .char [c0])] 3 6 180 #[.val (.int g0), .val (.int g1), .val (.int g2), .val (.int g3), .val (.int g4), .val (.int 1), .val (.int c0), .val (.int c1), .val (.int c2), .val (.int c3), .val (.ref a20), .unset, .unset, .unset] [(.ref a20)] Q_law
    by_cases hk0 : c0 = (35 : Int32)
    · subst hk0
      show W35 l Z room_1 [(a20, strO b22), (b22, fA .byte [(nar .byte (35 : Int32).toInt8.toInt32)]), (a21, oA .char [(35 : Int32)])] 3 6 180 #[.val (.int g0), .val (.int g1), .val (.int g2), .val (.int g3), .val (.int g4), .val (.int 1), .val (.int 35), .val (.int c1), .val (.int c2), .val (.int c3), .val (.ref a20), .unset, .unset, .unset] [(.ref a20)] Q_law
      refine wp_callSI (c_wf_1_0 l Z a0 hw a20 b22 (nar .byte (35 : Int32).toInt8.toInt32) cp fm [(a21, oA .char [(35 : Int32)])] hs (by decide)) (own_EL l Z a0 hw) D_180 (gw hw 27 rfl) (gw hw 28 rfl) (gw hw 29 rfl) (gw hw 30 rfl) (by decide) pd_24 rfl rfl rfl (lb rfl) (lb rfl) (lb rfl) (lb rfl) ?_
      rintro _ _ ⟨sa23, su24, rfl, rfl⟩
      show W35 l Z room_1 [(sa23, strO su24), (su24, fA .byte []), (a20, strO b22), (b22, fA .byte [(nar .byte (35 : Int32).toInt8.toInt32)]), (a21, oA .char [(35 : Int32)])] 5 10 183 #[.val (.int g0), .val (.int g1), .val (.int g2), .val (.int g3), .val (.int g4), .val (.int 1), .val (.int 35), .val (.int c1), .val (.int c2), .val (.int c3), .val (.ref a20), .unset, .unset, .unset] [(.ref sa23)] Q_law
      refine wp_astore #[.val (.int g0), .val (.int g1), .val (.int g2), .val (.int g3), .val (.int g4), .val (.int 1), .val (.int 35), .val (.int c1), .val (.int c2), .val (.int c3), .val (.ref a20), .val (.ref sa23), .unset, .unset] D_183 rfl rfl ?_
      refine wp_iload D_185 rfl ?_
      refine wp_istore #[.val (.int g0), .val (.int g1), .val (.int g2), .val (.int g3), .val (.int g4), .val (.int 1), .val (.int 35), .val (.int c1), .val (.int c2), .val (.int c3), .val (.ref a20), .val (.ref sa23), .val (.int 1), .unset] D_187 rfl ?_
      refine wp_iload D_189 rfl ?_
      refine wp_iconst 3 D_191 (by decide) ?_
      refine wp_icmp_le D_192 (pc'' := 205) ⟨by decide, by decide⟩ (fun h25 => ?_) (fun h25 => by exact absurd h25 (by decide))
      refine wp_iload D_205 rfl ?_
      refine wp_iconst 2 D_207 (by decide) ?_
      refine wp_icmp_le D_208 (pc'' := 221) ⟨by decide, by decide⟩ (fun h26 => ?_) (fun h26 => by exact absurd h26 (by decide))
      refine wp_iload D_221 rfl ?_
      refine wp_iconst 1 D_223 (by decide) ?_
      refine wp_icmp_le D_224 (pc'' := 237) ⟨by decide, by decide⟩ (fun h27 => ?_) (fun h27 => by exact absurd h27 (by decide))
      refine wp_iload D_237 rfl ?_
      refine wp_if_le D_239 (pc'' := 252) ⟨by decide, by decide⟩ (fun h28 => by exact absurd h28 (by decide)) (fun h28 => ?_)
      refine wp_iload D_242 rfl ?_
      refine wp_bipush 35 D_244 (by decide) ?_
      refine wp_icmp_ne D_246 (pc'' := 252) ⟨by decide, by decide⟩ (fun h29 => by exact absurd h29 (by decide)) (fun h29 => ?_)
      refine wp_iconst 0 D_249 (by decide) ?_
      refine wp_istore #[.val (.int g0), .val (.int g1), .val (.int g2), .val (.int g3), .val (.int g4), .val (.int 1), .val (.int 35), .val (.int c1), .val (.int c2), .val (.int c3), .val (.ref a20), .val (.ref sa23), .val (.int 0), .unset] D_250 rfl ?_
      refine wp_aload D_252 rfl rfl ?_
      refine wp_ifnull_n D_254 ?_
      refine wp_aload D_257 rfl rfl ?_
      refine wp_virtual (c_len_0 l Z a0 hw sa23 su24 cp fm [(a20, strO b22), (b22, fA .byte [(nar .byte (35 : Int32).toInt8.toInt32)]), (a21, oA .char [(35 : Int32)])] hs ) (exa_new (i := 0) rfl) D_259 (gw hw 71 rfl) (gw hw 48 rfl) (gw hw 50 rfl) (gw hw 50 rfl) (gw hw 49 rfl) (gw hw 7 rfl) (gw hw 51 rfl) (by decide) pd_5 rfl rfl rfl (lb rfl) (lb rfl) (lb rfl) (lb rfl) ?_
      rintro _ _ ⟨rfl, rfl⟩
      show W35 l Z room_1 [(sa23, strO su24), (su24, fA .byte []), (a20, strO b22), (b22, fA .byte [(nar .byte (35 : Int32).toInt8.toInt32)]), (a21, oA .char [(35 : Int32)])] 5 10 262 #[.val (.int g0), .val (.int g1), .val (.int g2), .val (.int g3), .val (.int g4), .val (.int 1), .val (.int 35), .val (.int c1), .val (.int c2), .val (.int c3), .val (.ref a20), .val (.ref sa23), .val (.int 0), .unset] [(.int 0)] Q_law
      refine wp_iload D_262 rfl ?_
      refine wp_icmp_eq D_264 (pc'' := 269) ⟨by decide, by decide⟩ (fun h30 => ?_) (fun h30 => by exact absurd h30 (by decide))
      refine wp_iconst 1 D_269 (by decide) ?_
      refine wp_istore #[.val (.int g0), .val (.int g1), .val (.int g2), .val (.int g3), .val (.int g4), .val (.int 1), .val (.int 35), .val (.int c1), .val (.int c2), .val (.int c3), .val (.ref a20), .val (.ref sa23), .val (.int 0), .val (.int 1)] D_270 rfl ?_
      refine wp_iload D_272 rfl ?_
      refine wp_if_le D_274 (pc'' := 300) ⟨by decide, by decide⟩ (fun h31 => ?_) (fun h31 => by exact absurd h31 (by decide))
      refine wp_iload D_300 rfl ?_
      refine wp_iconst 1 D_302 (by decide) ?_
      refine wp_icmp_le D_303 (pc'' := 329) ⟨by decide, by decide⟩ (fun h32 => ?_) (fun h32 => by exact absurd h32 (by decide))
      refine wp_iload D_329 rfl ?_
      refine wp_iconst 2 D_331 (by decide) ?_
      refine wp_icmp_le D_332 (pc'' := 358) ⟨by decide, by decide⟩ (fun h33 => ?_) (fun h33 => by exact absurd h33 (by decide))
      refine wp_iload D_358 rfl ?_
      refine wp_iconst 3 D_360 (by decide) ?_
      refine wp_icmp_le D_361 (pc'' := 387) ⟨by decide, by decide⟩ (fun h34 => ?_) (fun h34 => by exact absurd h34 (by decide))
      refine wp_iload D_387 rfl ?_
      refine wp_ireturnN D_389 rfl (by simp) (by decide) (by decide) ?_
      exact rfl
    · skip
      refine wp_callS (c_wf_1_m l Z a0 hw a20 b22 (nar .byte c0.toInt8.toInt32) cp fm [(a21, oA .char [c0])] hs (own_35 c0 hc0 hk0)) D_180 (gw hw 27 rfl) (gw hw 28 rfl) (gw hw 29 rfl) (gw hw 30 rfl) (by decide) pd_24 rfl rfl rfl (lb rfl) (lb rfl) (lb rfl) (lb rfl) ?_
      rintro _ _ ⟨rfl, rfl⟩
      show W35 l Z room_1 [(a20, strO b22), (b22, fA .byte [(nar .byte c0.toInt8.toInt32)]), (a21, oA .char [c0])] 3 6 183 #[.val (.int g0), .val (.int g1), .val (.int g2), .val (.int g3), .val (.int g4), .val (.int 1), .val (.int c0), .val (.int c1), .val (.int c2), .val (.int c3), .val (.ref a20), .unset, .unset, .unset] [(.ref a20)] Q_law
      refine wp_astore #[.val (.int g0), .val (.int g1), .val (.int g2), .val (.int g3), .val (.int g4), .val (.int 1), .val (.int c0), .val (.int c1), .val (.int c2), .val (.int c3), .val (.ref a20), .val (.ref a20), .unset, .unset] D_183 rfl rfl ?_
      refine wp_iload D_185 rfl ?_
      refine wp_istore #[.val (.int g0), .val (.int g1), .val (.int g2), .val (.int g3), .val (.int g4), .val (.int 1), .val (.int c0), .val (.int c1), .val (.int c2), .val (.int c3), .val (.ref a20), .val (.ref a20), .val (.int 1), .unset] D_187 rfl ?_
      refine wp_iload D_189 rfl ?_
      refine wp_iconst 3 D_191 (by decide) ?_
      refine wp_icmp_le D_192 (pc'' := 205) ⟨by decide, by decide⟩ (fun h35 => ?_) (fun h35 => by exact absurd h35 (by decide))
      refine wp_iload D_205 rfl ?_
      refine wp_iconst 2 D_207 (by decide) ?_
      refine wp_icmp_le D_208 (pc'' := 221) ⟨by decide, by decide⟩ (fun h36 => ?_) (fun h36 => by exact absurd h36 (by decide))
      refine wp_iload D_221 rfl ?_
      refine wp_iconst 1 D_223 (by decide) ?_
      refine wp_icmp_le D_224 (pc'' := 237) ⟨by decide, by decide⟩ (fun h37 => ?_) (fun h37 => by exact absurd h37 (by decide))
      refine wp_iload D_237 rfl ?_
      refine wp_if_le D_239 (pc'' := 252) ⟨by decide, by decide⟩ (fun h38 => by exact absurd h38 (by decide)) (fun h38 => ?_)
      refine wp_iload D_242 rfl ?_
      refine wp_bipush 35 D_244 (by decide) ?_
      refine wp_icmp_ne D_246 (pc'' := 252) ⟨by decide, by decide⟩ (fun h39 => ?_) (fun h39 => by exact absurd h39 hk0)
      refine wp_aload D_252 rfl rfl ?_
      refine wp_ifnull_n D_254 ?_
      refine wp_aload D_257 rfl rfl ?_
      refine wp_virtual (c_len_1 l Z a0 hw a20 b22 (nar .byte c0.toInt8.toInt32) cp fm [(a21, oA .char [c0])] hs ) (exa_new (i := 0) rfl) D_259 (gw hw 71 rfl) (gw hw 48 rfl) (gw hw 50 rfl) (gw hw 50 rfl) (gw hw 49 rfl) (gw hw 7 rfl) (gw hw 51 rfl) (by decide) pd_5 rfl rfl rfl (lb rfl) (lb rfl) (lb rfl) (lb rfl) ?_
      rintro _ _ ⟨rfl, rfl⟩
      show W35 l Z room_1 [(a20, strO b22), (b22, fA .byte [(nar .byte c0.toInt8.toInt32)]), (a21, oA .char [c0])] 3 6 262 #[.val (.int g0), .val (.int g1), .val (.int g2), .val (.int g3), .val (.int g4), .val (.int 1), .val (.int c0), .val (.int c1), .val (.int c2), .val (.int c3), .val (.ref a20), .val (.ref a20), .val (.int 1), .unset] [(.int 1)] Q_law
      refine wp_iload D_262 rfl ?_
      refine wp_icmp_eq D_264 (pc'' := 269) ⟨by decide, by decide⟩ (fun h40 => ?_) (fun h40 => by exact absurd h40 (by decide))
      refine wp_iconst 1 D_269 (by decide) ?_
      refine wp_istore #[.val (.int g0), .val (.int g1), .val (.int g2), .val (.int g3), .val (.int g4), .val (.int 1), .val (.int c0), .val (.int c1), .val (.int c2), .val (.int c3), .val (.ref a20), .val (.ref a20), .val (.int 1), .val (.int 1)] D_270 rfl ?_
      refine wp_iload D_272 rfl ?_
      refine wp_if_le D_274 (pc'' := 300) ⟨by decide, by decide⟩ (fun h41 => by exact absurd h41 (by decide)) (fun h41 => ?_)
      refine wp_iload D_277 rfl ?_
      refine wp_if_eq D_279 (pc'' := 297) ⟨by decide, by decide⟩ (fun h42 => by exact absurd h42 (by decide)) (fun h42 => ?_)
      refine wp_aload D_282 rfl rfl ?_
      refine wp_iconst 0 D_284 (by decide) ?_
      refine wp_virtual (c_cat_1_0 l Z a0 hw a20 b22 (nar .byte c0.toInt8.toInt32) cp fm [(a21, oA .char [c0])] hs ) (exa_new (i := 0) rfl) D_285 (gw hw 102 rfl) (gw hw 103 rfl) (gw hw 105 rfl) (gw hw 105 rfl) (gw hw 104 rfl) (gw hw 7 rfl) (gw hw 106 rfl) (by decide) pd_22 rfl rfl rfl (lb rfl) (lb rfl) (lb rfl) (lb rfl) ?_
      rintro _ _ ⟨rfl, rfl⟩
      rw [own_ub c0 hc0]
      show W35 l Z room_1 [(a20, strO b22), (b22, fA .byte [(nar .byte c0.toInt8.toInt32)]), (a21, oA .char [c0])] 3 6 288 #[.val (.int g0), .val (.int g1), .val (.int g2), .val (.int g3), .val (.int g4), .val (.int 1), .val (.int c0), .val (.int c1), .val (.int c2), .val (.int c3), .val (.ref a20), .val (.ref a20), .val (.int 1), .val (.int 1)] [(.int c0)] Q_law
      refine wp_iload D_288 rfl ?_
      refine wp_icmp_ne D_290 (pc'' := 297) ⟨by decide, by decide⟩ (fun h43 => by exact absurd rfl h43) (fun h43 => ?_)
      refine wp_iconst 1 D_293 (by decide) ?_
      refine wp_goto D_294 (pc'' := 298) ⟨by decide, by decide⟩ ?_
      refine wp_istore #[.val (.int g0), .val (.int g1), .val (.int g2), .val (.int g3), .val (.int g4), .val (.int 1), .val (.int c0), .val (.int c1), .val (.int c2), .val (.int c3), .val (.ref a20), .val (.ref a20), .val (.int 1), .val (.int 1)] D_298 rfl ?_
      refine wp_iload D_300 rfl ?_
      refine wp_iconst 1 D_302 (by decide) ?_
      refine wp_icmp_le D_303 (pc'' := 329) ⟨by decide, by decide⟩ (fun h44 => ?_) (fun h44 => by exact absurd h44 (by decide))
      refine wp_iload D_329 rfl ?_
      refine wp_iconst 2 D_331 (by decide) ?_
      refine wp_icmp_le D_332 (pc'' := 358) ⟨by decide, by decide⟩ (fun h45 => ?_) (fun h45 => by exact absurd h45 (by decide))
      refine wp_iload D_358 rfl ?_
      refine wp_iconst 3 D_360 (by decide) ?_
      refine wp_icmp_le D_361 (pc'' := 387) ⟨by decide, by decide⟩ (fun h46 => ?_) (fun h46 => by exact absurd h46 (by decide))
      refine wp_iload D_387 rfl ?_
      refine wp_ireturnN D_389 rfl (by simp) (by decide) (by decide) ?_
      exact rfl
  · subst hs_x1
    show W35 l Z room_1 [] 0 0 8 #[.val (.int g0), .val (.int g1), .val (.int g2), .val (.int g3), .val (.int g4), .val (.int 2), .unset, .unset, .unset, .unset, .unset, .unset, .unset, .unset] [] Q_law
    refine wp_iload_n D_8 rfl ?_
    refine wp_callS (c_ch l Z a0 hw g1 [] ) D_9 (gw hw 1 rfl) (gw hw 2 rfl) (gw hw 3 rfl) (gw hw 4 rfl) (by decide) pd_22 rfl rfl rfl (lb rfl) (lb rfl) (lb rfl) (lb rfl) ?_
    rintro _ _ ⟨c0, rfl, hc0, rfl⟩
    show W35 l Z room_1 [] 0 0 12 #[.val (.int g0), .val (.int g1), .val (.int g2), .val (.int g3), .val (.int g4), .val (.int 2), .unset, .unset, .unset, .unset, .unset, .unset, .unset, .unset] [(.int c0)] Q_law
    refine wp_istore #[.val (.int g0), .val (.int g1), .val (.int g2), .val (.int g3), .val (.int g4), .val (.int 2), .val (.int c0), .unset, .unset, .unset, .unset, .unset, .unset, .unset] D_12 rfl ?_
    refine wp_iload_n D_14 rfl ?_
    refine wp_callS (c_ch l Z a0 hw g2 [] ) D_15 (gw hw 1 rfl) (gw hw 2 rfl) (gw hw 3 rfl) (gw hw 4 rfl) (by decide) pd_22 rfl rfl rfl (lb rfl) (lb rfl) (lb rfl) (lb rfl) ?_
    rintro _ _ ⟨c1, rfl, hc1, rfl⟩
    show W35 l Z room_1 [] 0 0 18 #[.val (.int g0), .val (.int g1), .val (.int g2), .val (.int g3), .val (.int g4), .val (.int 2), .val (.int c0), .unset, .unset, .unset, .unset, .unset, .unset, .unset] [(.int c1)] Q_law
    refine wp_istore #[.val (.int g0), .val (.int g1), .val (.int g2), .val (.int g3), .val (.int g4), .val (.int 2), .val (.int c0), .val (.int c1), .unset, .unset, .unset, .unset, .unset, .unset] D_18 rfl ?_
    refine wp_iload_n D_20 rfl ?_
    refine wp_callS (c_ch l Z a0 hw g3 [] ) D_21 (gw hw 1 rfl) (gw hw 2 rfl) (gw hw 3 rfl) (gw hw 4 rfl) (by decide) pd_22 rfl rfl rfl (lb rfl) (lb rfl) (lb rfl) (lb rfl) ?_
    rintro _ _ ⟨c2, rfl, hc2, rfl⟩
    show W35 l Z room_1 [] 0 0 24 #[.val (.int g0), .val (.int g1), .val (.int g2), .val (.int g3), .val (.int g4), .val (.int 2), .val (.int c0), .val (.int c1), .unset, .unset, .unset, .unset, .unset, .unset] [(.int c2)] Q_law
    refine wp_istore #[.val (.int g0), .val (.int g1), .val (.int g2), .val (.int g3), .val (.int g4), .val (.int 2), .val (.int c0), .val (.int c1), .val (.int c2), .unset, .unset, .unset, .unset, .unset] D_24 rfl ?_
    refine wp_iload D_26 rfl ?_
    refine wp_callS (c_ch l Z a0 hw g4 [] ) D_28 (gw hw 1 rfl) (gw hw 2 rfl) (gw hw 3 rfl) (gw hw 4 rfl) (by decide) pd_22 rfl rfl rfl (lb rfl) (lb rfl) (lb rfl) (lb rfl) ?_
    rintro _ _ ⟨c3, rfl, hc3, rfl⟩
    show W35 l Z room_1 [] 0 0 31 #[.val (.int g0), .val (.int g1), .val (.int g2), .val (.int g3), .val (.int g4), .val (.int 2), .val (.int c0), .val (.int c1), .val (.int c2), .unset, .unset, .unset, .unset, .unset] [(.int c3)] Q_law
    refine wp_istore #[.val (.int g0), .val (.int g1), .val (.int g2), .val (.int g3), .val (.int g4), .val (.int 2), .val (.int c0), .val (.int c1), .val (.int c2), .val (.int c3), .unset, .unset, .unset, .unset] D_31 rfl ?_
    refine wp_iload D_33 rfl ?_
    refine wp_if_ne D_35 (pc'' := 53) ⟨by decide, by decide⟩ (fun h47 => ?_) (fun h47 => by exact absurd h47 (by decide))
    refine wp_iload D_53 rfl ?_
    refine wp_iconst 1 D_55 (by decide) ?_
    refine wp_icmp_ne D_56 (pc'' := 79) ⟨by decide, by decide⟩ (fun h48 => ?_) (fun h48 => by exact absurd h48 (by decide))
    refine wp_iload D_79 rfl ?_
    refine wp_iconst 2 D_81 (by decide) ?_
    refine wp_icmp_ne D_82 (pc'' := 110) ⟨by decide, by decide⟩ (fun h49 => by exact absurd h49 (by decide)) (fun h49 => ?_)
    refine wp_new sgStr [(.null), (.int 0)] D_85 (gw hw 5 rfl) (gw hw 6 rfl) (gw hw 7 rfl) (laid_sgStr l Z a0 hw) (by decide) dfl_sgStr (by decide) (by decide) ?_
    intro a50
    show W35 l Z room_1 [(a50, oS (.null))] 1 4 88 #[.val (.int g0), .val (.int g1), .val (.int g2), .val (.int g3), .val (.int g4), .val (.int 2), .val (.int c0), .val (.int c1), .val (.int c2), .val (.int c3), .unset, .unset, .unset, .unset] [(.ref a50)] Q_law
    refine wp_dup D_88 rfl ?_
    refine wp_iconst 2 D_89 (by decide) ?_
    refine wp_newarrayI (n := (2 : Int32)) (2) 2 D_90 rfl rfl rfl (gw hw 8 rfl) (by decide) (by decide) (by decide) (by decide) (by decide) (by decide) ?_
    intro a51
    show W35 l Z room_1 [(a51, oA .char [(0 : Int32), (0 : Int32)]), (a50, oS (.null))] 2 6 92 #[.val (.int g0), .val (.int g1), .val (.int g2), .val (.int g3), .val (.int g4), .val (.int 2), .val (.int c0), .val (.int c1), .val (.int c2), .val (.int c3), .unset, .unset, .unset, .unset] [(.ref a51), (.ref a50), (.ref a50)] Q_law
    refine wp_dup D_92 rfl ?_
    refine wp_iconst 0 D_93 (by decide) ?_
    refine wp_iload D_94 rfl ?_
    refine wp_castore (i := 0) (0) D_96 rfl (by decide) (by decide) (by first | decide | exact Nat.le_of_ble_eq_true rfl | simp) ?_
    rw [own_nc c0 hc0]
    show W35 l Z room_1 [(a51, oA .char [c0, (0 : Int32)]), (a50, oS (.null))] 2 6 97 #[.val (.int g0), .val (.int g1), .val (.int g2), .val (.int g3), .val (.int g4), .val (.int 2), .val (.int c0), .val (.int c1), .val (.int c2), .val (.int c3), .unset, .unset, .unset, .unset] [(.ref a51), (.ref a50), (.ref a50)] Q_law
    refine wp_dup D_97 rfl ?_
    refine wp_iconst 1 D_98 (by decide) ?_
    refine wp_iload D_99 rfl ?_
    refine wp_castore (i := 0) (1) D_101 rfl (by decide) (by decide) (by first | decide | exact Nat.le_of_ble_eq_true rfl | simp) ?_
    rw [own_nc c1 hc1]
    show W35 l Z room_1 [(a51, oA .char [c0, c1]), (a50, oS (.null))] 2 6 102 #[.val (.int g0), .val (.int g1), .val (.int g2), .val (.int g3), .val (.int g4), .val (.int 2), .val (.int c0), .val (.int c1), .val (.int c2), .val (.int c3), .unset, .unset, .unset, .unset] [(.ref a51), (.ref a50), (.ref a50)] Q_law
    refine Wp.pick [1, 0] (by decide) ?_
    show W35 l Z room_1 [(a50, oS (.null)), (a51, oA .char [c0, c1])] 2 6 102 #[.val (.int g0), .val (.int g1), .val (.int g2), .val (.int g3), .val (.int g4), .val (.int 2), .val (.int c0), .val (.int c1), .val (.int c2), .val (.int c3), .unset, .unset, .unset, .unset] [(.ref a51), (.ref a50), (.ref a50)] Q_law
    refine wp_init (c_si1_2 l Z a0 hw a50 a51 cp c0 c1 [] S_cp hcp hc0 hc1) D_102 rfl (gw hw 9 rfl) (gw hw 10 rfl) (gw hw 7 rfl) (gw hw 11 rfl) (by decide) pd_23 rfl rfl rfl (lb rfl) (lb rfl) (lb rfl) (lb rfl) ?_
    rintro _ _ ⟨rfl, b52, rfl⟩
    show W35 l Z room_1 [(b52, oA .byte [(nar .byte c0.toInt8.toInt32), (nar .byte c1.toInt8.toInt32)]), (a50, oS (.ref b52)), (a51, oA .char [c0, c1])] 3 8 105 #[.val (.int g0), .val (.int g1), .val (.int g2), .val (.int g3), .val (.int g4), .val (.int 2), .val (.int c0), .val (.int c1), .val (.int c2), .val (.int c3), .unset, .unset, .unset, .unset] [(.ref a50)] Q_law
    refine Wp.frz (i := 0) rfl ?_
    refine Wp.frz (i := 1) rfl ?_
    show W35 l Z room_1 [(b52, fA .byte [(nar .byte c0.toInt8.toInt32), (nar .byte c1.toInt8.toInt32)]), (a50, strO b52), (a51, oA .char [c0, c1])] 3 8 105 #[.val (.int g0), .val (.int g1), .val (.int g2), .val (.int g3), .val (.int g4), .val (.int 2), .val (.int c0), .val (.int c1), .val (.int c2), .val (.int c3), .unset, .unset, .unset, .unset] [(.ref a50)] Q_law
    refine wp_astore #[.val (.int g0), .val (.int g1), .val (.int g2), .val (.int g3), .val (.int g4), .val (.int 2), .val (.int c0), .val (.int c1), .val (.int c2), .val (.int c3), .val (.ref a50), .unset, .unset, .unset] D_105 rfl rfl ?_
    refine wp_goto D_107 (pc'' := 178) ⟨by decide, by decide⟩ ?_
    refine wp_aload D_178 rfl rfl ?_
    refine Wp.pick [1, 0, 2] (by decide) ?_
    show W35 l Z room_1 [(a50, strO b52), (b52, fA .byte [(nar .byte c0.toInt8.toInt32), (nar .byte c1.toInt8.toInt32)]), (a51, oA .char [c0, c1])] 3 8 180 #[.val (.int g0), .val (.int g1), .val (.int g2), .val (.int g3), .val (.int g4), .val (.int 2), .val (.int c0), .val (.int c1), .val (.int c2), .val (.int c3), .val (.ref a50), .unset, .unset, .unset] [(.ref a50)] Q_law
    by_cases hk0 : c0 = (35 : Int32)
    · subst hk0
      show W35 l Z room_1 [(a50, strO b52), (b52, fA .byte [(nar .byte (35 : Int32).toInt8.toInt32), (nar .byte c1.toInt8.toInt32)]), (a51, oA .char [(35 : Int32), c1])] 3 8 180 #[.val (.int g0), .val (.int g1), .val (.int g2), .val (.int g3), .val (.int g4), .val (.int 2), .val (.int 35), .val (.int c1), .val (.int c2), .val (.int c3), .val (.ref a50), .unset, .unset, .unset] [(.ref a50)] Q_law
      refine wp_callSI (c_wf_2_0 l Z a0 hw a50 b52 (nar .byte (35 : Int32).toInt8.toInt32) (nar .byte c1.toInt8.toInt32) cp fm [(a51, oA .char [(35 : Int32), c1])] hs (by decide)) (own_EL l Z a0 hw) D_180 (gw hw 27 rfl) (gw hw 28 rfl) (gw hw 29 rfl) (gw hw 30 rfl) (by decide) pd_24 rfl rfl rfl (lb rfl) (lb rfl) (lb rfl) (lb rfl) ?_
      rintro _ _ ⟨sa53, su54, rfl, rfl⟩
      show W35 l Z room_1 [(sa53, strO su54), (su54, fA .byte []), (a50, strO b52), (b52, fA .byte [(nar .byte (35 : Int32).toInt8.toInt32), (nar .byte c1.toInt8.toInt32)]), (a51, oA .char [(35 : Int32), c1])] 5 12 183 #[.val (.int g0), .val (.int g1), .val (.int g2), .val (.int g3), .val (.int g4), .val (.int 2), .val (.int 35), .val (.int c1), .val (.int c2), .val (.int c3), .val (.ref a50), .unset, .unset, .unset] [(.ref sa53)] Q_law
      refine wp_astore #[.val (.int g0), .val (.int g1), .val (.int g2), .val (.int g3), .val (.int g4), .val (.int 2), .val (.int 35), .val (.int c1), .val (.int c2), .val (.int c3), .val (.ref a50), .val (.ref sa53), .unset, .unset] D_183 rfl rfl ?_
      refine wp_iload D_185 rfl ?_
      refine wp_istore #[.val (.int g0), .val (.int g1), .val (.int g2), .val (.int g3), .val (.int g4), .val (.int 2), .val (.int 35), .val (.int c1), .val (.int c2), .val (.int c3), .val (.ref a50), .val (.ref sa53), .val (.int 2), .unset] D_187 rfl ?_
      refine wp_iload D_189 rfl ?_
      refine wp_iconst 3 D_191 (by decide) ?_
      refine wp_icmp_le D_192 (pc'' := 205) ⟨by decide, by decide⟩ (fun h55 => ?_) (fun h55 => by exact absurd h55 (by decide))
      refine wp_iload D_205 rfl ?_
      refine wp_iconst 2 D_207 (by decide) ?_
      refine wp_icmp_le D_208 (pc'' := 221) ⟨by decide, by decide⟩ (fun h56 => ?_) (fun h56 => by exact absurd h56 (by decide))
      refine wp_iload D_221 rfl ?_
      refine wp_iconst 1 D_223 (by decide) ?_
      refine wp_icmp_le D_224 (pc'' := 237) ⟨by decide, by decide⟩ (fun h57 => by exact absurd h57 (by decide)) (fun h57 => ?_)
      refine wp_iload D_227 rfl ?_
      refine wp_bipush 35 D_229 (by decide) ?_
      have J61 : ∀ (b59 : Int32), ((¬ c1 = (35 : Int32) ∧ b59 = (2 : Int32)) ∨ (c1 = (35 : Int32) ∧ b59 = (1 : Int32))) → W35 l Z room_1 [(sa53, strO su54), (su54, fA .byte []), (a50, strO b52), (b52, fA .byte [(nar .byte (35 : Int32).toInt8.toInt32), (nar .byte c1.toInt8.toInt32)]), (a51, oA .char [(35 : Int32), c1])] 5 12 237 #[.val (.int g0), .val (.int g1), .val (.int g2), .val (.int g3), .val (.int g4), .val (.int 2), .val (.int 35), .val (.int c1), .val (.int c2), .val (.int c3), .val (.ref a50), .val (.ref sa53), .val (.int b59), .unset] [] Q_law := by
        intro b59 hj60
        refine wp_iload D_237 rfl ?_
        refine wp_if_le D_239 (pc'' := 252) ⟨by decide, by decide⟩ (fun h62 => by exact absurd h62 (by decide)) (fun h62 => ?_)
        refine wp_iload D_242 rfl ?_
        refine wp_bipush 35 D_244 (by decide) ?_
        refine wp_icmp_ne D_246 (pc'' := 252) ⟨by decide, by decide⟩ (fun h63 => by exact absurd h63 (by decide)) (fun h63 => ?_)
        refine wp_iconst 0 D_249 (by decide) ?_
        refine wp_istore #[.val (.int g0), .val (.int g1), .val (.int g2), .val (.int g3), .val (.int g4), .val (.int 2), .val (.int 35), .val (.int c1), .val (.int c2), .val (.int c3), .val (.ref a50), .val (.ref sa53), .val (.int 0), .unset] D_250 rfl ?_
        refine wp_aload D_252 rfl rfl ?_
        refine wp_ifnull_n D_254 ?_
        refine wp_aload D_257 rfl rfl ?_
        refine wp_virtual (c_len_0 l Z a0 hw sa53 su54 cp fm [(a50, strO b52), (b52, fA .byte [(nar .byte (35 : Int32).toInt8.toInt32), (nar .byte c1.toInt8.toInt32)]), (a51, oA .char [(35 : Int32), c1])] hs ) (exa_new (i := 0) rfl) D_259 (gw hw 71 rfl) (gw hw 48 rfl) (gw hw 50 rfl) (gw hw 50 rfl) (gw hw 49 rfl) (gw hw 7 rfl) (gw hw 51 rfl) (by decide) pd_5 rfl rfl rfl (lb rfl) (lb rfl) (lb rfl) (lb rfl) ?_
        rintro _ _ ⟨rfl, rfl⟩
        show W35 l Z room_1 [(sa53, strO su54), (su54, fA .byte []), (a50, strO b52), (b52, fA .byte [(nar .byte (35 : Int32).toInt8.toInt32), (nar .byte c1.toInt8.toInt32)]), (a51, oA .char [(35 : Int32), c1])] 5 12 262 #[.val (.int g0), .val (.int g1), .val (.int g2), .val (.int g3), .val (.int g4), .val (.int 2), .val (.int 35), .val (.int c1), .val (.int c2), .val (.int c3), .val (.ref a50), .val (.ref sa53), .val (.int 0), .unset] [(.int 0)] Q_law
        refine wp_iload D_262 rfl ?_
        refine wp_icmp_eq D_264 (pc'' := 269) ⟨by decide, by decide⟩ (fun h64 => ?_) (fun h64 => by exact absurd h64 (by decide))
        refine wp_iconst 1 D_269 (by decide) ?_
        refine wp_istore #[.val (.int g0), .val (.int g1), .val (.int g2), .val (.int g3), .val (.int g4), .val (.int 2), .val (.int 35), .val (.int c1), .val (.int c2), .val (.int c3), .val (.ref a50), .val (.ref sa53), .val (.int 0), .val (.int 1)] D_270 rfl ?_
        refine wp_iload D_272 rfl ?_
        refine wp_if_le D_274 (pc'' := 300) ⟨by decide, by decide⟩ (fun h65 => ?_) (fun h65 => by exact absurd h65 (by decide))
        refine wp_iload D_300 rfl ?_
        refine wp_iconst 1 D_302 (by decide) ?_
        refine wp_icmp_le D_303 (pc'' := 329) ⟨by decide, by decide⟩ (fun h66 => ?_) (fun h66 => by exact absurd h66 (by decide))
        refine wp_iload D_329 rfl ?_
        refine wp_iconst 2 D_331 (by decide) ?_
        refine wp_icmp_le D_332 (pc'' := 358) ⟨by decide, by decide⟩ (fun h67 => ?_) (fun h67 => by exact absurd h67 (by decide))
        refine wp_iload D_358 rfl ?_
        refine wp_iconst 3 D_360 (by decide) ?_
        refine wp_icmp_le D_361 (pc'' := 387) ⟨by decide, by decide⟩ (fun h68 => ?_) (fun h68 => by exact absurd h68 (by decide))
        refine wp_iload D_387 rfl ?_
        refine wp_ireturnN D_389 rfl (by simp) (by decide) (by decide) ?_
        exact rfl
      refine wp_icmp_ne D_231 (pc'' := 237) ⟨by decide, by decide⟩ (fun h58 => ?_) (fun h58 => ?_)
      · skip
        exact (J61 (2 : Int32) (Or.inl ⟨h58, rfl⟩))
      · skip
        refine wp_iconst 1 D_234 (by decide) ?_
        refine wp_istore #[.val (.int g0), .val (.int g1), .val (.int g2), .val (.int g3), .val (.int g4), .val (.int 2), .val (.int 35), .val (.int c1), .val (.int c2), .val (.int c3), .val (.ref a50), .val (.ref sa53), .val (.int 1), .unset] D_235 rfl ?_
        exact (J61 (1 : Int32) (Or.inr ⟨h58, rfl⟩))
    · skip
      by_cases hk1 : c1 = (35 : Int32)
      · subst hk1
        show W35 l Z room_1 [(a50, strO b52), (b52, fA .byte [(nar .byte c0.toInt8.toInt32), (nar .byte (35 : Int32).toInt8.toInt32)]), (a51, oA .char [c0, (35 : Int32)])] 3 8 180 #[.val (.int g0), .val (.int g1), .val (.int g2), .val (.int g3), .val (.int g4), .val (.int 2), .val (.int c0), .val (.int 35), .val (.int c2), .val (.int c3), .val (.ref a50), .unset, .unset, .unset] [(.ref a50)] Q_law
        refine wp_callS (c_wf_2_1 l Z a0 hw a50 b52 (nar .byte c0.toInt8.toInt32) (nar .byte (35 : Int32).toInt8.toInt32) cp fm [(a51, oA .char [c0, (35 : Int32)])] hs (own_35 c0 hc0 hk0) (by decide)) D_180 (gw hw 27 rfl) (gw hw 28 rfl) (gw hw 29 rfl) (gw hw 30 rfl) (by decide) pd_24 rfl rfl rfl (lb rfl) (lb rfl) (lb rfl) (lb rfl) ?_
        rintro _ _ ⟨sa69, su70, rfl, rfl⟩
        show W35 l Z room_1 [(su70, fA .byte [(nar .byte c0.toInt8.toInt32)]), (sa69, strO su70), (a50, strO b52), (b52, fA .byte [(nar .byte c0.toInt8.toInt32), (nar .byte (35 : Int32).toInt8.toInt32)]), (a51, oA .char [c0, (35 : Int32)])] 5 13 183 #[.val (.int g0), .val (.int g1), .val (.int g2), .val (.int g3), .val (.int g4), .val (.int 2), .val (.int c0), .val (.int 35), .val (.int c2), .val (.int c3), .val (.ref a50), .unset, .unset, .unset] [(.ref sa69)] Q_law
        refine wp_astore #[.val (.int g0), .val (.int g1), .val (.int g2), .val (.int g3), .val (.int g4), .val (.int 2), .val (.int c0), .val (.int 35), .val (.int c2), .val (.int c3), .val (.ref a50), .val (.ref sa69), .unset, .unset] D_183 rfl rfl ?_
        refine wp_iload D_185 rfl ?_
        refine wp_istore #[.val (.int g0), .val (.int g1), .val (.int g2), .val (.int g3), .val (.int g4), .val (.int 2), .val (.int c0), .val (.int 35), .val (.int c2), .val (.int c3), .val (.ref a50), .val (.ref sa69), .val (.int 2), .unset] D_187 rfl ?_
        refine wp_iload D_189 rfl ?_
        refine wp_iconst 3 D_191 (by decide) ?_
        refine wp_icmp_le D_192 (pc'' := 205) ⟨by decide, by decide⟩ (fun h71 => ?_) (fun h71 => by exact absurd h71 (by decide))
        refine wp_iload D_205 rfl ?_
        refine wp_iconst 2 D_207 (by decide) ?_
        refine wp_icmp_le D_208 (pc'' := 221) ⟨by decide, by decide⟩ (fun h72 => ?_) (fun h72 => by exact absurd h72 (by decide))
        refine wp_iload D_221 rfl ?_
        refine wp_iconst 1 D_223 (by decide) ?_
        refine wp_icmp_le D_224 (pc'' := 237) ⟨by decide, by decide⟩ (fun h73 => by exact absurd h73 (by decide)) (fun h73 => ?_)
        refine wp_iload D_227 rfl ?_
        refine wp_bipush 35 D_229 (by decide) ?_
        refine wp_icmp_ne D_231 (pc'' := 237) ⟨by decide, by decide⟩ (fun h74 => by exact absurd h74 (by decide)) (fun h74 => ?_)
        refine wp_iconst 1 D_234 (by decide) ?_
        refine wp_istore #[.val (.int g0), .val (.int g1), .val (.int g2), .val (.int g3), .val (.int g4), .val (.int 2), .val (.int c0), .val (.int 35), .val (.int c2), .val (.int c3), .val (.ref a50), .val (.ref sa69), .val (.int 1), .unset] D_235 rfl ?_
        refine wp_iload D_237 rfl ?_
        refine wp_if_le D_239 (pc'' := 252) ⟨by decide, by decide⟩ (fun h75 => by exact absurd h75 (by decide)) (fun h75 => ?_)
        refine wp_iload D_242 rfl ?_
        refine wp_bipush 35 D_244 (by decide) ?_
        refine wp_icmp_ne D_246 (pc'' := 252) ⟨by decide, by decide⟩ (fun h76 => ?_) (fun h76 => by exact absurd h76 hk0)
        refine wp_aload D_252 rfl rfl ?_
        refine wp_ifnull_n D_254 ?_
        refine wp_aload D_257 rfl rfl ?_
        refine Wp.pick [1, 0, 2, 3, 4] (by decide) ?_
        show W35 l Z room_1 [(sa69, strO su70), (su70, fA .byte [(nar .byte c0.toInt8.toInt32)]), (a50, strO b52), (b52, fA .byte [(nar .byte c0.toInt8.toInt32), (nar .byte (35 : Int32).toInt8.toInt32)]), (a51, oA .char [c0, (35 : Int32)])] 5 13 259 #[.val (.int g0), .val (.int g1), .val (.int g2), .val (.int g3), .val (.int g4), .val (.int 2), .val (.int c0), .val (.int 35), .val (.int c2), .val (.int c3), .val (.ref a50), .val (.ref sa69), .val (.int 1), .unset] [(.ref sa69)] Q_law
        refine wp_virtual (c_len_1 l Z a0 hw sa69 su70 (nar .byte c0.toInt8.toInt32) cp fm [(a50, strO b52), (b52, fA .byte [(nar .byte c0.toInt8.toInt32), (nar .byte (35 : Int32).toInt8.toInt32)]), (a51, oA .char [c0, (35 : Int32)])] hs ) (exa_new (i := 0) rfl) D_259 (gw hw 71 rfl) (gw hw 48 rfl) (gw hw 50 rfl) (gw hw 50 rfl) (gw hw 49 rfl) (gw hw 7 rfl) (gw hw 51 rfl) (by decide) pd_5 rfl rfl rfl (lb rfl) (lb rfl) (lb rfl) (lb rfl) ?_
        rintro _ _ ⟨rfl, rfl⟩
        show W35 l Z room_1 [(sa69, strO su70), (su70, fA .byte [(nar .byte c0.toInt8.toInt32)]), (a50, strO b52), (b52, fA .byte [(nar .byte c0.toInt8.toInt32), (nar .byte (35 : Int32).toInt8.toInt32)]), (a51, oA .char [c0, (35 : Int32)])] 5 13 262 #[.val (.int g0), .val (.int g1), .val (.int g2), .val (.int g3), .val (.int g4), .val (.int 2), .val (.int c0), .val (.int 35), .val (.int c2), .val (.int c3), .val (.ref a50), .val (.ref sa69), .val (.int 1), .unset] [(.int 1)] Q_law
        refine wp_iload D_262 rfl ?_
        refine wp_icmp_eq D_264 (pc'' := 269) ⟨by decide, by decide⟩ (fun h77 => ?_) (fun h77 => by exact absurd h77 (by decide))
        refine wp_iconst 1 D_269 (by decide) ?_
        refine wp_istore #[.val (.int g0), .val (.int g1), .val (.int g2), .val (.int g3), .val (.int g4), .val (.int 2), .val (.int c0), .val (.int 35), .val (.int c2), .val (.int c3), .val (.ref a50), .val (.ref sa69), .val (.int 1), .val (.int 1)] D_270 rfl ?_
        refine wp_iload D_272 rfl ?_
        refine wp_if_le D_274 (pc'' := 300) ⟨by decide, by decide⟩ (fun h78 => by exact absurd h78 (by decide)) (fun h78 => ?_)
        refine wp_iload D_277 rfl ?_
        refine wp_if_eq D_279 (pc'' := 297) ⟨by decide, by decide⟩ (fun h79 => by exact absurd h79 (by decide)) (fun h79 => ?_)
        refine wp_aload D_282 rfl rfl ?_
        refine wp_iconst 0 D_284 (by decide) ?_
        refine wp_virtual (c_cat_1_0 l Z a0 hw sa69 su70 (nar .byte c0.toInt8.toInt32) cp fm [(a50, strO b52), (b52, fA .byte [(nar .byte c0.toInt8.toInt32), (nar .byte (35 : Int32).toInt8.toInt32)]), (a51, oA .char [c0, (35 : Int32)])] hs ) (exa_new (i := 0) rfl) D_285 (gw hw 102 rfl) (gw hw 103 rfl) (gw hw 105 rfl) (gw hw 105 rfl) (gw hw 104 rfl) (gw hw 7 rfl) (gw hw 106 rfl) (by decide) pd_22 rfl rfl rfl (lb rfl) (lb rfl) (lb rfl) (lb rfl) ?_
        rintro _ _ ⟨rfl, rfl⟩
        rw [own_ub c0 hc0]
        show W35 l Z room_1 [(sa69, strO su70), (su70, fA .byte [(nar .byte c0.toInt8.toInt32)]), (a50, strO b52), (b52, fA .byte [(nar .byte c0.toInt8.toInt32), (nar .byte (35 : Int32).toInt8.toInt32)]), (a51, oA .char [c0, (35 : Int32)])] 5 13 288 #[.val (.int g0), .val (.int g1), .val (.int g2), .val (.int g3), .val (.int g4), .val (.int 2), .val (.int c0), .val (.int 35), .val (.int c2), .val (.int c3), .val (.ref a50), .val (.ref sa69), .val (.int 1), .val (.int 1)] [(.int c0)] Q_law
        refine wp_iload D_288 rfl ?_
        refine wp_icmp_ne D_290 (pc'' := 297) ⟨by decide, by decide⟩ (fun h80 => by exact absurd rfl h80) (fun h80 => ?_)
        refine wp_iconst 1 D_293 (by decide) ?_
        refine wp_goto D_294 (pc'' := 298) ⟨by decide, by decide⟩ ?_
        refine wp_istore #[.val (.int g0), .val (.int g1), .val (.int g2), .val (.int g3), .val (.int g4), .val (.int 2), .val (.int c0), .val (.int 35), .val (.int c2), .val (.int c3), .val (.ref a50), .val (.ref sa69), .val (.int 1), .val (.int 1)] D_298 rfl ?_
        refine wp_iload D_300 rfl ?_
        refine wp_iconst 1 D_302 (by decide) ?_
        refine wp_icmp_le D_303 (pc'' := 329) ⟨by decide, by decide⟩ (fun h81 => ?_) (fun h81 => by exact absurd h81 (by decide))
        refine wp_iload D_329 rfl ?_
        refine wp_iconst 2 D_331 (by decide) ?_
        refine wp_icmp_le D_332 (pc'' := 358) ⟨by decide, by decide⟩ (fun h82 => ?_) (fun h82 => by exact absurd h82 (by decide))
        refine wp_iload D_358 rfl ?_
        refine wp_iconst 3 D_360 (by decide) ?_
        refine wp_icmp_le D_361 (pc'' := 387) ⟨by decide, by decide⟩ (fun h83 => ?_) (fun h83 => by exact absurd h83 (by decide))
        refine wp_iload D_387 rfl ?_
        refine wp_ireturnN D_389 rfl (by simp) (by decide) (by decide) ?_
        exact rfl
      · skip
        refine wp_callS (c_wf_2_m l Z a0 hw a50 b52 (nar .byte c0.toInt8.toInt32) (nar .byte c1.toInt8.toInt32) cp fm [(a51, oA .char [c0, c1])] hs (own_35 c0 hc0 hk0) (own_35 c1 hc1 hk1)) D_180 (gw hw 27 rfl) (gw hw 28 rfl) (gw hw 29 rfl) (gw hw 30 rfl) (by decide) pd_24 rfl rfl rfl (lb rfl) (lb rfl) (lb rfl) (lb rfl) ?_
        rintro _ _ ⟨rfl, rfl⟩
        show W35 l Z room_1 [(a50, strO b52), (b52, fA .byte [(nar .byte c0.toInt8.toInt32), (nar .byte c1.toInt8.toInt32)]), (a51, oA .char [c0, c1])] 3 8 183 #[.val (.int g0), .val (.int g1), .val (.int g2), .val (.int g3), .val (.int g4), .val (.int 2), .val (.int c0), .val (.int c1), .val (.int c2), .val (.int c3), .val (.ref a50), .unset, .unset, .unset] [(.ref a50)] Q_law
        refine wp_astore #[.val (.int g0), .val (.int g1), .val (.int g2), .val (.int g3), .val (.int g4), .val (.int 2), .val (.int c0), .val (.int c1), .val (.int c2), .val (.int c3), .val (.ref a50), .val (.ref a50), .unset, .unset] D_183 rfl rfl ?_
        refine wp_iload D_185 rfl ?_
        refine wp_istore #[.val (.int g0), .val (.int g1), .val (.int g2), .val (.int g3), .val (.int g4), .val (.int 2), .val (.int c0), .val (.int c1), .val (.int c2), .val (.int c3), .val (.ref a50), .val (.ref a50), .val (.int 2), .unset] D_187 rfl ?_
        refine wp_iload D_189 rfl ?_
        refine wp_iconst 3 D_191 (by decide) ?_
        refine wp_icmp_le D_192 (pc'' := 205) ⟨by decide, by decide⟩ (fun h84 => ?_) (fun h84 => by exact absurd h84 (by decide))
        refine wp_iload D_205 rfl ?_
        refine wp_iconst 2 D_207 (by decide) ?_
        refine wp_icmp_le D_208 (pc'' := 221) ⟨by decide, by decide⟩ (fun h85 => ?_) (fun h85 => by exact absurd h85 (by decide))
        refine wp_iload D_221 rfl ?_
        refine wp_iconst 1 D_223 (by decide) ?_
        refine wp_icmp_le D_224 (pc'' := 237) ⟨by decide, by decide⟩ (fun h86 => by exact absurd h86 (by decide)) (fun h86 => ?_)
        refine wp_iload D_227 rfl ?_
        refine wp_bipush 35 D_229 (by decide) ?_
        refine wp_icmp_ne D_231 (pc'' := 237) ⟨by decide, by decide⟩ (fun h87 => ?_) (fun h87 => by exact absurd h87 hk1)
        refine wp_iload D_237 rfl ?_
        refine wp_if_le D_239 (pc'' := 252) ⟨by decide, by decide⟩ (fun h88 => by exact absurd h88 (by decide)) (fun h88 => ?_)
        refine wp_iload D_242 rfl ?_
        refine wp_bipush 35 D_244 (by decide) ?_
        refine wp_icmp_ne D_246 (pc'' := 252) ⟨by decide, by decide⟩ (fun h89 => ?_) (fun h89 => by exact absurd h89 hk0)
        refine wp_aload D_252 rfl rfl ?_
        refine wp_ifnull_n D_254 ?_
        refine wp_aload D_257 rfl rfl ?_
        refine wp_virtual (c_len_2 l Z a0 hw a50 b52 (nar .byte c0.toInt8.toInt32) (nar .byte c1.toInt8.toInt32) cp fm [(a51, oA .char [c0, c1])] hs ) (exa_new (i := 0) rfl) D_259 (gw hw 71 rfl) (gw hw 48 rfl) (gw hw 50 rfl) (gw hw 50 rfl) (gw hw 49 rfl) (gw hw 7 rfl) (gw hw 51 rfl) (by decide) pd_5 rfl rfl rfl (lb rfl) (lb rfl) (lb rfl) (lb rfl) ?_
        rintro _ _ ⟨rfl, rfl⟩
        show W35 l Z room_1 [(a50, strO b52), (b52, fA .byte [(nar .byte c0.toInt8.toInt32), (nar .byte c1.toInt8.toInt32)]), (a51, oA .char [c0, c1])] 3 8 262 #[.val (.int g0), .val (.int g1), .val (.int g2), .val (.int g3), .val (.int g4), .val (.int 2), .val (.int c0), .val (.int c1), .val (.int c2), .val (.int c3), .val (.ref a50), .val (.ref a50), .val (.int 2), .unset] [(.int 2)] Q_law
        refine wp_iload D_262 rfl ?_
        refine wp_icmp_eq D_264 (pc'' := 269) ⟨by decide, by decide⟩ (fun h90 => ?_) (fun h90 => by exact absurd h90 (by decide))
        refine wp_iconst 1 D_269 (by decide) ?_
        refine wp_istore #[.val (.int g0), .val (.int g1), .val (.int g2), .val (.int g3), .val (.int g4), .val (.int 2), .val (.int c0), .val (.int c1), .val (.int c2), .val (.int c3), .val (.ref a50), .val (.ref a50), .val (.int 2), .val (.int 1)] D_270 rfl ?_
        refine wp_iload D_272 rfl ?_
        refine wp_if_le D_274 (pc'' := 300) ⟨by decide, by decide⟩ (fun h91 => by exact absurd h91 (by decide)) (fun h91 => ?_)
        refine wp_iload D_277 rfl ?_
        refine wp_if_eq D_279 (pc'' := 297) ⟨by decide, by decide⟩ (fun h92 => by exact absurd h92 (by decide)) (fun h92 => ?_)
        refine wp_aload D_282 rfl rfl ?_
        refine wp_iconst 0 D_284 (by decide) ?_
        refine wp_virtual (c_cat_2_0 l Z a0 hw a50 b52 (nar .byte c0.toInt8.toInt32) (nar .byte c1.toInt8.toInt32) cp fm [(a51, oA .char [c0, c1])] hs ) (exa_new (i := 0) rfl) D_285 (gw hw 102 rfl) (gw hw 103 rfl) (gw hw 105 rfl) (gw hw 105 rfl) (gw hw 104 rfl) (gw hw 7 rfl) (gw hw 106 rfl) (by decide) pd_22 rfl rfl rfl (lb rfl) (lb rfl) (lb rfl) (lb rfl) ?_
        rintro _ _ ⟨rfl, rfl⟩
        rw [own_ub c0 hc0]
        show W35 l Z room_1 [(a50, strO b52), (b52, fA .byte [(nar .byte c0.toInt8.toInt32), (nar .byte c1.toInt8.toInt32)]), (a51, oA .char [c0, c1])] 3 8 288 #[.val (.int g0), .val (.int g1), .val (.int g2), .val (.int g3), .val (.int g4), .val (.int 2), .val (.int c0), .val (.int c1), .val (.int c2), .val (.int c3), .val (.ref a50), .val (.ref a50), .val (.int 2), .val (.int 1)] [(.int c0)] Q_law
        refine wp_iload D_288 rfl ?_
        refine wp_icmp_ne D_290 (pc'' := 297) ⟨by decide, by decide⟩ (fun h93 => by exact absurd rfl h93) (fun h93 => ?_)
        refine wp_iconst 1 D_293 (by decide) ?_
        refine wp_goto D_294 (pc'' := 298) ⟨by decide, by decide⟩ ?_
        refine wp_istore #[.val (.int g0), .val (.int g1), .val (.int g2), .val (.int g3), .val (.int g4), .val (.int 2), .val (.int c0), .val (.int c1), .val (.int c2), .val (.int c3), .val (.ref a50), .val (.ref a50), .val (.int 2), .val (.int 1)] D_298 rfl ?_
        refine wp_iload D_300 rfl ?_
        refine wp_iconst 1 D_302 (by decide) ?_
        refine wp_icmp_le D_303 (pc'' := 329) ⟨by decide, by decide⟩ (fun h94 => by exact absurd h94 (by decide)) (fun h94 => ?_)
        refine wp_iload D_306 rfl ?_
        refine wp_if_eq D_308 (pc'' := 326) ⟨by decide, by decide⟩ (fun h95 => by exact absurd h95 (by decide)) (fun h95 => ?_)
        refine wp_aload D_311 rfl rfl ?_
        refine wp_iconst 1 D_313 (by decide) ?_
        refine wp_virtual (c_cat_2_1 l Z a0 hw a50 b52 (nar .byte c0.toInt8.toInt32) (nar .byte c1.toInt8.toInt32) cp fm [(a51, oA .char [c0, c1])] hs ) (exa_new (i := 0) rfl) D_314 (gw hw 102 rfl) (gw hw 103 rfl) (gw hw 105 rfl) (gw hw 105 rfl) (gw hw 104 rfl) (gw hw 7 rfl) (gw hw 106 rfl) (by decide) pd_22 rfl rfl rfl (lb rfl) (lb rfl) (lb rfl) (lb rfl) ?_
        rintro _ _ ⟨rfl, rfl⟩
        rw [own_ub c1 hc1]
        show W35 l Z room_1 [(a50, strO b52), (b52, fA .byte [(nar .byte c0.toInt8.toInt32), (nar .byte c1.toInt8.toInt32)]), (a51, oA .char [c0, c1])] 3 8 317 #[.val (.int g0), .val (.int g1), .val (.int g2), .val (.int g3), .val (.int g4), .val (.int 2), .val (.int c0), .val (.int c1), .val (.int c2), .val (.int c3), .val (.ref a50), .val (.ref a50), .val (.int 2), .val (.int 1)] [(.int c1)] Q_law
        refine wp_iload D_317 rfl ?_
        refine wp_icmp_ne D_319 (pc'' := 326) ⟨by decide, by decide⟩ (fun h96 => by exact absurd rfl h96) (fun h96 => ?_)
        refine wp_iconst 1 D_322 (by decide) ?_
        refine wp_goto D_323 (pc'' := 327) ⟨by decide, by decide⟩ ?_
        refine wp_istore #[.val (.int g0), .val (.int g1), .val (.int g2), .val (.int g3), .val (.int g4), .val (.int 2), .val (.int c0), .val (.int c1), .val (.int c2), .val (.int c3), .val (.ref a50), .val (.ref a50), .val (.int 2), .val (.int 1)] D_327 rfl ?_
        refine wp_iload D_329 rfl ?_
        refine wp_iconst 2 D_331 (by decide) ?_
        refine wp_icmp_le D_332 (pc'' := 358) ⟨by decide, by decide⟩ (fun h97 => ?_) (fun h97 => by exact absurd h97 (by decide))
        refine wp_iload D_358 rfl ?_
        refine wp_iconst 3 D_360 (by decide) ?_
        refine wp_icmp_le D_361 (pc'' := 387) ⟨by decide, by decide⟩ (fun h98 => ?_) (fun h98 => by exact absurd h98 (by decide))
        refine wp_iload D_387 rfl ?_
        refine wp_ireturnN D_389 rfl (by simp) (by decide) (by decide) ?_
        exact rfl
  · subst hs_x1
    show W35 l Z room_1 [] 0 0 8 #[.val (.int g0), .val (.int g1), .val (.int g2), .val (.int g3), .val (.int g4), .val (.int 3), .unset, .unset, .unset, .unset, .unset, .unset, .unset, .unset] [] Q_law
    refine wp_iload_n D_8 rfl ?_
    refine wp_callS (c_ch l Z a0 hw g1 [] ) D_9 (gw hw 1 rfl) (gw hw 2 rfl) (gw hw 3 rfl) (gw hw 4 rfl) (by decide) pd_22 rfl rfl rfl (lb rfl) (lb rfl) (lb rfl) (lb rfl) ?_
    rintro _ _ ⟨c0, rfl, hc0, rfl⟩
    show W35 l Z room_1 [] 0 0 12 #[.val (.int g0), .val (.int g1), .val (.int g2), .val (.int g3), .val (.int g4), .val (.int 3), .unset, .unset, .unset, .unset, .unset, .unset, .unset, .unset] [(.int c0)] Q_law
    refine wp_istore #[.val (.int g0), .val (.int g1), .val (.int g2), .val (.int g3), .val (.int g4), .val (.int 3), .val (.int c0), .unset, .unset, .unset, .unset, .unset, .unset, .unset] D_12 rfl ?_
    refine wp_iload_n D_14 rfl ?_
    refine wp_callS (c_ch l Z a0 hw g2 [] ) D_15 (gw hw 1 rfl) (gw hw 2 rfl) (gw hw 3 rfl) (gw hw 4 rfl) (by decide) pd_22 rfl rfl rfl (lb rfl) (lb rfl) (lb rfl) (lb rfl) ?_
    rintro _ _ ⟨c1, rfl, hc1, rfl⟩
    show W35 l Z room_1 [] 0 0 18 #[.val (.int g0), .val (.int g1), .val (.int g2), .val (.int g3), .val (.int g4), .val (.int 3), .val (.int c0), .unset, .unset, .unset, .unset, .unset, .unset, .unset] [(.int c1)] Q_law
    refine wp_istore #[.val (.int g0), .val (.int g1), .val (.int g2), .val (.int g3), .val (.int g4), .val (.int 3), .val (.int c0), .val (.int c1), .unset, .unset, .unset, .unset, .unset, .unset] D_18 rfl ?_
    refine wp_iload_n D_20 rfl ?_
    refine wp_callS (c_ch l Z a0 hw g3 [] ) D_21 (gw hw 1 rfl) (gw hw 2 rfl) (gw hw 3 rfl) (gw hw 4 rfl) (by decide) pd_22 rfl rfl rfl (lb rfl) (lb rfl) (lb rfl) (lb rfl) ?_
    rintro _ _ ⟨c2, rfl, hc2, rfl⟩
    show W35 l Z room_1 [] 0 0 24 #[.val (.int g0), .val (.int g1), .val (.int g2), .val (.int g3), .val (.int g4), .val (.int 3), .val (.int c0), .val (.int c1), .unset, .unset, .unset, .unset, .unset, .unset] [(.int c2)] Q_law
    refine wp_istore #[.val (.int g0), .val (.int g1), .val (.int g2), .val (.int g3), .val (.int g4), .val (.int 3), .val (.int c0), .val (.int c1), .val (.int c2), .unset, .unset, .unset, .unset, .unset] D_24 rfl ?_
    refine wp_iload D_26 rfl ?_
    refine wp_callS (c_ch l Z a0 hw g4 [] ) D_28 (gw hw 1 rfl) (gw hw 2 rfl) (gw hw 3 rfl) (gw hw 4 rfl) (by decide) pd_22 rfl rfl rfl (lb rfl) (lb rfl) (lb rfl) (lb rfl) ?_
    rintro _ _ ⟨c3, rfl, hc3, rfl⟩
    show W35 l Z room_1 [] 0 0 31 #[.val (.int g0), .val (.int g1), .val (.int g2), .val (.int g3), .val (.int g4), .val (.int 3), .val (.int c0), .val (.int c1), .val (.int c2), .unset, .unset, .unset, .unset, .unset] [(.int c3)] Q_law
    refine wp_istore #[.val (.int g0), .val (.int g1), .val (.int g2), .val (.int g3), .val (.int g4), .val (.int 3), .val (.int c0), .val (.int c1), .val (.int c2), .val (.int c3), .unset, .unset, .unset, .unset] D_31 rfl ?_
    refine wp_iload D_33 rfl ?_
    refine wp_if_ne D_35 (pc'' := 53) ⟨by decide, by decide⟩ (fun h99 => ?_) (fun h99 => by exact absurd h99 (by decide))
    refine wp_iload D_53 rfl ?_
    refine wp_iconst 1 D_55 (by decide) ?_
    refine wp_icmp_ne D_56 (pc'' := 79) ⟨by decide, by decide⟩ (fun h100 => ?_) (fun h100 => by exact absurd h100 (by decide))
    refine wp_iload D_79 rfl ?_
    refine wp_iconst 2 D_81 (by decide) ?_
    refine wp_icmp_ne D_82 (pc'' := 110) ⟨by decide, by decide⟩ (fun h101 => ?_) (fun h101 => by exact absurd h101 (by decide))
    refine wp_iload D_110 rfl ?_
    refine wp_iconst 3 D_112 (by decide) ?_
    refine wp_icmp_ne D_113 (pc'' := 146) ⟨by decide, by decide⟩ (fun h102 => by exact absurd h102 (by decide)) (fun h102 => ?_)
    refine wp_new sgStr [(.null), (.int 0)] D_116 (gw hw 5 rfl) (gw hw 6 rfl) (gw hw 7 rfl) (laid_sgStr l Z a0 hw) (by decide) dfl_sgStr (by decide) (by decide) ?_
    intro a103
    show W35 l Z room_1 [(a103, oS (.null))] 1 4 119 #[.val (.int g0), .val (.int g1), .val (.int g2), .val (.int g3), .val (.int g4), .val (.int 3), .val (.int c0), .val (.int c1), .val (.int c2), .val (.int c3), .unset, .unset, .unset, .unset] [(.ref a103)] Q_law
    refine wp_dup D_119 rfl ?_
    refine wp_iconst 3 D_120 (by decide) ?_
    refine wp_newarrayI (n := (3 : Int32)) (3) 3 D_121 rfl rfl rfl (gw hw 8 rfl) (by decide) (by decide) (by decide) (by decide) (by decide) (by decide) ?_
    intro a104
    show W35 l Z room_1 [(a104, oA .char [(0 : Int32), (0 : Int32), (0 : Int32)]), (a103, oS (.null))] 2 7 123 #[.val (.int g0), .val (.int g1), .val (.int g2), .val (.int g3), .val (.int g4), .val (.int 3), .val (.int c0), .val (.int c1), .val (.int c2), .val (.int c3), .unset, .unset, .unset, .unset] [(.ref a104), (.ref a103), (.ref a103)] Q_law
    refine wp_dup D_123 rfl ?_
    refine wp_iconst 0 D_124 (by decide) ?_
    refine wp_iload D_125 rfl ?_
    refine wp_castore (i := 0) (0) D_127 rfl (by decide) (by decide) (by first | decide | exact Nat.le_of_ble_eq_true rfl | simp) ?_
    rw [own_nc c0 hc0]
    show W35 l Z room_1 [(a104, oA .char [c0, (0 : Int32), (0 : Int32)]), (a103, oS (.null))] 2 7 128 #[.val (.int g0), .val (.int g1), .val (.int g2), .val (.int g3), .val (.int g4), .val (.int 3), .val (.int c0), .val (.int c1), .val (.int c2), .val (.int c3), .unset, .unset, .unset, .unset] [(.ref a104), (.ref a103), (.ref a103)] Q_law
    refine wp_dup D_128 rfl ?_
    refine wp_iconst 1 D_129 (by decide) ?_
    refine wp_iload D_130 rfl ?_
    refine wp_castore (i := 0) (1) D_132 rfl (by decide) (by decide) (by first | decide | exact Nat.le_of_ble_eq_true rfl | simp) ?_
    rw [own_nc c1 hc1]
    show W35 l Z room_1 [(a104, oA .char [c0, c1, (0 : Int32)]), (a103, oS (.null))] 2 7 133 #[.val (.int g0), .val (.int g1), .val (.int g2), .val (.int g3), .val (.int g4), .val (.int 3), .val (.int c0), .val (.int c1), .val (.int c2), .val (.int c3), .unset, .unset, .unset, .unset] [(.ref a104), (.ref a103), (.ref a103)] Q_law
    refine wp_dup D_133 rfl ?_
    refine wp_iconst 2 D_134 (by decide) ?_
    refine wp_iload D_135 rfl ?_
    refine wp_castore (i := 0) (2) D_137 rfl (by decide) (by decide) (by first | decide | exact Nat.le_of_ble_eq_true rfl | simp) ?_
    rw [own_nc c2 hc2]
    show W35 l Z room_1 [(a104, oA .char [c0, c1, c2]), (a103, oS (.null))] 2 7 138 #[.val (.int g0), .val (.int g1), .val (.int g2), .val (.int g3), .val (.int g4), .val (.int 3), .val (.int c0), .val (.int c1), .val (.int c2), .val (.int c3), .unset, .unset, .unset, .unset] [(.ref a104), (.ref a103), (.ref a103)] Q_law
    refine Wp.pick [1, 0] (by decide) ?_
    show W35 l Z room_1 [(a103, oS (.null)), (a104, oA .char [c0, c1, c2])] 2 7 138 #[.val (.int g0), .val (.int g1), .val (.int g2), .val (.int g3), .val (.int g4), .val (.int 3), .val (.int c0), .val (.int c1), .val (.int c2), .val (.int c3), .unset, .unset, .unset, .unset] [(.ref a104), (.ref a103), (.ref a103)] Q_law
    refine wp_init (c_si1_3 l Z a0 hw a103 a104 cp c0 c1 c2 [] S_cp hcp hc0 hc1 hc2) D_138 rfl (gw hw 9 rfl) (gw hw 10 rfl) (gw hw 7 rfl) (gw hw 11 rfl) (by decide) pd_23 rfl rfl rfl (lb rfl) (lb rfl) (lb rfl) (lb rfl) ?_
    rintro _ _ ⟨rfl, b105, rfl⟩
    show W35 l Z room_1 [(b105, oA .byte [(nar .byte c0.toInt8.toInt32), (nar .byte c1.toInt8.toInt32), (nar .byte c2.toInt8.toInt32)]), (a103, oS (.ref b105)), (a104, oA .char [c0, c1, c2])] 3 10 141 #[.val (.int g0), .val (.int g1), .val (.int g2), .val (.int g3), .val (.int g4), .val (.int 3), .val (.int c0), .val (.int c1), .val (.int c2), .val (.int c3), .unset, .unset, .unset, .unset] [(.ref a103)] Q_law
    refine Wp.frz (i := 0) rfl ?_
    refine Wp.frz (i := 1) rfl ?_
    show W35 l Z room_1 [(b105, fA .byte [(nar .byte c0.toInt8.toInt32), (nar .byte c1.toInt8.toInt32), (nar .byte c2.toInt8.toInt32)]), (a103, strO b105), (a104, oA .char [c0, c1, c2])] 3 10 141 #[.val (.int g0), .val (.int g1), .val (.int g2), .val (.int g3), .val (.int g4), .val (.int 3), .val (.int c0), .val (.int c1), .val (.int c2), .val (.int c3), .unset, .unset, .unset, .unset] [(.ref a103)] Q_law
    refine wp_astore #[.val (.int g0), .val (.int g1), .val (.int g2), .val (.int g3), .val (.int g4), .val (.int 3), .val (.int c0), .val (.int c1), .val (.int c2), .val (.int c3), .val (.ref a103), .unset, .unset, .unset] D_141 rfl rfl ?_
    refine wp_goto D_143 (pc'' := 178) ⟨by decide, by decide⟩ ?_
    refine wp_aload D_178 rfl rfl ?_
    refine Wp.pick [1, 0, 2] (by decide) ?_
    show W35 l Z room_1 [(a103, strO b105), (b105, fA .byte [(nar .byte c0.toInt8.toInt32), (nar .byte c1.toInt8.toInt32), (nar .byte c2.toInt8.toInt32)]), (a104, oA .char [c0, c1, c2])] 3 10 180 #[.val (.int g0), .val (.int g1), .val (.int g2), .val (.int g3), .val (.int g4), .val (.int 3), .val (.int c0), .val (.int c1), .val (.int c2), .val (.int c3), .val (.ref a103), .unset, .unset, .unset] [(.ref a103)] Q_law
    by_cases hk0 : c0 = (35 : Int32)
    · subst hk0
      show W35 l Z room_1 [(a103, strO b105), (b105, fA .byte [(nar .byte (35 : Int32).toInt8.toInt32), (nar .byte c1.toInt8.toInt32), (nar .byte c2.toInt8.toInt32)]), (a104, oA .char [(35 : Int32), c1, c2])] 3 10 180 #[.val (.int g0), .val (.int g1), .val (.int g2), .val (.int g3), .val (.int g4), .val (.int 3), .val (.int 35), .val (.int c1), .val (.int c2), .val (.int c3), .val (.ref a103), .unset, .unset, .unset] [(.ref a103)] Q_law
      refine wp_callSI (c_wf_3_0 l Z a0 hw a103 b105 (nar .byte (35 : Int32).toInt8.toInt32) (nar .byte c1.toInt8.toInt32) (nar .byte c2.toInt8.toInt32) cp fm [(a104, oA .char [(35 : Int32), c1, c2])] hs (by decide)) (own_EL l Z a0 hw) D_180 (gw hw 27 rfl) (gw hw 28 rfl) (gw hw 29 rfl) (gw hw 30 rfl) (by decide) pd_24 rfl rfl rfl (lb rfl) (lb rfl) (lb rfl) (lb rfl) ?_
      rintro _ _ ⟨sa106, su107, rfl, rfl⟩
      show W35 l Z room_1 [(sa106, strO su107), (su107, fA .byte []), (a103, strO b105), (b105, fA .byte [(nar .byte (35 : Int32).toInt8.toInt32), (nar .byte c1.toInt8.toInt32), (nar .byte c2.toInt8.toInt32)]), (a104, oA .char [(35 : Int32), c1, c2])] 5 14 183 #[.val (.int g0), .val (.int g1), .val (.int g2), .val (.int g3), .val (.int g4), .val (.int 3), .val (.int 35), .val (.int c1), .val (.int c2), .val (.int c3), .val (.ref a103), .unset, .unset, .unset] [(.ref sa106)] Q_law
      refine wp_astore #[.val (.int g0), .val (.int g1), .val (.int g2), .val (.int g3), .val (.int g4), .val (.int 3), .val (.int 35), .val (.int c1), .val (.int c2), .val (.int c3), .val (.ref a103), .val (.ref sa106), .unset, .unset] D_183 rfl rfl ?_
      refine wp_iload D_185 rfl ?_
      refine wp_istore #[.val (.int g0), .val (.int g1), .val (.int g2), .val (.int g3), .val (.int g4), .val (.int 3), .val (.int 35), .val (.int c1), .val (.int c2), .val (.int c3), .val (.ref a103), .val (.ref sa106), .val (.int 3), .unset] D_187 rfl ?_
      refine wp_iload D_189 rfl ?_
      refine wp_iconst 3 D_191 (by decide) ?_
      refine wp_icmp_le D_192 (pc'' := 205) ⟨by decide, by decide⟩ (fun h108 => ?_) (fun h108 => by exact absurd h108 (by decide))
      refine wp_iload D_205 rfl ?_
      refine wp_iconst 2 D_207 (by decide) ?_
      refine wp_icmp_le D_208 (pc'' := 221) ⟨by decide, by decide⟩ (fun h109 => by exact absurd h109 (by decide)) (fun h109 => ?_)
      refine wp_iload D_211 rfl ?_
      refine wp_bipush 35 D_213 (by decide) ?_
      have J113 : ∀ (b111 : Int32), ((¬ c2 = (35 : Int32) ∧ b111 = (3 : Int32)) ∨ (c2 = (35 : Int32) ∧ b111 = (2 : Int32))) → W35 l Z room_1 [(sa106, strO su107), (su107, fA .byte []), (a103, strO b105), (b105, fA .byte [(nar .byte (35 : Int32).toInt8.toInt32), (nar .byte c1.toInt8.toInt32), (nar .byte c2.toInt8.toInt32)]), (a104, oA .char [(35 : Int32), c1, c2])] 5 14 221 #[.val (.int g0), .val (.int g1), .val (.int g2), .val (.int g3), .val (.int g4), .val (.int 3), .val (.int 35), .val (.int c1), .val (.int c2), .val (.int c3), .val (.ref a103), .val (.ref sa106), .val (.int b111), .unset] [] Q_law := by
        intro b111 hj112
        refine wp_iload D_221 rfl ?_
        refine wp_iconst 1 D_223 (by decide) ?_
        refine wp_icmp_le D_224 (pc'' := 237) ⟨by decide, by decide⟩ (fun h114 => by exact absurd h114 (by decide)) (fun h114 => ?_)
        refine wp_iload D_227 rfl ?_
        refine wp_bipush 35 D_229 (by decide) ?_
        have J118 : ∀ (b116 : Int32), ((¬ c1 = (35 : Int32) ∧ b116 = b111) ∨ (c1 = (35 : Int32) ∧ b116 = (1 : Int32))) → W35 l Z room_1 [(sa106, strO su107), (su107, fA .byte []), (a103, strO b105), (b105, fA .byte [(nar .byte (35 : Int32).toInt8.toInt32), (nar .byte c1.toInt8.toInt32), (nar .byte c2.toInt8.toInt32)]), (a104, oA .char [(35 : Int32), c1, c2])] 5 14 237 #[.val (.int g0), .val (.int g1), .val (.int g2), .val (.int g3), .val (.int g4), .val (.int 3), .val (.int 35), .val (.int c1), .val (.int c2), .val (.int c3), .val (.ref a103), .val (.ref sa106), .val (.int b116), .unset] [] Q_law := by
          intro b116 hj117
          refine wp_iload D_237 rfl ?_
          refine wp_if_le D_239 (pc'' := 252) ⟨by decide, by decide⟩ (fun h119 => by exact absurd h119 (by decide)) (fun h119 => ?_)
          refine wp_iload D_242 rfl ?_
          refine wp_bipush 35 D_244 (by decide) ?_
          refine wp_icmp_ne D_246 (pc'' := 252) ⟨by decide, by decide⟩ (fun h120 => by exact absurd h120 (by decide)) (fun h120 => ?_)
          refine wp_iconst 0 D_249 (by decide) ?_
          refine wp_istore #[.val (.int g0), .val (.int g1), .val (.int g2), .val (.int g3), .val (.int g4), .val (.int 3), .val (.int 35), .val (.int c1), .val (.int c2), .val (.int c3), .val (.ref a103), .val (.ref sa106), .val (.int 0), .unset] D_250 rfl ?_
          refine wp_aload D_252 rfl rfl ?_
          refine wp_ifnull_n D_254 ?_
          refine wp_aload D_257 rfl rfl ?_
          refine wp_virtual (c_len_0 l Z a0 hw sa106 su107 cp fm [(a103, strO b105), (b105, fA .byte [(nar .byte (35 : Int32).toInt8.toInt32), (nar .byte c1.toInt8.toInt32), (nar .byte c2.toInt8.toInt32)]), (a104, oA .char [(35 : Int32), c1, c2])] hs ) (exa_new (i := 0) rfl) D_259 (gw hw 71 rfl) (gw hw 48 rfl) (gw hw 50 rfl) (gw hw 50 rfl) (gw hw 49 rfl) (gw hw 7 rfl) (gw hw 51 rfl) (by decide) pd_5 rfl rfl rfl (lb rfl) (lb rfl) (lb rfl) (lb rfl) ?_
          rintro _ _ ⟨rfl, rfl⟩
          show W35 l Z room_1 [(sa106, strO su107), (su107, fA .byte []), (a103, strO b105), (b105, fA .byte [(nar .byte (35 : Int32).toInt8.toInt32), (nar .byte c1.toInt8.toInt32), (nar .byte c2.toInt8.toInt32)]), (a104, oA .char [(35 : Int32), c1, c2])] 5 14 262 #[.val (.int g0), .val (.int g1), .val (.int g2), .val (.int g3), .val (.int g4), .val (.int 3), .val (.int 35), .val (.int c1), .val (.int c2), .val (.int c3), .val (.ref a103), .val (.ref sa106), .val (.int 0), .unset] [(.int 0)] Q_law
          refine wp_iload D_262 rfl ?_
          refine wp_icmp_eq D_264 (pc'' := 269) ⟨by decide, by decide⟩ (fun h121 => ?_) (fun h121 => by exact absurd h121 (by decide))
          refine wp_iconst 1 D_269 (by decide) ?_
          refine wp_istore #[.val (.int g0), .val (.int g1), .val (.int g2), .val (.int g3), .val (.int g4), .val (.int 3), .val (.int 35), .val (.int c1), .val (.int c2), .val (.int c3), .val (.ref a103), .val (.ref sa106), .val (.int 0), .val (.int 1)] D_270 rfl ?_
          refine wp_iload D_272 rfl ?_
          refine wp_if_le D_274 (pc'' := 300) ⟨by decide, by decide⟩ (fun h122 => ?_) (fun h122 => by exact absurd h122 (by decide))
          refine wp_iload D_300 rfl ?_
          refine wp_iconst 1 D_302 (by decide) ?_
          refine wp_icmp_le D_303 (pc'' := 329) ⟨by decide, by decide⟩ (fun h123 => ?_) (fun h123 => by exact absurd h123 (by decide))
          refine wp_iload D_329 rfl ?_
          refine wp_iconst 2 D_331 (by decide) ?_
          refine wp_icmp_le D_332 (pc'' := 358) ⟨by decide, by decide⟩ (fun h124 => ?_) (fun h124 => by exact absurd h124 (by decide))
          refine wp_iload D_358 rfl ?_
          refine wp_iconst 3 D_360 (by decide) ?_
          refine wp_icmp_le D_361 (pc'' := 387) ⟨by decide, by decide⟩ (fun h125 => ?_) (fun h125 => by exact absurd h125 (by decide))
          refine wp_iload D_387 rfl ?_
          refine wp_ireturnN D_389 rfl (by simp) (by decide) (by decide) ?_
          exact rfl
        refine wp_icmp_ne D_231 (pc'' := 237) ⟨by decide, by decide⟩ (fun h115 => ?_) (fun h115 => ?_)
        · skip
          exact (J118 b111 (Or.inl ⟨h115, rfl⟩))
        · skip
          refine wp_iconst 1 D_234 (by decide) ?_
          refine wp_istore #[.val (.int g0), .val (.int g1), .val (.int g2), .val (.int g3), .val (.int g4), .val (.int 3), .val (.int 35), .val (.int c1), .val (.int c2), .val (.int c3), .val (.ref a103), .val (.ref sa106), .val (.int 1), .unset] D_235 rfl ?_
          exact (J118 (1 : Int32) (Or.inr ⟨h115, rfl⟩))
      refine wp_icmp_ne D_215 (pc'' := 221) ⟨by decide, by decide⟩ (fun h110 => ?_) (fun h110 => ?_)
      · skip
        exact (J113 (3 : Int32) (Or.inl ⟨h110, rfl⟩))
      · skip
        refine wp_iconst 2 D_218 (by decide) ?_
        refine wp_istore #[.val (.int g0), .val (.int g1), .val (.int g2), .val (.int g3), .val (.int g4), .val (.int 3), .val (.int 35), .val (.int c1), .val (.int c2), .val (.int c3), .val (.ref a103), .val (.ref sa106), .val (.int 2), .unset] D_219 rfl ?_
        exact (J113 (2 : Int32) (Or.inr ⟨h110, rfl⟩))
    · skip
      by_cases hk1 : c1 = (35 : Int32)
      · subst hk1
        show W35 l Z room_1 [(a103, strO b105), (b105, fA .byte [(nar .byte c0.toInt8.toInt32), (nar .byte (35 : Int32).toInt8.toInt32), (nar .byte c2.toInt8.toInt32)]), (a104, oA .char [c0, (35 : Int32), c2])] 3 10 180 #[.val (.int g0), .val (.int g1), .val (.int g2), .val (.int g3), .val (.int g4), .val (.int 3), .val (.int c0), .val (.int 35), .val (.int c2), .val (.int c3), .val (.ref a103), .unset, .unset, .unset] [(.ref a103)] Q_law
        refine wp_callS (c_wf_3_1 l Z a0 hw a103 b105 (nar .byte c0.toInt8.toInt32) (nar .byte (35 : Int32).toInt8.toInt32) (nar .byte c2.toInt8.toInt32) cp fm [(a104, oA .char [c0, (35 : Int32), c2])] hs (own_35 c0 hc0 hk0) (by decide)) D_180 (gw hw 27 rfl) (gw hw 28 rfl) (gw hw 29 rfl) (gw hw 30 rfl) (by decide) pd_24 rfl rfl rfl (lb rfl) (lb rfl) (lb rfl) (lb rfl) ?_
        rintro _ _ ⟨sa126, su127, rfl, rfl⟩
        show W35 l Z room_1 [(su127, fA .byte [(nar .byte c0.toInt8.toInt32)]), (sa126, strO su127), (a103, strO b105), (b105, fA .byte [(nar .byte c0.toInt8.toInt32), (nar .byte (35 : Int32).toInt8.toInt32), (nar .byte c2.toInt8.toInt32)]), (a104, oA .char [c0, (35 : Int32), c2])] 5 15 183 #[.val (.int g0), .val (.int g1), .val (.int g2), .val (.int g3), .val (.int g4), .val (.int 3), .val (.int c0), .val (.int 35), .val (.int c2), .val (.int c3), .val (.ref a103), .unset, .unset, .unset] [(.ref sa126)] Q_law
        refine wp_astore #[.val (.int g0), .val (.int g1), .val (.int g2), .val (.int g3), .val (.int g4), .val (.int 3), .val (.int c0), .val (.int 35), .val (.int c2), .val (.int c3), .val (.ref a103), .val (.ref sa126), .unset, .unset] D_183 rfl rfl ?_
        refine wp_iload D_185 rfl ?_
        refine wp_istore #[.val (.int g0), .val (.int g1), .val (.int g2), .val (.int g3), .val (.int g4), .val (.int 3), .val (.int c0), .val (.int 35), .val (.int c2), .val (.int c3), .val (.ref a103), .val (.ref sa126), .val (.int 3), .unset] D_187 rfl ?_
        refine wp_iload D_189 rfl ?_
        refine wp_iconst 3 D_191 (by decide) ?_
        refine wp_icmp_le D_192 (pc'' := 205) ⟨by decide, by decide⟩ (fun h128 => ?_) (fun h128 => by exact absurd h128 (by decide))
        refine wp_iload D_205 rfl ?_
        refine wp_iconst 2 D_207 (by decide) ?_
        refine wp_icmp_le D_208 (pc'' := 221) ⟨by decide, by decide⟩ (fun h129 => by exact absurd h129 (by decide)) (fun h129 => ?_)
        refine wp_iload D_211 rfl ?_
        refine wp_bipush 35 D_213 (by decide) ?_
        have J133 : ∀ (b131 : Int32), ((¬ c2 = (35 : Int32) ∧ b131 = (3 : Int32)) ∨ (c2 = (35 : Int32) ∧ b131 = (2 : Int32))) → W35 l Z room_1 [(su127, fA .byte [(nar .byte c0.toInt8.toInt32)]), (sa126, strO su127), (a103, strO b105), (b105, fA .byte [(nar .byte c0.toInt8.toInt32), (nar .byte (35 : Int32).toInt8.toInt32), (nar .byte c2.toInt8.toInt32)]), (a104, oA .char [c0, (35 : Int32), c2])] 5 15 221 #[.val (.int g0), .val (.int g1), .val (.int g2), .val (.int g3), .val (.int g4), .val (.int 3), .val (.int c0), .val (.int 35), .val (.int c2), .val (.int c3), .val (.ref a103), .val (.ref sa126), .val (.int b131), .unset] [] Q_law := by
          intro b131 hj132
          refine wp_iload D_221 rfl ?_
          refine wp_iconst 1 D_223 (by decide) ?_
          refine wp_icmp_le D_224 (pc'' := 237) ⟨by decide, by decide⟩ (fun h134 => by exact absurd h134 (by decide)) (fun h134 => ?_)
          refine wp_iload D_227 rfl ?_
          refine wp_bipush 35 D_229 (by decide) ?_
          refine wp_icmp_ne D_231 (pc'' := 237) ⟨by decide, by decide⟩ (fun h135 => by exact absurd h135 (by decide)) (fun h135 => ?_)
          refine wp_iconst 1 D_234 (by decide) ?_
          refine wp_istore #[.val (.int g0), .val (.int g1), .val (.int g2), .val (.int g3), .val (.int g4), .val (.int 3), .val (.int c0), .val (.int 35), .val (.int c2), .val (.int c3), .val (.ref a103), .val (.ref sa126), .val (.int 1), .unset] D_235 rfl ?_
          refine wp_iload D_237 rfl ?_
          refine wp_if_le D_239 (pc'' := 252) ⟨by decide, by decide⟩ (fun h136 => by exact absurd h136 (by decide)) (fun h136 => ?_)
          refine wp_iload D_242 rfl ?_
          refine wp_bipush 35 D_244 (by decide) ?_
          refine wp_icmp_ne D_246 (pc'' := 252) ⟨by decide, by decide⟩ (fun h137 => ?_) (fun h137 => by exact absurd h137 hk0)
          refine wp_aload D_252 rfl rfl ?_
          refine wp_ifnull_n D_254 ?_
          refine wp_aload D_257 rfl rfl ?_
          refine Wp.pick [1, 0, 2, 3, 4] (by decide) ?_
          show W35 l Z room_1 [(sa126, strO su127), (su127, fA .byte [(nar .byte c0.toInt8.toInt32)]), (a103, strO b105), (b105, fA .byte [(nar .byte c0.toInt8.toInt32), (nar .byte (35 : Int32).toInt8.toInt32), (nar .byte c2.toInt8.toInt32)]), (a104, oA .char [c0, (35 : Int32), c2])] 5 15 259 #[.val (.int g0), .val (.int g1), .val (.int g2), .val (.int g3), .val (.int g4), .val (.int 3), .val (.int c0), .val (.int 35), .val (.int c2), .val (.int c3), .val (.ref a103), .val (.ref sa126), .val (.int 1), .unset] [(.ref sa126)] Q_law
          refine wp_virtual (c_len_1 l Z a0 hw sa126 su127 (nar .byte c0.toInt8.toInt32) cp fm [(a103, strO b105), (b105, fA .byte [(nar .byte c0.toInt8.toInt32), (nar .byte (35 : Int32).toInt8.toInt32), (nar .byte c2.toInt8.toInt32)]), (a104, oA .char [c0, (35 : Int32), c2])] hs ) (exa_new (i := 0) rfl) D_259 (gw hw 71 rfl) (gw hw 48 rfl) (gw hw 50 rfl) (gw hw 50 rfl) (gw hw 49 rfl) (gw hw 7 rfl) (gw hw 51 rfl) (by decide) pd_5 rfl rfl rfl (lb rfl) (lb rfl) (lb rfl) (lb rfl) ?_
          rintro _ _ ⟨rfl, rfl⟩
          show W35 l Z room_1 [(sa126, strO su127), (su127, fA .byte [(nar .byte c0.toInt8.toInt32)]), (a103, strO b105), (b105, fA .byte [(nar .byte c0.toInt8.toInt32), (nar .byte (35 : Int32).toInt8.toInt32), (nar .byte c2.toInt8.toInt32)]), (a104, oA .char [c0, (35 : Int32), c2])] 5 15 262 #[.val (.int g0), .val (.int g1), .val (.int g2), .val (.int g3), .val (.int g4), .val (.int 3), .val (.int c0), .val (.int 35), .val (.int c2), .val (.int c3), .val (.ref a103), .val (.ref sa126), .val (.int 1), .unset] [(.int 1)] Q_law
          refine wp_iload D_262 rfl ?_
          refine wp_icmp_eq D_264 (pc'' := 269) ⟨by decide, by decide⟩ (fun h138 => ?_) (fun h138 => by exact absurd h138 (by decide))
          refine wp_iconst 1 D_269 (by decide) ?_
          refine wp_istore #[.val (.int g0), .val (.int g1), .val (.int g2), .val (.int g3), .val (.int g4), .val (.int 3), .val (.int c0), .val (.int 35), .val (.int c2), .val (.int c3), .val (.ref a103), .val (.ref sa126), .val (.int 1), .val (.int 1)] D_270 rfl ?_
          refine wp_iload D_272 rfl ?_
          refine wp_if_le D_274 (pc'' := 300) ⟨by decide, by decide⟩ (fun h139 => by exact absurd h139 (by decide)) (fun h139 => ?_)
          refine wp_iload D_277 rfl ?_
          refine wp_if_eq D_279 (pc'' := 297) ⟨by decide, by decide⟩ (fun h140 => by exact absurd h140 (by decide)) (fun h140 => ?_)
          refine wp_aload D_282 rfl rfl ?_
          refine wp_iconst 0 D_284 (by decide) ?_
          refine wp_virtual (c_cat_1_0 l Z a0 hw sa126 su127 (nar .byte c0.toInt8.toInt32) cp fm [(a103, strO b105), (b105, fA .byte [(nar .byte c0.toInt8.toInt32), (nar .byte (35 : Int32).toInt8.toInt32), (nar .byte c2.toInt8.toInt32)]), (a104, oA .char [c0, (35 : Int32), c2])] hs ) (exa_new (i := 0) rfl) D_285 (gw hw 102 rfl) (gw hw 103 rfl) (gw hw 105 rfl) (gw hw 105 rfl) (gw hw 104 rfl) (gw hw 7 rfl) (gw hw 106 rfl) (by decide) pd_22 rfl rfl rfl (lb rfl) (lb rfl) (lb rfl) (lb rfl) ?_
          rintro _ _ ⟨rfl, rfl⟩
          rw [own_ub c0 hc0]
          show W35 l Z room_1 [(sa126, strO su127), (su127, fA .byte [(nar .byte c0.toInt8.toInt32)]), (a103, strO b105), (b105, fA .byte [(nar .byte c0.toInt8.toInt32), (nar .byte (35 : Int32).toInt8.toInt32), (nar .byte c2.toInt8.toInt32)]), (a104, oA .char [c0, (35 : Int32), c2])] 5 15 288 #[.val (.int g0), .val (.int g1), .val (.int g2), .val (.int g3), .val (.int g4), .val (.int 3), .val (.int c0), .val (.int 35), .val (.int c2), .val (.int c3), .val (.ref a103), .val (.ref sa126), .val (.int 1), .val (.int 1)] [(.int c0)] Q_law
          refine wp_iload D_288 rfl ?_
          refine wp_icmp_ne D_290 (pc'' := 297) ⟨by decide, by decide⟩ (fun h141 => by exact absurd rfl h141) (fun h141 => ?_)
          refine wp_iconst 1 D_293 (by decide) ?_
          refine wp_goto D_294 (pc'' := 298) ⟨by decide, by decide⟩ ?_
          refine wp_istore #[.val (.int g0), .val (.int g1), .val (.int g2), .val (.int g3), .val (.int g4), .val (.int 3), .val (.int c0), .val (.int 35), .val (.int c2), .val (.int c3), .val (.ref a103), .val (.ref sa126), .val (.int 1), .val (.int 1)] D_298 rfl ?_
          refine wp_iload D_300 rfl ?_
          refine wp_iconst 1 D_302 (by decide) ?_
          refine wp_icmp_le D_303 (pc'' := 329) ⟨by decide, by decide⟩ (fun h142 => ?_) (fun h142 => by exact absurd h142 (by decide))
          refine wp_iload D_329 rfl ?_
          refine wp_iconst 2 D_331 (by decide) ?_
          refine wp_icmp_le D_332 (pc'' := 358) ⟨by decide, by decide⟩ (fun h143 => ?_) (fun h143 => by exact absurd h143 (by decide))
          refine wp_iload D_358 rfl ?_
          refine wp_iconst 3 D_360 (by decide) ?_
          refine wp_icmp_le D_361 (pc'' := 387) ⟨by decide, by decide⟩ (fun h144 => ?_) (fun h144 => by exact absurd h144 (by decide))
          refine wp_iload D_387 rfl ?_
          refine wp_ireturnN D_389 rfl (by simp) (by decide) (by decide) ?_
          exact rfl
        refine wp_icmp_ne D_215 (pc'' := 221) ⟨by decide, by decide⟩ (fun h130 => ?_) (fun h130 => ?_)
        · skip
          exact (J133 (3 : Int32) (Or.inl ⟨h130, rfl⟩))
        · skip
          refine wp_iconst 2 D_218 (by decide) ?_
          refine wp_istore #[.val (.int g0), .val (.int g1), .val (.int g2), .val (.int g3), .val (.int g4), .val (.int 3), .val (.int c0), .val (.int 35), .val (.int c2), .val (.int c3), .val (.ref a103), .val (.ref sa126), .val (.int 2), .unset] D_219 rfl ?_
          exact (J133 (2 : Int32) (Or.inr ⟨h130, rfl⟩))
      · skip
        by_cases hk2 : c2 = (35 : Int32)
        · subst hk2
          show W35 l Z room_1 [(a103, strO b105), (b105, fA .byte [(nar .byte c0.toInt8.toInt32), (nar .byte c1.toInt8.toInt32), (nar .byte (35 : Int32).toInt8.toInt32)]), (a104, oA .char [c0, c1, (35 : Int32)])] 3 10 180 #[.val (.int g0), .val (.int g1), .val (.int g2), .val (.int g3), .val (.int g4), .val (.int 3), .val (.int c0), .val (.int c1), .val (.int 35), .val (.int c3), .val (.ref a103), .unset, .unset, .unset] [(.ref a103)] Q_law
          refine wp_callS (c_wf_3_2 l Z a0 hw a103 b105 (nar .byte c0.toInt8.toInt32) (nar .byte c1.toInt8.toInt32) (nar .byte (35 : Int32).toInt8.toInt32) cp fm [(a104, oA .char [c0, c1, (35 : Int32)])] hs (own_35 c0 hc0 hk0) (own_35 c1 hc1 hk1) (by decide)) D_180 (gw hw 27 rfl) (gw hw 28 rfl) (gw hw 29 rfl) (gw hw 30 rfl) (by decide) pd_24 rfl rfl rfl (lb rfl) (lb rfl) (lb rfl) (lb rfl) ?_
          rintro _ _ ⟨sa145, su146, rfl, rfl⟩
          show W35 l Z room_1 [(su146, fA .byte [(nar .byte c0.toInt8.toInt32), (nar .byte c1.toInt8.toInt32)]), (sa145, strO su146), (a103, strO b105), (b105, fA .byte [(nar .byte c0.toInt8.toInt32), (nar .byte c1.toInt8.toInt32), (nar .byte (35 : Int32).toInt8.toInt32)]), (a104, oA .char [c0, c1, (35 : Int32)])] 5 16 183 #[.val (.int g0), .val (.int g1), .val (.int g2), .val (.int g3), .val (.int g4), .val (.int 3), .val (.int c0), .val (.int c1), .val (.int 35), .val (.int c3), .val (.ref a103), .unset, .unset, .unset] [(.ref sa145)] Q_law
          refine wp_astore #[.val (.int g0), .val (.int g1), .val (.int g2), .val (.int g3), .val (.int g4), .val (.int 3), .val (.int c0), .val (.int c1), .val (.int 35), .val (.int c3), .val (.ref a103), .val (.ref sa145), .unset, .unset] D_183 rfl rfl ?_
          refine wp_iload D_185 rfl ?_
          refine wp_istore #[.val (.int g0), .val (.int g1), .val (.int g2), .val (.int g3), .val (.int g4), .val (.int 3), .val (.int c0), .val (.int c1), .val (.int 35), .val (.int c3), .val (.ref a103), .val (.ref sa145), .val (.int 3), .unset] D_187 rfl ?_
          refine wp_iload D_189 rfl ?_
          refine wp_iconst 3 D_191 (by decide) ?_
          refine wp_icmp_le D_192 (pc'' := 205) ⟨by decide, by decide⟩ (fun h147 => ?_) (fun h147 => by exact absurd h147 (by decide))
          refine wp_iload D_205 rfl ?_
          refine wp_iconst 2 D_207 (by decide) ?_
          refine wp_icmp_le D_208 (pc'' := 221) ⟨by decide, by decide⟩ (fun h148 => by exact absurd h148 (by decide)) (fun h148 => ?_)
          refine wp_iload D_211 rfl ?_
          refine wp_bipush 35 D_213 (by decide) ?_
          refine wp_icmp_ne D_215 (pc'' := 221) ⟨by decide, by decide⟩ (fun h149 => by exact absurd h149 (by decide)) (fun h149 => ?_)
          refine wp_iconst 2 D_218 (by decide) ?_
          refine wp_istore #[.val (.int g0), .val (.int g1), .val (.int g2), .val (.int g3), .val (.int g4), .val (.int 3), .val (.int c0), .val (.int c1), .val (.int 35), .val (.int c3), .val (.ref a103), .val (.ref sa145), .val (.int 2), .unset] D_219 rfl ?_
          refine wp_iload D_221 rfl ?_
          refine wp_iconst 1 D_223 (by decide) ?_
          refine wp_icmp_le D_224 (pc'' := 237) ⟨by decide, by decide⟩ (fun h150 => by exact absurd h150 (by decide)) (fun h150 => ?_)
          refine wp_iload D_227 rfl ?_
          refine wp_bipush 35 D_229 (by decide) ?_
          refine wp_icmp_ne D_231 (pc'' := 237) ⟨by decide, by decide⟩ (fun h151 => ?_) (fun h151 => by exact absurd h151 hk1)
          refine wp_iload D_237 rfl ?_
          refine wp_if_le D_239 (pc'' := 252) ⟨by decide, by decide⟩ (fun h152 => by exact absurd h152 (by decide)) (fun h152 => ?_)
          refine wp_iload D_242 rfl ?_
          refine wp_bipush 35 D_244 (by decide) ?_
          refine wp_icmp_ne D_246 (pc'' := 252) ⟨by decide, by decide⟩ (fun h153 => ?_) (fun h153 => by exact absurd h153 hk0)
          refine wp_aload D_252 rfl rfl ?_
          refine wp_ifnull_n D_254 ?_
          refine wp_aload D_257 rfl rfl ?_
          refine Wp.pick [1, 0, 2, 3, 4] (by decide) ?_
          show W35 l Z room_1 [(sa145, strO su146), (su146, fA .byte [(nar .byte c0.toInt8.toInt32), (nar .byte c1.toInt8.toInt32)]), (a103, strO b105), (b105, fA .byte [(nar .byte c0.toInt8.toInt32), (nar .byte c1.toInt8.toInt32), (nar .byte (35 : Int32).toInt8.toInt32)]), (a104, oA .char [c0, c1, (35 : Int32)])] 5 16 259 #[.val (.int g0), .val (.int g1), .val (.int g2), .val (.int g3), .val (.int g4), .val (.int 3), .val (.int c0), .val (.int c1), .val (.int 35), .val (.int c3), .val (.ref a103), .val (.ref sa145), .val (.int 2), .unset] [(.ref sa145)] Q_law
          refine wp_virtual (c_len_2 l Z a0 hw sa145 su146 (nar .byte c0.toInt8.toInt32) (nar .byte c1.toInt8.toInt32) cp fm [(a103, strO b105), (b105, fA .byte [(nar .byte c0.toInt8.toInt32), (nar .byte c1.toInt8.toInt32), (nar .byte (35 : Int32).toInt8.toInt32)]), (a104, oA .char [c0, c1, (35 : Int32)])] hs ) (exa_new (i := 0) rfl) D_259 (gw hw 71 rfl) (gw hw 48 rfl) (gw hw 50 rfl) (gw hw 50 rfl) (gw hw 49 rfl) (gw hw 7 rfl) (gw hw 51 rfl) (by decide) pd_5 rfl rfl rfl (lb rfl) (lb rfl) (lb rfl) (lb rfl) ?_
          rintro _ _ ⟨rfl, rfl⟩
          show W35 l Z room_1 [(sa145, strO su146), (su146, fA .byte [(nar .byte c0.toInt8.toInt32), (nar .byte c1.toInt8.toInt32)]), (a103, strO b105), (b105, fA .byte [(nar .byte c0.toInt8.toInt32), (nar .byte c1.toInt8.toInt32), (nar .byte (35 : Int32).toInt8.toInt32)]), (a104, oA .char [c0, c1, (35 : Int32)])] 5 16 262 #[.val (.int g0), .val (.int g1), .val (.int g2), .val (.int g3), .val (.int g4), .val (.int 3), .val (.int c0), .val (.int c1), .val (.int 35), .val (.int c3), .val (.ref a103), .val (.ref sa145), .val (.int 2), .unset] [(.int 2)] Q_law
          refine wp_iload D_262 rfl ?_
          refine wp_icmp_eq D_264 (pc'' := 269) ⟨by decide, by decide⟩ (fun h154 => ?_) (fun h154 => by exact absurd h154 (by decide))
          refine wp_iconst 1 D_269 (by decide) ?_
          refine wp_istore #[.val (.int g0), .val (.int g1), .val (.int g2), .val (.int g3), .val (.int g4), .val (.int 3), .val (.int c0), .val (.int c1), .val (.int 35), .val (.int c3), .val (.ref a103), .val (.ref sa145), .val (.int 2), .val (.int 1)] D_270 rfl ?_
          refine wp_iload D_272 rfl ?_
          refine wp_if_le D_274 (pc'' := 300) ⟨by decide, by decide⟩ (fun h155 => by exact absurd h155 (by decide)) (fun h155 => ?_)
          refine wp_iload D_277 rfl ?_
          refine wp_if_eq D_279 (pc'' := 297) ⟨by decide, by decide⟩ (fun h156 => by exact absurd h156 (by decide)) (fun h156 => ?_)
          refine wp_aload D_282 rfl rfl ?_
          refine wp_iconst 0 D_284 (by decide) ?_
          refine wp_virtual (c_cat_2_0 l Z a0 hw sa145 su146 (nar .byte c0.toInt8.toInt32) (nar .byte c1.toInt8.toInt32) cp fm [(a103, strO b105), (b105, fA .byte [(nar .byte c0.toInt8.toInt32), (nar .byte c1.toInt8.toInt32), (nar .byte (35 : Int32).toInt8.toInt32)]), (a104, oA .char [c0, c1, (35 : Int32)])] hs ) (exa_new (i := 0) rfl) D_285 (gw hw 102 rfl) (gw hw 103 rfl) (gw hw 105 rfl) (gw hw 105 rfl) (gw hw 104 rfl) (gw hw 7 rfl) (gw hw 106 rfl) (by decide) pd_22 rfl rfl rfl (lb rfl) (lb rfl) (lb rfl) (lb rfl) ?_
          rintro _ _ ⟨rfl, rfl⟩
          rw [own_ub c0 hc0]
          show W35 l Z room_1 [(sa145, strO su146), (su146, fA .byte [(nar .byte c0.toInt8.toInt32), (nar .byte c1.toInt8.toInt32)]), (a103, strO b105), (b105, fA .byte [(nar .byte c0.toInt8.toInt32), (nar .byte c1.toInt8.toInt32), (nar .byte (35 : Int32).toInt8.toInt32)]), (a104, oA .char [c0, c1, (35 : Int32)])] 5 16 288 #[.val (.int g0), .val (.int g1), .val (.int g2), .val (.int g3), .val (.int g4), .val (.int 3), .val (.int c0), .val (.int c1), .val (.int 35), .val (.int c3), .val (.ref a103), .val (.ref sa145), .val (.int 2), .val (.int 1)] [(.int c0)] Q_law
          refine wp_iload D_288 rfl ?_
          refine wp_icmp_ne D_290 (pc'' := 297) ⟨by decide, by decide⟩ (fun h157 => by exact absurd rfl h157) (fun h157 => ?_)
          refine wp_iconst 1 D_293 (by decide) ?_
          refine wp_goto D_294 (pc'' := 298) ⟨by decide, by decide⟩ ?_
          refine wp_istore #[.val (.int g0), .val (.int g1), .val (.int g2), .val (.int g3), .val (.int g4), .val (.int 3), .val (.int c0), .val (.int c1), .val (.int 35), .val (.int c3), .val (.ref a103), .val (.ref sa145), .val (.int 2), .val (.int 1)] D_298 rfl ?_
          refine wp_iload D_300 rfl ?_
          refine wp_iconst 1 D_302 (by decide) ?_
          refine wp_icmp_le D_303 (pc'' := 329) ⟨by decide, by decide⟩ (fun h158 => by exact absurd h158 (by decide)) (fun h158 => ?_)
          refine wp_iload D_306 rfl ?_
          refine wp_if_eq D_308 (pc'' := 326) ⟨by decide, by decide⟩ (fun h159 => by exact absurd h159 (by decide)) (fun h159 => ?_)
          refine wp_aload D_311 rfl rfl ?_
          refine wp_iconst 1 D_313 (by decide) ?_
          refine wp_virtual (c_cat_2_1 l Z a0 hw sa145 su146 (nar .byte c0.toInt8.toInt32) (nar .byte c1.toInt8.toInt32) cp fm [(a103, strO b105), (b105, fA .byte [(nar .byte c0.toInt8.toInt32), (nar .byte c1.toInt8.toInt32), (nar .byte (35 : Int32).toInt8.toInt32)]), (a104, oA .char [c0, c1, (35 : Int32)])] hs ) (exa_new (i := 0) rfl) D_314 (gw hw 102 rfl) (gw hw 103 rfl) (gw hw 105 rfl) (gw hw 105 rfl) (gw hw 104 rfl) (gw hw 7 rfl) (gw hw 106 rfl) (by decide) pd_22 rfl rfl rfl (lb rfl) (lb rfl) (lb rfl) (lb rfl) ?_
          rintro _ _ ⟨rfl, rfl⟩
          rw [own_ub c1 hc1]
          show W35 l Z room_1 [(sa145, strO su146), (su146, fA .byte [(nar .byte c0.toInt8.toInt32), (nar .byte c1.toInt8.toInt32)]), (a103, strO b105), (b105, fA .byte [(nar .byte c0.toInt8.toInt32), (nar .byte c1.toInt8.toInt32), (nar .byte (35 : Int32).toInt8.toInt32)]), (a104, oA .char [c0, c1, (35 : Int32)])] 5 16 317 #[.val (.int g0), .val (.int g1), .val (.int g2), .val (.int g3), .val (.int g4), .val (.int 3), .val (.int c0), .val (.int c1), .val (.int 35), .val (.int c3), .val (.ref a103), .val (.ref sa145), .val (.int 2), .val (.int 1)] [(.int c1)] Q_law
          refine wp_iload D_317 rfl ?_
          refine wp_icmp_ne D_319 (pc'' := 326) ⟨by decide, by decide⟩ (fun h160 => by exact absurd rfl h160) (fun h160 => ?_)
          refine wp_iconst 1 D_322 (by decide) ?_
          refine wp_goto D_323 (pc'' := 327) ⟨by decide, by decide⟩ ?_
          refine wp_istore #[.val (.int g0), .val (.int g1), .val (.int g2), .val (.int g3), .val (.int g4), .val (.int 3), .val (.int c0), .val (.int c1), .val (.int 35), .val (.int c3), .val (.ref a103), .val (.ref sa145), .val (.int 2), .val (.int 1)] D_327 rfl ?_
          refine wp_iload D_329 rfl ?_
          refine wp_iconst 2 D_331 (by decide) ?_
          refine wp_icmp_le D_332 (pc'' := 358) ⟨by decide, by decide⟩ (fun h161 => ?_) (fun h161 => by exact absurd h161 (by decide))
          refine wp_iload D_358 rfl ?_
          refine wp_iconst 3 D_360 (by decide) ?_
          refine wp_icmp_le D_361 (pc'' := 387) ⟨by decide, by decide⟩ (fun h162 => ?_) (fun h162 => by exact absurd h162 (by decide))
          refine wp_iload D_387 rfl ?_
          refine wp_ireturnN D_389 rfl (by simp) (by decide) (by decide) ?_
          exact rfl
        · skip
          refine wp_callS (c_wf_3_m l Z a0 hw a103 b105 (nar .byte c0.toInt8.toInt32) (nar .byte c1.toInt8.toInt32) (nar .byte c2.toInt8.toInt32) cp fm [(a104, oA .char [c0, c1, c2])] hs (own_35 c0 hc0 hk0) (own_35 c1 hc1 hk1) (own_35 c2 hc2 hk2)) D_180 (gw hw 27 rfl) (gw hw 28 rfl) (gw hw 29 rfl) (gw hw 30 rfl) (by decide) pd_24 rfl rfl rfl (lb rfl) (lb rfl) (lb rfl) (lb rfl) ?_
          rintro _ _ ⟨rfl, rfl⟩
          show W35 l Z room_1 [(a103, strO b105), (b105, fA .byte [(nar .byte c0.toInt8.toInt32), (nar .byte c1.toInt8.toInt32), (nar .byte c2.toInt8.toInt32)]), (a104, oA .char [c0, c1, c2])] 3 10 183 #[.val (.int g0), .val (.int g1), .val (.int g2), .val (.int g3), .val (.int g4), .val (.int 3), .val (.int c0), .val (.int c1), .val (.int c2), .val (.int c3), .val (.ref a103), .unset, .unset, .unset] [(.ref a103)] Q_law
          refine wp_astore #[.val (.int g0), .val (.int g1), .val (.int g2), .val (.int g3), .val (.int g4), .val (.int 3), .val (.int c0), .val (.int c1), .val (.int c2), .val (.int c3), .val (.ref a103), .val (.ref a103), .unset, .unset] D_183 rfl rfl ?_
          refine wp_iload D_185 rfl ?_
          refine wp_istore #[.val (.int g0), .val (.int g1), .val (.int g2), .val (.int g3), .val (.int g4), .val (.int 3), .val (.int c0), .val (.int c1), .val (.int c2), .val (.int c3), .val (.ref a103), .val (.ref a103), .val (.int 3), .unset] D_187 rfl ?_
          refine wp_iload D_189 rfl ?_
          refine wp_iconst 3 D_191 (by decide) ?_
          refine wp_icmp_le D_192 (pc'' := 205) ⟨by decide, by decide⟩ (fun h163 => ?_) (fun h163 => by exact absurd h163 (by decide))
          refine wp_iload D_205 rfl ?_
          refine wp_iconst 2 D_207 (by decide) ?_
          refine wp_icmp_le D_208 (pc'' := 221) ⟨by decide, by decide⟩ (fun h164 => by exact absurd h164 (by decide)) (fun h164 => ?_)
          refine wp_iload D_211 rfl ?_
          refine wp_bipush 35 D_213 (by decide) ?_
          refine wp_icmp_ne D_215 (pc'' := 221) ⟨by decide, by decide⟩ (fun h165 => ?_) (fun h165 => by exact absurd h165 hk2)
          refine wp_iload D_221 rfl ?_
          refine wp_iconst 1 D_223 (by decide) ?_
          refine wp_icmp_le D_224 (pc'' := 237) ⟨by decide, by decide⟩ (fun h166 => by exact absurd h166 (by decide)) (fun h166 => ?_)
          refine wp_iload D_227 rfl ?_
          refine wp_bipush 35 D_229 (by decide) ?_
          refine wp_icmp_ne D_231 (pc'' := 237) ⟨by decide, by decide⟩ (fun h167 => ?_) (fun h167 => by exact absurd h167 hk1)
          refine wp_iload D_237 rfl ?_
          refine wp_if_le D_239 (pc'' := 252) ⟨by decide, by decide⟩ (fun h168 => by exact absurd h168 (by decide)) (fun h168 => ?_)
          refine wp_iload D_242 rfl ?_
          refine wp_bipush 35 D_244 (by decide) ?_
          refine wp_icmp_ne D_246 (pc'' := 252) ⟨by decide, by decide⟩ (fun h169 => ?_) (fun h169 => by exact absurd h169 hk0)
          refine wp_aload D_252 rfl rfl ?_
          refine wp_ifnull_n D_254 ?_
          refine wp_aload D_257 rfl rfl ?_
          refine wp_virtual (c_len_3 l Z a0 hw a103 b105 (nar .byte c0.toInt8.toInt32) (nar .byte c1.toInt8.toInt32) (nar .byte c2.toInt8.toInt32) cp fm [(a104, oA .char [c0, c1, c2])] hs ) (exa_new (i := 0) rfl) D_259 (gw hw 71 rfl) (gw hw 48 rfl) (gw hw 50 rfl) (gw hw 50 rfl) (gw hw 49 rfl) (gw hw 7 rfl) (gw hw 51 rfl) (by decide) pd_5 rfl rfl rfl (lb rfl) (lb rfl) (lb rfl) (lb rfl) ?_
          rintro _ _ ⟨rfl, rfl⟩
          show W35 l Z room_1 [(a103, strO b105), (b105, fA .byte [(nar .byte c0.toInt8.toInt32), (nar .byte c1.toInt8.toInt32), (nar .byte c2.toInt8.toInt32)]), (a104, oA .char [c0, c1, c2])] 3 10 262 #[.val (.int g0), .val (.int g1), .val (.int g2), .val (.int g3), .val (.int g4), .val (.int 3), .val (.int c0), .val (.int c1), .val (.int c2), .val (.int c3), .val (.ref a103), .val (.ref a103), .val (.int 3), .unset] [(.int 3)] Q_law
          refine wp_iload D_262 rfl ?_
          refine wp_icmp_eq D_264 (pc'' := 269) ⟨by decide, by decide⟩ (fun h170 => ?_) (fun h170 => by exact absurd h170 (by decide))
          refine wp_iconst 1 D_269 (by decide) ?_
          refine wp_istore #[.val (.int g0), .val (.int g1), .val (.int g2), .val (.int g3), .val (.int g4), .val (.int 3), .val (.int c0), .val (.int c1), .val (.int c2), .val (.int c3), .val (.ref a103), .val (.ref a103), .val (.int 3), .val (.int 1)] D_270 rfl ?_
          refine wp_iload D_272 rfl ?_
          refine wp_if_le D_274 (pc'' := 300) ⟨by decide, by decide⟩ (fun h171 => by exact absurd h171 (by decide)) (fun h171 => ?_)
          refine wp_iload D_277 rfl ?_
          refine wp_if_eq D_279 (pc'' := 297) ⟨by decide, by decide⟩ (fun h172 => by exact absurd h172 (by decide)) (fun h172 => ?_)
          refine wp_aload D_282 rfl rfl ?_
          refine wp_iconst 0 D_284 (by decide) ?_
          refine wp_virtual (c_cat_3_0 l Z a0 hw a103 b105 (nar .byte c0.toInt8.toInt32) (nar .byte c1.toInt8.toInt32) (nar .byte c2.toInt8.toInt32) cp fm [(a104, oA .char [c0, c1, c2])] hs ) (exa_new (i := 0) rfl) D_285 (gw hw 102 rfl) (gw hw 103 rfl) (gw hw 105 rfl) (gw hw 105 rfl) (gw hw 104 rfl) (gw hw 7 rfl) (gw hw 106 rfl) (by decide) pd_22 rfl rfl rfl (lb rfl) (lb rfl) (lb rfl) (lb rfl) ?_
          rintro _ _ ⟨rfl, rfl⟩
          rw [own_ub c0 hc0]
          show W35 l Z room_1 [(a103, strO b105), (b105, fA .byte [(nar .byte c0.toInt8.toInt32), (nar .byte c1.toInt8.toInt32), (nar .byte c2.toInt8.toInt32)]), (a104, oA .char [c0, c1, c2])] 3 10 288 #[.val (.int g0), .val (.int g1), .val (.int g2), .val (.int g3), .val (.int g4), .val (.int 3), .val (.int c0), .val (.int c1), .val (.int c2), .val (.int c3), .val (.ref a103), .val (.ref a103), .val (.int 3), .val (.int 1)] [(.int c0)] Q_law
          refine wp_iload D_288 rfl ?_
          refine wp_icmp_ne D_290 (pc'' := 297) ⟨by decide, by decide⟩ (fun h173 => by exact absurd rfl h173) (fun h173 => ?_)
          refine wp_iconst 1 D_293 (by decide) ?_
          refine wp_goto D_294 (pc'' := 298) ⟨by decide, by decide⟩ ?_
          refine wp_istore #[.val (.int g0), .val (.int g1), .val (.int g2), .val (.int g3), .val (.int g4), .val (.int 3), .val (.int c0), .val (.int c1), .val (.int c2), .val (.int c3), .val (.ref a103), .val (.ref a103), .val (.int 3), .val (.int 1)] D_298 rfl ?_
          refine wp_iload D_300 rfl ?_
          refine wp_iconst 1 D_302 (by decide) ?_
          refine wp_icmp_le D_303 (pc'' := 329) ⟨by decide, by decide⟩ (fun h174 => by exact absurd h174 (by decide)) (fun h174 => ?_)
          refine wp_iload D_306 rfl ?_
          refine wp_if_eq D_308 (pc'' := 326) ⟨by decide, by decide⟩ (fun h175 => by exact absurd h175 (by decide)) (fun h175 => ?_)
          refine wp_aload D_311 rfl rfl ?_
          refine wp_iconst 1 D_313 (by decide) ?_
          refine wp_virtual (c_cat_3_1 l Z a0 hw a103 b105 (nar .byte c0.toInt8.toInt32) (nar .byte c1.toInt8.toInt32) (nar .byte c2.toInt8.toInt32) cp fm [(a104, oA .char [c0, c1, c2])] hs ) (exa_new (i := 0) rfl) D_314 (gw hw 102 rfl) (gw hw 103 rfl) (gw hw 105 rfl) (gw hw 105 rfl) (gw hw 104 rfl) (gw hw 7 rfl) (gw hw 106 rfl) (by decide) pd_22 rfl rfl rfl (lb rfl) (lb rfl) (lb rfl) (lb rfl) ?_
          rintro _ _ ⟨rfl, rfl⟩
          rw [own_ub c1 hc1]
          show W35 l Z room_1 [(a103, strO b105), (b105, fA .byte [(nar .byte c0.toInt8.toInt32), (nar .byte c1.toInt8.toInt32), (nar .byte c2.toInt8.toInt32)]), (a104, oA .char [c0, c1, c2])] 3 10 317 #[.val (.int g0), .val (.int g1), .val (.int g2), .val (.int g3), .val (.int g4), .val (.int 3), .val (.int c0), .val (.int c1), .val (.int c2), .val (.int c3), .val (.ref a103), .val (.ref a103), .val (.int 3), .val (.int 1)] [(.int c1)] Q_law
          refine wp_iload D_317 rfl ?_
          refine wp_icmp_ne D_319 (pc'' := 326) ⟨by decide, by decide⟩ (fun h176 => by exact absurd rfl h176) (fun h176 => ?_)
          refine wp_iconst 1 D_322 (by decide) ?_
          refine wp_goto D_323 (pc'' := 327) ⟨by decide, by decide⟩ ?_
          refine wp_istore #[.val (.int g0), .val (.int g1), .val (.int g2), .val (.int g3), .val (.int g4), .val (.int 3), .val (.int c0), .val (.int c1), .val (.int c2), .val (.int c3), .val (.ref a103), .val (.ref a103), .val (.int 3), .val (.int 1)] D_327 rfl ?_
          refine wp_iload D_329 rfl ?_
          refine wp_iconst 2 D_331 (by decide) ?_
          refine wp_icmp_le D_332 (pc'' := 358) ⟨by decide, by decide⟩ (fun h177 => by exact absurd h177 (by decide)) (fun h177 => ?_)
          refine wp_iload D_335 rfl ?_
          refine wp_if_eq D_337 (pc'' := 355) ⟨by decide, by decide⟩ (fun h178 => by exact absurd h178 (by decide)) (fun h178 => ?_)
          refine wp_aload D_340 rfl rfl ?_
          refine wp_iconst 2 D_342 (by decide) ?_
          refine wp_virtual (c_cat_3_2 l Z a0 hw a103 b105 (nar .byte c0.toInt8.toInt32) (nar .byte c1.toInt8.toInt32) (nar .byte c2.toInt8.toInt32) cp fm [(a104, oA .char [c0, c1, c2])] hs ) (exa_new (i := 0) rfl) D_343 (gw hw 102 rfl) (gw hw 103 rfl) (gw hw 105 rfl) (gw hw 105 rfl) (gw hw 104 rfl) (gw hw 7 rfl) (gw hw 106 rfl) (by decide) pd_22 rfl rfl rfl (lb rfl) (lb rfl) (lb rfl) (lb rfl) ?_
          rintro _ _ ⟨rfl, rfl⟩
          rw [own_ub c2 hc2]
          show W35 l Z room_1 [(a103, strO b105), (b105, fA .byte [(nar .byte c0.toInt8.toInt32), (nar .byte c1.toInt8.toInt32), (nar .byte c2.toInt8.toInt32)]), (a104, oA .char [c0, c1, c2])] 3 10 346 #[.val (.int g0), .val (.int g1), .val (.int g2), .val (.int g3), .val (.int g4), .val (.int 3), .val (.int c0), .val (.int c1), .val (.int c2), .val (.int c3), .val (.ref a103), .val (.ref a103), .val (.int 3), .val (.int 1)] [(.int c2)] Q_law
          refine wp_iload D_346 rfl ?_
          refine wp_icmp_ne D_348 (pc'' := 355) ⟨by decide, by decide⟩ (fun h179 => by exact absurd rfl h179) (fun h179 => ?_)
          refine wp_iconst 1 D_351 (by decide) ?_
          refine wp_goto D_352 (pc'' := 356) ⟨by decide, by decide⟩ ?_
          refine wp_istore #[.val (.int g0), .val (.int g1), .val (.int g2), .val (.int g3), .val (.int g4), .val (.int 3), .val (.int c0), .val (.int c1), .val (.int c2), .val (.int c3), .val (.ref a103), .val (.ref a103), .val (.int 3), .val (.int 1)] D_356 rfl ?_
          refine wp_iload D_358 rfl ?_
          refine wp_iconst 3 D_360 (by decide) ?_
          refine wp_icmp_le D_361 (pc'' := 387) ⟨by decide, by decide⟩ (fun h180 => ?_) (fun h180 => by exact absurd h180 (by decide))
          refine wp_iload D_387 rfl ?_
          refine wp_ireturnN D_389 rfl (by simp) (by decide) (by decide) ?_
          exact rfl
  · subst hs_x1
    show W35 l Z room_1 [] 0 0 8 #[.val (.int g0), .val (.int g1), .val (.int g2), .val (.int g3), .val (.int g4), .val (.int 4), .unset, .unset, .unset, .unset, .unset, .unset, .unset, .unset] [] Q_law
    refine wp_iload_n D_8 rfl ?_
    refine wp_callS (c_ch l Z a0 hw g1 [] ) D_9 (gw hw 1 rfl) (gw hw 2 rfl) (gw hw 3 rfl) (gw hw 4 rfl) (by decide) pd_22 rfl rfl rfl (lb rfl) (lb rfl) (lb rfl) (lb rfl) ?_
    rintro _ _ ⟨c0, rfl, hc0, rfl⟩
    show W35 l Z room_1 [] 0 0 12 #[.val (.int g0), .val (.int g1), .val (.int g2), .val (.int g3), .val (.int g4), .val (.int 4), .unset, .unset, .unset, .unset, .unset, .unset, .unset, .unset] [(.int c0)] Q_law
    refine wp_istore #[.val (.int g0), .val (.int g1), .val (.int g2), .val (.int g3), .val (.int g4), .val (.int 4), .val (.int c0), .unset, .unset, .unset, .unset, .unset, .unset, .unset] D_12 rfl ?_
    refine wp_iload_n D_14 rfl ?_
    refine wp_callS (c_ch l Z a0 hw g2 [] ) D_15 (gw hw 1 rfl) (gw hw 2 rfl) (gw hw 3 rfl) (gw hw 4 rfl) (by decide) pd_22 rfl rfl rfl (lb rfl) (lb rfl) (lb rfl) (lb rfl) ?_
    rintro _ _ ⟨c1, rfl, hc1, rfl⟩
    show W35 l Z room_1 [] 0 0 18 #[.val (.int g0), .val (.int g1), .val (.int g2), .val (.int g3), .val (.int g4), .val (.int 4), .val (.int c0), .unset, .unset, .unset, .unset, .unset, .unset, .unset] [(.int c1)] Q_law
    refine wp_istore #[.val (.int g0), .val (.int g1), .val (.int g2), .val (.int g3), .val (.int g4), .val (.int 4), .val (.int c0), .val (.int c1), .unset, .unset, .unset, .unset, .unset, .unset] D_18 rfl ?_
    refine wp_iload_n D_20 rfl ?_
    refine wp_callS (c_ch l Z a0 hw g3 [] ) D_21 (gw hw 1 rfl) (gw hw 2 rfl) (gw hw 3 rfl) (gw hw 4 rfl) (by decide) pd_22 rfl rfl rfl (lb rfl) (lb rfl) (lb rfl) (lb rfl) ?_
    rintro _ _ ⟨c2, rfl, hc2, rfl⟩
    show W35 l Z room_1 [] 0 0 24 #[.val (.int g0), .val (.int g1), .val (.int g2), .val (.int g3), .val (.int g4), .val (.int 4), .val (.int c0), .val (.int c1), .unset, .unset, .unset, .unset, .unset, .unset] [(.int c2)] Q_law
    refine wp_istore #[.val (.int g0), .val (.int g1), .val (.int g2), .val (.int g3), .val (.int g4), .val (.int 4), .val (.int c0), .val (.int c1), .val (.int c2), .unset, .unset, .unset, .unset, .unset] D_24 rfl ?_
    refine wp_iload D_26 rfl ?_
    refine wp_callS (c_ch l Z a0 hw g4 [] ) D_28 (gw hw 1 rfl) (gw hw 2 rfl) (gw hw 3 rfl) (gw hw 4 rfl) (by decide) pd_22 rfl rfl rfl (lb rfl) (lb rfl) (lb rfl) (lb rfl) ?_
    rintro _ _ ⟨c3, rfl, hc3, rfl⟩
    show W35 l Z room_1 [] 0 0 31 #[.val (.int g0), .val (.int g1), .val (.int g2), .val (.int g3), .val (.int g4), .val (.int 4), .val (.int c0), .val (.int c1), .val (.int c2), .unset, .unset, .unset, .unset, .unset] [(.int c3)] Q_law
    refine wp_istore #[.val (.int g0), .val (.int g1), .val (.int g2), .val (.int g3), .val (.int g4), .val (.int 4), .val (.int c0), .val (.int c1), .val (.int c2), .val (.int c3), .unset, .unset, .unset, .unset] D_31 rfl ?_
    refine wp_iload D_33 rfl ?_
    refine wp_if_ne D_35 (pc'' := 53) ⟨by decide, by decide⟩ (fun h181 => ?_) (fun h181 => by exact absurd h181 (by decide))
    refine wp_iload D_53 rfl ?_
    refine wp_iconst 1 D_55 (by decide) ?_
    refine wp_icmp_ne D_56 (pc'' := 79) ⟨by decide, by decide⟩ (fun h182 => ?_) (fun h182 => by exact absurd h182 (by decide))
    refine wp_iload D_79 rfl ?_
    refine wp_iconst 2 D_81 (by decide) ?_
    refine wp_icmp_ne D_82 (pc'' := 110) ⟨by decide, by decide⟩ (fun h183 => ?_) (fun h183 => by exact absurd h183 (by decide))
    refine wp_iload D_110 rfl ?_
    refine wp_iconst 3 D_112 (by decide) ?_
    refine wp_icmp_ne D_113 (pc'' := 146) ⟨by decide, by decide⟩ (fun h184 => ?_) (fun h184 => by exact absurd h184 (by decide))
    refine wp_new sgStr [(.null), (.int 0)] D_146 (gw hw 5 rfl) (gw hw 6 rfl) (gw hw 7 rfl) (laid_sgStr l Z a0 hw) (by decide) dfl_sgStr (by decide) (by decide) ?_
    intro a185
    show W35 l Z room_1 [(a185, oS (.null))] 1 4 149 #[.val (.int g0), .val (.int g1), .val (.int g2), .val (.int g3), .val (.int g4), .val (.int 4), .val (.int c0), .val (.int c1), .val (.int c2), .val (.int c3), .unset, .unset, .unset, .unset] [(.ref a185)] Q_law
    refine wp_dup D_149 rfl ?_
    refine wp_iconst 4 D_150 (by decide) ?_
    refine wp_newarrayI (n := (4 : Int32)) (4) 4 D_151 rfl rfl rfl (gw hw 8 rfl) (by decide) (by decide) (by decide) (by decide) (by decide) (by decide) ?_
    intro a186
    show W35 l Z room_1 [(a186, oA .char [(0 : Int32), (0 : Int32), (0 : Int32), (0 : Int32)]), (a185, oS (.null))] 2 8 153 #[.val (.int g0), .val (.int g1), .val (.int g2), .val (.int g3), .val (.int g4), .val (.int 4), .val (.int c0), .val (.int c1), .val (.int c2), .val (.int c3), .unset, .unset, .unset, .unset] [(.ref a186), (.ref a185), (.ref a185)] Q_law
    refine wp_dup D_153 rfl ?_
    refine wp_iconst 0 D_154 (by decide) ?_
    refine wp_iload D_155 rfl ?_
    refine wp_castore (i := 0) (0) D_157 rfl (by decide) (by decide) (by first | decide | exact Nat.le_of_ble_eq_true rfl | simp) ?_
    rw [own_nc c0 hc0]
    show W35 l Z room_1 [(a186, oA .char [c0, (0 : Int32), (0 : Int32), (0 : Int32)]), (a185, oS (.null))] 2 8 158 #[.val (.int g0), .val (.int g1), .val (.int g2), .val (.int g3), .val (.int g4), .val (.int 4), .val (.int c0), .val (.int c1), .val (.int c2), .val (.int c3), .unset, .unset, .unset, .unset] [(.ref a186), (.ref a185), (.ref a185)] Q_law
    refine wp_dup D_158 rfl ?_
    refine wp_iconst 1 D_159 (by decide) ?_
    refine wp_iload D_160 rfl ?_
    refine wp_castore (i := 0) (1) D_162 rfl (by decide) (by decide) (by first | decide | exact Nat.le_of_ble_eq_true rfl | simp) ?_
    rw [own_nc c1 hc1]
    show W35 l Z room_1 [(a186, oA .char [c0, c1, (0 : Int32), (0 : Int32)]), (a185, oS (.null))] 2 8 163 #[.val (.int g0), .val (.int g1), .val (.int g2), .val (.int g3), .val (.int g4), .val (.int 4), .val (.int c0), .val (.int c1), .val (.int c2), .val (.int c3), .unset, .unset, .unset, .unset] [(.ref a186), (.ref a185), (.ref a185)] Q_law
    refine wp_dup D_163 rfl ?_
    refine wp_iconst 2 D_164 (by decide) ?_
    refine wp_iload D_165 rfl ?_
    refine wp_castore (i := 0) (2) D_167 rfl (by decide) (by decide) (by first | decide | exact Nat.le_of_ble_eq_true rfl | simp) ?_
    rw [own_nc c2 hc2]
    show W35 l Z room_1 [(a186, oA .char [c0, c1, c2, (0 : Int32)]), (a185, oS (.null))] 2 8 168 #[.val (.int g0), .val (.int g1), .val (.int g2), .val (.int g3), .val (.int g4), .val (.int 4), .val (.int c0), .val (.int c1), .val (.int c2), .val (.int c3), .unset, .unset, .unset, .unset] [(.ref a186), (.ref a185), (.ref a185)] Q_law
    refine wp_dup D_168 rfl ?_
    refine wp_iconst 3 D_169 (by decide) ?_
    refine wp_iload D_170 rfl ?_
    refine wp_castore (i := 0) (3) D_172 rfl (by decide) (by decide) (by first | decide | exact Nat.le_of_ble_eq_true rfl | simp) ?_
    rw [own_nc c3 hc3]
    show W35 l Z room_1 [(a186, oA .char [c0, c1, c2, c3]), (a185, oS (.null))] 2 8 173 #[.val (.int g0), .val (.int g1), .val (.int g2), .val (.int g3), .val (.int g4), .val (.int 4), .val (.int c0), .val (.int c1), .val (.int c2), .val (.int c3), .unset, .unset, .unset, .unset] [(.ref a186), (.ref a185), (.ref a185)] Q_law
    refine Wp.pick [1, 0] (by decide) ?_
    show W35 l Z room_1 [(a185, oS (.null)), (a186, oA .char [c0, c1, c2, c3])] 2 8 173 #[.val (.int g0), .val (.int g1), .val (.int g2), .val (.int g3), .val (.int g4), .val (.int 4), .val (.int c0), .val (.int c1), .val (.int c2), .val (.int c3), .unset, .unset, .unset, .unset] [(.ref a186), (.ref a185), (.ref a185)] Q_law
    refine wp_init (c_si1_4 l Z a0 hw a185 a186 cp c0 c1 c2 c3 [] S_cp hcp hc0 hc1 hc2 hc3) D_173 rfl (gw hw 9 rfl) (gw hw 10 rfl) (gw hw 7 rfl) (gw hw 11 rfl) (by decide) pd_23 rfl rfl rfl (lb rfl) (lb rfl) (lb rfl) (lb rfl) ?_
    rintro _ _ ⟨rfl, b187, rfl⟩
    show W35 l Z room_1 [(b187, oA .byte [(nar .byte c0.toInt8.toInt32), (nar .byte c1.toInt8.toInt32), (nar .byte c2.toInt8.toInt32), (nar .byte c3.toInt8.toInt32)]), (a185, oS (.ref b187)), (a186, oA .char [c0, c1, c2, c3])] 3 12 176 #[.val (.int g0), .val (.int g1), .val (.int g2), .val (.int g3), .val (.int g4), .val (.int 4), .val (.int c0), .val (.int c1), .val (.int c2), .val (.int c3), .unset, .unset, .unset, .unset] [(.ref a185)] Q_law
    refine Wp.frz (i := 0) rfl ?_
    refine Wp.frz (i := 1) rfl ?_
    show W35 l Z room_1 [(b187, fA .byte [(nar .byte c0.toInt8.toInt32), (nar .byte c1.toInt8.toInt32), (nar .byte c2.toInt8.toInt32), (nar .byte c3.toInt8.toInt32)]), (a185, strO b187), (a186, oA .char [c0, c1, c2, c3])] 3 12 176 #[.val (.int g0), .val (.int g1), .val (.int g2), .val (.int g3), .val (.int g4), .val (.int 4), .val (.int c0), .val (.int c1), .val (.int c2), .val (.int c3), .unset, .unset, .unset, .unset] [(.ref a185)] Q_law
    refine wp_astore #[.val (.int g0), .val (.int g1), .val (.int g2), .val (.int g3), .val (.int g4), .val (.int 4), .val (.int c0), .val (.int c1), .val (.int c2), .val (.int c3), .val (.ref a185), .unset, .unset, .unset] D_176 rfl rfl ?_
    refine wp_aload D_178 rfl rfl ?_
    refine Wp.pick [1, 0, 2] (by decide) ?_
    show W35 l Z room_1 [(a185, strO b187), (b187, fA .byte [(nar .byte c0.toInt8.toInt32), (nar .byte c1.toInt8.toInt32), (nar .byte c2.toInt8.toInt32), (nar .byte c3.toInt8.toInt32)]), (a186, oA .char [c0, c1, c2, c3])] 3 12 180 #[.val (.int g0), .val (.int g1), .val (.int g2), .val (.int g3), .val (.int g4), .val (.int 4), .val (.int c0), .val (.int c1), .val (.int c2), .val (.int c3), .val (.ref a185), .unset, .unset, .unset] [(.ref a185)] Q_law
    by_cases hk0 : c0 = (35 : Int32)
    · subst hk0
      show W35 l Z room_1 [(a185, strO b187), (b187, fA .byte [(nar .byte (35 : Int32).toInt8.toInt32), (nar .byte c1.toInt8.toInt32), (nar .byte c2.toInt8.toInt32), (nar .byte c3.toInt8.toInt32)]), (a186, oA .char [(35 : Int32), c1, c2, c3])] 3 12 180 #[.val (.int g0), .val (.int g1), .val (.int g2), .val (.int g3), .val (.int g4), .val (.int 4), .val (.int 35), .val (.int c1), .val (.int c2), .val (.int c3), .val (.ref a185), .unset, .unset, .unset] [(.ref a185)] Q_law
      refine wp_callSI (c_wf_4_0 l Z a0 hw a185 b187 (nar .byte (35 : Int32).toInt8.toInt32) (nar .byte c1.toInt8.toInt32) (nar .byte c2.toInt8.toInt32) (nar .byte c3.toInt8.toInt32) cp fm [(a186, oA .char [(35 : Int32), c1, c2, c3])] hs (by decide)) (own_EL l Z a0 hw) D_180 (gw hw 27 rfl) (gw hw 28 rfl) (gw hw 29 rfl) (gw hw 30 rfl) (by decide) pd_24 rfl rfl rfl (lb rfl) (lb rfl) (lb rfl) (lb rfl) ?_
      rintro _ _ ⟨sa188, su189, rfl, rfl⟩
      show W35 l Z room_1 [(sa188, strO su189), (su189, fA .byte []), (a185, strO b187), (b187, fA .byte [(nar .byte (35 : Int32).toInt8.toInt32), (nar .byte c1.toInt8.toInt32), (nar .byte c2.toInt8.toInt32), (nar .byte c3.toInt8.toInt32)]), (a186, oA .char [(35 : Int32), c1, c2, c3])] 5 16 183 #[.val (.int g0), .val (.int g1), .val (.int g2), .val (.int g3), .val (.int g4), .val (.int 4), .val (.int 35), .val (.int c1), .val (.int c2), .val (.int c3), .val (.ref a185), .unset, .unset, .unset] [(.ref sa188)] Q_law
      refine wp_astore #[.val (.int g0), .val (.int g1), .val (.int g2), .val (.int g3), .val (.int g4), .val (.int 4), .val (.int 35), .val (.int c1), .val (.int c2), .val (.int c3), .val (.ref a185), .val (.ref sa188), .unset, .unset] D_183 rfl rfl ?_
      refine wp_iload D_185 rfl ?_
      refine wp_istore #[.val (.int g0), .val (.int g1), .val (.int g2), .val (.int g3), .val (.int g4), .val (.int 4), .val (.int 35), .val (.int c1), .val (.int c2), .val (.int c3), .val (.ref a185), .val (.ref sa188), .val (.int 4), .unset] D_187 rfl ?_
      refine wp_iload D_189 rfl ?_
      refine wp_iconst 3 D_191 (by decide) ?_
      refine wp_icmp_le D_192 (pc'' := 205) ⟨by decide, by decide⟩ (fun h190 => by exact absurd h190 (by decide)) (fun h190 => ?_)
      refine wp_iload D_195 rfl ?_
      refine wp_bipush 35 D_197 (by decide) ?_
      have J194 : ∀ (b192 : Int32), ((¬ c3 = (35 : Int32) ∧ b192 = (4 : Int32)) ∨ (c3 = (35 : Int32) ∧ b192 = (3 : Int32))) → W35 l Z room_1 [(sa188, strO su189), (su189, fA .byte []), (a185, strO b187), (b187, fA .byte [(nar .byte (35 : Int32).toInt8.toInt32), (nar .byte c1.toInt8.toInt32), (nar .byte c2.toInt8.toInt32), (nar .byte c3.toInt8.toInt32)]), (a186, oA .char [(35 : Int32), c1, c2, c3])] 5 16 205 #[.val (.int g0), .val (.int g1), .val (.int g2), .val (.int g3), .val (.int g4), .val (.int 4), .val (.int 35), .val (.int c1), .val (.int c2), .val (.int c3), .val (.ref a185), .val (.ref sa188), .val (.int b192), .unset] [] Q_law := by
        intro b192 hj193
        refine wp_iload D_205 rfl ?_
        refine wp_iconst 2 D_207 (by decide) ?_
        refine wp_icmp_le D_208 (pc'' := 221) ⟨by decide, by decide⟩ (fun h195 => by exact absurd h195 (by decide)) (fun h195 => ?_)
        refine wp_iload D_211 rfl ?_
        refine wp_bipush 35 D_213 (by decide) ?_
        have J199 : ∀ (b197 : Int32), ((¬ c2 = (35 : Int32) ∧ b197 = b192) ∨ (c2 = (35 : Int32) ∧ b197 = (2 : Int32))) → W35 l Z room_1 [(sa188, strO su189), (su189, fA .byte []), (a185, strO b187), (b187, fA .byte [(nar .byte (35 : Int32).toInt8.toInt32), (nar .byte c1.toInt8.toInt32), (nar .byte c2.toInt8.toInt32), (nar .byte c3.toInt8.toInt32)]), (a186, oA .char [(35 : Int32), c1, c2, c3])] 5 16 221 #[.val (.int g0), .val (.int g1), .val (.int g2), .val (.int g3), .val (.int g4), .val (.int 4), .val (.int 35), .val (.int c1), .val (.int c2), .val (.int c3), .val (.ref a185), .val (.ref sa188), .val (.int b197), .unset] [] Q_law := by
          intro b197 hj198
          refine wp_iload D_221 rfl ?_
          refine wp_iconst 1 D_223 (by decide) ?_
          refine wp_icmp_le D_224 (pc'' := 237) ⟨by decide, by decide⟩ (fun h200 => by exact absurd h200 (by decide)) (fun h200 => ?_)
          refine wp_iload D_227 rfl ?_
          refine wp_bipush 35 D_229 (by decide) ?_
          have J204 : ∀ (b202 : Int32), ((¬ c1 = (35 : Int32) ∧ b202 = b197) ∨ (c1 = (35 : Int32) ∧ b202 = (1 : Int32))) → W35 l Z room_1 [(sa188, strO su189), (su189, fA .byte []), (a185, strO b187), (b187, fA .byte [(nar .byte (35 : Int32).toInt8.toInt32), (nar .byte c1.toInt8.toInt32), (nar .byte c2.toInt8.toInt32), (nar .byte c3.toInt8.toInt32)]), (a186, oA .char [(35 : Int32), c1, c2, c3])] 5 16 237 #[.val (.int g0), .val (.int g1), .val (.int g2), .val (.int g3), .val (.int g4), .val (.int 4), .val (.int 35), .val (.int c1), .val (.int c2), .val (.int c3), .val (.ref a185), .val (.ref sa188), .val (.int b202), .unset] [] Q_law := by
            intro b202 hj203
            refine wp_iload D_237 rfl ?_
            refine wp_if_le D_239 (pc'' := 252) ⟨by decide, by decide⟩ (fun h205 => by exact absurd h205 (by decide)) (fun h205 => ?_)
            refine wp_iload D_242 rfl ?_
            refine wp_bipush 35 D_244 (by decide) ?_
            refine wp_icmp_ne D_246 (pc'' := 252) ⟨by decide, by decide⟩ (fun h206 => by exact absurd h206 (by decide)) (fun h206 => ?_)
            refine wp_iconst 0 D_249 (by decide) ?_
            refine wp_istore #[.val (.int g0), .val (.int g1), .val (.int g2), .val (.int g3), .val (.int g4), .val (.int 4), .val (.int 35), .val (.int c1), .val (.int c2), .val (.int c3), .val (.ref a185), .val (.ref sa188), .val (.int 0), .unset] D_250 rfl ?_
            refine wp_aload D_252 rfl rfl ?_
            refine wp_ifnull_n D_254 ?_
            refine wp_aload D_257 rfl rfl ?_
            refine wp_virtual (c_len_0 l Z a0 hw sa188 su189 cp fm [(a185, strO b187), (b187, fA .byte [(nar .byte (35 : Int32).toInt8.toInt32), (nar .byte c1.toInt8.toInt32), (nar .byte c2.toInt8.toInt32), (nar .byte c3.toInt8.toInt32)]), (a186, oA .char [(35 : Int32), c1, c2, c3])] hs ) (exa_new (i := 0) rfl) D_259 (gw hw 71 rfl) (gw hw 48 rfl) (gw hw 50 rfl) (gw hw 50 rfl) (gw hw 49 rfl) (gw hw 7 rfl) (gw hw 51 rfl) (by decide) pd_5 rfl rfl rfl (lb rfl) (lb rfl) (lb rfl) (lb rfl) ?_
            rintro _ _ ⟨rfl, rfl⟩
            show W35 l Z room_1 [(sa188, strO su189), (su189, fA .byte []), (a185, strO b187), (b187, fA .byte [(nar .byte (35 : Int32).toInt8.toInt32), (nar .byte c1.toInt8.toInt32), (nar .byte c2.toInt8.toInt32), (nar .byte c3.toInt8.toInt32)]), (a186, oA .char [(35 : Int32), c1, c2, c3])] 5 16 262 #[.val (.int g0), .val (.int g1), .val (.int g2), .val (.int g3), .val (.int g4), .val (.int 4), .val (.int 35), .val (.int c1), .val (.int c2), .val (.int c3), .val (.ref a185), .val (.ref sa188), .val (.int 0), .unset] [(.int 0)] Q_law
            refine wp_iload D_262 rfl ?_
            refine wp_icmp_eq D_264 (pc'' := 269) ⟨by decide, by decide⟩ (fun h207 => ?_) (fun h207 => by exact absurd h207 (by decide))
            refine wp_iconst 1 D_269 (by decide) ?_
            refine wp_istore #[.val (.int g0), .val (.int g1), .val (.int g2), .val (.int g3), .val (.int g4), .val (.int 4), .val (.int 35), .val (.int c1), .val (.int c2), .val (.int c3), .val (.ref a185), .val (.ref sa188), .val (.int 0), .val (.int 1)] D_270 rfl ?_
            refine wp_iload D_272 rfl ?_
            refine wp_if_le D_274 (pc'' := 300) ⟨by decide, by decide⟩ (fun h208 => ?_) (fun h208 => by exact absurd h208 (by decide))
            refine wp_iload D_300 rfl ?_
            refine wp_iconst 1 D_302 (by decide) ?_
            refine wp_icmp_le D_303 (pc'' := 329) ⟨by decide, by decide⟩ (fun h209 => ?_) (fun h209 => by exact absurd h209 (by decide))
            refine wp_iload D_329 rfl ?_
            refine wp_iconst 2 D_331 (by decide) ?_
            refine wp_icmp_le D_332 (pc'' := 358) ⟨by decide, by decide⟩ (fun h210 => ?_) (fun h210 => by exact absurd h210 (by decide))
            refine wp_iload D_358 rfl ?_
            refine wp_iconst 3 D_360 (by decide) ?_
            refine wp_icmp_le D_361 (pc'' := 387) ⟨by decide, by decide⟩ (fun h211 => ?_) (fun h211 => by exact absurd h211 (by decide))
            refine wp_iload D_387 rfl ?_
            refine wp_ireturnN D_389 rfl (by simp) (by decide) (by decide) ?_
            exact rfl
          refine wp_icmp_ne D_231 (pc'' := 237) ⟨by decide, by decide⟩ (fun h201 => ?_) (fun h201 => ?_)
          · skip
            exact (J204 b197 (Or.inl ⟨h201, rfl⟩))
          · skip
            refine wp_iconst 1 D_234 (by decide) ?_
            refine wp_istore #[.val (.int g0), .val (.int g1), .val (.int g2), .val (.int g3), .val (.int g4), .val (.int 4), .val (.int 35), .val (.int c1), .val (.int c2), .val (.int c3), .val (.ref a185), .val (.ref sa188), .val (.int 1), .unset] D_235 rfl ?_
            exact (J204 (1 : Int32) (Or.inr ⟨h201, rfl⟩))
        refine wp_icmp_ne D_215 (pc'' := 221) ⟨by decide, by decide⟩ (fun h196 => ?_) (fun h196 => ?_)
        · skip
          exact (J199 b192 (Or.inl ⟨h196, rfl⟩))
        · skip
          refine wp_iconst 2 D_218 (by decide) ?_
          refine wp_istore #[.val (.int g0), .val (.int g1), .val (.int g2), .val (.int g3), .val (.int g4), .val (.int 4), .val (.int 35), .val (.int c1), .val (.int c2), .val (.int c3), .val (.ref a185), .val (.ref sa188), .val (.int 2), .unset] D_219 rfl ?_
          exact (J199 (2 : Int32) (Or.inr ⟨h196, rfl⟩))
      refine wp_icmp_ne D_199 (pc'' := 205) ⟨by decide, by decide⟩ (fun h191 => ?_) (fun h191 => ?_)
      · skip
        exact (J194 (4 : Int32) (Or.inl ⟨h191, rfl⟩))
      · skip
        refine wp_iconst 3 D_202 (by decide) ?_
        refine wp_istore #[.val (.int g0), .val (.int g1), .val (.int g2), .val (.int g3), .val (.int g4), .val (.int 4), .val (.int 35), .val (.int c1), .val (.int c2), .val (.int c3), .val (.ref a185), .val (.ref sa188), .val (.int 3), .unset] D_203 rfl ?_
        exact (J194 (3 : Int32) (Or.inr ⟨h191, rfl⟩))
    · skip
      by_cases hk1 : c1 = (35 : Int32)
      · subst hk1
        show W35 l Z room_1 [(a185, strO b187), (b187, fA .byte [(nar .byte c0.toInt8.toInt32), (nar .byte (35 : Int32).toInt8.toInt32), (nar .byte c2.toInt8.toInt32), (nar .byte c3.toInt8.toInt32)]), (a186, oA .char [c0, (35 : Int32), c2, c3])] 3 12 180 #[.val (.int g0), .val (.int g1), .val (.int g2), .val (.int g3), .val (.int g4), .val (.int 4), .val (.int c0), .val (.int 35), .val (.int c2), .val (.int c3), .val (.ref a185), .unset, .unset, .unset] [(.ref a185)] Q_law
        refine wp_callS (c_wf_4_1 l Z a0 hw a185 b187 (nar .byte c0.toInt8.toInt32) (nar .byte (35 : Int32).toInt8.toInt32) (nar .byte c2.toInt8.toInt32) (nar .byte c3.toInt8.toInt32) cp fm [(a186, oA .char [c0, (35 : Int32), c2, c3])] hs (own_35 c0 hc0 hk0) (by decide)) D_180 (gw hw 27 rfl) (gw hw 28 rfl) (gw hw 29 rfl) (gw hw 30 rfl) (by decide) pd_24 rfl rfl rfl (lb rfl) (lb rfl) (lb rfl) (lb rfl) ?_
        rintro _ _ ⟨sa212, su213, rfl, rfl⟩
        show W35 l Z room_1 [(su213, fA .byte [(nar .byte c0.toInt8.toInt32)]), (sa212, strO su213), (a185, strO b187), (b187, fA .byte [(nar .byte c0.toInt8.toInt32), (nar .byte (35 : Int32).toInt8.toInt32), (nar .byte c2.toInt8.toInt32), (nar .byte c3.toInt8.toInt32)]), (a186, oA .char [c0, (35 : Int32), c2, c3])] 5 17 183 #[.val (.int g0), .val (.int g1), .val (.int g2), .val (.int g3), .val (.int g4), .val (.int 4), .val (.int c0), .val (.int 35), .val (.int c2), .val (.int c3), .val (.ref a185), .unset, .unset, .unset] [(.ref sa212)] Q_law
        refine wp_astore #[.val (.int g0), .val (.int g1), .val (.int g2), .val (.int g3), .val (.int g4), .val (.int 4), .val (.int c0), .val (.int 35), .val (.int c2), .val (.int c3), .val (.ref a185), .val (.ref sa212), .unset, .unset] D_183 rfl rfl ?_
        refine wp_iload D_185 rfl ?_
        refine wp_istore #[.val (.int g0), .val (.int g1), .val (.int g2), .val (.int g3), .val (.int g4), .val (.int 4), .val (.int c0), .val (.int 35), .val (.int c2), .val (.int c3), .val (.ref a185), .val (.ref sa212), .val (.int 4), .unset] D_187 rfl ?_
        refine wp_iload D_189 rfl ?_
        refine wp_iconst 3 D_191 (by decide) ?_
        refine wp_icmp_le D_192 (pc'' := 205) ⟨by decide, by decide⟩ (fun h214 => by exact absurd h214 (by decide)) (fun h214 => ?_)
        refine wp_iload D_195 rfl ?_
        refine wp_bipush 35 D_197 (by decide) ?_
        have J218 : ∀ (b216 : Int32), ((¬ c3 = (35 : Int32) ∧ b216 = (4 : Int32)) ∨ (c3 = (35 : Int32) ∧ b216 = (3 : Int32))) → W35 l Z room_1 [(su213, fA .byte [(nar .byte c0.toInt8.toInt32)]), (sa212, strO su213), (a185, strO b187), (b187, fA .byte [(nar .byte c0.toInt8.toInt32), (nar .byte (35 : Int32).toInt8.toInt32), (nar .byte c2.toInt8.toInt32), (nar .byte c3.toInt8.toInt32)]), (a186, oA .char [c0, (35 : Int32), c2, c3])] 5 17 205 #[.val (.int g0), .val (.int g1), .val (.int g2), .val (.int g3), .val (.int g4), .val (.int 4), .val (.int c0), .val (.int 35), .val (.int c2), .val (.int c3), .val (.ref a185), .val (.ref sa212), .val (.int b216), .unset] [] Q_law := by
          intro b216 hj217
          refine wp_iload D_205 rfl ?_
          refine wp_iconst 2 D_207 (by decide) ?_
          refine wp_icmp_le D_208 (pc'' := 221) ⟨by decide, by decide⟩ (fun h219 => by exact absurd h219 (by decide)) (fun h219 => ?_)
          refine wp_iload D_211 rfl ?_
          refine wp_bipush 35 D_213 (by decide) ?_
          have J223 : ∀ (b221 : Int32), ((¬ c2 = (35 : Int32) ∧ b221 = b216) ∨ (c2 = (35 : Int32) ∧ b221 = (2 : Int32))) → W35 l Z room_1 [(su213, fA .byte [(nar .byte c0.toInt8.toInt32)]), (sa212, strO su213), (a185, strO b187), (b187, fA .byte [(nar .byte c0.toInt8.toInt32), (nar .byte (35 : Int32).toInt8.toInt32), (nar .byte c2.toInt8.toInt32), (nar .byte c3.toInt8.toInt32)]), (a186, oA .char [c0, (35 : Int32), c2, c3])] 5 17 221 #[.val (.int g0), .val (.int g1), .val (.int g2), .val (.int g3), .val (.int g4), .val (.int 4), .val (.int c0), .val (.int 35), .val (.int c2), .val (.int c3), .val (.ref a185), .val (.ref sa212), .val (.int b221), .unset] [] Q_law := by
            intro b221 hj222
            refine wp_iload D_221 rfl ?_
            refine wp_iconst 1 D_223 (by decide) ?_
            refine wp_icmp_le D_224 (pc'' := 237) ⟨by decide, by decide⟩ (fun h224 => by exact absurd h224 (by decide)) (fun h224 => ?_)
            refine wp_iload D_227 rfl ?_
            refine wp_bipush 35 D_229 (by decide) ?_
            refine wp_icmp_ne D_231 (pc'' := 237) ⟨by decide, by decide⟩ (fun h225 => by exact absurd h225 (by decide)) (fun h225 => ?_)
            refine wp_iconst 1 D_234 (by decide) ?_
            refine wp_istore #[.val (.int g0), .val (.int g1), .val (.int g2), .val (.int g3), .val (.int g4), .val (.int 4), .val (.int c0), .val (.int 35), .val (.int c2), .val (.int c3), .val (.ref a185), .val (.ref sa212), .val (.int 1), .unset] D_235 rfl ?_
            refine wp_iload D_237 rfl ?_
            refine wp_if_le D_239 (pc'' := 252) ⟨by decide, by decide⟩ (fun h226 => by exact absurd h226 (by decide)) (fun h226 => ?_)
            refine wp_iload D_242 rfl ?_
            refine wp_bipush 35 D_244 (by decide) ?_
            refine wp_icmp_ne D_246 (pc'' := 252) ⟨by decide, by decide⟩ (fun h227 => ?_) (fun h227 => by exact absurd h227 hk0)
            refine wp_aload D_252 rfl rfl ?_
            refine wp_ifnull_n D_254 ?_
            refine wp_aload D_257 rfl rfl ?_
            refine Wp.pick [1, 0, 2, 3, 4] (by decide) ?_
            show W35 l Z room_1 [(sa212, strO su213), (su213, fA .byte [(nar .byte c0.toInt8.toInt32)]), (a185, strO b187), (b187, fA .byte [(nar .byte c0.toInt8.toInt32), (nar .byte (35 : Int32).toInt8.toInt32), (nar .byte c2.toInt8.toInt32), (nar .byte c3.toInt8.toInt32)]), (a186, oA .char [c0, (35 : Int32), c2, c3])] 5 17 259 #[.val (.int g0), .val (.int g1), .val (.int g2), .val (.int g3), .val (.int g4), .val (.int 4), .val (.int c0), .val (.int 35), .val (.int c2), .val (.int c3), .val (.ref a185), .val (.ref sa212), .val (.int 1), .unset] [(.ref sa212)] Q_law
            refine wp_virtual (c_len_1 l Z a0 hw sa212 su213 (nar .byte c0.toInt8.toInt32) cp fm [(a185, strO b187), (b187, fA .byte [(nar .byte c0.toInt8.toInt32), (nar .byte (35 : Int32).toInt8.toInt32), (nar .byte c2.toInt8.toInt32), (nar .byte c3.toInt8.toInt32)]), (a186, oA .char [c0, (35 : Int32), c2, c3])] hs ) (exa_new (i := 0) rfl) D_259 (gw hw 71 rfl) (gw hw 48 rfl) (gw hw 50 rfl) (gw hw 50 rfl) (gw hw 49 rfl) (gw hw 7 rfl) (gw hw 51 rfl) (by decide) pd_5 rfl rfl rfl (lb rfl) (lb rfl) (lb rfl) (lb rfl) ?_
            rintro _ _ ⟨rfl, rfl⟩
            show W35 l Z room_1 [(sa212, strO su213), (su213, fA .byte [(nar .byte c0.toInt8.toInt32)]), (a185, strO b187), (b187, fA .byte [(nar .byte c0.toInt8.toInt32), (nar .byte (35 : Int32).toInt8.toInt32), (nar .byte c2.toInt8.toInt32), (nar .byte c3.toInt8.toInt32)]), (a186, oA .char [c0, (35 : Int32), c2, c3])] 5 17 262 #[.val (.int g0), .val (.int g1), .val (.int g2), .val (.int g3), .val (.int g4), .val (.int 4), .val (.int c0), .val (.int 35), .val (.int c2), .val (.int c3), .val (.ref a185), .val (.ref sa212), .val (.int 1), .unset] [(.int 1)] Q_law
            refine wp_iload D_262 rfl ?_
            refine wp_icmp_eq D_264 (pc'' := 269) ⟨by decide, by decide⟩ (fun h228 => ?_) (fun h228 => by exact absurd h228 (by decide))
            refine wp_iconst 1 D_269 (by decide) ?_
            refine wp_istore #[.val (.int g0), .val (.int g1), .val (.int g2), .val (.int g3), .val (.int g4), .val (.int 4), .val (.int c0), .val (.int 35), .val (.int c2), .val (.int c3), .val (.ref a185), .val (.ref sa212), .val (.int 1), .val (.int 1)] D_270 rfl ?_
            refine wp_iload D_272 rfl ?_
            refine wp_if_le D_274 (pc'' := 300) ⟨by decide, by decide⟩ (fun h229 => by exact absurd h229 (by decide)) (fun h229 => ?_)
            refine wp_iload D_277 rfl ?_
            refine wp_if_eq D_279 (pc'' := 297) ⟨by decide, by decide⟩ (fun h230 => by exact absurd h230 (by decide)) (fun h230 => ?_)
            refine wp_aload D_282 rfl rfl ?_
            refine wp_iconst 0 D_284 (by decide) ?_
            refine wp_virtual (c_cat_1_0 l Z a0 hw sa212 su213 (nar .byte c0.toInt8.toInt32) cp fm [(a185, strO b187), (b187, fA .byte [(nar .byte c0.toInt8.toInt32), (nar .byte (35 : Int32).toInt8.toInt32), (nar .byte c2.toInt8.toInt32), (nar .byte c3.toInt8.toInt32)]), (a186, oA .char [c0, (35 : Int32), c2, c3])] hs ) (exa_new (i := 0) rfl) D_285 (gw hw 102 rfl) (gw hw 103 rfl) (gw hw 105 rfl) (gw hw 105 rfl) (gw hw 104 rfl) (gw hw 7 rfl) (gw hw 106 rfl) (by decide) pd_22 rfl rfl rfl (lb rfl) (lb rfl) (lb rfl) (lb rfl) ?_
            rintro _ _ ⟨rfl, rfl⟩
            rw [own_ub c0 hc0]
            show W35 l Z room_1 [(sa212, strO su213), (su213, fA .byte [(nar .byte c0.toInt8.toInt32)]), (a185, strO b187), (b187, fA .byte [(nar .byte c0.toInt8.toInt32), (nar .byte (35 : Int32).toInt8.toInt32), (nar .byte c2.toInt8.toInt32), (nar .byte c3.toInt8.toInt32)]), (a186, oA .char [c0, (35 : Int32), c2, c3])] 5 17 288 #[.val (.int g0), .val (.int g1), .val (.int g2), .val (.int g3), .val (.int g4), .val (.int 4), .val (.int c0), .val (.int 35), .val (.int c2), .val (.int c3), .val (.ref a185), .val (.ref sa212), .val (.int 1), .val (.int 1)] [(.int c0)] Q_law
            refine wp_iload D_288 rfl ?_
            refine wp_icmp_ne D_290 (pc'' := 297) ⟨by decide, by decide⟩ (fun h231 => by exact absurd rfl h231) (fun h231 => ?_)
            refine wp_iconst 1 D_293 (by decide) ?_
            refine wp_goto D_294 (pc'' := 298) ⟨by decide, by decide⟩ ?_
            refine wp_istore #[.val (.int g0), .val (.int g1), .val (.int g2), .val (.int g3), .val (.int g4), .val (.int 4), .val (.int c0), .val (.int 35), .val (.int c2), .val (.int c3), .val (.ref a185), .val (.ref sa212), .val (.int 1), .val (.int 1)] D_298 rfl ?_
            refine wp_iload D_300 rfl ?_
            refine wp_iconst 1 D_302 (by decide) ?_
            refine wp_icmp_le D_303 (pc'' := 329) ⟨by decide, by decide⟩ (fun h232 => ?_) (fun h232 => by exact absurd h232 (by decide))
            refine wp_iload D_329 rfl ?_
            refine wp_iconst 2 D_331 (by decide) ?_
            refine wp_icmp_le D_332 (pc'' := 358) ⟨by decide, by decide⟩ (fun h233 => ?_) (fun h233 => by exact absurd h233 (by decide))
            refine wp_iload D_358 rfl ?_
            refine wp_iconst 3 D_360 (by decide) ?_
            refine wp_icmp_le D_361 (pc'' := 387) ⟨by decide, by decide⟩ (fun h234 => ?_) (fun h234 => by exact absurd h234 (by decide))
            refine wp_iload D_387 rfl ?_
            refine wp_ireturnN D_389 rfl (by simp) (by decide) (by decide) ?_
            exact rfl
          refine wp_icmp_ne D_215 (pc'' := 221) ⟨by decide, by decide⟩ (fun h220 => ?_) (fun h220 => ?_)
          · skip
            exact (J223 b216 (Or.inl ⟨h220, rfl⟩))
          · skip
            refine wp_iconst 2 D_218 (by decide) ?_
            refine wp_istore #[.val (.int g0), .val (.int g1), .val (.int g2), .val (.int g3), .val (.int g4), .val (.int 4), .val (.int c0), .val (.int 35), .val (.int c2), .val (.int c3), .val (.ref a185), .val (.ref sa212), .val (.int 2), .unset] D_219 rfl ?_
            exact (J223 (2 : Int32) (Or.inr ⟨h220, rfl⟩))
        refine wp_icmp_ne D_199 (pc'' := 205) ⟨by decide, by decide⟩ (fun h215 => ?_) (fun h215 => ?_)
        · skip
          exact (J218 (4 : Int32) (Or.inl ⟨h215, rfl⟩))
        · skip
          refine wp_iconst 3 D_202 (by decide) ?_
          refine wp_istore #[.val (.int g0), .val (.int g1), .val (.int g2), .val (.int g3), .val (.int g4), .val (.int 4), .val (.int c0), .val (.int 35), .val (.int c2), .val (.int c3), .val (.ref a185), .val (.ref sa212), .val (.int 3), .unset] D_203 rfl ?_
          exact (J218 (3 : Int32) (Or.inr ⟨h215, rfl⟩))
      · skip
        by_cases hk2 : c2 = (35 : Int32)
        · subst hk2
          show W35 l Z room_1 [(a185, strO b187), (b187, fA .byte [(nar .byte c0.toInt8.toInt32), (nar .byte c1.toInt8.toInt32), (nar .byte (35 : Int32).toInt8.toInt32), (nar .byte c3.toInt8.toInt32)]), (a186, oA .char [c0, c1, (35 : Int32), c3])] 3 12 180 #[.val (.int g0), .val (.int g1), .val (.int g2), .val (.int g3), .val (.int g4), .val (.int 4), .val (.int c0), .val (.int c1), .val (.int 35), .val (.int c3), .val (.ref a185), .unset, .unset, .unset] [(.ref a185)] Q_law
          refine wp_callS (c_wf_4_2 l Z a0 hw a185 b187 (nar .byte c0.toInt8.toInt32) (nar .byte c1.toInt8.toInt32) (nar .byte (35 : Int32).toInt8.toInt32) (nar .byte c3.toInt8.toInt32) cp fm [(a186, oA .char [c0, c1, (35 : Int32), c3])] hs (own_35 c0 hc0 hk0) (own_35 c1 hc1 hk1) (by decide)) D_180 (gw hw 27 rfl) (gw hw 28 rfl) (gw hw 29 rfl) (gw hw 30 rfl) (by decide) pd_24 rfl rfl rfl (lb rfl) (lb rfl) (lb rfl) (lb rfl) ?_
          rintro _ _ ⟨sa235, su236, rfl, rfl⟩
          show W35 l Z room_1 [(su236, fA .byte [(nar .byte c0.toInt8.toInt32), (nar .byte c1.toInt8.toInt32)]), (sa235, strO su236), (a185, strO b187), (b187, fA .byte [(nar .byte c0.toInt8.toInt32), (nar .byte c1.toInt8.toInt32), (nar .byte (35 : Int32).toInt8.toInt32), (nar .byte c3.toInt8.toInt32)]), (a186, oA .char [c0, c1, (35 : Int32), c3])] 5 18 183 #[.val (.int g0), .val (.int g1), .val (.int g2), .val (.int g3), .val (.int g4), .val (.int 4), .val (.int c0), .val (.int c1), .val (.int 35), .val (.int c3), .val (.ref a185), .unset, .unset, .unset] [(.ref sa235)] Q_law
          refine wp_astore #[.val (.int g0), .val (.int g1), .val (.int g2), .val (.int g3), .val (.int g4), .val (.int 4), .val (.int c0), .val (.int c1), .val (.int 35), .val (.int c3), .val (.ref a185), .val (.ref sa235), .unset, .unset] D_183 rfl rfl ?_
          refine wp_iload D_185 rfl ?_
          refine wp_istore #[.val (.int g0), .val (.int g1), .val (.int g2), .val (.int g3), .val (.int g4), .val (.int 4), .val (.int c0), .val (.int c1), .val (.int 35), .val (.int c3), .val (.ref a185), .val (.ref sa235), .val (.int 4), .unset] D_187 rfl ?_
          refine wp_iload D_189 rfl ?_
          refine wp_iconst 3 D_191 (by decide) ?_
          refine wp_icmp_le D_192 (pc'' := 205) ⟨by decide, by decide⟩ (fun h237 => by exact absurd h237 (by decide)) (fun h237 => ?_)
          refine wp_iload D_195 rfl ?_
          refine wp_bipush 35 D_197 (by decide) ?_
          have J241 : ∀ (b239 : Int32), ((¬ c3 = (35 : Int32) ∧ b239 = (4 : Int32)) ∨ (c3 = (35 : Int32) ∧ b239 = (3 : Int32))) → W35 l Z room_1 [(su236, fA .byte [(nar .byte c0.toInt8.toInt32), (nar .byte c1.toInt8.toInt32)]), (sa235, strO su236), (a185, strO b187), (b187, fA .byte [(nar .byte c0.toInt8.toInt32), (nar .byte c1.toInt8.toInt32), (nar .byte (35 : Int32).toInt8.toInt32), (nar .byte c3.toInt8.toInt32)]), (a186, oA .char [c0, c1, (35 : Int32), c3])] 5 18 205 #[.val (.int g0), .val (.int g1), .val (.int g2), .val (.int g3), .val (.int g4), .val (.int 4), .val (.int c0), .val (.int c1), .val (.int 35), .val (.int c3), .val (.ref a185), .val (.ref sa235), .val (.int b239), .unset] [] Q_law := by
            intro b239 hj240
            refine wp_iload D_205 rfl ?_
            refine wp_iconst 2 D_207 (by decide) ?_
            refine wp_icmp_le D_208 (pc'' := 221) ⟨by decide, by decide⟩ (fun h242 => by exact absurd h242 (by decide)) (fun h242 => ?_)
            refine wp_iload D_211 rfl ?_
            refine wp_bipush 35 D_213 (by decide) ?_
            refine wp_icmp_ne D_215 (pc'' := 221) ⟨by decide, by decide⟩ (fun h243 => by exact absurd h243 (by decide)) (fun h243 => ?_)
            refine wp_iconst 2 D_218 (by decide) ?_
            refine wp_istore #[.val (.int g0), .val (.int g1), .val (.int g2), .val (.int g3), .val (.int g4), .val (.int 4), .val (.int c0), .val (.int c1), .val (.int 35), .val (.int c3), .val (.ref a185), .val (.ref sa235), .val (.int 2), .unset] D_219 rfl ?_
            refine wp_iload D_221 rfl ?_
            refine wp_iconst 1 D_223 (by decide) ?_
            refine wp_icmp_le D_224 (pc'' := 237) ⟨by decide, by decide⟩ (fun h244 => by exact absurd h244 (by decide)) (fun h244 => ?_)
            refine wp_iload D_227 rfl ?_
            refine wp_bipush 35 D_229 (by decide) ?_
            refine wp_icmp_ne D_231 (pc'' := 237) ⟨by decide, by decide⟩ (fun h245 => ?_) (fun h245 => by exact absurd h245 hk1)
            refine wp_iload D_237 rfl ?_
            refine wp_if_le D_239 (pc'' := 252) ⟨by decide, by decide⟩ (fun h246 => by exact absurd h246 (by decide)) (fun h246 => ?_)
            refine wp_iload D_242 rfl ?_
            refine wp_bipush 35 D_244 (by decide) ?_
            refine wp_icmp_ne D_246 (pc'' := 252) ⟨by decide, by decide⟩ (fun h247 => ?_) (fun h247 => by exact absurd h247 hk0)
            refine wp_aload D_252 rfl rfl ?_
            refine wp_ifnull_n D_254 ?_
            refine wp_aload D_257 rfl rfl ?_
            refine Wp.pick [1, 0, 2, 3, 4] (by decide) ?_
            show W35 l Z room_1 [(sa235, strO su236), (su236, fA .byte [(nar .byte c0.toInt8.toInt32), (nar .byte c1.toInt8.toInt32)]), (a185, strO b187), (b187, fA .byte [(nar .byte c0.toInt8.toInt32), (nar .byte c1.toInt8.toInt32), (nar .byte (35 : Int32).toInt8.toInt32), (nar .byte c3.toInt8.toInt32)]), (a186, oA .char [c0, c1, (35 : Int32), c3])] 5 18 259 #[.val (.int g0), .val (.int g1), .val (.int g2), .val (.int g3), .val (.int g4), .val (.int 4), .val (.int c0), .val (.int c1), .val (.int 35), .val (.int c3), .val (.ref a185), .val (.ref sa235), .val (.int 2), .unset] [(.ref sa235)] Q_law
            refine wp_virtual (c_len_2 l Z a0 hw sa235 su236 (nar .byte c0.toInt8.toInt32) (nar .byte c1.toInt8.toInt32) cp fm [(a185, strO b187), (b187, fA .byte [(nar .byte c0.toInt8.toInt32), (nar .byte c1.toInt8.toInt32), (nar .byte (35 : Int32).toInt8.toInt32), (nar .byte c3.toInt8.toInt32)]), (a186, oA .char [c0, c1, (35 : Int32), c3])] hs ) (exa_new (i := 0) rfl) D_259 (gw hw 71 rfl) (gw hw 48 rfl) (gw hw 50 rfl) (gw hw 50 rfl) (gw hw 49 rfl) (gw hw 7 rfl) (gw hw 51 rfl) (by decide) pd_5 rfl rfl rfl (lb rfl) (lb rfl) (lb rfl) (lb rfl) ?_
            rintro _ _ ⟨rfl, rfl⟩
            show W35 l Z room_1 [(sa235, strO su236), (su236, fA .byte [(nar .byte c0.toInt8.toInt32), (nar .byte c1.toInt8.toInt32)]), (a185, strO b187), (b187, fA .byte [(nar .byte c0.toInt8.toInt32), (nar .byte c1.toInt8.toInt32), (nar .byte (35 : Int32).toInt8.toInt32), (nar .byte c3.toInt8.toInt32)]), (a186, oA .char [c0, c1, (35 : Int32), c3])] 5 18 262 #[.val (.int g0), .val (.int g1), .val (.int g2), .val (.int g3), .val (.int g4), .val (.int 4), .val (.int c0), .val (.int c1), .val (.int 35), .val (.int c3), .val (.ref a185), .val (.ref sa235), .val (.int 2), .unset] [(.int 2)] Q_law
            refine wp_iload D_262 rfl ?_
            refine wp_icmp_eq D_264 (pc'' := 269) ⟨by decide, by decide⟩ (fun h248 => ?_) (fun h248 => by exact absurd h248 (by decide))
            refine wp_iconst 1 D_269 (by decide) ?_
            refine wp_istore #[.val (.int g0), .val (.int g1), .val (.int g2), .val (.int g3), .val (.int g4), .val (.int 4), .val (.int c0), .val (.int c1), .val (.int 35), .val (.int c3), .val (.ref a185), .val (.ref sa235), .val (.int 2), .val (.int 1)] D_270 rfl ?_
            refine wp_iload D_272 rfl ?_
            refine wp_if_le D_274 (pc'' := 300) ⟨by decide, by decide⟩ (fun h249 => by exact absurd h249 (by decide)) (fun h249 => ?_)
            refine wp_iload D_277 rfl ?_
            refine wp_if_eq D_279 (pc'' := 297) ⟨by decide, by decide⟩ (fun h250 => by exact absurd h250 (by decide)) (fun h250 => ?_)
            refine wp_aload D_282 rfl rfl ?_
            refine wp_iconst 0 D_284 (by decide) ?_
            refine wp_virtual (c_cat_2_0 l Z a0 hw sa235 su236 (nar .byte c0.toInt8.toInt32) (nar .byte c1.toInt8.toInt32) cp fm [(a185, strO b187), (b187, fA .byte [(nar .byte c0.toInt8.toInt32), (nar .byte c1.toInt8.toInt32), (nar .byte (35 : Int32).toInt8.toInt32), (nar .byte c3.toInt8.toInt32)]), (a186, oA .char [c0, c1, (35 : Int32), c3])] hs ) (exa_new (i := 0) rfl) D_285 (gw hw 102 rfl) (gw hw 103 rfl) (gw hw 105 rfl) (gw hw 105 rfl) (gw hw 104 rfl) (gw hw 7 rfl) (gw hw 106 rfl) (by decide) pd_22 rfl rfl rfl (lb rfl) (lb rfl) (lb rfl) (lb rfl) ?_
            rintro _ _ ⟨rfl, rfl⟩
            rw [own_ub c0 hc0]
            show W35 l Z room_1 [(sa235, strO su236), (su236, fA .byte [(nar .byte c0.toInt8.toInt32), (nar .byte c1.toInt8.toInt32)]), (a185, strO b187), (b187, fA .byte [(nar .byte c0.toInt8.toInt32), (nar .byte c1.toInt8.toInt32), (nar .byte (35 : Int32).toInt8.toInt32), (nar .byte c3.toInt8.toInt32)]), (a186, oA .char [c0, c1, (35 : Int32), c3])] 5 18 288 #[.val (.int g0), .val (.int g1), .val (.int g2), .val (.int g3), .val (.int g4), .val (.int 4), .val (.int c0), .val (.int c1), .val (.int 35), .val (.int c3), .val (.ref a185), .val (.ref sa235), .val (.int 2), .val (.int 1)] [(.int c0)] Q_law
            refine wp_iload D_288 rfl ?_
            refine wp_icmp_ne D_290 (pc'' := 297) ⟨by decide, by decide⟩ (fun h251 => by exact absurd rfl h251) (fun h251 => ?_)
            refine wp_iconst 1 D_293 (by decide) ?_
            refine wp_goto D_294 (pc'' := 298) ⟨by decide, by decide⟩ ?_
            refine wp_istore #[.val (.int g0), .val (.int g1), .val (.int g2), .val (.int g3), .val (.int g4), .val (.int 4), .val (.int c0), .val (.int c1), .val (.int 35), .val (.int c3), .val (.ref a185), .val (.ref sa235), .val (.int 2), .val (.int 1)] D_298 rfl ?_
            refine wp_iload D_300 rfl ?_
            refine wp_iconst 1 D_302 (by decide) ?_
            refine wp_icmp_le D_303 (pc'' := 329) ⟨by decide, by decide⟩ (fun h252 => by exact absurd h252 (by decide)) (fun h252 => ?_)
            refine wp_iload D_306 rfl ?_
            refine wp_if_eq D_308 (pc'' := 326) ⟨by decide, by decide⟩ (fun h253 => by exact absurd h253 (by decide)) (fun h253 => ?_)
            refine wp_aload D_311 rfl rfl ?_
            refine wp_iconst 1 D_313 (by decide) ?_
            refine wp_virtual (c_cat_2_1 l Z a0 hw sa235 su236 (nar .byte c0.toInt8.toInt32) (nar .byte c1.toInt8.toInt32) cp fm [(a185, strO b187), (b187, fA .byte [(nar .byte c0.toInt8.toInt32), (nar .byte c1.toInt8.toInt32), (nar .byte (35 : Int32).toInt8.toInt32), (nar .byte c3.toInt8.toInt32)]), (a186, oA .char [c0, c1, (35 : Int32), c3])] hs ) (exa_new (i := 0) rfl) D_314 (gw hw 102 rfl) (gw hw 103 rfl) (gw hw 105 rfl) (gw hw 105 rfl) (gw hw 104 rfl) (gw hw 7 rfl) (gw hw 106 rfl) (by decide) pd_22 rfl rfl rfl (lb rfl) (lb rfl) (lb rfl) (lb rfl) ?_
            rintro _ _ ⟨rfl, rfl⟩
            rw [own_ub c1 hc1]
            show W35 l Z room_1 [(sa235, strO su236), (su236, fA .byte [(nar .byte c0.toInt8.toInt32), (nar .byte c1.toInt8.toInt32)]), (a185, strO b187), (b187, fA .byte [(nar .byte c0.toInt8.toInt32), (nar .byte c1.toInt8.toInt32), (nar .byte (35 : Int32).toInt8.toInt32), (nar .byte c3.toInt8.toInt32)]), (a186, oA .char [c0, c1, (35 : Int32), c3])] 5 18 317 #[.val (.int g0), .val (.int g1), .val (.int g2), .val (.int g3), .val (.int g4), .val (.int 4), .val (.int c0), .val (.int c1), .val (.int 35), .val (.int c3), .val (.ref a185), .val (.ref sa235), .val (.int 2), .val (.int 1)] [(.int c1)] Q_law
            refine wp_iload D_317 rfl ?_
            refine wp_icmp_ne D_319 (pc'' := 326) ⟨by decide, by decide⟩ (fun h254 => by exact absurd rfl h254) (fun h254 => ?_)
            refine wp_iconst 1 D_322 (by decide) ?_
            refine wp_goto D_323 (pc'' := 327) ⟨by decide, by decide⟩ ?_
            refine wp_istore #[.val (.int g0), .val (.int g1), .val (.int g2), .val (.int g3), .val (.int g4), .val (.int 4), .val (.int c0), .val (.int c1), .val (.int 35), .val (.int c3), .val (.ref a185), .val (.ref sa235), .val (.int 2), .val (.int 1)] D_327 rfl ?_
            refine wp_iload D_329 rfl ?_
            refine wp_iconst 2 D_331 (by decide) ?_
            refine wp_icmp_le D_332 (pc'' := 358) ⟨by decide, by decide⟩ (fun h255 => ?_) (fun h255 => by exact absurd h255 (by decide))
            refine wp_iload D_358 rfl ?_
            refine wp_iconst 3 D_360 (by decide) ?_
            refine wp_icmp_le D_361 (pc'' := 387) ⟨by decide, by decide⟩ (fun h256 => ?_) (fun h256 => by exact absurd h256 (by decide))
            refine wp_iload D_387 rfl ?_
            refine wp_ireturnN D_389 rfl (by simp) (by decide) (by decide) ?_
            exact rfl
          refine wp_icmp_ne D_199 (pc'' := 205) ⟨by decide, by decide⟩ (fun h238 => ?_) (fun h238 => ?_)
          · skip
            exact (J241 (4 : Int32) (Or.inl ⟨h238, rfl⟩))
          · skip
            refine wp_iconst 3 D_202 (by decide) ?_
            refine wp_istore #[.val (.int g0), .val (.int g1), .val (.int g2), .val (.int g3), .val (.int g4), .val (.int 4), .val (.int c0), .val (.int c1), .val (.int 35), .val (.int c3), .val (.ref a185), .val (.ref sa235), .val (.int 3), .unset] D_203 rfl ?_
            exact (J241 (3 : Int32) (Or.inr ⟨h238, rfl⟩))
        · skip
          by_cases hk3 : c3 = (35 : Int32)
          · subst hk3
            show W35 l Z room_1 [(a185, strO b187), (b187, fA .byte [(nar .byte c0.toInt8.toInt32), (nar .byte c1.toInt8.toInt32), (nar .byte c2.toInt8.toInt32), (nar .byte (35 : Int32).toInt8.toInt32)]), (a186, oA .char [c0, c1, c2, (35 : Int32)])] 3 12 180 #[.val (.int g0), .val (.int g1), .val (.int g2), .val (.int g3), .val (.int g4), .val (.int 4), .val (.int c0), .val (.int c1), .val (.int c2), .val (.int 35), .val (.ref a185), .unset, .unset, .unset] [(.ref a185)] Q_law
            refine wp_callS (c_wf_4_3 l Z a0 hw a185 b187 (nar .byte c0.toInt8.toInt32) (nar .byte c1.toInt8.toInt32) (nar .byte c2.toInt8.toInt32) (nar .byte (35 : Int32).toInt8.toInt32) cp fm [(a186, oA .char [c0, c1, c2, (35 : Int32)])] hs (own_35 c0 hc0 hk0) (own_35 c1 hc1 hk1) (own_35 c2 hc2 hk2) (by decide)) D_180 (gw hw 27 rfl) (gw hw 28 rfl) (gw hw 29 rfl) (gw hw 30 rfl) (by decide) pd_24 rfl rfl rfl (lb rfl) (lb rfl) (lb rfl) (lb rfl) ?_
            rintro _ _ ⟨sa257, su258, rfl, rfl⟩
            show W35 l Z room_1 [(su258, fA .byte [(nar .byte c0.toInt8.toInt32), (nar .byte c1.toInt8.toInt32), (nar .byte c2.toInt8.toInt32)]), (sa257, strO su258), (a185, strO b187), (b187, fA .byte [(nar .byte c0.toInt8.toInt32), (nar .byte c1.toInt8.toInt32), (nar .byte c2.toInt8.toInt32), (nar .byte (35 : Int32).toInt8.toInt32)]), (a186, oA .char [c0, c1, c2, (35 : Int32)])] 5 19 183 #[.val (.int g0), .val (.int g1), .val (.int g2), .val (.int g3), .val (.int g4), .val (.int 4), .val (.int c0), .val (.int c1), .val (.int c2), .val (.int 35), .val (.ref a185), .unset, .unset, .unset] [(.ref sa257)] Q_law
            refine wp_astore #[.val (.int g0), .val (.int g1), .val (.int g2), .val (.int g3), .val (.int g4), .val (.int 4), .val (.int c0), .val (.int c1), .val (.int c2), .val (.int 35), .val (.ref a185), .val (.ref sa257), .unset, .unset] D_183 rfl rfl ?_
            refine wp_iload D_185 rfl ?_
            refine wp_istore #[.val (.int g0), .val (.int g1), .val (.int g2), .val (.int g3), .val (.int g4), .val (.int 4), .val (.int c0), .val (.int c1), .val (.int c2), .val (.int 35), .val (.ref a185), .val (.ref sa257), .val (.int 4), .unset] D_187 rfl ?_
            refine wp_iload D_189 rfl ?_
            refine wp_iconst 3 D_191 (by decide) ?_
            refine wp_icmp_le D_192 (pc'' := 205) ⟨by decide, by decide⟩ (fun h259 => by exact absurd h259 (by decide)) (fun h259 => ?_)
            refine wp_iload D_195 rfl ?_
            refine wp_bipush 35 D_197 (by decide) ?_
            refine wp_icmp_ne D_199 (pc'' := 205) ⟨by decide, by decide⟩ (fun h260 => by exact absurd h260 (by decide)) (fun h260 => ?_)
            refine wp_iconst 3 D_202 (by decide) ?_
            refine wp_istore #[.val (.int g0), .val (.int g1), .val (.int g2), .val (.int g3), .val (.int g4), .val (.int 4), .val (.int c0), .val (.int c1), .val (.int c2), .val (.int 35), .val (.ref a185), .val (.ref sa257), .val (.int 3), .unset] D_203 rfl ?_
            refine wp_iload D_205 rfl ?_
            refine wp_iconst 2 D_207 (by decide) ?_
            refine wp_icmp_le D_208 (pc'' := 221) ⟨by decide, by decide⟩ (fun h261 => by exact absurd h261 (by decide)) (fun h261 => ?_)
            refine wp_iload D_211 rfl ?_
            refine wp_bipush 35 D_213 (by decide) ?_
            refine wp_icmp_ne D_215 (pc'' := 221) ⟨by decide, by decide⟩ (fun h262 => ?_) (fun h262 => by exact absurd h262 hk2)
            refine wp_iload D_221 rfl ?_
            refine wp_iconst 1 D_223 (by decide) ?_
            refine wp_icmp_le D_224 (pc'' := 237) ⟨by decide, by decide⟩ (fun h263 => by exact absurd h263 (by decide)) (fun h263 => ?_)
            refine wp_iload D_227 rfl ?_
            refine wp_bipush 35 D_229 (by decide) ?_
            refine wp_icmp_ne D_231 (pc'' := 237) ⟨by decide, by decide⟩ (fun h264 => ?_) (fun h264 => by exact absurd h264 hk1)
            refine wp_iload D_237 rfl ?_
            refine wp_if_le D_239 (pc'' := 252) ⟨by decide, by decide⟩ (fun h265 => by exact absurd h265 (by decide)) (fun h265 => ?_)
            refine wp_iload D_242 rfl ?_
            refine wp_bipush 35 D_244 (by decide) ?_
            refine wp_icmp_ne D_246 (pc'' := 252) ⟨by decide, by decide⟩ (fun h266 => ?_) (fun h266 => by exact absurd h266 hk0)
            refine wp_aload D_252 rfl rfl ?_
            refine wp_ifnull_n D_254 ?_
            refine wp_aload D_257 rfl rfl ?_
            refine Wp.pick [1, 0, 2, 3, 4] (by decide) ?_
            show W35 l Z room_1 [(sa257, strO su258), (su258, fA .byte [(nar .byte c0.toInt8.toInt32), (nar .byte c1.toInt8.toInt32), (nar .byte c2.toInt8.toInt32)]), (a185, strO b187), (b187, fA .byte [(nar .byte c0.toInt8.toInt32), (nar .byte c1.toInt8.toInt32), (nar .byte c2.toInt8.toInt32), (nar .byte (35 : Int32).toInt8.toInt32)]), (a186, oA .char [c0, c1, c2, (35 : Int32)])] 5 19 259 #[.val (.int g0), .val (.int g1), .val (.int g2), .val (.int g3), .val (.int g4), .val (.int 4), .val (.int c0), .val (.int c1), .val (.int c2), .val (.int 35), .val (.ref a185), .val (.ref sa257), .val (.int 3), .unset] [(.ref sa257)] Q_law
            refine wp_virtual (c_len_3 l Z a0 hw sa257 su258 (nar .byte c0.toInt8.toInt32) (nar .byte c1.toInt8.toInt32) (nar .byte c2.toInt8.toInt32) cp fm [(a185, strO b187), (b187, fA .byte [(nar .byte c0.toInt8.toInt32), (nar .byte c1.toInt8.toInt32), (nar .byte c2.toInt8.toInt32), (nar .byte (35 : Int32).toInt8.toInt32)]), (a186, oA .char [c0, c1, c2, (35 : Int32)])] hs ) (exa_new (i := 0) rfl) D_259 (gw hw 71 rfl) (gw hw 48 rfl) (gw hw 50 rfl) (gw hw 50 rfl) (gw hw 49 rfl) (gw hw 7 rfl) (gw hw 51 rfl) (by decide) pd_5 rfl rfl rfl (lb rfl) (lb rfl) (lb rfl) (lb rfl) ?_
            rintro _ _ ⟨rfl, rfl⟩
            show W35 l Z room_1 [(sa257, strO su258), (su258, fA .byte [(nar .byte c0.toInt8.toInt32), (nar .byte c1.toInt8.toInt32), (nar .byte c2.toInt8.toInt32)]), (a185, strO b187), (b187, fA .byte [(nar .byte c0.toInt8.toInt32), (nar .byte c1.toInt8.toInt32), (nar .byte c2.toInt8.toInt32), (nar .byte (35 : Int32).toInt8.toInt32)]), (a186, oA .char [c0, c1, c2, (35 : Int32)])] 5 19 262 #[.val (.int g0), .val (.int g1), .val (.int g2), .val (.int g3), .val (.int g4), .val (.int 4), .val (.int c0), .val (.int c1), .val (.int c2), .val (.int 35), .val (.ref a185), .val (.ref sa257), .val (.int 3), .unset] [(.int 3)] Q_law
            refine wp_iload D_262 rfl ?_
            refine wp_icmp_eq D_264 (pc'' := 269) ⟨by decide, by decide⟩ (fun h267 => ?_) (fun h267 => by exact absurd h267 (by decide))
            refine wp_iconst 1 D_269 (by decide) ?_
            refine wp_istore #[.val (.int g0), .val (.int g1), .val (.int g2), .val (.int g3), .val (.int g4), .val (.int 4), .val (.int c0), .val (.int c1), .val (.int c2), .val (.int 35), .val (.ref a185), .val (.ref sa257), .val (.int 3), .val (.int 1)] D_270 rfl ?_
            refine wp_iload D_272 rfl ?_
            refine wp_if_le D_274 (pc'' := 300) ⟨by decide, by decide⟩ (fun h268 => by exact absurd h268 (by decide)) (fun h268 => ?_)
            refine wp_iload D_277 rfl ?_
            refine wp_if_eq D_279 (pc'' := 297) ⟨by decide, by decide⟩ (fun h269 => by exact absurd h269 (by decide)) (fun h269 => ?_)
            refine wp_aload D_282 rfl rfl ?_
            refine wp_iconst 0 D_284 (by decide) ?_
            refine wp_virtual (c_cat_3_0 l Z a0 hw sa257 su258 (nar .byte c0.toInt8.toInt32) (nar .byte c1.toInt8.toInt32) (nar .byte c2.toInt8.toInt32) cp fm [(a185, strO b187), (b187, fA .byte [(nar .byte c0.toInt8.toInt32), (nar .byte c1.toInt8.toInt32), (nar .byte c2.toInt8.toInt32), (nar .byte (35 : Int32).toInt8.toInt32)]), (a186, oA .char [c0, c1, c2, (35 : Int32)])] hs ) (exa_new (i := 0) rfl) D_285 (gw hw 102 rfl) (gw hw 103 rfl) (gw hw 105 rfl) (gw hw 105 rfl) (gw hw 104 rfl) (gw hw 7 rfl) (gw hw 106 rfl) (by decide) pd_22 rfl rfl rfl (lb rfl) (lb rfl) (lb rfl) (lb rfl) ?_
            rintro _ _ ⟨rfl, rfl⟩
            rw [own_ub c0 hc0]
            show W35 l Z room_1 [(sa257, strO su258), (su258, fA .byte [(nar .byte c0.toInt8.toInt32), (nar .byte c1.toInt8.toInt32), (nar .byte c2.toInt8.toInt32)]), (a185, strO b187), (b187, fA .byte [(nar .byte c0.toInt8.toInt32), (nar .byte c1.toInt8.toInt32), (nar .byte c2.toInt8.toInt32), (nar .byte (35 : Int32).toInt8.toInt32)]), (a186, oA .char [c0, c1, c2, (35 : Int32)])] 5 19 288 #[.val (.int g0), .val (.int g1), .val (.int g2), .val (.int g3), .val (.int g4), .val (.int 4), .val (.int c0), .val (.int c1), .val (.int c2), .val (.int 35), .val (.ref a185), .val (.ref sa257), .val (.int 3), .val (.int 1)] [(.int c0)] Q_law
            refine wp_iload D_288 rfl ?_
            refine wp_icmp_ne D_290 (pc'' := 297) ⟨by decide, by decide⟩ (fun h270 => by exact absurd rfl h270) (fun h270 => ?_)
            refine wp_iconst 1 D_293 (by decide) ?_
            refine wp_goto D_294 (pc'' := 298) ⟨by decide, by decide⟩ ?_
            refine wp_istore #[.val (.int g0), .val (.int g1), .val (.int g2), .val (.int g3), .val (.int g4), .val (.int 4), .val (.int c0), .val (.int c1), .val (.int c2), .val (.int 35), .val (.ref a185), .val (.ref sa257), .val (.int 3), .val (.int 1)] D_298 rfl ?_
            refine wp_iload D_300 rfl ?_
            refine wp_iconst 1 D_302 (by decide) ?_
            refine wp_icmp_le D_303 (pc'' := 329) ⟨by decide, by decide⟩ (fun h271 => by exact absurd h271 (by decide)) (fun h271 => ?_)
            refine wp_iload D_306 rfl ?_
            refine wp_if_eq D_308 (pc'' := 326) ⟨by decide, by decide⟩ (fun h272 => by exact absurd h272 (by decide)) (fun h272 => ?_)
            refine wp_aload D_311 rfl rfl ?_
            refine wp_iconst 1 D_313 (by decide) ?_
            refine wp_virtual (c_cat_3_1 l Z a0 hw sa257 su258 (nar .byte c0.toInt8.toInt32) (nar .byte c1.toInt8.toInt32) (nar .byte c2.toInt8.toInt32) cp fm [(a185, strO b187), (b187, fA .byte [(nar .byte c0.toInt8.toInt32), (nar .byte c1.toInt8.toInt32), (nar .byte c2.toInt8.toInt32), (nar .byte (35 : Int32).toInt8.toInt32)]), (a186, oA .char [c0, c1, c2, (35 : Int32)])] hs ) (exa_new (i := 0) rfl) D_314 (gw hw 102 rfl) (gw hw 103 rfl) (gw hw 105 rfl) (gw hw 105 rfl) (gw hw 104 rfl) (gw hw 7 rfl) (gw hw 106 rfl) (by decide) pd_22 rfl rfl rfl (lb rfl) (lb rfl) (lb rfl) (lb rfl) ?_
            rintro _ _ ⟨rfl, rfl⟩
            rw [own_ub c1 hc1]
            show W35 l Z room_1 [(sa257, strO su258), (su258, fA .byte [(nar .byte c0.toInt8.toInt32), (nar .byte c1.toInt8.toInt32), (nar .byte c2.toInt8.toInt32)]), (a185, strO b187), (b187, fA .byte [(nar .byte c0.toInt8.toInt32), (nar .byte c1.toInt8.toInt32), (nar .byte c2.toInt8.toInt32), (nar .byte (35 : Int32).toInt8.toInt32)]), (a186, oA .char [c0, c1, c2, (35 : Int32)])] 5 19 317 #[.val (.int g0), .val (.int g1), .val (.int g2), .val (.int g3), .val (.int g4), .val (.int 4), .val (.int c0), .val (.int c1), .val (.int c2), .val (.int 35), .val (.ref a185), .val (.ref sa257), .val (.int 3), .val (.int 1)] [(.int c1)] Q_law
            refine wp_iload D_317 rfl ?_
            refine wp_icmp_ne D_319 (pc'' := 326) ⟨by decide, by decide⟩ (fun h273 => by exact absurd rfl h273) (fun h273 => ?_)
            refine wp_iconst 1 D_322 (by decide) ?_
            refine wp_goto D_323 (pc'' := 327) ⟨by decide, by decide⟩ ?_
            refine wp_istore #[.val (.int g0), .val (.int g1), .val (.int g2), .val (.int g3), .val (.int g4), .val (.int 4), .val (.int c0), .val (.int c1), .val (.int c2), .val (.int 35), .val (.ref a185), .val (.ref sa257), .val (.int 3), .val (.int 1)] D_327 rfl ?_
            refine wp_iload D_329 rfl ?_
            refine wp_iconst 2 D_331 (by decide) ?_
            refine wp_icmp_le D_332 (pc'' := 358) ⟨by decide, by decide⟩ (fun h274 => by exact absurd h274 (by decide)) (fun h274 => ?_)
            refine wp_iload D_335 rfl ?_
            refine wp_if_eq D_337 (pc'' := 355) ⟨by decide, by decide⟩ (fun h275 => by exact absurd h275 (by decide)) (fun h275 => ?_)
            refine wp_aload D_340 rfl rfl ?_
            refine wp_iconst 2 D_342 (by decide) ?_
            refine wp_virtual (c_cat_3_2 l Z a0 hw sa257 su258 (nar .byte c0.toInt8.toInt32) (nar .byte c1.toInt8.toInt32) (nar .byte c2.toInt8.toInt32) cp fm [(a185, strO b187), (b187, fA .byte [(nar .byte c0.toInt8.toInt32), (nar .byte c1.toInt8.toInt32), (nar .byte c2.toInt8.toInt32), (nar .byte (35 : Int32).toInt8.toInt32)]), (a186, oA .char [c0, c1, c2, (35 : Int32)])] hs ) (exa_new (i := 0) rfl) D_343 (gw hw 102 rfl) (gw hw 103 rfl) (gw hw 105 rfl) (gw hw 105 rfl) (gw hw 104 rfl) (gw hw 7 rfl) (gw hw 106 rfl) (by decide) pd_22 rfl rfl rfl (lb rfl) (lb rfl) (lb rfl) (lb rfl) ?_
            rintro _ _ ⟨rfl, rfl⟩
            rw [own_ub c2 hc2]
            show W35 l Z room_1 [(sa257, strO su258), (su258, fA .byte [(nar .byte c0.toInt8.toInt32), (nar .byte c1.toInt8.toInt32), (nar .byte c2.toInt8.toInt32)]), (a185, strO b187), (b187, fA .byte [(nar .byte c0.toInt8.toInt32), (nar .byte c1.toInt8.toInt32), (nar .byte c2.toInt8.toInt32), (nar .byte (35 : Int32).toInt8.toInt32)]), (a186, oA .char [c0, c1, c2, (35 : Int32)])] 5 19 346 #[.val (.int g0), .val (.int g1), .val (.int g2), .val (.int g3), .val (.int g4), .val (.int 4), .val (.int c0), .val (.int c1), .val (.int c2), .val (.int 35), .val (.ref a185), .val (.ref sa257), .val (.int 3), .val (.int 1)] [(.int c2)] Q_law
            refine wp_iload D_346 rfl ?_
            refine wp_icmp_ne D_348 (pc'' := 355) ⟨by decide, by decide⟩ (fun h276 => by exact absurd rfl h276) (fun h276 => ?_)
            refine wp_iconst 1 D_351 (by decide) ?_
            refine wp_goto D_352 (pc'' := 356) ⟨by decide, by decide⟩ ?_
            refine wp_istore #[.val (.int g0), .val (.int g1), .val (.int g2), .val (.int g3), .val (.int g4), .val (.int 4), .val (.int c0), .val (.int c1), .val (.int c2), .val (.int 35), .val (.ref a185), .val (.ref sa257), .val (.int 3), .val (.int 1)] D_356 rfl ?_
            refine wp_iload D_358 rfl ?_
            refine wp_iconst 3 D_360 (by decide) ?_
            refine wp_icmp_le D_361 (pc'' := 387) ⟨by decide, by decide⟩ (fun h277 => ?_) (fun h277 => by exact absurd h277 (by decide))
            refine wp_iload D_387 rfl ?_
            refine wp_ireturnN D_389 rfl (by simp) (by decide) (by decide) ?_
            exact rfl
          · skip
            refine wp_callS (c_wf_4_m l Z a0 hw a185 b187 (nar .byte c0.toInt8.toInt32) (nar .byte c1.toInt8.toInt32) (nar .byte c2.toInt8.toInt32) (nar .byte c3.toInt8.toInt32) cp fm [(a186, oA .char [c0, c1, c2, c3])] hs (own_35 c0 hc0 hk0) (own_35 c1 hc1 hk1) (own_35 c2 hc2 hk2) (own_35 c3 hc3 hk3)) D_180 (gw hw 27 rfl) (gw hw 28 rfl) (gw hw 29 rfl) (gw hw 30 rfl) (by decide) pd_24 rfl rfl rfl (lb rfl) (lb rfl) (lb rfl) (lb rfl) ?_
            rintro _ _ ⟨rfl, rfl⟩
            show W35 l Z room_1 [(a185, strO b187), (b187, fA .byte [(nar .byte c0.toInt8.toInt32), (nar .byte c1.toInt8.toInt32), (nar .byte c2.toInt8.toInt32), (nar .byte c3.toInt8.toInt32)]), (a186, oA .char [c0, c1, c2, c3])] 3 12 183 #[.val (.int g0), .val (.int g1), .val (.int g2), .val (.int g3), .val (.int g4), .val (.int 4), .val (.int c0), .val (.int c1), .val (.int c2), .val (.int c3), .val (.ref a185), .unset, .unset, .unset] [(.ref a185)] Q_law
            refine wp_astore #[.val (.int g0), .val (.int g1), .val (.int g2), .val (.int g3), .val (.int g4), .val (.int 4), .val (.int c0), .val (.int c1), .val (.int c2), .val (.int c3), .val (.ref a185), .val (.ref a185), .unset, .unset] D_183 rfl rfl ?_
            refine wp_iload D_185 rfl ?_
            refine wp_istore #[.val (.int g0), .val (.int g1), .val (.int g2), .val (.int g3), .val (.int g4), .val (.int 4), .val (.int c0), .val (.int c1), .val (.int c2), .val (.int c3), .val (.ref a185), .val (.ref a185), .val (.int 4), .unset] D_187 rfl ?_
            refine wp_iload D_189 rfl ?_
            refine wp_iconst 3 D_191 (by decide) ?_
            refine wp_icmp_le D_192 (pc'' := 205) ⟨by decide, by decide⟩ (fun h278 => by exact absurd h278 (by decide)) (fun h278 => ?_)
            refine wp_iload D_195 rfl ?_
            refine wp_bipush 35 D_197 (by decide) ?_
            refine wp_icmp_ne D_199 (pc'' := 205) ⟨by decide, by decide⟩ (fun h279 => ?_) (fun h279 => by exact absurd h279 hk3)
            refine wp_iload D_205 rfl ?_
            refine wp_iconst 2 D_207 (by decide) ?_
            refine wp_icmp_le D_208 (pc'' := 221) ⟨by decide, by decide⟩ (fun h280 => by exact absurd h280 (by decide)) (fun h280 => ?_)
            refine wp_iload D_211 rfl ?_
            refine wp_bipush 35 D_213 (by decide) ?_
            refine wp_icmp_ne D_215 (pc'' := 221) ⟨by decide, by decide⟩ (fun h281 => ?_) (fun h281 => by exact absurd h281 hk2)
            refine wp_iload D_221 rfl ?_
            refine wp_iconst 1 D_223 (by decide) ?_
            refine wp_icmp_le D_224 (pc'' := 237) ⟨by decide, by decide⟩ (fun h282 => by exact absurd h282 (by decide)) (fun h282 => ?_)
            refine wp_iload D_227 rfl ?_
            refine wp_bipush 35 D_229 (by decide) ?_
            refine wp_icmp_ne D_231 (pc'' := 237) ⟨by decide, by decide⟩ (fun h283 => ?_) (fun h283 => by exact absurd h283 hk1)
            refine wp_iload D_237 rfl ?_
            refine wp_if_le D_239 (pc'' := 252) ⟨by decide, by decide⟩ (fun h284 => by exact absurd h284 (by decide)) (fun h284 => ?_)
            refine wp_iload D_242 rfl ?_
            refine wp_bipush 35 D_244 (by decide) ?_
            refine wp_icmp_ne D_246 (pc'' := 252) ⟨by decide, by decide⟩ (fun h285 => ?_) (fun h285 => by exact absurd h285 hk0)
            refine wp_aload D_252 rfl rfl ?_
            refine wp_ifnull_n D_254 ?_
            refine wp_aload D_257 rfl rfl ?_
            refine wp_virtual (c_len_4 l Z a0 hw a185 b187 (nar .byte c0.toInt8.toInt32) (nar .byte c1.toInt8.toInt32) (nar .byte c2.toInt8.toInt32) (nar .byte c3.toInt8.toInt32) cp fm [(a186, oA .char [c0, c1, c2, c3])] hs ) (exa_new (i := 0) rfl) D_259 (gw hw 71 rfl) (gw hw 48 rfl) (gw hw 50 rfl) (gw hw 50 rfl) (gw hw 49 rfl) (gw hw 7 rfl) (gw hw 51 rfl) (by decide) pd_5 rfl rfl rfl (lb rfl) (lb rfl) (lb rfl) (lb rfl) ?_
            rintro _ _ ⟨rfl, rfl⟩
            show W35 l Z room_1 [(a185, strO b187), (b187, fA .byte [(nar .byte c0.toInt8.toInt32), (nar .byte c1.toInt8.toInt32), (nar .byte c2.toInt8.toInt32), (nar .byte c3.toInt8.toInt32)]), (a186, oA .char [c0, c1, c2, c3])] 3 12 262 #[.val (.int g0), .val (.int g1), .val (.int g2), .val (.int g3), .val (.int g4), .val (.int 4), .val (.int c0), .val (.int c1), .val (.int c2), .val (.int c3), .val (.ref a185), .val (.ref a185), .val (.int 4), .unset] [(.int 4)] Q_law
            refine wp_iload D_262 rfl ?_
            refine wp_icmp_eq D_264 (pc'' := 269) ⟨by decide, by decide⟩ (fun h286 => ?_) (fun h286 => by exact absurd h286 (by decide))
            refine wp_iconst 1 D_269 (by decide) ?_
            refine wp_istore #[.val (.int g0), .val (.int g1), .val (.int g2), .val (.int g3), .val (.int g4), .val (.int 4), .val (.int c0), .val (.int c1), .val (.int c2), .val (.int c3), .val (.ref a185), .val (.ref a185), .val (.int 4), .val (.int 1)] D_270 rfl ?_
            refine wp_iload D_272 rfl ?_
            refine wp_if_le D_274 (pc'' := 300) ⟨by decide, by decide⟩ (fun h287 => by exact absurd h287 (by decide)) (fun h287 => ?_)
            refine wp_iload D_277 rfl ?_
            refine wp_if_eq D_279 (pc'' := 297) ⟨by decide, by decide⟩ (fun h288 => by exact absurd h288 (by decide)) (fun h288 => ?_)
            refine wp_aload D_282 rfl rfl ?_
            refine wp_iconst 0 D_284 (by decide) ?_
            refine wp_virtual (c_cat_4_0 l Z a0 hw a185 b187 (nar .byte c0.toInt8.toInt32) (nar .byte c1.toInt8.toInt32) (nar .byte c2.toInt8.toInt32) (nar .byte c3.toInt8.toInt32) cp fm [(a186, oA .char [c0, c1, c2, c3])] hs ) (exa_new (i := 0) rfl) D_285 (gw hw 102 rfl) (gw hw 103 rfl) (gw hw 105 rfl) (gw hw 105 rfl) (gw hw 104 rfl) (gw hw 7 rfl) (gw hw 106 rfl) (by decide) pd_22 rfl rfl rfl (lb rfl) (lb rfl) (lb rfl) (lb rfl) ?_
            rintro _ _ ⟨rfl, rfl⟩
            rw [own_ub c0 hc0]
            show W35 l Z room_1 [(a185, strO b187), (b187, fA .byte [(nar .byte c0.toInt8.toInt32), (nar .byte c1.toInt8.toInt32), (nar .byte c2.toInt8.toInt32), (nar .byte c3.toInt8.toInt32)]), (a186, oA .char [c0, c1, c2, c3])] 3 12 288 #[.val (.int g0), .val (.int g1), .val (.int g2), .val (.int g3), .val (.int g4), .val (.int 4), .val (.int c0), .val (.int c1), .val (.int c2), .val (.int c3), .val (.ref a185), .val (.ref a185), .val (.int 4), .val (.int 1)] [(.int c0)] Q_law
            refine wp_iload D_288 rfl ?_
            refine wp_icmp_ne D_290 (pc'' := 297) ⟨by decide, by decide⟩ (fun h289 => by exact absurd rfl h289) (fun h289 => ?_)
            refine wp_iconst 1 D_293 (by decide) ?_
            refine wp_goto D_294 (pc'' := 298) ⟨by decide, by decide⟩ ?_
            refine wp_istore #[.val (.int g0), .val (.int g1), .val (.int g2), .val (.int g3), .val (.int g4), .val (.int 4), .val (.int c0), .val (.int c1), .val (.int c2), .val (.int c3), .val (.ref a185), .val (.ref a185), .val (.int 4), .val (.int 1)] D_298 rfl ?_
            refine wp_iload D_300 rfl ?_
            refine wp_iconst 1 D_302 (by decide) ?_
            refine wp_icmp_le D_303 (pc'' := 329) ⟨by decide, by decide⟩ (fun h290 => by exact absurd h290 (by decide)) (fun h290 => ?_)
            refine wp_iload D_306 rfl ?_
            refine wp_if_eq D_308 (pc'' := 326) ⟨by decide, by decide⟩ (fun h291 => by exact absurd h291 (by decide)) (fun h291 => ?_)
            refine wp_aload D_311 rfl rfl ?_
            refine wp_iconst 1 D_313 (by decide) ?_
            refine wp_virtual (c_cat_4_1 l Z a0 hw a185 b187 (nar .byte c0.toInt8.toInt32) (nar .byte c1.toInt8.toInt32) (nar .byte c2.toInt8.toInt32) (nar .byte c3.toInt8.toInt32) cp fm [(a186, oA .char [c0, c1, c2, c3])] hs ) (exa_new (i := 0) rfl) D_314 (gw hw 102 rfl) (gw hw 103 rfl) (gw hw 105 rfl) (gw hw 105 rfl) (gw hw 104 rfl) (gw hw 7 rfl) (gw hw 106 rfl) (by decide) pd_22 rfl rfl rfl (lb rfl) (lb rfl) (lb rfl) (lb rfl) ?_
            rintro _ _ ⟨rfl, rfl⟩
            rw [own_ub c1 hc1]
            show W35 l Z room_1 [(a185, strO b187), (b187, fA .byte [(nar .byte c0.toInt8.toInt32), (nar .byte c1.toInt8.toInt32), (nar .byte c2.toInt8.toInt32), (nar .byte c3.toInt8.toInt32)]), (a186, oA .char [c0, c1, c2, c3])] 3 12 317 #[.val (.int g0), .val (.int g1), .val (.int g2), .val (.int g3), .val (.int g4), .val (.int 4), .val (.int c0), .val (.int c1), .val (.int c2), .val (.int c3), .val (.ref a185), .val (.ref a185), .val (.int 4), .val (.int 1)] [(.int c1)] Q_law
            refine wp_iload D_317 rfl ?_
            refine wp_icmp_ne D_319 (pc'' := 326) ⟨by decide, by decide⟩ (fun h292 => by exact absurd rfl h292) (fun h292 => ?_)
            refine wp_iconst 1 D_322 (by decide) ?_
            refine wp_goto D_323 (pc'' := 327) ⟨by decide, by decide⟩ ?_
            refine wp_istore #[.val (.int g0), .val (.int g1), .val (.int g2), .val (.int g3), .val (.int g4), .val (.int 4), .val (.int c0), .val (.int c1), .val (.int c2), .val (.int c3), .val (.ref a185), .val (.ref a185), .val (.int 4), .val (.int 1)] D_327 rfl ?_
            refine wp_iload D_329 rfl ?_
            refine wp_iconst 2 D_331 (by decide) ?_
            refine wp_icmp_le D_332 (pc'' := 358) ⟨by decide, by decide⟩ (fun h293 => by exact absurd h293 (by decide)) (fun h293 => ?_)
            refine wp_iload D_335 rfl ?_
            refine wp_if_eq D_337 (pc'' := 355) ⟨by decide, by decide⟩ (fun h294 => by exact absurd h294 (by decide)) (fun h294 => ?_)
            refine wp_aload D_340 rfl rfl ?_
            refine wp_iconst 2 D_342 (by decide) ?_
            refine wp_virtual (c_cat_4_2 l Z a0 hw a185 b187 (nar .byte c0.toInt8.toInt32) (nar .byte c1.toInt8.toInt32) (nar .byte c2.toInt8.toInt32) (nar .byte c3.toInt8.toInt32) cp fm [(a186, oA .char [c0, c1, c2, c3])] hs ) (exa_new (i := 0) rfl) D_343 (gw hw 102 rfl) (gw hw 103 rfl) (gw hw 105 rfl) (gw hw 105 rfl) (gw hw 104 rfl) (gw hw 7 rfl) (gw hw 106 rfl) (by decide) pd_22 rfl rfl rfl (lb rfl) (lb rfl) (lb rfl) (lb rfl) ?_
            rintro _ _ ⟨rfl, rfl⟩
            rw [own_ub c2 hc2]
            show W35 l Z room_1 [(a185, strO b187), (b187, fA .byte [(nar .byte c0.toInt8.toInt32), (nar .byte c1.toInt8.toInt32), (nar .byte c2.toInt8.toInt32), (nar .byte c3.toInt8.toInt32)]), (a186, oA .char [c0, c1, c2, c3])] 3 12 346 #[.val (.int g0), .val (.int g1), .val (.int g2), .val (.int g3), .val (.int g4), .val (.int 4), .val (.int c0), .val (.int c1), .val (.int c2), .val (.int c3), .val (.ref a185), .val (.ref a185), .val (.int 4), .val (.int 1)] [(.int c2)] Q_law
            refine wp_iload D_346 rfl ?_
            refine wp_icmp_ne D_348 (pc'' := 355) ⟨by decide, by decide⟩ (fun h295 => by exact absurd rfl h295) (fun h295 => ?_)
            refine wp_iconst 1 D_351 (by decide) ?_
            refine wp_goto D_352 (pc'' := 356) ⟨by decide, by decide⟩ ?_
            refine wp_istore #[.val (.int g0), .val (.int g1), .val (.int g2), .val (.int g3), .val (.int g4), .val (.int 4), .val (.int c0), .val (.int c1), .val (.int c2), .val (.int c3), .val (.ref a185), .val (.ref a185), .val (.int 4), .val (.int 1)] D_356 rfl ?_
            refine wp_iload D_358 rfl ?_
            refine wp_iconst 3 D_360 (by decide) ?_
            refine wp_icmp_le D_361 (pc'' := 387) ⟨by decide, by decide⟩ (fun h296 => by exact absurd h296 (by decide)) (fun h296 => ?_)
            refine wp_iload D_364 rfl ?_
            refine wp_if_eq D_366 (pc'' := 384) ⟨by decide, by decide⟩ (fun h297 => by exact absurd h297 (by decide)) (fun h297 => ?_)
            refine wp_aload D_369 rfl rfl ?_
            refine wp_iconst 3 D_371 (by decide) ?_
            refine wp_virtual (c_cat_4_3 l Z a0 hw a185 b187 (nar .byte c0.toInt8.toInt32) (nar .byte c1.toInt8.toInt32) (nar .byte c2.toInt8.toInt32) (nar .byte c3.toInt8.toInt32) cp fm [(a186, oA .char [c0, c1, c2, c3])] hs ) (exa_new (i := 0) rfl) D_372 (gw hw 102 rfl) (gw hw 103 rfl) (gw hw 105 rfl) (gw hw 105 rfl) (gw hw 104 rfl) (gw hw 7 rfl) (gw hw 106 rfl) (by decide) pd_22 rfl rfl rfl (lb rfl) (lb rfl) (lb rfl) (lb rfl) ?_
            rintro _ _ ⟨rfl, rfl⟩
            rw [own_ub c3 hc3]
            show W35 l Z room_1 [(a185, strO b187), (b187, fA .byte [(nar .byte c0.toInt8.toInt32), (nar .byte c1.toInt8.toInt32), (nar .byte c2.toInt8.toInt32), (nar .byte c3.toInt8.toInt32)]), (a186, oA .char [c0, c1, c2, c3])] 3 12 375 #[.val (.int g0), .val (.int g1), .val (.int g2), .val (.int g3), .val (.int g4), .val (.int 4), .val (.int c0), .val (.int c1), .val (.int c2), .val (.int c3), .val (.ref a185), .val (.ref a185), .val (.int 4), .val (.int 1)] [(.int c3)] Q_law
            refine wp_iload D_375 rfl ?_
            refine wp_icmp_ne D_377 (pc'' := 384) ⟨by decide, by decide⟩ (fun h298 => by exact absurd rfl h298) (fun h298 => ?_)
            refine wp_iconst 1 D_380 (by decide) ?_
            refine wp_goto D_381 (pc'' := 385) ⟨by decide, by decide⟩ ?_
            refine wp_istore #[.val (.int g0), .val (.int g1), .val (.int g2), .val (.int g3), .val (.int g4), .val (.int 4), .val (.int c0), .val (.int c1), .val (.int c2), .val (.int c3), .val (.ref a185), .val (.ref a185), .val (.int 4), .val (.int 1)] D_385 rfl ?_
            refine wp_iload D_387 rfl ?_
            refine wp_ireturnN D_389 rfl (by simp) (by decide) (by decide) ?_
            exact rfl
set_option maxRecDepth 65536 in
set_option maxHeartbeats 40000000 in
theorem comes_1 {Post : Tables → Env → Array Value → State → Outcome → State → Prop} (hpost : ∀ tb e args s v u, (limb_1_1.after args s (.returned v) u = true ∧ limb_1_2.after args s (.returned v) u = true ∧ True) → ReturnedEndW s (.returned v) u (Jvm.fieldLocs frame_1_writes args s ++ Jvm.arrayLocs frame_1_arrays args s ++ Jvm.staticLocs frame_1_statics s) 24 2176 → Post tb e args s (.returned v) u) :
    ArmFor flags0 classFile x code maxLocals ret World_1 tables_1 room_1 Calls_1 rest_1 Pre_1 Post := by
  intro l hfl _ _ p e ha hc hk s m args below hf hA hF happ hP
  obtain ⟨hcalls, hrest, hpre⟩ := hP
  obtain ⟨-, -, -, hnamed, -, -, -, hat⟩ := (Spec.applies_iff hf).mp happ
  obtain ⟨hg, hn⟩ := and_e (Cond.before_iff.mp (show (Jvm.Cond.and given_1 narrow_1).before args s = true from hpre))
  obtain ⟨hcnt, hk0⟩ := and_e hg
  obtain ⟨hz0, hk1⟩ := and_e hk0
  obtain ⟨hz1, hk2⟩ := and_e hk1
  obtain ⟨hz2, hk3⟩ := and_e hk2
  obtain ⟨hz3, hk4⟩ := and_e hk3
  have hz4 := hk4
  obtain ⟨w0, w1, w2, w3, w4, rfl⟩ : ∃ w0 w1 w2 w3 w4 : Value, args = #[w0, w1, w2, w3, w4] := by
    have hs : args.size = 5 := by simpa [Cond.value, given_1] using hcnt
    obtain ⟨L⟩ := args
    match L, hs with
    | [w0, w1, w2, w3, w4], _ => exact ⟨w0, w1, w2, w3, w4, rfl⟩
  have hw := fun d (hd : d ∈ tables_1) => atoms_spec (ws := Jvm.Cond.code x code maxLocals ret :: tables_1) hat d (List.mem_cons_of_mem _ hd)
  have hfit : Fit s := fun {y c} hc i hi => by
    obtain ⟨ha, rfl⟩ := Array.getElem?_eq_some_iff.mp hc
    have q := List.all_eq_true.mp ((Array.all_eq_true_iff_forall_mem.mp hF) _ (Array.getElem_mem ha)) i (List.mem_range.mpr hi)
    simpa [Array.getElem?_eq_getElem hi] using q
  obtain ⟨g0, e0⟩ := is_v hz0
  obtain rfl : w0 = (.int g0) := Option.some.inj e0
  obtain ⟨g1, e1⟩ := is_v hz1
  obtain rfl : w1 = (.int g1) := Option.some.inj e1
  obtain ⟨g2, e2⟩ := is_v hz2
  obtain rfl : w2 = (.int g2) := Option.some.inj e2
  obtain ⟨g3, e3⟩ := is_v hz3
  obtain rfl : w3 = (.int g3) := Option.some.inj e3
  obtain ⟨g4, e4⟩ := is_v hz4
  obtain rfl : w4 = (.int g4) := Option.some.inj e4
  obtain ⟨hsets, hown0⟩ := atoms_of _ (rest_1_c_eq ▸ (show rest_1_c.before _ s = true from hrest))
  obtain ⟨cp, ecp⟩ := is_v (Cond.before_iff.mp (hsets _ (List.mem_of_getElem? (i := 1) rfl)))
  have S_cp := Sta.start ecp (Or.inl (hsets _ (List.mem_of_getElem? (i := 0) rfl)))
  have hcw : Jvm.Lit.compactW.before _ s = true := hsets _ (List.mem_of_getElem? (i := 2) rfl)
  have hcp := own_nz ecp hcw
  obtain ⟨fm, efm, hfm⟩ := isR_v (Cond.before_iff.mp (hsets _ (List.mem_of_getElem? (i := 8) rfl)))
  have S_fm := Sta.start efm (Or.inl (hsets _ (List.mem_of_getElem? (i := 7) rfl)))
  have hcs : ∀ p ∈ consts_1, Jvm.Lit.constHeld s p.1 p.2 := hcalls.1
  have hm := (law_wp l s _ hw g0 g1 g2 g3 g4 cp fm ⟨S_cp, hcp, S_fm, hfm⟩)
  have hch : Good s consts_1 (fun a c => s.heap[a]? = some c) s.vm := Good.start (Jvm.RoadKit.CHv.start (own_EL l s _ hw) (fun p hp => hcs p hp) hcw (gw hw 20 rfl) (gw hw 6 rfl))
  obtain ⟨n, o, h1, h2, h3, v, L, rfl, ⟨N, H', D1, -, -, hQ⟩, hq⟩ := MetI.of_wp (y := x) (as' := [(.int g0), (.int g1), (.int g2), (.int g3), (.int g4)]) pn_30 (fun m => (entry_loc m _ _).trans rfl) (own_EL l s _ hw) hm tables_1 s.heap _ (Hp.nil s) p e ha hc hk s m _ below hf ((Spec.applies_iff_loose hf).mp happ).1 ⟨rfl, State.Warmed39.refl s, rfl, hch⟩ trivial
  obtain rfl : v = some (.int 1) := hQ
  refine ⟨n, _, h1, h2, h3, hpost _ _ _ _ _ _ ⟨Cond.after_iff.mpr rfl, Cond.after_iff.mpr (eq_i res_at (Term.int_eval (1)) rfl), trivial⟩ ⟨hq.1, hq.2.1, hq.2.2.1, (hq.2.2.2.sift fun y hy => Or.inr (N y hy)).mono (by decide) (by decide)⟩⟩
theorem main_1_1 : Claimed_1_1 := comes_1 fun _ _ _ _ _ _ h hF => ⟨h.1, hF⟩
theorem main_1_2 : Claimed_1_2 := comes_1 fun _ _ _ _ _ _ h hF => ⟨h.2.1, hF⟩
end Jvm.Pilot.@@N@@
namespace Jvm.Pilot.@@N@@
open Jvm Jvm.ClassFile Sem Op Lib Jvm.Free Jvm.Stand Jvm.Pilot.@@N@@.Jvm.D
/-! MADE BY PROGRAM (witnessworld.py) out of the Statement's table words and the real class files: 23 classes; the members and pool entries that the words name. The judged class is class 1, her method 2. -/
namespace start1
open Jvm.ClassFile
def u (s : String) : CpInfo := .utf8 (stringToUtf16 s)
/-- a pool by its gaps: so many unusable entries, then the entry; so many at the end -/
def gap : Nat → List CpInfo → List CpInfo
  | 0, r => r
  | n + 1, r => .unusable :: gap n r
def poolList (es : List (Nat × CpInfo)) (last : Nat) : List CpInfo := es.foldr (fun e r => gap e.1 (e.2 :: r)) (gap last [])
def pool (es : List (Nat × CpInfo)) (last : Nat) : Array CpInfo := ⟨poolList es last⟩
def fileOf (pool : Array CpInfo) (this : Nat) (attrs : Array Attribute := #[]) (ms : Array MethodInfo := #[]) (fl : Nat := 33) (sup : Nat := 0) (ifs : Array Nat := #[]) (fds : Array FieldInfo := #[]) : ClassFile where
  minorVersion := 0
  majorVersion := 65
  constantPool := pool
  accessFlags := fl
  thisClass := this
  superClass := sup
  interfaces := ifs
  fields := fds
  methods := ms
  attributes := attrs
def plain (name : String) (sup : Option ClassId) : Class where
  name := name
  kind := .ordinary
  loader := none
  accessFlags := 33
  super := sup
  interfaces := #[]
  cf := none
  fields := #[]
  methods := #[]
  instanceTypes := #[]
  staticTypes := #[]
  resolved := #[]
  callSites := []
  init := .initialized
  statics := none
  mirror := none

def pool0 : Array CpInfo := pool [(5, u "<init>"), (0, u "()V"), (1, .class_ 10), (1, u "java/lang/Object")] 113

def k0c0 : Code := { maxStack := 0, maxLocals := 1, code := object_method_1_code, exceptionTable := #[], attributes := #[] }
def k0m0 : Method := { name := "<init>", desc := "()V", sig := { parameters := [], returnType := none }, accessFlags := 1, code := some k0c0 }
/-- java/lang/Object -/
def k0 : Class := { plain "java/lang/Object" none with
  accessFlags := 33
  interfaces := #[]
  cf := some (fileOf pool0 8 #[] #[{ accessFlags := 1, nameIndex := 5, descriptorIndex := 6, attributes := #[] }] 33 0 #[] #[])
  fields := #[]
  methods := #[k0m0]
  instanceTypes := #[]
  staticTypes := #[]
  resolved := Array.replicate 124 none
  statics := none }

def pool1 : Array CpInfo := pool [(2, .class_ 4), (1, u "java/lang/Object"), (0, u "<init>"), (0, u "()V"), (0, .integer 2147483647), (0, .methodref 9 10), (0, .class_ 11), (0, .nameAndType 12 13), (0, u "com/example/bylint/bylint/description/UriReferencesWithoutFragmentPinLaw"), (0, u "ch"), (0, u "(I)C"), (0, .class_ 15), (0, u "java/lang/String"), (0, .methodref 14 17), (0, .nameAndType 5 18), (0, u "([C)V"), (0, .methodref 20 21), (0, .class_ 22), (0, .nameAndType 23 24), (0, u "com/example/bylint/bylint/description/UriReferences"), (0, u "withoutFragment"), (0, u "(Ljava/lang/String;)Ljava/lang/String;"), (0, .methodref 14 26), (0, .nameAndType 27 28), (0, u "length"), (0, u "()I"), (0, .methodref 14 30), (0, .nameAndType 31 13), (0, u "charAt"), (3, u "law"), (0, u "(IIIII)Z")] 2

def k1m0 : Method := { name := "<init>", desc := "()V", sig := { parameters := [], returnType := none }, accessFlags := 1, code := none }
def k1c1 : Code := { maxStack := 2, maxLocals := 1, code := method_2_code, exceptionTable := #[], attributes := #[] }
def k1m1 : Method := { name := "ch", desc := "(I)C", sig := { parameters := [.int], returnType := some .char }, accessFlags := 10, code := some k1c1 }
def k1c2 : Code := { maxStack := 6, maxLocals := 14, code := code, exceptionTable := #[], attributes := #[] }
def k1m2 : Method := { name := "law", desc := "(IIIII)Z", sig := { parameters := [.int, .int, .int, .int, .int], returnType := some .boolean }, accessFlags := 9, code := some k1c2 }
/-- com/example/bylint/bylint/description/UriReferencesWithoutFragmentPinLaw -/
def k1 : Class := { plain "com/example/bylint/bylint/description/UriReferencesWithoutFragmentPinLaw" (some 0) with
  accessFlags := 49
  interfaces := #[]
  cf := some (fileOf pool1 9 #[] #[{ accessFlags := 1, nameIndex := 5, descriptorIndex := 6, attributes := #[] }, { accessFlags := 10, nameIndex := 12, descriptorIndex := 13, attributes := #[] }, { accessFlags := 9, nameIndex := 35, descriptorIndex := 36, attributes := #[] }] 49 2 #[] #[])
  fields := #[]
  methods := #[k1m0, k1m1, k1m2]
  instanceTypes := #[]
  staticTypes := #[]
  resolved := Array.replicate 39 none
  statics := none }

def pool2 : Array CpInfo := pool [(1, .class_ 2), (0, u "java/io/Serializable"), (0, .class_ 4), (0, u "java/lang/Object")] 2

/-- java/io/Serializable -/
def k2 : Class := { plain "java/io/Serializable" (some 0) with
  accessFlags := 1537
  interfaces := #[]
  cf := some (fileOf pool2 1 #[] #[] 1537 3 #[] #[])
  fields := #[]
  methods := #[]
  instanceTypes := #[]
  staticTypes := #[]
  resolved := Array.replicate 7 none
  statics := none }

def pool3 : Array CpInfo := pool [(1, .class_ 2), (0, u "java/lang/Comparable"), (0, .class_ 4), (0, u "java/lang/Object")] 7

/-- java/lang/Comparable -/
def k3 : Class := { plain "java/lang/Comparable" (some 0) with
  accessFlags := 1537
  interfaces := #[]
  cf := some (fileOf pool3 1 #[] #[] 1537 3 #[] #[])
  fields := #[]
  methods := #[]
  instanceTypes := #[]
  staticTypes := #[]
  resolved := Array.replicate 12 none
  statics := none }

def pool4 : Array CpInfo := pool [(2, .class_ 4), (1, u "java/lang/CharSequence"), (42, .class_ 48), (0, u "java/lang/CharSequence$1CodePointIterator"), (10, .class_ 60), (0, u "java/lang/CharSequence$1CharIterator"), (5, .class_ 67), (0, u "java/lang/Object")] 63

/-- java/lang/CharSequence -/
def k4 : Class := { plain "java/lang/CharSequence" (some 0) with
  accessFlags := 1537
  interfaces := #[]
  cf := some (fileOf pool4 2 #[.nestMembers #[47, 59]] #[] 1537 66 #[] #[])
  fields := #[]
  methods := #[]
  instanceTypes := #[]
  staticTypes := #[]
  resolved := Array.replicate 131 none
  statics := none }

def pool5 : Array CpInfo := pool [(1, .class_ 2), (0, u "java/lang/constant/Constable"), (0, .class_ 4), (0, u "java/lang/Object")] 6

/-- java/lang/constant/Constable -/
def k5 : Class := { plain "java/lang/constant/Constable" (some 0) with
  accessFlags := 1537
  interfaces := #[]
  cf := some (fileOf pool5 1 #[] #[] 1537 3 #[] #[])
  fields := #[]
  methods := #[]
  instanceTypes := #[]
  staticTypes := #[]
  resolved := Array.replicate 11 none
  statics := none }

def pool6 : Array CpInfo := pool [(1, .class_ 2), (0, u "java/lang/constant/ConstantDesc"), (0, .class_ 4), (0, u "java/lang/Object")] 32

/-- java/lang/constant/ConstantDesc -/
def k6 : Class := { plain "java/lang/constant/ConstantDesc" (some 0) with
  accessFlags := 1537
  interfaces := #[]
  cf := some (fileOf pool6 1 #[] #[] 1537 3 #[] #[])
  fields := #[]
  methods := #[]
  instanceTypes := #[]
  staticTypes := #[]
  resolved := Array.replicate 37 none
  statics := none }

def pool7 : Array CpInfo := pool [(1, .methodref 2 3), (0, .class_ 4), (0, .nameAndType 5 6), (0, u "java/lang/Object"), (0, u "<init>"), (0, u "()V"), (0, .string 8), (0, u ""), (0, .fieldref 10 11), (0, .class_ 12), (0, .nameAndType 13 14), (0, u "java/lang/String"), (0, u "value"), (0, u "[B"), (0, .fieldref 10 16), (0, .nameAndType 17 18), (0, u "coder"), (0, u "B"), (2, u "hash"), (0, u "I"), (2, u "hashIsZero"), (0, u "Z"), (0, .methodref 10 28), (0, .nameAndType 5 29), (0, u "([CIILjava/lang/Void;)V"), (8, .fieldref 10 39), (0, .nameAndType 40 26), (0, u "COMPACT_STRINGS"), (1, .class_ 44), (1, u "java/lang/StringUTF16"), (0, u "compress"), (1, .methodref 42 48), (0, .nameAndType 49 50), (0, u "coderFromArrayLen"), (0, u "([BI)B"), (56, .class_ 109), (1, u "java/lang/StringLatin1"), (32, u "()Z"), (34, .methodref 42 178), (0, .nameAndType 45 179), (0, u "([CII)[B"), (31, u "([BB)V"), (122, u "()I"), (0, .methodref 10 336), (0, .nameAndType 17 337), (0, u "()B"), (25, u "([BI)C"), (27, u "(II)V"), (35, u "(I)C"), (64, .methodref 10 493), (0, .nameAndType 494 142), (0, u "isLatin1"), (0, .methodref 107 496), (0, .nameAndType 497 363), (0, u "charAt"), (3, u "checkIndex"), (3, .methodref 10 506), (0, .nameAndType 507 334), (0, u "length"), (5, u "checkFromToIndex"), (7, .methodref 10 522), (0, .nameAndType 523 524), (0, u "checkBoundsBeginEnd"), (0, u "(III)V"), (50, .class_ 576), (0, u "java/lang/CharSequence"), (22, u "CASE_INSENSITIVE_ORDER"), (0, u "Ljava/util/Comparator;"), (32, .methodref 10 634), (0, .nameAndType 635 636), (0, u "indexOf"), (0, u "(II)I"), (0, .methodref 107 638), (0, .nameAndType 635 639), (0, u "([BIII)I"), (43, u "substring"), (0, u "(II)Ljava/lang/String;"), (0, .methodref 107 686), (0, .nameAndType 687 688), (0, u "newString"), (0, u "([BII)Ljava/lang/String;"), (76, u "(I)I"), (244, u "([C)V"), (42, .fieldref 1054 1055), (0, .class_ 1056), (0, .nameAndType 1057 1058), (0, u "jdk/internal/util/Preconditions"), (0, u "SIOOBE_FORMATTER"), (0, u "Ljava/util/function/BiFunction;"), (0, .methodref 1054 1060), (0, .nameAndType 501 1061), (0, u "(IILjava/util/function/BiFunction;)I"), (0, .methodref 1054 1063), (0, .nameAndType 513 1064), (0, u "(IIILjava/util/function/BiFunction;)I"), (36, u "serialPersistentFields"), (0, u "[Ljava/io/ObjectStreamField;"), (0, .class_ 1104), (0, u "java/lang/String$CaseInsensitiveComparator"), (1, .class_ 1107), (0, u "java/io/Serializable"), (0, .class_ 1109), (0, u "java/lang/Comparable"), (0, .class_ 1111), (0, u "java/lang/constant/Constable"), (0, .class_ 1113), (0, u "java/lang/constant/ConstantDesc"), (2, u "serialVersionUID"), (0, u "J"), (3, u "REPL"), (0, u "C"), (2, u "LATIN1"), (1, u "UTF16")] 323

def k7m0 : Method := { name := "<init>", desc := "()V", sig := { parameters := [], returnType := none }, accessFlags := 1, code := none }
def k7c1 : Code := { maxStack := 5, maxLocals := 2, code := jdk_42_method_3_code, exceptionTable := #[], attributes := #[] }
def k7m1 : Method := { name := "<init>", desc := "([C)V", sig := { parameters := [(.array .char)], returnType := none }, accessFlags := 1, code := some k7c1 }
def k7c2 : Code := { maxStack := 2, maxLocals := 1, code := jdk_42_method_54_code, exceptionTable := #[], attributes := #[] }
def k7m2 : Method := { name := "length", desc := "()I", sig := { parameters := [], returnType := some .int }, accessFlags := 1, code := some k7c2 }
def k7c3 : Code := { maxStack := 2, maxLocals := 2, code := jdk_42_method_56_code, exceptionTable := #[], attributes := #[] }
def k7m3 : Method := { name := "charAt", desc := "(I)C", sig := { parameters := [.int], returnType := some .char }, accessFlags := 1, code := some k7c3 }
def k7c4 : Code := { maxStack := 3, maxLocals := 2, code := jdk_42_method_79_code, exceptionTable := #[], attributes := #[] }
def k7m4 : Method := { name := "indexOf", desc := "(I)I", sig := { parameters := [.int], returnType := some .int }, accessFlags := 1, code := some k7c4 }
def k7c5 : Code := { maxStack := 4, maxLocals := 3, code := jdk_42_method_80_code, exceptionTable := #[], attributes := #[] }
def k7m5 : Method := { name := "indexOf", desc := "(II)I", sig := { parameters := [.int, .int], returnType := some .int }, accessFlags := 1, code := some k7c5 }
def k7c6 : Code := { maxStack := 3, maxLocals := 5, code := jdk_42_method_92_code, exceptionTable := #[], attributes := #[] }
def k7m6 : Method := { name := "substring", desc := "(II)Ljava/lang/String;", sig := { parameters := [.int, .int], returnType := some (.object "java/lang/String") }, accessFlags := 1, code := some k7c6 }
def k7c7 : Code := { maxStack := 4, maxLocals := 6, code := jdk_42_method_149_code, exceptionTable := #[], attributes := #[] }
def k7m7 : Method := { name := "<init>", desc := "([CIILjava/lang/Void;)V", sig := { parameters := [(.array .char), .int, .int, (.object "java/lang/Void")], returnType := none }, accessFlags := 2, code := some k7c7 }
def k7c8 : Code := { maxStack := 2, maxLocals := 3, code := jdk_42_method_151_code, exceptionTable := #[], attributes := #[] }
def k7m8 : Method := { name := "<init>", desc := "([BB)V", sig := { parameters := [(.array .byte), .byte], returnType := none }, accessFlags := 0, code := some k7c8 }
def k7c9 : Code := { maxStack := 1, maxLocals := 1, code := jdk_42_method_152_code, exceptionTable := #[], attributes := #[] }
def k7m9 : Method := { name := "coder", desc := "()B", sig := { parameters := [], returnType := some .byte }, accessFlags := 0, code := some k7c9 }
def k7c10 : Code := { maxStack := 1, maxLocals := 1, code := jdk_42_method_154_code, exceptionTable := #[], attributes := #[] }
def k7m10 : Method := { name := "isLatin1", desc := "()Z", sig := { parameters := [], returnType := some .boolean }, accessFlags := 0, code := some k7c10 }
def k7c11 : Code := { maxStack := 3, maxLocals := 2, code := jdk_42_method_155_code, exceptionTable := #[], attributes := #[] }
def k7m11 : Method := { name := "checkIndex", desc := "(II)V", sig := { parameters := [.int, .int], returnType := none }, accessFlags := 8, code := some k7c11 }
def k7c12 : Code := { maxStack := 4, maxLocals := 3, code := jdk_42_method_158_code, exceptionTable := #[], attributes := #[] }
def k7m12 : Method := { name := "checkBoundsBeginEnd", desc := "(III)V", sig := { parameters := [.int, .int, .int], returnType := none }, accessFlags := 8, code := some k7c12 }
/-- java/lang/String -/
def k7 : Class := { plain "java/lang/String" (some 0) with
  accessFlags := 49
  interfaces := #[2, 3, 4, 5, 6]
  cf := some (fileOf pool7 10 #[.nestMembers #[1103]] #[{ accessFlags := 1, nameIndex := 5, descriptorIndex := 6, attributes := #[] }, { accessFlags := 1, nameIndex := 5, descriptorIndex := 1010, attributes := #[] }, { accessFlags := 1, nameIndex := 507, descriptorIndex := 334, attributes := #[] }, { accessFlags := 1, nameIndex := 497, descriptorIndex := 427, attributes := #[] }, { accessFlags := 1, nameIndex := 635, descriptorIndex := 765, attributes := #[] }, { accessFlags := 1, nameIndex := 635, descriptorIndex := 636, attributes := #[] }, { accessFlags := 1, nameIndex := 683, descriptorIndex := 684, attributes := #[] }, { accessFlags := 2, nameIndex := 5, descriptorIndex := 29, attributes := #[] }, { accessFlags := 0, nameIndex := 5, descriptorIndex := 211, attributes := #[] }, { accessFlags := 0, nameIndex := 17, descriptorIndex := 337, attributes := #[] }, { accessFlags := 0, nameIndex := 494, descriptorIndex := 142, attributes := #[] }, { accessFlags := 8, nameIndex := 501, descriptorIndex := 391, attributes := #[] }, { accessFlags := 8, nameIndex := 523, descriptorIndex := 524, attributes := #[] }] 49 2 #[1106, 1108, 575, 1110, 1112] #[{ accessFlags := 18, nameIndex := 13, descriptorIndex := 14, attributes := #[] }, { accessFlags := 18, nameIndex := 17, descriptorIndex := 18, attributes := #[] }, { accessFlags := 2, nameIndex := 21, descriptorIndex := 22, attributes := #[] }, { accessFlags := 2, nameIndex := 25, descriptorIndex := 26, attributes := #[] }, { accessFlags := 26, nameIndex := 1116, descriptorIndex := 1117, attributes := #[] }, { accessFlags := 24, nameIndex := 40, descriptorIndex := 26, attributes := #[] }, { accessFlags := 26, nameIndex := 1101, descriptorIndex := 1102, attributes := #[] }, { accessFlags := 26, nameIndex := 1121, descriptorIndex := 1122, attributes := #[] }, { accessFlags := 25, nameIndex := 599, descriptorIndex := 600, attributes := #[] }, { accessFlags := 24, nameIndex := 1125, descriptorIndex := 18, attributes := #[] }, { accessFlags := 24, nameIndex := 1127, descriptorIndex := 18, attributes := #[] }])
  fields := #[{ name := "value", type := (.array .byte), accessFlags := 18, slot := 0, constantValue := 0 }, { name := "coder", type := .byte, accessFlags := 18, slot := 1, constantValue := 0 }, { name := "hash", type := .int, accessFlags := 2, slot := 2, constantValue := 0 }, { name := "hashIsZero", type := .boolean, accessFlags := 2, slot := 3, constantValue := 0 }, { name := "serialVersionUID", type := .long, accessFlags := 26, slot := 0, constantValue := 0 }, { name := "COMPACT_STRINGS", type := .boolean, accessFlags := 24, slot := 1, constantValue := 0 }, { name := "serialPersistentFields", type := (.array (.object "java/io/ObjectStreamField")), accessFlags := 26, slot := 2, constantValue := 0 }, { name := "REPL", type := .char, accessFlags := 26, slot := 3, constantValue := 0 }, { name := "CASE_INSENSITIVE_ORDER", type := (.object "java/util/Comparator"), accessFlags := 25, slot := 4, constantValue := 0 }, { name := "LATIN1", type := .byte, accessFlags := 24, slot := 5, constantValue := 0 }, { name := "UTF16", type := .byte, accessFlags := 24, slot := 6, constantValue := 0 }]
  methods := #[k7m0, k7m1, k7m2, k7m3, k7m4, k7m5, k7m6, k7m7, k7m8, k7m9, k7m10, k7m11, k7m12]
  instanceTypes := #[(.array .byte), .byte, .int, .boolean]
  staticTypes := #[.long, .boolean, (.array (.object "java/io/ObjectStreamField")), .char, (.object "java/util/Comparator"), .byte, .byte]
  resolved := Array.replicate 1451 none
  statics := some 0 }

def pool8 : Array CpInfo := pool [(2, .class_ 4), (1, u "java/lang/Object"), (0, u "<init>"), (0, u "()V"), (1, .class_ 10), (1, u "com/example/bylint/bylint/description/UriReferences$Parts"), (3, .class_ 16), (1, u "com/example/bylint/bylint/description/UriReferences"), (1, u "(Ljava/lang/String;)Ljava/lang/String;"), (36, .class_ 57), (1, u "java/lang/String"), (15, .methodref 55 74), (0, .nameAndType 75 76), (0, u "indexOf"), (0, u "(I)I"), (0, .methodref 55 78), (0, .nameAndType 79 80), (0, u "substring"), (0, u "(II)Ljava/lang/String;"), (197, u "PARTS"), (0, u "Ljava/util/regex/Pattern;"), (0, u "UNRESERVED"), (0, u "Ljava/lang/String;"), (1, u "RESERVED"), (6, u "withoutFragment")] 27

def k8m0 : Method := { name := "<init>", desc := "()V", sig := { parameters := [], returnType := none }, accessFlags := 2, code := none }
def k8c1 : Code := { maxStack := 3, maxLocals := 2, code := prog_9_method_5_code, exceptionTable := #[], attributes := #[] }
def k8m1 : Method := { name := "withoutFragment", desc := "(Ljava/lang/String;)Ljava/lang/String;", sig := { parameters := [(.object "java/lang/String")], returnType := some (.object "java/lang/String") }, accessFlags := 8, code := some k8c1 }
/-- com/example/bylint/bylint/description/UriReferences -/
def k8 : Class := { plain "com/example/bylint/bylint/description/UriReferences" (some 0) with
  accessFlags := 32
  interfaces := #[]
  cf := some (fileOf pool8 14 #[.nestMembers #[8]] #[{ accessFlags := 2, nameIndex := 5, descriptorIndex := 6, attributes := #[] }, { accessFlags := 8, nameIndex := 290, descriptorIndex := 18, attributes := #[] }] 32 2 #[] #[{ accessFlags := 26, nameIndex := 278, descriptorIndex := 279, attributes := #[] }, { accessFlags := 26, nameIndex := 280, descriptorIndex := 281, attributes := #[] }, { accessFlags := 26, nameIndex := 283, descriptorIndex := 281, attributes := #[] }])
  fields := #[{ name := "PARTS", type := (.object "java/util/regex/Pattern"), accessFlags := 26, slot := 0, constantValue := 0 }, { name := "UNRESERVED", type := (.object "java/lang/String"), accessFlags := 26, slot := 1, constantValue := 0 }, { name := "RESERVED", type := (.object "java/lang/String"), accessFlags := 26, slot := 2, constantValue := 0 }]
  methods := #[k8m0, k8m1]
  instanceTypes := #[]
  staticTypes := #[(.object "java/util/regex/Pattern"), (.object "java/lang/String"), (.object "java/lang/String")]
  resolved := Array.replicate 318 none
  statics := none }

def pool9 : Array CpInfo := pool [(1, .class_ 2), (0, u "java/lang/String"), (1, .class_ 6), (1, u "java/lang/Object"), (0, u "<init>"), (0, u "()V"), (0, .methodref 1 10), (0, .nameAndType 11 12), (0, u "checkIndex"), (0, u "(II)V"), (1, .class_ 16), (1, u "java/lang/StringLatin1"), (21, .methodref 39 40), (0, .class_ 41), (0, .nameAndType 42 43), (0, u "java/lang/Math"), (0, u "min"), (0, u "(II)I"), (9, u "([BI)C"), (34, .methodref 14 89), (0, .nameAndType 90 91), (0, u "canEncode"), (0, u "(I)Z"), (0, .methodref 39 93), (0, .nameAndType 94 43), (0, u "max"), (0, .methodref 14 96), (0, .nameAndType 97 98), (0, u "indexOfChar"), (0, u "([BIII)I"), (2, u "indexOf"), (10, .methodref 1 113), (0, .nameAndType 7 114), (0, u "([BB)V"), (6, u "$assertionsDisabled"), (0, u "Z"), (8, .class_ 133), (1, u "java/util/Arrays"), (17, .string 152), (0, u ""), (43, u "newString"), (0, u "([BII)Ljava/lang/String;"), (23, .class_ 223), (1, u "java/lang/StringLatin1$LinesSpliterator"), (8, .methodref 131 233), (0, .nameAndType 234 235), (0, u "copyOfRange"), (0, u "([BII)[B"), (16, u "charAt"), (137, .class_ 391), (0, u "java/lang/StringLatin1$CharsSpliterator")] 3

def k9m0 : Method := { name := "<init>", desc := "()V", sig := { parameters := [], returnType := none }, accessFlags := 0, code := none }
def k9c1 : Code := { maxStack := 2, maxLocals := 2, code := jdk_43_method_2_code, exceptionTable := #[], attributes := #[] }
def k9m1 : Method := { name := "charAt", desc := "([BI)C", sig := { parameters := [(.array .byte), .int], returnType := some .char }, accessFlags := 9, code := some k9c1 }
def k9c2 : Code := { maxStack := 2, maxLocals := 1, code := jdk_43_method_4_code, exceptionTable := #[], attributes := #[] }
def k9m2 : Method := { name := "canEncode", desc := "(I)Z", sig := { parameters := [.int], returnType := some .boolean }, accessFlags := 9, code := some k9c2 }
def k9c3 : Code := { maxStack := 4, maxLocals := 4, code := jdk_43_method_22_code, exceptionTable := #[], attributes := #[] }
def k9m3 : Method := { name := "indexOf", desc := "([BIII)I", sig := { parameters := [(.array .byte), .int, .int, .int], returnType := some .int }, accessFlags := 9, code := some k9c3 }
def k9c4 : Code := { maxStack := 2, maxLocals := 6, code := jdk_43_method_23_code, exceptionTable := #[], attributes := #[] }
def k9m4 : Method := { name := "indexOfChar", desc := "([BIII)I", sig := { parameters := [(.array .byte), .int, .int, .int], returnType := some .int }, accessFlags := 10, code := some k9c4 }
def k9c5 : Code := { maxStack := 6, maxLocals := 3, code := jdk_43_method_47_code, exceptionTable := #[], attributes := #[] }
def k9m5 : Method := { name := "newString", desc := "([BII)Ljava/lang/String;", sig := { parameters := [(.array .byte), .int, .int], returnType := some (.object "java/lang/String") }, accessFlags := 9, code := some k9c5 }
/-- java/lang/StringLatin1 -/
def k9 : Class := { plain "java/lang/StringLatin1" (some 0) with
  accessFlags := 48
  interfaces := #[]
  cf := some (fileOf pool9 14 #[.nestMembers #[390, 221]] #[{ accessFlags := 0, nameIndex := 7, descriptorIndex := 8, attributes := #[] }, { accessFlags := 9, nameIndex := 252, descriptorIndex := 53, attributes := #[] }, { accessFlags := 9, nameIndex := 90, descriptorIndex := 91, attributes := #[] }, { accessFlags := 9, nameIndex := 101, descriptorIndex := 98, attributes := #[] }, { accessFlags := 10, nameIndex := 97, descriptorIndex := 98, attributes := #[] }, { accessFlags := 9, nameIndex := 196, descriptorIndex := 197, attributes := #[] }] 48 4 #[] #[{ accessFlags := 4120, nameIndex := 121, descriptorIndex := 122, attributes := #[] }])
  fields := #[{ name := "$assertionsDisabled", type := .boolean, accessFlags := 4120, slot := 0, constantValue := 0 }]
  methods := #[k9m0, k9m1, k9m2, k9m3, k9m4, k9m5]
  instanceTypes := #[]
  staticTypes := #[.boolean]
  resolved := Array.replicate 395 none
  statics := none }

def pool10 : Array CpInfo := pool [(1, .class_ 2), (0, u "java/lang/Math"), (1, .class_ 6), (1, u "java/lang/Object"), (0, u "<init>"), (0, u "()V"), (89, .class_ 100), (1, u "java/lang/Math$RandomNumberGeneratorHolder"), (71, u "negativeZeroFloatBits"), (0, u "J"), (2, u "negativeZeroDoubleBits"), (21, u "max"), (2, u "min"), (43, u "$assertionsDisabled"), (0, u "Z"), (88, u "(II)I"), (2, u "twoToTheDoubleScaleDown"), (0, u "D"), (4, u "twoToTheDoubleScaleUp"), (9, u "E"), (3, u "PI"), (2, u "TAU"), (2, u "DEGREES_TO_RADIANS"), (0, u "RADIANS_TO_DEGREES")] 94

def k10m0 : Method := { name := "<init>", desc := "()V", sig := { parameters := [], returnType := none }, accessFlags := 2, code := none }
def k10c1 : Code := { maxStack := 2, maxLocals := 2, code := jdk_29_method_65_code, exceptionTable := #[], attributes := #[] }
def k10m1 : Method := { name := "max", desc := "(II)I", sig := { parameters := [.int, .int], returnType := some .int }, accessFlags := 9, code := some k10c1 }
def k10c2 : Code := { maxStack := 2, maxLocals := 2, code := jdk_29_method_69_code, exceptionTable := #[], attributes := #[] }
def k10m2 : Method := { name := "min", desc := "(II)I", sig := { parameters := [.int, .int], returnType := some .int }, accessFlags := 9, code := some k10c2 }
/-- java/lang/Math -/
def k10 : Class := { plain "java/lang/Math" (some 0) with
  accessFlags := 49
  interfaces := #[]
  cf := some (fileOf pool10 1 #[.nestMembers #[98]] #[{ accessFlags := 2, nameIndex := 7, descriptorIndex := 8, attributes := #[] }, { accessFlags := 9, nameIndex := 198, descriptorIndex := 335, attributes := #[] }, { accessFlags := 9, nameIndex := 201, descriptorIndex := 335, attributes := #[] }] 49 4 #[] #[{ accessFlags := 25, nameIndex := 354, descriptorIndex := 339, attributes := #[] }, { accessFlags := 25, nameIndex := 358, descriptorIndex := 339, attributes := #[] }, { accessFlags := 25, nameIndex := 361, descriptorIndex := 339, attributes := #[] }, { accessFlags := 26, nameIndex := 364, descriptorIndex := 339, attributes := #[] }, { accessFlags := 26, nameIndex := 365, descriptorIndex := 339, attributes := #[] }, { accessFlags := 26, nameIndex := 172, descriptorIndex := 173, attributes := #[] }, { accessFlags := 26, nameIndex := 176, descriptorIndex := 173, attributes := #[] }, { accessFlags := 8, nameIndex := 344, descriptorIndex := 339, attributes := #[] }, { accessFlags := 8, nameIndex := 338, descriptorIndex := 339, attributes := #[] }, { accessFlags := 4120, nameIndex := 245, descriptorIndex := 246, attributes := #[] }])
  fields := #[{ name := "E", type := .double, accessFlags := 25, slot := 0, constantValue := 0 }, { name := "PI", type := .double, accessFlags := 25, slot := 1, constantValue := 0 }, { name := "TAU", type := .double, accessFlags := 25, slot := 2, constantValue := 0 }, { name := "DEGREES_TO_RADIANS", type := .double, accessFlags := 26, slot := 3, constantValue := 0 }, { name := "RADIANS_TO_DEGREES", type := .double, accessFlags := 26, slot := 4, constantValue := 0 }, { name := "negativeZeroFloatBits", type := .long, accessFlags := 26, slot := 5, constantValue := 0 }, { name := "negativeZeroDoubleBits", type := .long, accessFlags := 26, slot := 6, constantValue := 0 }, { name := "twoToTheDoubleScaleUp", type := .double, accessFlags := 8, slot := 7, constantValue := 0 }, { name := "twoToTheDoubleScaleDown", type := .double, accessFlags := 8, slot := 8, constantValue := 0 }, { name := "$assertionsDisabled", type := .boolean, accessFlags := 4120, slot := 9, constantValue := 0 }]
  methods := #[k10m0, k10m1, k10m2]
  instanceTypes := #[]
  staticTypes := #[.double, .double, .double, .double, .double, .long, .long, .double, .double, .boolean]
  resolved := Array.replicate 460 none
  statics := none }

def pool11 : Array CpInfo := pool [(6, .class_ 8), (1, u "java/lang/Object"), (0, u "<init>"), (0, u "()V"), (1, .class_ 14), (1, u "java/lang/StringUTF16"), (31, u "$assertionsDisabled"), (0, u "Z"), (13, u "HI_BYTE_SHIFT"), (0, u "I"), (2, u "LO_BYTE_SHIFT"), (49, .methodref 12 116), (0, .nameAndType 117 118), (0, u "compress"), (0, u "([CI[BII)I"), (3, u "([CII)[B"), (138, u "coderFromArrayLen"), (0, u "([BI)B"), (106, .class_ 371), (1, u "java/lang/StringUTF16$LinesSpliterator"), (58, u "MAX_LENGTH"), (196, .class_ 628), (0, u "java/lang/StringUTF16$CodePointsSpliterator"), (0, .class_ 630), (0, u "java/lang/StringUTF16$CharsSpliterator")] 4

def k11m0 : Method := { name := "<init>", desc := "()V", sig := { parameters := [], returnType := none }, accessFlags := 0, code := none }
def k11c1 : Code := { maxStack := 2, maxLocals := 2, code := jdk_52_method_15_code, exceptionTable := #[], attributes := #[] }
def k11m1 : Method := { name := "coderFromArrayLen", desc := "([BI)B", sig := { parameters := [(.array .byte), .int], returnType := some .byte }, accessFlags := 8, code := some k11c1 }
def k11c2 : Code := { maxStack := 5, maxLocals := 6, code := jdk_52_method_16_code, exceptionTable := #[], attributes := #[] }
def k11m2 : Method := { name := "compress", desc := "([CII)[B", sig := { parameters := [(.array .char), .int, .int], returnType := some (.array .byte) }, accessFlags := 9, code := some k11c2 }
def k11c3 : Code := { maxStack := 3, maxLocals := 7, code := jdk_52_method_21_code, exceptionTable := #[], attributes := #[] }
def k11m3 : Method := { name := "compress", desc := "([CI[BII)I", sig := { parameters := [(.array .char), .int, (.array .byte), .int, .int], returnType := some .int }, accessFlags := 9, code := some k11c3 }
/-- java/lang/StringUTF16 -/
def k11 : Class := { plain "java/lang/StringUTF16" (some 0) with
  accessFlags := 48
  interfaces := #[]
  cf := some (fileOf pool11 12 #[.nestMembers #[627, 629, 369]] #[{ accessFlags := 0, nameIndex := 9, descriptorIndex := 10, attributes := #[] }, { accessFlags := 8, nameIndex := 261, descriptorIndex := 262, attributes := #[] }, { accessFlags := 9, nameIndex := 117, descriptorIndex := 122, attributes := #[] }, { accessFlags := 9, nameIndex := 117, descriptorIndex := 118, attributes := #[] }] 48 6 #[] #[{ accessFlags := 26, nameIndex := 61, descriptorIndex := 62, attributes := #[] }, { accessFlags := 26, nameIndex := 65, descriptorIndex := 62, attributes := #[] }, { accessFlags := 24, nameIndex := 430, descriptorIndex := 62, attributes := #[] }, { accessFlags := 4120, nameIndex := 46, descriptorIndex := 47, attributes := #[] }])
  fields := #[{ name := "HI_BYTE_SHIFT", type := .int, accessFlags := 26, slot := 0, constantValue := 0 }, { name := "LO_BYTE_SHIFT", type := .int, accessFlags := 26, slot := 1, constantValue := 0 }, { name := "MAX_LENGTH", type := .int, accessFlags := 24, slot := 2, constantValue := 0 }, { name := "$assertionsDisabled", type := .boolean, accessFlags := 4120, slot := 3, constantValue := 0 }]
  methods := #[k11m0, k11m1, k11m2, k11m3]
  instanceTypes := #[]
  staticTypes := #[.int, .int, .int, .boolean]
  resolved := Array.replicate 635 none
  statics := none }

def pool12 : Array CpInfo := pool [(2, .class_ 4), (1, u "java/lang/Object"), (0, u "<init>"), (0, u "()V"), (17, .class_ 26), (1, u "jdk/internal/util/Preconditions"), (6, u "checkIndex"), (13, u "checkFromToIndex"), (7, .class_ 56), (0, u "jdk/internal/util/Preconditions$4"), (57, .class_ 115), (0, u "jdk/internal/util/Preconditions$1"), (7, u "SIOOBE_FORMATTER"), (0, u "Ljava/util/function/BiFunction;"), (0, .class_ 126), (0, u "jdk/internal/util/Preconditions$2"), (3, u "AIOOBE_FORMATTER"), (0, .class_ 132), (0, u "jdk/internal/util/Preconditions$3"), (3, u "IOOBE_FORMATTER"), (41, u "(IILjava/util/function/BiFunction;)I"), (4, u "(IIILjava/util/function/BiFunction;)I")] 10

def k12m0 : Method := { name := "<init>", desc := "()V", sig := { parameters := [], returnType := none }, accessFlags := 1, code := none }
def k12c1 : Code := { maxStack := 3, maxLocals := 3, code := jdk_41_method_11_code, exceptionTable := #[], attributes := #[] }
def k12m1 : Method := { name := "checkIndex", desc := "(IILjava/util/function/BiFunction;)I", sig := { parameters := [.int, .int, (.object "java/util/function/BiFunction")], returnType := some .int }, accessFlags := 9, code := some k12c1 }
def k12c2 : Code := { maxStack := 4, maxLocals := 4, code := jdk_41_method_12_code, exceptionTable := #[], attributes := #[] }
def k12m2 : Method := { name := "checkFromToIndex", desc := "(IIILjava/util/function/BiFunction;)I", sig := { parameters := [.int, .int, .int, (.object "java/util/function/BiFunction")], returnType := some .int }, accessFlags := 9, code := some k12c2 }
/-- jdk/internal/util/Preconditions -/
def k12 : Class := { plain "jdk/internal/util/Preconditions" (some 0) with
  accessFlags := 33
  interfaces := #[]
  cf := some (fileOf pool12 24 #[.nestMembers #[55, 131, 125, 114]] #[{ accessFlags := 1, nameIndex := 5, descriptorIndex := 6, attributes := #[] }, { accessFlags := 9, nameIndex := 33, descriptorIndex := 178, attributes := #[] }, { accessFlags := 9, nameIndex := 47, descriptorIndex := 183, attributes := #[] }] 33 2 #[] #[{ accessFlags := 25, nameIndex := 123, descriptorIndex := 124, attributes := #[] }, { accessFlags := 25, nameIndex := 130, descriptorIndex := 124, attributes := #[] }, { accessFlags := 25, nameIndex := 136, descriptorIndex := 124, attributes := #[] }])
  fields := #[{ name := "SIOOBE_FORMATTER", type := (.object "java/util/function/BiFunction"), accessFlags := 25, slot := 0, constantValue := 0 }, { name := "AIOOBE_FORMATTER", type := (.object "java/util/function/BiFunction"), accessFlags := 25, slot := 1, constantValue := 0 }, { name := "IOOBE_FORMATTER", type := (.object "java/util/function/BiFunction"), accessFlags := 25, slot := 2, constantValue := 0 }]
  methods := #[k12m0, k12m1, k12m2]
  instanceTypes := #[]
  staticTypes := #[(.object "java/util/function/BiFunction"), (.object "java/util/function/BiFunction"), (.object "java/util/function/BiFunction")]
  resolved := Array.replicate 194 none
  statics := some 1 }

def pool13 : Array CpInfo := pool [(2, .class_ 4), (1, u "java/lang/Object"), (0, u "<init>"), (0, u "()V"), (7, .class_ 16), (1, u "java/util/Arrays"), (57, .class_ 76), (1, u "java/util/Arrays$NaturalOrder"), (36, .class_ 115), (1, u "java/util/Arrays$LegacyMergeSort"), (1, u "Z"), (21, u "copyOfRange"), (10, .methodref 151 152), (0, .class_ 153), (0, .nameAndType 154 155), (0, u "java/lang/System"), (0, u "arraycopy"), (0, u "(Ljava/lang/Object;ILjava/lang/Object;II)V"), (148, .methodref 305 306), (0, .class_ 307), (0, .nameAndType 308 309), (0, u "java/lang/Math"), (0, u "min"), (0, u "(II)I"), (29, .methodref 14 340), (0, .nameAndType 341 342), (0, u "copyOfRangeByte"), (0, u "([BII)[B"), (0, .methodref 14 344), (0, .nameAndType 345 346), (0, u "checkLength"), (0, u "(II)V"), (28, .class_ 376), (0, u "java/util/Arrays$ArrayList"), (68, u "$assertionsDisabled"), (269, u "MIN_ARRAY_SORT_GRAN"), (0, u "I"), (2, u "INSERTIONSORT_THRESHOLD"), (255, .class_ 976), (0, u "java/util/Arrays$ArrayItr")] 52

def k13m0 : Method := { name := "<init>", desc := "()V", sig := { parameters := [], returnType := none }, accessFlags := 2, code := none }
def k13c1 : Code := { maxStack := 4, maxLocals := 2, code := jdk_65_method_131_code, exceptionTable := #[], attributes := #[] }
def k13m1 : Method := { name := "checkLength", desc := "(II)V", sig := { parameters := [.int, .int], returnType := none }, accessFlags := 10, code := some k13c1 }
def k13c2 : Code := { maxStack := 3, maxLocals := 3, code := jdk_65_method_132_code, exceptionTable := #[], attributes := #[] }
def k13m2 : Method := { name := "copyOfRange", desc := "([BII)[B", sig := { parameters := [(.array .byte), .int, .int], returnType := some (.array .byte) }, accessFlags := 9, code := some k13c2 }
def k13c3 : Code := { maxStack := 6, maxLocals := 5, code := jdk_65_method_133_code, exceptionTable := #[], attributes := #[] }
def k13m3 : Method := { name := "copyOfRangeByte", desc := "([BII)[B", sig := { parameters := [(.array .byte), .int, .int], returnType := some (.array .byte) }, accessFlags := 10, code := some k13c3 }
/-- java/util/Arrays -/
def k13 : Class := { plain "java/util/Arrays" (some 0) with
  accessFlags := 49
  interfaces := #[]
  cf := some (fileOf pool13 14 #[.nestMembers #[975, 375, 113, 74]] #[{ accessFlags := 2, nameIndex := 5, descriptorIndex := 6, attributes := #[] }, { accessFlags := 10, nameIndex := 345, descriptorIndex := 346, attributes := #[] }, { accessFlags := 9, nameIndex := 139, descriptorIndex := 342, attributes := #[] }, { accessFlags := 10, nameIndex := 341, descriptorIndex := 342, attributes := #[] }] 49 2 #[] #[{ accessFlags := 26, nameIndex := 715, descriptorIndex := 716, attributes := #[] }, { accessFlags := 26, nameIndex := 719, descriptorIndex := 716, attributes := #[] }, { accessFlags := 4120, nameIndex := 445, descriptorIndex := 117, attributes := #[] }])
  fields := #[{ name := "MIN_ARRAY_SORT_GRAN", type := .int, accessFlags := 26, slot := 0, constantValue := 0 }, { name := "INSERTIONSORT_THRESHOLD", type := .int, accessFlags := 26, slot := 1, constantValue := 0 }, { name := "$assertionsDisabled", type := .boolean, accessFlags := 4120, slot := 2, constantValue := 0 }]
  methods := #[k13m0, k13m1, k13m2, k13m3]
  instanceTypes := #[]
  staticTypes := #[.int, .int, .boolean]
  resolved := Array.replicate 1029 none
  statics := none }

def pool14 : Array CpInfo := pool [(2, .class_ 4), (1, u "java/lang/Object"), (0, u "<init>"), (0, u "()V"), (1, .class_ 10), (1, u "java/lang/System"), (0, u "allowSecurityManager"), (0, u "I"), (16, u "cons"), (0, u "Ljava/io/Console;"), (77, .class_ 110), (1, u "java/lang/System$CallersHolder"), (43, u "initialErrStream"), (0, u "Ljava/io/PrintStream;"), (19, u "security"), (0, u "Ljava/lang/SecurityManager;"), (31, .class_ 209), (0, u "java/lang/System$1"), (7, u "props"), (0, u "Ljava/util/Properties;"), (2, u "lineSeparator"), (0, u "Ljava/lang/String;"), (96, .class_ 321), (1, u "java/lang/System$LoggerFinder"), (5, .class_ 328), (0, u "java/lang/System$Logger"), (67, u "err"), (2, u "out"), (91, u "notSupportedJnuEncoding"), (15, u "in"), (17, u "initialIn"), (0, u "Ljava/io/InputStream;"), (35, u "bootLayer"), (0, u "Ljava/lang/ModuleLayer;"), (99, .class_ 664), (0, u "java/lang/System$2"), (9, u "NEVER"), (2, u "MAYBE"), (49, u "arraycopy"), (0, u "(Ljava/lang/Object;ILjava/lang/Object;II)V"), (72, .class_ 802), (0, u "java/lang/System$Logger$Level")] 31

def k14m0 : Method := { name := "<init>", desc := "()V", sig := { parameters := [], returnType := none }, accessFlags := 2, code := none }
def k14m1 : Method := { name := "arraycopy", desc := "(Ljava/lang/Object;ILjava/lang/Object;II)V", sig := { parameters := [(.object "java/lang/Object"), .int, (.object "java/lang/Object"), .int, .int], returnType := none }, accessFlags := 265, code := none }
/-- java/lang/System -/
def k14 : Class := { plain "java/lang/System" (some 0) with
  accessFlags := 49
  interfaces := #[]
  cf := some (fileOf pool14 8 #[.nestMembers #[319, 327, 801, 108, 663, 208]] #[{ accessFlags := 2, nameIndex := 5, descriptorIndex := 6, attributes := #[] }, { accessFlags := 265, nameIndex := 727, descriptorIndex := 728, attributes := #[] }] 49 2 #[] #[{ accessFlags := 25, nameIndex := 507, descriptorIndex := 526, attributes := #[] }, { accessFlags := 25, nameIndex := 399, descriptorIndex := 155, attributes := #[] }, { accessFlags := 25, nameIndex := 396, descriptorIndex := 155, attributes := #[] }, { accessFlags := 10, nameIndex := 525, descriptorIndex := 526, attributes := #[] }, { accessFlags := 26, nameIndex := 674, descriptorIndex := 12, attributes := #[] }, { accessFlags := 26, nameIndex := 677, descriptorIndex := 12, attributes := #[] }, { accessFlags := 10, nameIndex := 11, descriptorIndex := 12, attributes := #[] }, { accessFlags := 74, nameIndex := 175, descriptorIndex := 176, attributes := #[] }, { accessFlags := 10, nameIndex := 491, descriptorIndex := 222, attributes := #[] }, { accessFlags := 74, nameIndex := 29, descriptorIndex := 30, attributes := #[] }, { accessFlags := 74, nameIndex := 154, descriptorIndex := 155, attributes := #[] }, { accessFlags := 10, nameIndex := 217, descriptorIndex := 218, attributes := #[] }, { accessFlags := 10, nameIndex := 221, descriptorIndex := 222, attributes := #[] }, { accessFlags := 8, nameIndex := 562, descriptorIndex := 563, attributes := #[] }])
  fields := #[{ name := "in", type := (.object "java/io/InputStream"), accessFlags := 25, slot := 0, constantValue := 0 }, { name := "out", type := (.object "java/io/PrintStream"), accessFlags := 25, slot := 1, constantValue := 0 }, { name := "err", type := (.object "java/io/PrintStream"), accessFlags := 25, slot := 2, constantValue := 0 }, { name := "initialIn", type := (.object "java/io/InputStream"), accessFlags := 10, slot := 3, constantValue := 0 }, { name := "NEVER", type := .int, accessFlags := 26, slot := 4, constantValue := 0 }, { name := "MAYBE", type := .int, accessFlags := 26, slot := 5, constantValue := 0 }, { name := "allowSecurityManager", type := .int, accessFlags := 10, slot := 6, constantValue := 0 }, { name := "security", type := (.object "java/lang/SecurityManager"), accessFlags := 74, slot := 7, constantValue := 0 }, { name := "notSupportedJnuEncoding", type := (.object "java/lang/String"), accessFlags := 10, slot := 8, constantValue := 0 }, { name := "cons", type := (.object "java/io/Console"), accessFlags := 74, slot := 9, constantValue := 0 }, { name := "initialErrStream", type := (.object "java/io/PrintStream"), accessFlags := 74, slot := 10, constantValue := 0 }, { name := "props", type := (.object "java/util/Properties"), accessFlags := 10, slot := 11, constantValue := 0 }, { name := "lineSeparator", type := (.object "java/lang/String"), accessFlags := 10, slot := 12, constantValue := 0 }, { name := "bootLayer", type := (.object "java/lang/ModuleLayer"), accessFlags := 8, slot := 13, constantValue := 0 }]
  methods := #[k14m0, k14m1]
  instanceTypes := #[]
  staticTypes := #[(.object "java/io/InputStream"), (.object "java/io/PrintStream"), (.object "java/io/PrintStream"), (.object "java/io/InputStream"), .int, .int, .int, (.object "java/lang/SecurityManager"), (.object "java/lang/String"), (.object "java/io/Console"), (.object "java/io/PrintStream"), (.object "java/util/Properties"), (.object "java/lang/String"), (.object "java/lang/ModuleLayer")]
  resolved := Array.replicate 834 none
  statics := none }

def pool15 : Array CpInfo := pool [(9, u "<init>"), (6, .class_ 18), (1, u "java/lang/Object"), (0, u "()V"), (1, .class_ 23), (1, u "jdk/internal/util/ArraysSupport"), (0, u "LOG2_ARRAY_LONG_INDEX_SCALE"), (0, u "I"), (2, u "U"), (0, u "Ljdk/internal/misc/Unsafe;"), (8, u "BIG_ENDIAN"), (0, u "Z"), (8, u "LOG2_BYTE_BIT_SIZE"), (4, u "LOG2_ARRAY_INT_INDEX_SCALE"), (54, u "JLA"), (0, u "Ljdk/internal/access/JavaLangAccess;"), (11, u "LOG2_ARRAY_BOOLEAN_INDEX_SCALE"), (9, u "LOG2_ARRAY_BYTE_INDEX_SCALE"), (5, u "LOG2_ARRAY_CHAR_INDEX_SCALE"), (5, u "LOG2_ARRAY_SHORT_INDEX_SCALE"), (18, u "LOG2_ARRAY_FLOAT_INDEX_SCALE"), (24, u "LOG2_ARRAY_DOUBLE_INDEX_SCALE"), (89, u "T_BOOLEAN"), (2, u "T_CHAR"), (1, u "T_FLOAT"), (1, u "T_DOUBLE"), (1, u "T_BYTE"), (1, u "T_SHORT"), (1, u "T_INT"), (1, u "T_LONG"), (1, u "SOFT_MAX_ARRAY_LENGTH")] 83

def k15m0 : Method := { name := "<init>", desc := "()V", sig := { parameters := [], returnType := none }, accessFlags := 2, code := none }
/-- jdk/internal/util/ArraysSupport -/
def k15 : Class := { plain "jdk/internal/util/ArraysSupport" (some 0) with
  accessFlags := 33
  interfaces := #[]
  cf := some (fileOf pool15 21 #[] #[{ accessFlags := 2, nameIndex := 9, descriptorIndex := 19, attributes := #[] }] 33 16 #[] #[{ accessFlags := 24, nameIndex := 28, descriptorIndex := 29, attributes := #[] }, { accessFlags := 26, nameIndex := 38, descriptorIndex := 39, attributes := #[] }, { accessFlags := 25, nameIndex := 121, descriptorIndex := 25, attributes := #[] }, { accessFlags := 25, nameIndex := 131, descriptorIndex := 25, attributes := #[] }, { accessFlags := 25, nameIndex := 137, descriptorIndex := 25, attributes := #[] }, { accessFlags := 25, nameIndex := 143, descriptorIndex := 25, attributes := #[] }, { accessFlags := 25, nameIndex := 53, descriptorIndex := 25, attributes := #[] }, { accessFlags := 25, nameIndex := 24, descriptorIndex := 25, attributes := #[] }, { accessFlags := 25, nameIndex := 162, descriptorIndex := 25, attributes := #[] }, { accessFlags := 25, nameIndex := 187, descriptorIndex := 25, attributes := #[] }, { accessFlags := 26, nameIndex := 48, descriptorIndex := 25, attributes := #[] }, { accessFlags := 25, nameIndex := 277, descriptorIndex := 25, attributes := #[] }, { accessFlags := 25, nameIndex := 280, descriptorIndex := 25, attributes := #[] }, { accessFlags := 25, nameIndex := 282, descriptorIndex := 25, attributes := #[] }, { accessFlags := 25, nameIndex := 284, descriptorIndex := 25, attributes := #[] }, { accessFlags := 25, nameIndex := 286, descriptorIndex := 25, attributes := #[] }, { accessFlags := 25, nameIndex := 288, descriptorIndex := 25, attributes := #[] }, { accessFlags := 25, nameIndex := 290, descriptorIndex := 25, attributes := #[] }, { accessFlags := 25, nameIndex := 292, descriptorIndex := 25, attributes := #[] }, { accessFlags := 26, nameIndex := 108, descriptorIndex := 109, attributes := #[] }, { accessFlags := 25, nameIndex := 294, descriptorIndex := 25, attributes := #[] }])
  fields := #[{ name := "U", type := (.object "jdk/internal/misc/Unsafe"), accessFlags := 24, slot := 0, constantValue := 0 }, { name := "BIG_ENDIAN", type := .boolean, accessFlags := 26, slot := 1, constantValue := 0 }, { name := "LOG2_ARRAY_BOOLEAN_INDEX_SCALE", type := .int, accessFlags := 25, slot := 2, constantValue := 0 }, { name := "LOG2_ARRAY_BYTE_INDEX_SCALE", type := .int, accessFlags := 25, slot := 3, constantValue := 0 }, { name := "LOG2_ARRAY_CHAR_INDEX_SCALE", type := .int, accessFlags := 25, slot := 4, constantValue := 0 }, { name := "LOG2_ARRAY_SHORT_INDEX_SCALE", type := .int, accessFlags := 25, slot := 5, constantValue := 0 }, { name := "LOG2_ARRAY_INT_INDEX_SCALE", type := .int, accessFlags := 25, slot := 6, constantValue := 0 }, { name := "LOG2_ARRAY_LONG_INDEX_SCALE", type := .int, accessFlags := 25, slot := 7, constantValue := 0 }, { name := "LOG2_ARRAY_FLOAT_INDEX_SCALE", type := .int, accessFlags := 25, slot := 8, constantValue := 0 }, { name := "LOG2_ARRAY_DOUBLE_INDEX_SCALE", type := .int, accessFlags := 25, slot := 9, constantValue := 0 }, { name := "LOG2_BYTE_BIT_SIZE", type := .int, accessFlags := 26, slot := 10, constantValue := 0 }, { name := "T_BOOLEAN", type := .int, accessFlags := 25, slot := 11, constantValue := 0 }, { name := "T_CHAR", type := .int, accessFlags := 25, slot := 12, constantValue := 0 }, { name := "T_FLOAT", type := .int, accessFlags := 25, slot := 13, constantValue := 0 }, { name := "T_DOUBLE", type := .int, accessFlags := 25, slot := 14, constantValue := 0 }, { name := "T_BYTE", type := .int, accessFlags := 25, slot := 15, constantValue := 0 }, { name := "T_SHORT", type := .int, accessFlags := 25, slot := 16, constantValue := 0 }, { name := "T_INT", type := .int, accessFlags := 25, slot := 17, constantValue := 0 }, { name := "T_LONG", type := .int, accessFlags := 25, slot := 18, constantValue := 0 }, { name := "JLA", type := (.object "jdk/internal/access/JavaLangAccess"), accessFlags := 26, slot := 19, constantValue := 0 }, { name := "SOFT_MAX_ARRAY_LENGTH", type := .int, accessFlags := 25, slot := 20, constantValue := 0 }]
  methods := #[k15m0]
  instanceTypes := #[]
  staticTypes := #[(.object "jdk/internal/misc/Unsafe"), .boolean, .int, .int, .int, .int, .int, .int, .int, .int, .int, .int, .int, .int, .int, .int, .int, .int, .int, (.object "jdk/internal/access/JavaLangAccess"), .int]
  resolved := Array.replicate 378 none
  statics := none }

def pool16 : Array CpInfo := pool [(1, u "java/lang/Cloneable"), (0, .class_ 1), (0, u "java/lang/Object"), (0, .class_ 3)] 3

/-- java/lang/Cloneable -/
def k16 : Class := { plain "java/lang/Cloneable" (some 0) with
  accessFlags := 1537
  interfaces := #[]
  cf := some (fileOf pool16 2 #[] #[] 1537 4 #[] #[])
  fields := #[]
  methods := #[]
  instanceTypes := #[]
  staticTypes := #[]
  resolved := Array.replicate 8 none
  statics := none }

/-- the primitive byte -/
def k17 : Class := { plain "byte" none with kind := .primitive 'B', accessFlags := 0x411 }
/-- [B -/
def k18 : Class := { plain "[B" (some 0) with kind := .array 17 .byte, interfaces := #[16, 2], accessFlags := 1041 }

/-- the primitive char -/
def k19 : Class := { plain "char" none with kind := .primitive 'C', accessFlags := 0x411 }
/-- [C -/
def k20 : Class := { plain "[C" (some 0) with kind := .array 19 .char, interfaces := #[16, 2], accessFlags := 1041 }

/-- the primitive int -/
def k21 : Class := { plain "int" none with kind := .primitive 'I', accessFlags := 0x411 }
/-- [I -/
def k22 : Class := { plain "[I" (some 0) with kind := .array 21 .int, interfaces := #[16, 2], accessFlags := 1041 }

def heap : Heap := #[{ cls := 7, slots := #[.long 0, .int 1, .null, .int 0, .null, .int 0, .int 0], vm := .statics 7 },
  { cls := 12, slots := #[.null, .null, .null], vm := .statics 12 }]
def classes : Array Class := #[k0, k1, k2, k3, k4, k5, k6, k7, k8, k9, k10, k11, k12, k13, k14, k15, k16, k17, k18, k19, k20, k21, k22]
def interned : List (Array UInt16 × Addr) := []
def slotsUsed : Nat := 10
def theMethod : MethodId := ⟨1, 2⟩
def args0 : Array Value := #[.int 5, .int 5, .int 5, .int 5, .int 5]
def aboutOver (below : List Frame) : State where
  vm := { classes := classes, interned := interned.toArray }
  heap := heap
  slotsUsed := slotsUsed
  threads := #[{ frames := .invoking theMethod args0 :: below }]
def below0 : List Frame := [.native { method := ⟨0, 0⟩, args := #[] }]
def about1 : State := aboutOver below0
def p0 : Program := .bare "" "" ""
def e0 : Env := launch0.env 0 0 0
theorem w_frames : about1.frames = Frame.invoking theMethod args0 :: below0 := rfl
set_option maxRecDepth 65536 in
theorem w_args : argsFit about1.vm theMethod args0 = true := by decide +kernel
set_option maxRecDepth 65536 in
theorem w_heap : heapFits about1 = true := by decide +kernel
set_option maxRecDepth 65536 in
theorem w_runnable : about1.curStatus? = some .runnable := by decide +kernel
set_option maxRecDepth 65536 in
theorem w_alone : about1.alone = true := by decide +kernel
set_option maxRecDepth 65536 in
theorem w_named : about1.methodNamed? x = some theMethod := by decide +kernel
set_option maxRecDepth 65536 in
theorem w_hears : about1.hears theMethod below0 = true := by decide +kernel
set_option maxRecDepth 65536 in
theorem w_ripe : about1.ripe theMethod args0 below0 = true := by decide +kernel
theorem w_running : about1.status = .running := rfl
set_option maxRecDepth 65536 in
theorem w_room : about1.hasRoom e0.platform room_1 = true :=
  launch0.hasRoom_least _ room_1 (by decide +kernel) (by decide +kernel) (by decide +kernel) (by decide +kernel) (by decide +kernel) (by decide +kernel)
theorem allAtoms_all (ts : List Jvm.Cond) (a : Array Jvm.Value) (st : Jvm.State) : (allAtoms ts).before a st = ts.all (fun c => c.before a st) := by
  induction ts with
  | nil => rfl
  | cons c t ih =>
    show (Jvm.Cond.and c (allAtoms t)).before a st = _
    rw [Jvm.Cond.before_and, ih, List.all_cons]
def words1 : List Jvm.Cond := Jvm.Cond.code x code maxLocals ret :: tables_1
/-- a 'code' word, met by the world's own term for the bytes: nothing is compared byte by byte -/
theorem code_word {y : MethodName} {bytes : ByteArray} {mx : Nat} {rt : Option FieldType} {a : Array Value} {s : State} {m : MethodId} {meth : Method} {c : Code} (h1 : s.methodNamed? y = some m) (h2 : s.vm.method? m = some meth) (h3 : meth.code = some c) (h4 : c.code = bytes)
    (h5 : (c.maxLocals == mx && c.exceptionTable.isEmpty && decide (c.maxStack ≤ mostOperands) && decide (meth.sig.returnType = rt) && !meth.locks && decide (parseMethodDescriptor y.desc = some meth.sig)) = true) : (Jvm.Cond.code y bytes mx rt).before a s = true := by
  simp only [Bool.and_eq_true, beq_iff_eq, Bool.not_eq_true', decide_eq_true_eq] at h5
  obtain ⟨⟨⟨⟨⟨g1, g2⟩, g3⟩, g4⟩, g5⟩, g6⟩ := h5
  simp [Cond.before, Cond.holds, Cond.value, h1, h2, h3, h4, g1, g2, g3, g4, g5, g6]
def isCode : Jvm.Cond → Bool
  | .code _ _ _ _ => true
  | _ => false
theorem all_split {L : List Jvm.Cond} {P : Jvm.Cond → Bool} (h1 : L.all (fun c => isCode c || P c) = true) (h2 : ∀ c ∈ L.filter isCode, P c = true) : L.all P = true := by
  refine List.all_eq_true.mpr fun c hc => ?_
  have h := List.all_eq_true.mp h1 c hc
  rcases Bool.eq_false_or_eq_true (isCode c) with hi | hi
  · exact h2 c (List.mem_filter.mpr ⟨hc, hi⟩)
  · simpa [hi] using h
set_option maxRecDepth 65536 in
theorem w_c0 : (Jvm.Cond.code x code maxLocals ret).before args0 about1 = true := code_word (m := ⟨1, 2⟩) (meth := k1m2) (c := k1c2) (by decide +kernel) rfl rfl rfl (by decide +kernel)
set_option maxRecDepth 65536 in
theorem w_c1 : (Jvm.Cond.code ({ cls := "com/example/bylint/bylint/description/UriReferencesWithoutFragmentPinLaw", name := "ch", desc := "(I)C" } : Jvm.MethodName) method_2_code (1 : Nat) (Option.some Jvm.ClassFile.FieldType.char)).before args0 about1 = true := code_word (m := ⟨1, 1⟩) (meth := k1m1) (c := k1c1) (by decide +kernel) rfl rfl rfl (by decide +kernel)
set_option maxRecDepth 65536 in
theorem w_c2 : (Jvm.Cond.code ({ cls := "java/lang/String", name := "<init>", desc := "([C)V" } : Jvm.MethodName) jdk_42_method_3_code (2 : Nat) (Option.none : Option Jvm.ClassFile.FieldType)).before args0 about1 = true := code_word (m := ⟨7, 1⟩) (meth := k7m1) (c := k7c1) (by decide +kernel) rfl rfl rfl (by decide +kernel)
set_option maxRecDepth 65536 in
theorem w_c3 : (Jvm.Cond.code ({ cls := "java/lang/String", name := "<init>", desc := "([CIILjava/lang/Void;)V" } : Jvm.MethodName) jdk_42_method_149_code (6 : Nat) (Option.none : Option Jvm.ClassFile.FieldType)).before args0 about1 = true := code_word (m := ⟨7, 7⟩) (meth := k7m7) (c := k7c7) (by decide +kernel) rfl rfl rfl (by decide +kernel)
set_option maxRecDepth 65536 in
theorem w_c4 : (Jvm.Cond.code ({ cls := "java/lang/Object", name := "<init>", desc := "()V" } : Jvm.MethodName) object_method_1_code (1 : Nat) (Option.none : Option Jvm.ClassFile.FieldType)).before args0 about1 = true := code_word (m := ⟨0, 0⟩) (meth := k0m0) (c := k0c0) (by decide +kernel) rfl rfl rfl (by decide +kernel)
set_option maxRecDepth 65536 in
theorem w_c5 : (Jvm.Cond.code ({ cls := "com/example/bylint/bylint/description/UriReferences", name := "withoutFragment", desc := "(Ljava/lang/String;)Ljava/lang/String;" } : Jvm.MethodName) prog_9_method_5_code (2 : Nat) (Option.some (Jvm.ClassFile.FieldType.object "java/lang/String"))).before args0 about1 = true := code_word (m := ⟨8, 1⟩) (meth := k8m1) (c := k8c1) (by decide +kernel) rfl rfl rfl (by decide +kernel)
set_option maxRecDepth 65536 in
theorem w_c6 : (Jvm.Cond.code ({ cls := "java/lang/String", name := "indexOf", desc := "(I)I" } : Jvm.MethodName) jdk_42_method_79_code (2 : Nat) (Option.some Jvm.ClassFile.FieldType.int)).before args0 about1 = true := code_word (m := ⟨7, 4⟩) (meth := k7m4) (c := k7c4) (by decide +kernel) rfl rfl rfl (by decide +kernel)
set_option maxRecDepth 65536 in
theorem w_c7 : (Jvm.Cond.code ({ cls := "java/lang/String", name := "indexOf", desc := "(II)I" } : Jvm.MethodName) jdk_42_method_80_code (3 : Nat) (Option.some Jvm.ClassFile.FieldType.int)).before args0 about1 = true := code_word (m := ⟨7, 5⟩) (meth := k7m5) (c := k7c5) (by decide +kernel) rfl rfl rfl (by decide +kernel)
set_option maxRecDepth 65536 in
theorem w_c8 : (Jvm.Cond.code ({ cls := "java/lang/String", name := "isLatin1", desc := "()Z" } : Jvm.MethodName) jdk_42_method_154_code (1 : Nat) (Option.some Jvm.ClassFile.FieldType.boolean)).before args0 about1 = true := code_word (m := ⟨7, 10⟩) (meth := k7m10) (c := k7c10) (by decide +kernel) rfl rfl rfl (by decide +kernel)
set_option maxRecDepth 65536 in
theorem w_c9 : (Jvm.Cond.code ({ cls := "java/lang/String", name := "length", desc := "()I" } : Jvm.MethodName) jdk_42_method_54_code (1 : Nat) (Option.some Jvm.ClassFile.FieldType.int)).before args0 about1 = true := code_word (m := ⟨7, 2⟩) (meth := k7m2) (c := k7c2) (by decide +kernel) rfl rfl rfl (by decide +kernel)
set_option maxRecDepth 65536 in
theorem w_c10 : (Jvm.Cond.code ({ cls := "java/lang/String", name := "coder", desc := "()B" } : Jvm.MethodName) jdk_42_method_152_code (1 : Nat) (Option.some Jvm.ClassFile.FieldType.byte)).before args0 about1 = true := code_word (m := ⟨7, 9⟩) (meth := k7m9) (c := k7c9) (by decide +kernel) rfl rfl rfl (by decide +kernel)
set_option maxRecDepth 65536 in
theorem w_c11 : (Jvm.Cond.code ({ cls := "java/lang/StringLatin1", name := "indexOf", desc := "([BIII)I" } : Jvm.MethodName) jdk_43_method_22_code (4 : Nat) (Option.some Jvm.ClassFile.FieldType.int)).before args0 about1 = true := code_word (m := ⟨9, 3⟩) (meth := k9m3) (c := k9c3) (by decide +kernel) rfl rfl rfl (by decide +kernel)
set_option maxRecDepth 65536 in
theorem w_c12 : (Jvm.Cond.code ({ cls := "java/lang/StringLatin1", name := "canEncode", desc := "(I)Z" } : Jvm.MethodName) jdk_43_method_4_code (1 : Nat) (Option.some Jvm.ClassFile.FieldType.boolean)).before args0 about1 = true := code_word (m := ⟨9, 2⟩) (meth := k9m2) (c := k9c2) (by decide +kernel) rfl rfl rfl (by decide +kernel)
set_option maxRecDepth 65536 in
theorem w_c13 : (Jvm.Cond.code ({ cls := "java/lang/Math", name := "max", desc := "(II)I" } : Jvm.MethodName) jdk_29_method_65_code (2 : Nat) (Option.some Jvm.ClassFile.FieldType.int)).before args0 about1 = true := code_word (m := ⟨10, 1⟩) (meth := k10m1) (c := k10c1) (by decide +kernel) rfl rfl rfl (by decide +kernel)
set_option maxRecDepth 65536 in
theorem w_c14 : (Jvm.Cond.code ({ cls := "java/lang/Math", name := "min", desc := "(II)I" } : Jvm.MethodName) jdk_29_method_69_code (2 : Nat) (Option.some Jvm.ClassFile.FieldType.int)).before args0 about1 = true := code_word (m := ⟨10, 2⟩) (meth := k10m2) (c := k10c2) (by decide +kernel) rfl rfl rfl (by decide +kernel)
set_option maxRecDepth 65536 in
theorem w_c15 : (Jvm.Cond.code ({ cls := "java/lang/StringUTF16", name := "compress", desc := "([CII)[B" } : Jvm.MethodName) jdk_52_method_16_code (6 : Nat) (Option.some (Jvm.ClassFile.FieldType.array Jvm.ClassFile.FieldType.byte))).before args0 about1 = true := code_word (m := ⟨11, 2⟩) (meth := k11m2) (c := k11c2) (by decide +kernel) rfl rfl rfl (by decide +kernel)
set_option maxRecDepth 65536 in
theorem w_c16 : (Jvm.Cond.code ({ cls := "java/lang/StringUTF16", name := "compress", desc := "([CI[BII)I" } : Jvm.MethodName) jdk_52_method_21_code (7 : Nat) (Option.some Jvm.ClassFile.FieldType.int)).before args0 about1 = true := code_word (m := ⟨11, 3⟩) (meth := k11m3) (c := k11c3) (by decide +kernel) rfl rfl rfl (by decide +kernel)
set_option maxRecDepth 65536 in
theorem w_c17 : (Jvm.Cond.code ({ cls := "java/lang/StringUTF16", name := "coderFromArrayLen", desc := "([BI)B" } : Jvm.MethodName) jdk_52_method_15_code (2 : Nat) (Option.some Jvm.ClassFile.FieldType.byte)).before args0 about1 = true := code_word (m := ⟨11, 1⟩) (meth := k11m1) (c := k11c1) (by decide +kernel) rfl rfl rfl (by decide +kernel)
set_option maxRecDepth 65536 in
theorem w_c18 : (Jvm.Cond.code ({ cls := "java/lang/StringLatin1", name := "indexOfChar", desc := "([BIII)I" } : Jvm.MethodName) jdk_43_method_23_code (6 : Nat) (Option.some Jvm.ClassFile.FieldType.int)).before args0 about1 = true := code_word (m := ⟨9, 4⟩) (meth := k9m4) (c := k9c4) (by decide +kernel) rfl rfl rfl (by decide +kernel)
set_option maxRecDepth 65536 in
theorem w_c19 : (Jvm.Cond.code ({ cls := "java/lang/String", name := "substring", desc := "(II)Ljava/lang/String;" } : Jvm.MethodName) jdk_42_method_92_code (5 : Nat) (Option.some (Jvm.ClassFile.FieldType.object "java/lang/String"))).before args0 about1 = true := code_word (m := ⟨7, 6⟩) (meth := k7m6) (c := k7c6) (by decide +kernel) rfl rfl rfl (by decide +kernel)
set_option maxRecDepth 65536 in
theorem w_c20 : (Jvm.Cond.code ({ cls := "java/lang/String", name := "checkBoundsBeginEnd", desc := "(III)V" } : Jvm.MethodName) jdk_42_method_158_code (3 : Nat) (Option.none : Option Jvm.ClassFile.FieldType)).before args0 about1 = true := code_word (m := ⟨7, 12⟩) (meth := k7m12) (c := k7c12) (by decide +kernel) rfl rfl rfl (by decide +kernel)
set_option maxRecDepth 65536 in
theorem w_c21 : (Jvm.Cond.code ({ cls := "jdk/internal/util/Preconditions", name := "checkFromToIndex", desc := "(IIILjava/util/function/BiFunction;)I" } : Jvm.MethodName) jdk_41_method_12_code (4 : Nat) (Option.some Jvm.ClassFile.FieldType.int)).before args0 about1 = true := code_word (m := ⟨12, 2⟩) (meth := k12m2) (c := k12c2) (by decide +kernel) rfl rfl rfl (by decide +kernel)
set_option maxRecDepth 65536 in
theorem w_c22 : (Jvm.Cond.code ({ cls := "java/lang/StringLatin1", name := "newString", desc := "([BII)Ljava/lang/String;" } : Jvm.MethodName) jdk_43_method_47_code (3 : Nat) (Option.some (Jvm.ClassFile.FieldType.object "java/lang/String"))).before args0 about1 = true := code_word (m := ⟨9, 5⟩) (meth := k9m5) (c := k9c5) (by decide +kernel) rfl rfl rfl (by decide +kernel)
set_option maxRecDepth 65536 in
theorem w_c23 : (Jvm.Cond.code ({ cls := "java/lang/String", name := "charAt", desc := "(I)C" } : Jvm.MethodName) jdk_42_method_56_code (2 : Nat) (Option.some Jvm.ClassFile.FieldType.char)).before args0 about1 = true := code_word (m := ⟨7, 3⟩) (meth := k7m3) (c := k7c3) (by decide +kernel) rfl rfl rfl (by decide +kernel)
set_option maxRecDepth 65536 in
theorem w_c24 : (Jvm.Cond.code ({ cls := "java/lang/StringLatin1", name := "charAt", desc := "([BI)C" } : Jvm.MethodName) jdk_43_method_2_code (2 : Nat) (Option.some Jvm.ClassFile.FieldType.char)).before args0 about1 = true := code_word (m := ⟨9, 1⟩) (meth := k9m1) (c := k9c1) (by decide +kernel) rfl rfl rfl (by decide +kernel)
set_option maxRecDepth 65536 in
theorem w_c25 : (Jvm.Cond.code ({ cls := "java/lang/String", name := "checkIndex", desc := "(II)V" } : Jvm.MethodName) jdk_42_method_155_code (2 : Nat) (Option.none : Option Jvm.ClassFile.FieldType)).before args0 about1 = true := code_word (m := ⟨7, 11⟩) (meth := k7m11) (c := k7c11) (by decide +kernel) rfl rfl rfl (by decide +kernel)
set_option maxRecDepth 65536 in
theorem w_c26 : (Jvm.Cond.code ({ cls := "jdk/internal/util/Preconditions", name := "checkIndex", desc := "(IILjava/util/function/BiFunction;)I" } : Jvm.MethodName) jdk_41_method_11_code (3 : Nat) (Option.some Jvm.ClassFile.FieldType.int)).before args0 about1 = true := code_word (m := ⟨12, 1⟩) (meth := k12m1) (c := k12c1) (by decide +kernel) rfl rfl rfl (by decide +kernel)
set_option maxRecDepth 65536 in
theorem w_c27 : (Jvm.Cond.code ({ cls := "java/util/Arrays", name := "copyOfRange", desc := "([BII)[B" } : Jvm.MethodName) jdk_65_method_132_code (3 : Nat) (Option.some (Jvm.ClassFile.FieldType.array Jvm.ClassFile.FieldType.byte))).before args0 about1 = true := code_word (m := ⟨13, 2⟩) (meth := k13m2) (c := k13c2) (by decide +kernel) rfl rfl rfl (by decide +kernel)
set_option maxRecDepth 65536 in
theorem w_c28 : (Jvm.Cond.code ({ cls := "java/util/Arrays", name := "copyOfRangeByte", desc := "([BII)[B" } : Jvm.MethodName) jdk_65_method_133_code (5 : Nat) (Option.some (Jvm.ClassFile.FieldType.array Jvm.ClassFile.FieldType.byte))).before args0 about1 = true := code_word (m := ⟨13, 3⟩) (meth := k13m3) (c := k13c3) (by decide +kernel) rfl rfl rfl (by decide +kernel)
set_option maxRecDepth 65536 in
theorem w_c29 : (Jvm.Cond.code ({ cls := "java/util/Arrays", name := "checkLength", desc := "(II)V" } : Jvm.MethodName) jdk_65_method_131_code (2 : Nat) (Option.none : Option Jvm.ClassFile.FieldType)).before args0 about1 = true := code_word (m := ⟨13, 1⟩) (meth := k13m1) (c := k13c1) (by decide +kernel) rfl rfl rfl (by decide +kernel)
set_option maxRecDepth 65536 in
theorem w_c30 : (Jvm.Cond.code ({ cls := "java/lang/String", name := "<init>", desc := "([BB)V" } : Jvm.MethodName) jdk_42_method_151_code (3 : Nat) (Option.none : Option Jvm.ClassFile.FieldType)).before args0 about1 = true := code_word (m := ⟨7, 8⟩) (meth := k7m8) (c := k7c8) (by decide +kernel) rfl rfl rfl (by decide +kernel)
def codes1 : List Jvm.Cond := [Jvm.Cond.code x code maxLocals ret, Jvm.Cond.code ({ cls := "com/example/bylint/bylint/description/UriReferencesWithoutFragmentPinLaw", name := "ch", desc := "(I)C" } : Jvm.MethodName) method_2_code (1 : Nat) (Option.some Jvm.ClassFile.FieldType.char), Jvm.Cond.code ({ cls := "java/lang/String", name := "<init>", desc := "([C)V" } : Jvm.MethodName) jdk_42_method_3_code (2 : Nat) (Option.none : Option Jvm.ClassFile.FieldType), Jvm.Cond.code ({ cls := "java/lang/String", name := "<init>", desc := "([CIILjava/lang/Void;)V" } : Jvm.MethodName) jdk_42_method_149_code (6 : Nat) (Option.none : Option Jvm.ClassFile.FieldType), Jvm.Cond.code ({ cls := "java/lang/Object", name := "<init>", desc := "()V" } : Jvm.MethodName) object_method_1_code (1 : Nat) (Option.none : Option Jvm.ClassFile.FieldType), Jvm.Cond.code ({ cls := "com/example/bylint/bylint/description/UriReferences", name := "withoutFragment", desc := "(Ljava/lang/String;)Ljava/lang/String;" } : Jvm.MethodName) prog_9_method_5_code (2 : Nat) (Option.some (Jvm.ClassFile.FieldType.object "java/lang/String")), Jvm.Cond.code ({ cls := "java/lang/String", name := "indexOf", desc := "(I)I" } : Jvm.MethodName) jdk_42_method_79_code (2 : Nat) (Option.some Jvm.ClassFile.FieldType.int), Jvm.Cond.code ({ cls := "java/lang/String", name := "indexOf", desc := "(II)I" } : Jvm.MethodName) jdk_42_method_80_code (3 : Nat) (Option.some Jvm.ClassFile.FieldType.int), Jvm.Cond.code ({ cls := "java/lang/String", name := "isLatin1", desc := "()Z" } : Jvm.MethodName) jdk_42_method_154_code (1 : Nat) (Option.some Jvm.ClassFile.FieldType.boolean), Jvm.Cond.code ({ cls := "java/lang/String", name := "length", desc := "()I" } : Jvm.MethodName) jdk_42_method_54_code (1 : Nat) (Option.some Jvm.ClassFile.FieldType.int), Jvm.Cond.code ({ cls := "java/lang/String", name := "coder", desc := "()B" } : Jvm.MethodName) jdk_42_method_152_code (1 : Nat) (Option.some Jvm.ClassFile.FieldType.byte), Jvm.Cond.code ({ cls := "java/lang/StringLatin1", name := "indexOf", desc := "([BIII)I" } : Jvm.MethodName) jdk_43_method_22_code (4 : Nat) (Option.some Jvm.ClassFile.FieldType.int), Jvm.Cond.code ({ cls := "java/lang/StringLatin1", name := "canEncode", desc := "(I)Z" } : Jvm.MethodName) jdk_43_method_4_code (1 : Nat) (Option.some Jvm.ClassFile.FieldType.boolean), Jvm.Cond.code ({ cls := "java/lang/Math", name := "max", desc := "(II)I" } : Jvm.MethodName) jdk_29_method_65_code (2 : Nat) (Option.some Jvm.ClassFile.FieldType.int), Jvm.Cond.code ({ cls := "java/lang/Math", name := "min", desc := "(II)I" } : Jvm.MethodName) jdk_29_method_69_code (2 : Nat) (Option.some Jvm.ClassFile.FieldType.int), Jvm.Cond.code ({ cls := "java/lang/StringUTF16", name := "compress", desc := "([CII)[B" } : Jvm.MethodName) jdk_52_method_16_code (6 : Nat) (Option.some (Jvm.ClassFile.FieldType.array Jvm.ClassFile.FieldType.byte)), Jvm.Cond.code ({ cls := "java/lang/StringUTF16", name := "compress", desc := "([CI[BII)I" } : Jvm.MethodName) jdk_52_method_21_code (7 : Nat) (Option.some Jvm.ClassFile.FieldType.int), Jvm.Cond.code ({ cls := "java/lang/StringUTF16", name := "coderFromArrayLen", desc := "([BI)B" } : Jvm.MethodName) jdk_52_method_15_code (2 : Nat) (Option.some Jvm.ClassFile.FieldType.byte), Jvm.Cond.code ({ cls := "java/lang/StringLatin1", name := "indexOfChar", desc := "([BIII)I" } : Jvm.MethodName) jdk_43_method_23_code (6 : Nat) (Option.some Jvm.ClassFile.FieldType.int), Jvm.Cond.code ({ cls := "java/lang/String", name := "substring", desc := "(II)Ljava/lang/String;" } : Jvm.MethodName) jdk_42_method_92_code (5 : Nat) (Option.some (Jvm.ClassFile.FieldType.object "java/lang/String")), Jvm.Cond.code ({ cls := "java/lang/String", name := "checkBoundsBeginEnd", desc := "(III)V" } : Jvm.MethodName) jdk_42_method_158_code (3 : Nat) (Option.none : Option Jvm.ClassFile.FieldType), Jvm.Cond.code ({ cls := "jdk/internal/util/Preconditions", name := "checkFromToIndex", desc := "(IIILjava/util/function/BiFunction;)I" } : Jvm.MethodName) jdk_41_method_12_code (4 : Nat) (Option.some Jvm.ClassFile.FieldType.int), Jvm.Cond.code ({ cls := "java/lang/StringLatin1", name := "newString", desc := "([BII)Ljava/lang/String;" } : Jvm.MethodName) jdk_43_method_47_code (3 : Nat) (Option.some (Jvm.ClassFile.FieldType.object "java/lang/String")), Jvm.Cond.code ({ cls := "java/lang/String", name := "charAt", desc := "(I)C" } : Jvm.MethodName) jdk_42_method_56_code (2 : Nat) (Option.some Jvm.ClassFile.FieldType.char), Jvm.Cond.code ({ cls := "java/lang/StringLatin1", name := "charAt", desc := "([BI)C" } : Jvm.MethodName) jdk_43_method_2_code (2 : Nat) (Option.some Jvm.ClassFile.FieldType.char), Jvm.Cond.code ({ cls := "java/lang/String", name := "checkIndex", desc := "(II)V" } : Jvm.MethodName) jdk_42_method_155_code (2 : Nat) (Option.none : Option Jvm.ClassFile.FieldType), Jvm.Cond.code ({ cls := "jdk/internal/util/Preconditions", name := "checkIndex", desc := "(IILjava/util/function/BiFunction;)I" } : Jvm.MethodName) jdk_41_method_11_code (3 : Nat) (Option.some Jvm.ClassFile.FieldType.int), Jvm.Cond.code ({ cls := "java/util/Arrays", name := "copyOfRange", desc := "([BII)[B" } : Jvm.MethodName) jdk_65_method_132_code (3 : Nat) (Option.some (Jvm.ClassFile.FieldType.array Jvm.ClassFile.FieldType.byte)), Jvm.Cond.code ({ cls := "java/util/Arrays", name := "copyOfRangeByte", desc := "([BII)[B" } : Jvm.MethodName) jdk_65_method_133_code (5 : Nat) (Option.some (Jvm.ClassFile.FieldType.array Jvm.ClassFile.FieldType.byte)), Jvm.Cond.code ({ cls := "java/util/Arrays", name := "checkLength", desc := "(II)V" } : Jvm.MethodName) jdk_65_method_131_code (2 : Nat) (Option.none : Option Jvm.ClassFile.FieldType), Jvm.Cond.code ({ cls := "java/lang/String", name := "<init>", desc := "([BB)V" } : Jvm.MethodName) jdk_42_method_151_code (3 : Nat) (Option.none : Option Jvm.ClassFile.FieldType)]
set_option maxRecDepth 65536 in
theorem codes_eq : words1.filter isCode = codes1 := rfl
theorem w_codes : ∀ c ∈ words1.filter isCode, c.before args0 about1 = true := by
  rw [codes_eq]
  intro c hc
  simp only [codes1, List.mem_cons, List.not_mem_nil, or_false] at hc
  rcases hc with rfl | rfl | rfl | rfl | rfl | rfl | rfl | rfl | rfl | rfl | rfl | rfl | rfl | rfl | rfl | rfl | rfl | rfl | rfl | rfl | rfl | rfl | rfl | rfl | rfl | rfl | rfl | rfl | rfl | rfl | rfl
  · exact w_c0
  · exact w_c1
  · exact w_c2
  · exact w_c3
  · exact w_c4
  · exact w_c5
  · exact w_c6
  · exact w_c7
  · exact w_c8
  · exact w_c9
  · exact w_c10
  · exact w_c11
  · exact w_c12
  · exact w_c13
  · exact w_c14
  · exact w_c15
  · exact w_c16
  · exact w_c17
  · exact w_c18
  · exact w_c19
  · exact w_c20
  · exact w_c21
  · exact w_c22
  · exact w_c23
  · exact w_c24
  · exact w_c25
  · exact w_c26
  · exact w_c27
  · exact w_c28
  · exact w_c29
  · exact w_c30
set_option maxRecDepth 65536 in
theorem w_t1 : (words1.take 24).all (fun c => isCode c || c.before args0 about1) = true := by decide +kernel
set_option maxRecDepth 65536 in
theorem w_t2 : ((words1.drop 24).take 24).all (fun c => isCode c || c.before args0 about1) = true := by decide +kernel
set_option maxRecDepth 65536 in
theorem w_t3 : (((words1.drop 24).drop 24).take 24).all (fun c => isCode c || c.before args0 about1) = true := by decide +kernel
set_option maxRecDepth 65536 in
theorem w_t4 : ((((words1.drop 24).drop 24).drop 24).take 24).all (fun c => isCode c || c.before args0 about1) = true := by decide +kernel
set_option maxRecDepth 65536 in
theorem w_t5 : (((((words1.drop 24).drop 24).drop 24).drop 24).take 24).all (fun c => isCode c || c.before args0 about1) = true := by decide +kernel
set_option maxRecDepth 65536 in
theorem w_t6 : (((((words1.drop 24).drop 24).drop 24).drop 24).drop 24).all (fun c => isCode c || c.before args0 about1) = true := by decide +kernel
theorem w_tables : (allAtoms (Jvm.Cond.code x code maxLocals ret :: tables_1)).before args0 about1 = true := by
  rw [allAtoms_all]
  show words1.all (fun c => c.before args0 about1) = true
  refine all_split ?_ w_codes
  rw [← List.take_append_drop 24 words1, List.all_append, w_t1, ← List.take_append_drop 24 (words1.drop 24), List.all_append, w_t2, ← List.take_append_drop 24 ((words1.drop 24).drop 24), List.all_append, w_t3, ← List.take_append_drop 24 (((words1.drop 24).drop 24).drop 24), List.all_append, w_t4, ← List.take_append_drop 24 ((((words1.drop 24).drop 24).drop 24).drop 24), List.all_append, w_t5, w_t6]
  rfl
set_option maxRecDepth 65536 in
theorem w_rest : rest_1_c.before args0 about1 = true := by decide +kernel
set_option maxRecDepth 65536 in
theorem w_case : (Jvm.Cond.and given_1 narrow_1).before args0 about1 = true := by decide +kernel
set_option maxRecDepth 65536 in
theorem w_consts : constsHeld consts_1 about1 := Jvm.Lit.constsHeldB_iff.mp (by decide +kernel)
theorem w_applies : (headSpec (Jvm.Cond.code x code maxLocals ret :: tables_1) room_1).applies x e0.platform about1 = true :=
  (Spec.applies_iff w_frames).mpr ⟨w_running, w_runnable, w_alone, w_named, w_hears, w_ripe, w_room, w_tables⟩
theorem atStart : AtStart classFile x code maxLocals ret World_1 tables_1 room_1 Calls_1 rest_1 Pre_1 launch0 p0 e0 about1 theMethod args0 below0 :=
  ⟨lists_1, trivial, launch0.admits_env _ _ _, launch0.least_env, fairChoices_fair.cas, fairChoices_fair.clock, w_frames, w_args, w_heap, w_applies, ⟨w_consts, trivial⟩, w_rest, w_case⟩
end start1
theorem witness_1 : WitnessClaimed_1 := ⟨start1.p0, start1.e0, start1.about1, start1.theMethod, start1.args0, start1.below0, start1.atStart⟩
end Jvm.Pilot.@@N@@
