import JvmDerived
import JvmDerived.Pilot.@@N@@Statement
import JvmDerived.Pilot.@@N@@Code
set_option linter.unusedVariables false
set_option linter.unusedSimpArgs false
namespace Jvm.Pilot.@@N@@
open Jvm Jvm.ClassFile Sem Op Lib Jvm.Free Jvm.Stand Jvm.LawKit Jvm.RoadKit Bundle Jvm.Pilot.@@N@@.Jvm.D
/-! THE OWN LAYER (printed by own/gen_layer.py): Wp: from this pc, with these locals, this operand stack and these new objects, the body comes to its return and Q holds of what it returns and of the new objects then -/
def locL : List Value → List Slot
  | [] => []
  | v :: vs => (if v.category = 2 then [.val v, .second] else [.val v]) ++ locL vs
theorem entry_fold (as' : List Value) : ∀ acc : Array Slot, as'.foldl (fun acc v => if v.category = 2 then (acc.push (.val v)).push .second else acc.push (.val v)) acc = acc ++ (locL as').toArray := by
  induction as' with
  | nil => intro acc; simp [locL]
  | cons v vs ih =>
    intro acc
    rw [List.foldl_cons, ih, locL]
    by_cases h : v.category = 2
    · simp [h]
    · simp [h]
theorem entry_loc (m : MethodId) (as' : List Value) (maxL : Nat) : entryFrame m as'.toArray maxL = mkF m 0 (locL as' ++ List.replicate (maxL - (locL as').length) Slot.unset).toArray [] := by
  have e : (as'.toArray.foldl (fun (acc : Array Slot) v => if v.category = 2 then (acc.push (.val v)).push .second else acc.push (.val v)) #[]) = (locL as').toArray := by
    rw [← Array.foldl_toList]
    show as'.foldl _ _ = _
    rw [entry_fold]; simp
  show mkF m 0 (argsToLocals as'.toArray maxL) [] = _
  unfold argsToLocals
  simp only [e]
  congr 1
  simp
abbrev OSig := List (String × String × String)
abbrev ObjB := (String × OSig × List Value) ⊕ ((FieldType × List Int32) ⊕ (List Int64 ⊕ (String × FieldType × List Value)))
/-- an object of the walk: true: made by it (it may be written); false: only read -/
abbrev Obj := Bool × ObjB
abbrev oI (C : String) (sg : OSig) (vs : List Value) : Obj := (true, .inl (C, sg, vs))
abbrev oA (ty : FieldType) (xs : List Int32) : Obj := (true, .inr (.inl (ty, xs)))
abbrev oJ (xs : List Int64) : Obj := (true, .inr (.inr (.inl xs)))
abbrev oR (C : String) (ty : FieldType) (vs : List Value) : Obj := (true, .inr (.inr (.inr (C, ty, vs))))
abbrev fI (C : String) (sg : OSig) (vs : List Value) : Obj := (false, .inl (C, sg, vs))
abbrev fA (ty : FieldType) (xs : List Int32) : Obj := (false, .inr (.inl (ty, xs)))
abbrev OH := List (Addr × Obj)
def Slo (Z : State) (sg : OSig) : Prop := sg.Pairwise fun f g => Jvm.RoadKit.slotOf Z f.1 f.2.1 f.2.2 ≠ Jvm.RoadKit.slotOf Z g.1 g.2.1 g.2.2
def OvrT (Z : State) (cA : ClassId) (C : String) (ty : FieldType) : Prop := ∃ (k : Class) (comp : ClassId), Z.vm.classes[cA]? = some k ∧ k.kind = .array comp ty ∧ Z.vm.findClass C = some comp
def Sat (Z : State) (h : Heap) (a : Addr) : ObjB → Prop
  | .inl (C, sg, vs) => Exa Z h a C ∧ Slo Z sg ∧ ∀ (i : Nat) (f : String × String × String) (v : Value), sg[i]? = some f → vs[i]? = some v → Fld Z h a f.1 f.2.1 f.2.2 v
  | .inr (.inl (ty, xs)) => (ty = .byte ∨ Exa Z h a ("[" ++ ty.toString)) ∧ ∃ c : Cell, Arr Z h a c ty ∧ c.slots = (xs.map Value.int).toArray ∧ ∀ x ∈ xs, fits ty (.int x) = true
  | .inr (.inr (.inl xs)) => Exa Z h a "[J" ∧ ∃ c : Cell, Arr Z h a c .long ∧ c.slots = (xs.map Value.long).toArray
  | .inr (.inr (.inr (C, ty, vs))) => Exa Z h a ("[" ++ ty.toString) ∧ ∃ c : Cell, Arr Z h a c ty ∧ OvrT Z c.cls C ty ∧ c.slots = vs.toArray ∧ ∀ v ∈ vs, v.isRef = true
/-- cells that the walk must not write -/
abbrev HD := Addr → Cell → Prop
def Hp (Z : State) (Dh : HD) (h : Heap) (H : OH) : Prop := Ext Z.heap h ∧ (∀ x ∈ H, (x.2.1 = true → Z.heap.size ≤ x.1 ∧ ∀ c, ¬ Dh x.1 c) ∧ Sat Z h x.1 x.2.2) ∧ (H.Pairwise fun x y => (x.2.1 = true ∨ y.2.1 = true) → x.1 ≠ y.1) ∧ ∀ a c, Dh a c → h[a]? = some c
theorem Sat.ext {Z : State} {h h' : Heap} {a : Addr} (E : Ext h h') : ∀ {o : ObjB}, Sat Z h a o → Sat Z h' a o
  | .inl (C, sg, vs), ⟨h1, h2, h3⟩ => ⟨h1.ext E, h2, fun i f v q r => (h3 i f v q r).ext E⟩
  | .inr (.inl (ty, xs)), ⟨q, c, h1, h2⟩ => ⟨q.imp id (·.ext E), c, h1.ext E, h2⟩
  | .inr (.inr (.inl xs)), ⟨q, c, h1, h2⟩ => ⟨q.ext E, c, h1.ext E, h2⟩
  | .inr (.inr (.inr (C, ty, vs))), ⟨q, c, h1, h2⟩ => ⟨q.ext E, c, h1.ext E, h2⟩
theorem Sat.other {Z : State} {h h' : Heap} {a b : Addr} {sl : Nat} {v : Value} (W : Wr h h' a sl v) (ne : b ≠ a) : ∀ {o : ObjB}, Sat Z h b o → Sat Z h' b o
  | .inl (C, sg, vs), ⟨h1, h2, h3⟩ => ⟨h1.wr W, h2, fun i f v q r => (h3 i f v q r).other W (Or.inl ne)⟩
  | .inr (.inl (ty, xs)), ⟨q, c, h1, h2⟩ => ⟨q.imp id (·.wr W), c, h1.other W ne, h2⟩
  | .inr (.inr (.inl xs)), ⟨q, c, h1, h2⟩ => ⟨q.wr W, c, h1.other W ne, h2⟩
  | .inr (.inr (.inr (C, ty, vs))), ⟨q, c, h1, h2⟩ => ⟨q.wr W, c, h1.other W ne, h2⟩
theorem Sat.lt {Z : State} {h : Heap} {a : Addr} : ∀ {o : ObjB}, Sat Z h a o → a < h.size
  | .inl (C, sg, vs), ⟨h1, h2, h3⟩ => h1.lt
  | .inr (.inl (ty, xs)), ⟨_, c, h1, _⟩ => h1.lt
  | .inr (.inr (.inl xs)), ⟨q, _⟩ => q.lt
  | .inr (.inr (.inr (C, ty, vs))), ⟨q, _⟩ => q.lt
theorem Hp.nil (Z : State) : Hp Z (fun a c => Z.heap[a]? = some c) Z.heap [] := ⟨⟨Nat.le_refl _, fun _ _ q => q⟩, (fun _ q => nomatch q), List.Pairwise.nil, fun _ _ q => q⟩
theorem ext_trans {h h1 h2 : Heap} (E : Ext h h1) (E' : Ext h1 h2) : Ext h h2 := ⟨Nat.le_trans E.1 E'.1, fun a c q => E'.2 a c (E.2 a c q)⟩
theorem Hp.ext {Z : State} {Dh : HD} {h h' : Heap} {H : OH} (P : Hp Z Dh h H) (E : Ext h h') : Hp Z Dh h' H := ⟨ext_trans P.1 E, fun x q => ⟨(P.2.1 x q).1, (P.2.1 x q).2.ext E⟩, P.2.2.1, fun a c q => E.2 _ _ (P.2.2.2 a c q)⟩
theorem Hp.cons {Z : State} {Dh : HD} {h h' : Heap} {H : OH} (P : Hp Z Dh h H) (E : Ext h h') {fl : Bool} {o : ObjB} (S : Sat Z h' h.size o) : Hp Z Dh h' ((h.size, (fl, o)) :: H) :=
  ⟨ext_trans P.1 E, fun x q => (List.mem_cons.mp q).elim (fun e => by subst e; exact ⟨fun _ => ⟨P.1.1, fun c q => absurd (Array.getElem?_eq_some_iff.mp (P.2.2.2 _ _ q)).1 (Nat.lt_irrefl _)⟩, S⟩) fun q => ⟨(P.2.1 x q).1, (P.2.1 x q).2.ext E⟩,
    List.Pairwise.cons (fun y q _ e => absurd ((P.2.1 y q).2.lt) (by rw [← e]; exact Nat.lt_irrefl _)) P.2.2.1, fun a c q => E.2 _ _ (P.2.2.2 a c q)⟩
theorem Hp.at {Z : State} {Dh : HD} {h : Heap} {H : OH} (P : Hp Z Dh h H) {i : Nat} {x : Addr × Obj} (q : H[i]? = some x) : (x.2.1 = true → Z.heap.size ≤ x.1) ∧ Sat Z h x.1 x.2.2 := ⟨fun e => ((P.2.1 x (List.mem_of_getElem? q)).1 e).1, (P.2.1 x (List.mem_of_getElem? q)).2⟩
theorem Hp.ne {Z : State} {Dh : HD} {h : Heap} {H : OH} (P : Hp Z Dh h H) {i j : Nat} {x y : Addr × Obj} (q : H[i]? = some x) (r : H[j]? = some y) (ht : x.2.1 = true ∨ y.2.1 = true) (ij : i ≠ j) : x.1 ≠ y.1 := by
  have hP := List.pairwise_iff_getElem.mp P.2.2.1
  obtain ⟨hi, rfl⟩ := List.getElem?_eq_some_iff.mp q
  obtain ⟨hj, rfl⟩ := List.getElem?_eq_some_iff.mp r
  rcases Nat.lt_or_gt_of_ne ij with u | u
  · exact hP i j hi hj u ht
  · exact fun e => hP j i hj hi u ht.symm e.symm
theorem Hp.frz {Z : State} {Dh : HD} {h : Heap} {H : OH} (P : Hp Z Dh h H) {i : Nat} {a : Addr} {fl : Bool} {o : ObjB} (q : H[i]? = some (a, (fl, o))) : Hp Z Dh h (H.set i (a, (false, o))) := by
  obtain ⟨hi, hq⟩ := List.getElem?_eq_some_iff.mp q
  refine ⟨P.1, fun x hx => ?_, List.pairwise_iff_getElem.mpr fun n m hn hm hlt ht => ?_, P.2.2.2⟩
  · rcases List.mem_or_eq_of_mem_set hx with hx | rfl
    · exact P.2.1 x hx
    · exact ⟨(fun e => nomatch e), (P.at q).2⟩
  · have hn' : n < H.length := by rw [List.length_set] at hn; exact hn
    have hm' : m < H.length := by rw [List.length_set] at hm; exact hm
    have hP := List.pairwise_iff_getElem.mp P.2.2.1 n m hn' hm' hlt
    rw [List.getElem_set, List.getElem_set] at ht ⊢
    by_cases e1 : i = n
    · subst e1
      rw [if_pos rfl] at ht ⊢
      rw [if_neg (by omega)] at ht ⊢
      rw [hq] at hP
      exact hP (Or.inr (ht.elim (fun e => nomatch e) id))
    · rw [if_neg e1] at ht ⊢
      by_cases e2 : i = m
      · subst e2
        rw [if_pos rfl] at ht ⊢
        rw [hq] at hP
        exact hP (Or.inl (ht.elim id (fun e => nomatch e)))
      · rw [if_neg e2] at ht ⊢
        exact hP ht
theorem Hp.set {Z : State} {Dh : HD} {h h' : Heap} {H : OH} (P : Hp Z Dh h H) {i : Nat} {a : Addr} {o o' : ObjB} (q : H[i]? = some (a, (true, o))) {sl : Nat} {v : Value} (W : Wr h h' a sl v) (S : Sat Z h' a o') : Hp Z Dh h' (H.set i (a, (true, o'))) := by
  have g : Z.heap.size ≤ a := (P.at q).1 rfl
  have g2 : ∀ c, ¬ Dh a c := ((P.2.1 _ (List.mem_of_getElem? q)).1 rfl).2
  obtain ⟨hi, hq⟩ := List.getElem?_eq_some_iff.mp q
  refine ⟨⟨by rw [W.size]; exact P.1.1, fun b c r => ?_⟩, fun x hx => ?_, ?_, fun b c r => ?_⟩
  · obtain ⟨c', e1, -, -, -, e5, -⟩ := wr_at W (P.1.2 b c r)
    have : b < Z.heap.size := (Array.getElem?_eq_some_iff.mp r).1
    rw [← e5 (by rintro rfl; exact absurd this (Nat.not_lt.mpr g))]; exact e1
  · obtain ⟨n, hn⟩ := List.getElem?_of_mem hx
    rw [List.getElem?_set] at hn
    split at hn
    · have e0 : (a, (true, o')) = x := by simpa [hi] using hn
      subst e0; exact ⟨fun _ => ⟨g, g2⟩, S⟩
    · rename_i ne
      exact ⟨(P.2.1 x (List.mem_of_getElem? hn)).1, (P.at hn).2.other W (P.ne hn q (Or.inr rfl) (Ne.symm ne))⟩
  · have e : (H.set i (a, (true, o'))).map (fun x => (x.1, x.2.1)) = H.map (fun x => (x.1, x.2.1)) := by
      rw [List.map_set]
      refine List.ext_getElem? fun n => ?_
      rw [List.getElem?_set]
      split
      · rename_i e; subst e
        simp [hi, hq]
      · rfl
    have h1 : (H.map (fun x => (x.1, x.2.1))).Pairwise (fun u v => (u.2 = true ∨ v.2 = true) → u.1 ≠ v.1) := List.pairwise_map.mpr P.2.2.1
    rw [← e] at h1
    exact List.pairwise_map.mp h1
  · obtain ⟨c', e1, -, -, -, e5, -⟩ := wr_at W (P.2.2.2 b c r)
    rw [← e5 (by rintro rfl; exact g2 _ r)]; exact e1
theorem Hp.pick {Z : State} {Dh : HD} {h : Heap} {H : OH} (P : Hp Z Dh h H) (is : List Nat) (hn : is.Nodup) : Hp Z Dh h (is.filterMap fun i => H[i]?) := by
  refine ⟨P.1, fun x hx => ?_, ?_, P.2.2.2⟩
  · obtain ⟨i, -, q⟩ := List.mem_filterMap.mp hx
    exact P.2.1 x (List.mem_of_getElem? q)
  · refine List.pairwise_filterMap.mpr (hn.imp fun {i j} ne x hx y hy ht => P.ne hx hy ht ne)
/-- what an instruction says: its constructor, its length, the next pc -/
def Dc (bytes : ByteArray) (pc : Nat) (i : Instr) (n pc' : Nat) : Prop := decode bytes pc = .ok (i, n) ∧ pc + n = pc'
def Tg (pc : Nat) (o : Int) (pc' : Nat) : Prop := 0 ≤ (pc : Int) + o ∧ ((pc : Int) + o).toNat = pc'
/-- the walk's mode: none: it loads no String constant; some EL: it may load the constants of EL, whose contents are kept -/
abbrev Md := Option (List (String × Nat))
/-- wherever the cells Dh stand, the tables' constants of EL hold their texts, and their cells are among Dh -/
def Good (Z : State) (EL : List (String × Nat)) (Dh : HD) (vm : Vm) : Prop := ∀ h : Heap, (∀ a c, Dh a c → h[a]? = some c) → Jvm.RoadKit.CHv Z EL vm h ∧ ∀ y, Jvm.RoadKit.Bk Z EL vm h y → ∃ c, Dh y c
def MdOk (b : Md) (Z : State) (Dh : HD) (vm0 : Vm) : Prop := ∀ EL, b = some EL → Good Z EL Dh vm0
def Wp (b : Md) (l : Launch) (Z : State) (own nm : String) (bytes : ByteArray) (maxL : Nat) (ret : Option FieldType) (R : Room) (H : OH) (k j : Nat) (pc : Nat) (Ls : Array Slot) (st : List Value) (Q : Option Value → OH → Prop) : Prop :=
  ∀ (p : Program) (e : Env) (s : State) (vm0 : Vm) (k0 : Nat) (m : MethodId) (args : Array Value) (below : List Frame) (meth : Method) (c : Code) (T : State) (L : List Loc) (Dh : HD),
    p.tables.exec = Jvm.exec → Z.Warmed39 vm0 → s.Since vm0 k0 → k0 ≤ T.heap.size → c.code = bytes → c.maxLocals = maxL → vm0.findClass own = some m.cls → meth.name = nm → meth.sig.returnType = ret →
    Stand p l e R (s.setVm vm0) m args below meth c T L k j → Fr Z.heap.size L → Hp Z Dh T.heap H → MdOk b Z Dh vm0 →
    ∃ (T' : State) (v : Option Value) (L' : List Loc) (k' j' : Nat) (vm1 : Vm) (k1 : Nat) (H' : OH),
      (s.Since vm1 k1 ∧ k1 ≤ T'.heap.size ∧ (b = none → vm1 = vm0)) ∧ Stand p l e R (s.setVm vm1) m args below meth c T' L' k' j' ∧ (k' ≤ R.cells ∧ j' ≤ R.slots ∧ T.heap.size ≤ T'.heap.size) ∧ Fr Z.heap.size L' ∧ (∃ D1 : HD, Hp Z D1 T'.heap H' ∧ (b = none → D1 = Dh) ∧ MdOk b Z D1 vm1) ∧ (ret = none → v = none) ∧ Q v H' ∧
      ∀ fs, (∀ (f : JFrame) (acts : List Action), f.method = m → f.locked = none → f.entered = [] → (doReturn e (T'.setTop f) acts v).1 = T'.setFrames fs) → Steps p.tables e below (T.setTop (mkF m pc Ls st)) (T'.setFrames fs)
section Own
variable {b : Md} {l : Launch} {Z : State} {a0 : Array Value} {own nm : String} {bytes : ByteArray} {maxL : Nat} {ret : Option FieldType} {R : Room} {H : OH} {k j pc pc' : Nat} {Ls : Array Slot} {st : List Value} {Q : Option Value → OH → Prop}
theorem Wp.stepH
    (hs : ∀ (p : Program) (e : Env) (s : State) (m : MethodId) (args : Array Value) (below : List Frame) (meth : Method) (c : Code) (T : State) (L : List Loc) (Dh : HD),
      p.tables.exec = Jvm.exec → Z.Warmed39 s.vm → c.code = bytes → c.maxLocals = maxL → s.vm.findClass own = some m.cls → meth.name = nm → meth.sig.returnType = ret →
      Stand p l e R s m args below meth c T L k j → Fr Z.heap.size L → Hp Z Dh T.heap H →
      ∃ (T' : State) (L' : List Loc) (k' j' : Nat) (H' : OH) (pc' : Nat) (Ls' : Array Slot) (st' : List Value), Stand p l e R s m args below meth c T' L' k' j' ∧ T.heap.size ≤ T'.heap.size ∧ Fr Z.heap.size L' ∧ Hp Z Dh T'.heap H' ∧ Wp b l Z own nm bytes maxL ret R H' k' j' pc' Ls' st' Q ∧
        ∀ target, Steps p.tables e below (T'.setTop (mkF m pc' Ls' st')) target → Steps p.tables e below (T.setTop (mkF m pc Ls st)) target) :
    Wp b l Z own nm bytes maxL ret R H k j pc Ls st Q := by
  intro p e s vm0 k0 m args below meth c T L Dh hx hZ hS hk hby hml hown hnm hret X N hH hB
  obtain ⟨T', L', k', j', H', pc', Ls', st', X', hsz, N', hH', hr, stp⟩ := hs p e (s.setVm vm0) m args below meth c T L Dh hx hZ hby hml hown hnm hret X N hH
  obtain ⟨T2, v, L2, k2, j2, vm1, k1, H2, r1, r2, ⟨r3, r4, r5⟩, r6, r7, r8, r9, r10⟩ := hr p e s vm0 k0 m args below meth c T' L' Dh hx hZ hS (Nat.le_trans hk hsz) hby hml hown hnm hret X' N' hH' hB
  exact ⟨T2, v, L2, k2, j2, vm1, k1, H2, r1, r2, ⟨r3, r4, Nat.le_trans hsz r5⟩, r6, r7, r8, r9, fun fs hl => stp _ (r10 fs hl)⟩
theorem Wp.step {Ls' : Array Slot} {st' : List Value}
    (hs : ∀ (p : Program) (e : Env) (s : State) (m : MethodId) (args : Array Value) (below : List Frame) (meth : Method) (c : Code) (T : State) (L : List Loc) (Dh : HD),
      p.tables.exec = Jvm.exec → Z.Warmed39 s.vm → c.code = bytes → s.vm.findClass own = some m.cls → Stand p l e R s m args below meth c T L k j → Hp Z Dh T.heap H →
        ∀ target, Steps p.tables e below (T.setTop (mkF m pc' Ls' st')) target → Steps p.tables e below (T.setTop (mkF m pc Ls st)) target)
    (hr : Wp b l Z own nm bytes maxL ret R H k j pc' Ls' st' Q) : Wp b l Z own nm bytes maxL ret R H k j pc Ls st Q :=
  Wp.stepH fun p e s m args below meth c T L Dh hx hZ hby hml hown hnm hret X N hH => ⟨T, L, k, j, H, pc', Ls', st', X, Nat.le_refl _, N, hH, hr, hs p e s m args below meth c T L Dh hx hZ hby hown X hH⟩
theorem Wp.pick (is : List Nat) (hn : is.Nodup) (hr : Wp b l Z own nm bytes maxL ret R (is.filterMap fun i => H[i]?) k j pc Ls st Q) : Wp b l Z own nm bytes maxL ret R H k j pc Ls st Q :=
  Wp.stepH fun p e s m args below meth c T L Dh hx hZ hby hml hown hnm hret X N hH => ⟨T, L, k, j, _, pc, Ls, st, X, Nat.le_refl _, N, hH.pick is hn, hr, fun _ q => q⟩
theorem Wp.more {k' j' : Nat} (hk : k ≤ k') (hj : j ≤ j') (hr : Wp b l Z own nm bytes maxL ret R H k' j' pc Ls st Q) : Wp b l Z own nm bytes maxL ret R H k j pc Ls st Q :=
  Wp.stepH fun p e s m args below meth c T L Dh hx hZ hby hml hown hnm hret X N hH => ⟨T, L, k', j', H, pc, Ls, st, X.more hk hj, Nat.le_refl _, N, hH, hr, fun _ q => q⟩
theorem Wp.mono {Q' : Option Value → OH → Prop} (hr : Wp b l Z own nm bytes maxL ret R H k j pc Ls st Q') (hq : ∀ v H', Q' v H' → Q v H') : Wp b l Z own nm bytes maxL ret R H k j pc Ls st Q :=
  fun p e s vm0 k0 m args below meth c T L Dh hx hZ hS hk hby hml hown hnm hret X N hH hB => by
    obtain ⟨T2, v, L2, k2, j2, vm1, k1, H2, r1, r2, r3, r6, r7, r8, r9, r10⟩ := hr p e s vm0 k0 m args below meth c T L Dh hx hZ hS hk hby hml hown hnm hret X N hH hB
    exact ⟨T2, v, L2, k2, j2, vm1, k1, H2, r1, r2, r3, r6, r7, r8, hq _ _ r9, r10⟩
theorem wp_iadd {x y : Int32} (hd : Dc bytes pc (.iadd) 1 pc')  (hr : Wp b l Z own nm bytes maxL ret R H k j pc' Ls (.int (x + y) :: st) Q) : Wp b l Z own nm bytes maxL ret R H k j pc Ls (.int y :: .int x :: st) Q := by
  obtain ⟨hd, rfl⟩ := hd
  exact Wp.step (fun p e s m args below meth c T L Dh hx hZ hby hown X hH target ht => XS.iadd X.here hx rfl (hb hby hd) rfl ht) hr
theorem wp_isub {x y : Int32} (hd : Dc bytes pc (.isub) 1 pc')  (hr : Wp b l Z own nm bytes maxL ret R H k j pc' Ls (.int (x - y) :: st) Q) : Wp b l Z own nm bytes maxL ret R H k j pc Ls (.int y :: .int x :: st) Q := by
  obtain ⟨hd, rfl⟩ := hd
  exact Wp.step (fun p e s m args below meth c T L Dh hx hZ hby hown X hH target ht => XS.isub X.here hx rfl (hb hby hd) rfl ht) hr
theorem wp_iand {x y : Int32} (hd : Dc bytes pc (.iand) 1 pc')  (hr : Wp b l Z own nm bytes maxL ret R H k j pc' Ls (.int (x &&& y) :: st) Q) : Wp b l Z own nm bytes maxL ret R H k j pc Ls (.int y :: .int x :: st) Q := by
  obtain ⟨hd, rfl⟩ := hd
  exact Wp.step (fun p e s m args below meth c T L Dh hx hZ hby hown X hH target ht => XS.iand X.here hx rfl (hb hby hd) rfl ht) hr
theorem wp_ishr {x y : Int32} (hd : Dc bytes pc (.ishr) 1 pc')  (hr : Wp b l Z own nm bytes maxL ret R H k j pc' Ls (.int (x >>> (y &&& 31)) :: st) Q) : Wp b l Z own nm bytes maxL ret R H k j pc Ls (.int y :: .int x :: st) Q := by
  obtain ⟨hd, rfl⟩ := hd
  exact Wp.step (fun p e s m args below meth c T L Dh hx hZ hby hown X hH target ht => XT.ishr X.here hx rfl (hb hby hd) rfl ht) hr
theorem wp_iushr {x y : Int32} (hd : Dc bytes pc (.iushr) 1 pc')  (hr : Wp b l Z own nm bytes maxL ret R H k j pc' Ls (.int (XT.ushr x y) :: st) Q) : Wp b l Z own nm bytes maxL ret R H k j pc Ls (.int y :: .int x :: st) Q := by
  obtain ⟨hd, rfl⟩ := hd
  exact Wp.step (fun p e s m args below meth c T L Dh hx hZ hby hown X hH target ht => XT.iushr X.here hx rfl (hb hby hd) rfl ht) hr
theorem wp_irem {x y : Int32} (hd : Dc bytes pc (.irem) 1 pc') (hy : y ≠ 0) (hr : Wp b l Z own nm bytes maxL ret R H k j pc' Ls (.int (x % y) :: st) Q) : Wp b l Z own nm bytes maxL ret R H k j pc Ls (.int y :: .int x :: st) Q := by
  obtain ⟨hd, rfl⟩ := hd
  exact Wp.step (fun p e s m args below meth c T L Dh hx hZ hby hown X hH target ht => iremM X hx rfl (hb hby hd) rfl hy ht) hr
theorem wp_i2b {x : Int32} (hd : Dc bytes pc (.i2b) 1 pc')  (hr : Wp b l Z own nm bytes maxL ret R H k j pc' Ls (.int x.toInt8.toInt32 :: st) Q) : Wp b l Z own nm bytes maxL ret R H k j pc Ls (.int x :: st) Q := by
  obtain ⟨hd, rfl⟩ := hd
  exact Wp.step (fun p e s m args below meth c T L Dh hx hZ hby hown X hH target ht => XT.i2b X.here hx rfl (hb hby hd) rfl ht) hr
theorem wp_i2c {x : Int32} (hd : Dc bytes pc (.i2c) 1 pc')  (hr : Wp b l Z own nm bytes maxL ret R H k j pc' Ls (.int x.toUInt32.toUInt16.toUInt32.toInt32 :: st) Q) : Wp b l Z own nm bytes maxL ret R H k j pc Ls (.int x :: st) Q := by
  obtain ⟨hd, rfl⟩ := hd
  exact Wp.step (fun p e s m args below meth c T L Dh hx hZ hby hown X hH target ht => XT.i2c X.here hx rfl (hb hby hd) rfl ht) hr
theorem wp_iload_n {n : Fin 4} {v : Int32} (hd : Dc bytes pc (.iload_n n) 1 pc') (hl : Ls[n.val]? = some (.val (.int v))) (hr : Wp b l Z own nm bytes maxL ret R H k j pc' Ls (.int v :: st) Q) : Wp b l Z own nm bytes maxL ret R H k j pc Ls st Q := by
  obtain ⟨hd, rfl⟩ := hd
  exact Wp.step (fun p e s m args below meth c T L Dh hx hZ hby hown X hH target ht => XS.iloadN X.here hx rfl (hb hby hd) hl ht) hr
theorem wp_iload {n : Nat} {v : Int32} (hd : Dc bytes pc (.iload n) 2 pc') (hl : Ls[n]? = some (.val (.int v))) (hr : Wp b l Z own nm bytes maxL ret R H k j pc' Ls (.int v :: st) Q) : Wp b l Z own nm bytes maxL ret R H k j pc Ls st Q := by
  obtain ⟨hd, rfl⟩ := hd
  exact Wp.step (fun p e s m args below meth c T L Dh hx hZ hby hown X hH target ht => XS.iload X.here hx rfl (hb hby hd) hl ht) hr
theorem wp_aload_n {n : Fin 4} {v : Value} (hd : Dc bytes pc (.aload_n n) 1 pc') (hl : Ls[n.val]? = some (.val v)) (hv : v.isRef = true) (hr : Wp b l Z own nm bytes maxL ret R H k j pc' Ls (v :: st) Q) : Wp b l Z own nm bytes maxL ret R H k j pc Ls st Q := by
  obtain ⟨hd, rfl⟩ := hd
  exact Wp.step (fun p e s m args below meth c T L Dh hx hZ hby hown X hH target ht => XS.aloadN X.here hx rfl (hb hby hd) hl hv ht) hr
theorem wp_aload {n : Nat} {v : Value} (hd : Dc bytes pc (.aload n) 2 pc') (hl : Ls[n]? = some (.val v)) (hv : v.isRef = true) (hr : Wp b l Z own nm bytes maxL ret R H k j pc' Ls (v :: st) Q) : Wp b l Z own nm bytes maxL ret R H k j pc Ls st Q := by
  obtain ⟨hd, rfl⟩ := hd
  exact Wp.step (fun p e s m args below meth c T L Dh hx hZ hby hown X hH target ht => XS.aload X.here hx rfl (hb hby hd) hl hv ht) hr
theorem wp_istore_n {n : Fin 4} {x : Int32} (Ls' : Array Slot) (hd : Dc bytes pc (.istore_n n) 1 pc') (hl : storeLocals Ls n.val (.int x) = some Ls') (hr : Wp b l Z own nm bytes maxL ret R H k j pc' Ls' st Q) : Wp b l Z own nm bytes maxL ret R H k j pc Ls (.int x :: st) Q := by
  obtain ⟨hd, rfl⟩ := hd
  exact Wp.step (fun p e s m args below meth c T L Dh hx hZ hby hown X hH target ht => XS.istoreN X.here hx rfl (hb hby hd) rfl hl ht) hr
theorem wp_istore {n : Nat} {x : Int32} (Ls' : Array Slot) (hd : Dc bytes pc (.istore n) 2 pc') (hl : storeLocals Ls n (.int x) = some Ls') (hr : Wp b l Z own nm bytes maxL ret R H k j pc' Ls' st Q) : Wp b l Z own nm bytes maxL ret R H k j pc Ls (.int x :: st) Q := by
  obtain ⟨hd, rfl⟩ := hd
  exact Wp.step (fun p e s m args below meth c T L Dh hx hZ hby hown X hH target ht => XS.istore X.here hx rfl (hb hby hd) rfl hl ht) hr
theorem wp_astore_n {n : Fin 4} {x : Value} (Ls' : Array Slot) (hd : Dc bytes pc (.astore_n n) 1 pc') (hv : x.isRef = true) (hl : storeLocals Ls n.val x = some Ls') (hr : Wp b l Z own nm bytes maxL ret R H k j pc' Ls' st Q) : Wp b l Z own nm bytes maxL ret R H k j pc Ls (x :: st) Q := by
  obtain ⟨hd, rfl⟩ := hd
  exact Wp.step (fun p e s m args below meth c T L Dh hx hZ hby hown X hH target ht => XS.astoreN X.here hx rfl (hb hby hd) rfl hv hl ht) hr
theorem wp_astore {n : Nat} {x : Value} (Ls' : Array Slot) (hd : Dc bytes pc (.astore n) 2 pc') (hv : x.isRef = true) (hl : storeLocals Ls n x = some Ls') (hr : Wp b l Z own nm bytes maxL ret R H k j pc' Ls' st Q) : Wp b l Z own nm bytes maxL ret R H k j pc Ls (x :: st) Q := by
  obtain ⟨hd, rfl⟩ := hd
  exact Wp.step (fun p e s m args below meth c T L Dh hx hZ hby hown X hH target ht => XS.astore X.here hx rfl (hb hby hd) rfl hv hl ht) hr
theorem wp_iinc {n : Nat} {c : Int} {x : Int32} (v : Int32) (Ls' : Array Slot) (hd : Dc bytes pc (.iinc n c) 3 pc') (hv : Int32.ofInt c = v) (hl : Ls[n]? = some (.val (.int x))) (hl' : storeLocals Ls n (.int (x + v)) = some Ls') (hr : Wp b l Z own nm bytes maxL ret R H k j pc' Ls' st Q) : Wp b l Z own nm bytes maxL ret R H k j pc Ls st Q := by
  obtain ⟨hd, rfl⟩ := hd
  exact Wp.step (fun p e s m args below meth c T L Dh hx hZ hby hown X hH target ht => XT.iincV X.here hx rfl v (hb hby hd) hv hl hl' ht) hr
theorem wp_iconst {i : Int} (v : Int32) (hd : Dc bytes pc (.iconst i) 1 pc') (hv : Int32.ofInt i = v) (hr : Wp b l Z own nm bytes maxL ret R H k j pc' Ls (.int v :: st) Q) : Wp b l Z own nm bytes maxL ret R H k j pc Ls st Q := by
  obtain ⟨hd, rfl⟩ := hd
  exact Wp.step (fun p e s m args below meth c T L Dh hx hZ hby hown X hH target ht => XT.iconstV X.here hx rfl v (hb hby hd) hv ht) hr
theorem wp_bipush {i : Int} (v : Int32) (hd : Dc bytes pc (.bipush i) 2 pc') (hv : (Int8.ofInt i).toInt32 = v) (hr : Wp b l Z own nm bytes maxL ret R H k j pc' Ls (.int v :: st) Q) : Wp b l Z own nm bytes maxL ret R H k j pc Ls st Q := by
  obtain ⟨hd, rfl⟩ := hd
  exact Wp.step (fun p e s m args below meth c T L Dh hx hZ hby hown X hH target ht => XT.bipushV X.here hx rfl v (hb hby hd) hv ht) hr
theorem wp_sipush {i : Int} (v : Int32) (hd : Dc bytes pc (.sipush i) 3 pc') (hv : (Int16.ofInt i).toInt32 = v) (hr : Wp b l Z own nm bytes maxL ret R H k j pc' Ls (.int v :: st) Q) : Wp b l Z own nm bytes maxL ret R H k j pc Ls st Q := by
  obtain ⟨hd, rfl⟩ := hd
  exact Wp.step (fun p e s m args below meth c T L Dh hx hZ hby hown X hH target ht => XT.sipushV X.here hx rfl v (hb hby hd) hv ht) hr
theorem wp_aconst_null  (hd : Dc bytes pc (.aconst_null) 1 pc')  (hr : Wp b l Z own nm bytes maxL ret R H k j pc' Ls (.null :: st) Q) : Wp b l Z own nm bytes maxL ret R H k j pc Ls st Q := by
  obtain ⟨hd, rfl⟩ := hd
  exact Wp.step (fun p e s m args below meth c T L Dh hx hZ hby hown X hH target ht => XS.aconstNull X.here hx rfl (hb hby hd)  ht) hr
theorem wp_dup {x : Value} (hd : Dc bytes pc (.dup) 1 pc') (hc : x.category = 1) (hr : Wp b l Z own nm bytes maxL ret R H k j pc' Ls (x :: x :: st) Q) : Wp b l Z own nm bytes maxL ret R H k j pc Ls (x :: st) Q := by
  obtain ⟨hd, rfl⟩ := hd
  exact Wp.step (fun p e s m args below meth c T L Dh hx hZ hby hown X hH target ht => XS.dup X.here hx rfl (hb hby hd) rfl hc ht) hr
theorem wp_pop {x : Value} (hd : Dc bytes pc (.pop) 1 pc') (hc : x.category = 1) (hr : Wp b l Z own nm bytes maxL ret R H k j pc' Ls st Q) : Wp b l Z own nm bytes maxL ret R H k j pc Ls (x :: st) Q := by
  obtain ⟨hd, rfl⟩ := hd
  exact Wp.step (fun p e s m args below meth c T L Dh hx hZ hby hown X hH target ht => XT.pop X.here hx rfl (hb hby hd) rfl hc ht) hr
theorem wp_ldcI {i : Nat} {v : Int32} (hd : Dc bytes pc (.ldc i) 2 pc') (w : (Cond.constant own i v).before a0 Z = true) (hr : Wp b l Z own nm bytes maxL ret R H k j pc' Ls (.int v :: st) Q) : Wp b l Z own nm bytes maxL ret R H k j pc Ls st Q := by
  obtain ⟨hd, rfl⟩ := hd
  exact Wp.step (fun p e s m args below meth c T L Dh hx hZ hby hown X hH target ht => Jvm.Stand.ldcI X hx hown (mvT hZ w) rfl (hb hby hd) ht) hr
theorem wp_goto {o : Int} {n pc'' : Nat} (hd : Dc bytes pc (.goto o) 3 n) (ht : Tg pc o pc'') (hr : Wp b l Z own nm bytes maxL ret R H k j pc'' Ls st Q) : Wp b l Z own nm bytes maxL ret R H k j pc Ls st Q :=
  Wp.step (fun p e s m args below meth c T L Dh hx hZ hby hown X hH target h => XS.goto X.here hx rfl rfl (hb hby hd.1) ht.1 ht.2 h) hr
theorem wp_icmp {cd : ClassFile.Cond} {o : Int} {x y : Int32} {pc'' : Nat} (hd : Dc bytes pc (.if_icmp cd o) 3 pc') (ht : Tg pc o pc'') (hy : if_icmp.holds cd x y = true → Wp b l Z own nm bytes maxL ret R H k j pc'' Ls st Q) (hn : if_icmp.holds cd x y = false → Wp b l Z own nm bytes maxL ret R H k j pc' Ls st Q) : Wp b l Z own nm bytes maxL ret R H k j pc Ls (.int y :: .int x :: st) Q := by
  obtain ⟨hd, rfl⟩ := hd
  cases hc : if_icmp.holds cd x y with
  | true => exact Wp.step (fun p e s m args below meth c T L Dh hx hZ hby hown X hH target h => XS.icmpYes X.here hx rfl rfl (hb hby hd) rfl hc ht.1 ht.2 h) (hy hc)
  | false => exact Wp.step (fun p e s m args below meth c T L Dh hx hZ hby hown X hH target h => XS.icmpNo X.here hx rfl (hb hby hd) rfl hc h) (hn hc)
theorem wp_if {cd : ClassFile.Cond} {o : Int} {x : Int32} {pc'' : Nat} (hd : Dc bytes pc (.ifCond cd o) 3 pc') (ht : Tg pc o pc'') (hy : ifCond.holds cd x = true → Wp b l Z own nm bytes maxL ret R H k j pc'' Ls st Q) (hn : ifCond.holds cd x = false → Wp b l Z own nm bytes maxL ret R H k j pc' Ls st Q) : Wp b l Z own nm bytes maxL ret R H k j pc Ls (.int x :: st) Q := by
  obtain ⟨hd, rfl⟩ := hd
  cases hc : ifCond.holds cd x with
  | true => exact Wp.step (fun p e s m args below meth c T L Dh hx hZ hby hown X hH target h => XS.ifYes X.here hx rfl rfl (hb hby hd) rfl hc ht.1 ht.2 h) (hy hc)
  | false => exact Wp.step (fun p e s m args below meth c T L Dh hx hZ hby hown X hH target h => XS.ifNo X.here hx rfl (hb hby hd) rfl hc h) (hn hc)
theorem icmp_holds (cd : ClassFile.Cond) (x y : Int32) : (if_icmp.holds .eq x y = decide (x = y)) ∧ (if_icmp.holds .ne x y = !decide (x = y)) ∧ (if_icmp.holds .lt x y = decide (x < y)) ∧ (if_icmp.holds .ge x y = !decide (x < y)) ∧ (if_icmp.holds .gt x y = decide (y < x)) ∧ (if_icmp.holds .le x y = !decide (y < x)) := by
  refine ⟨?_, ?_, ?_, ?_, ?_, ?_⟩
  · by_cases h : x = y <;> simp [h, if_icmp.holds]
  · by_cases h : x = y <;> simp [h, if_icmp.holds]
  · by_cases h : x < y <;> simp [h, if_icmp.holds]
  · by_cases h : x < y
    · simp [h, (tlt h).2.1]
    · simp [h, (flt h).2.1]
  · by_cases h : y < x
    · simp [h, (tlt h).2.2.1]
    · simp [h, (flt h).2.2.1]
  · by_cases h : y < x
    · simp [h, (tlt h).2.2.2]
    · simp [h, (flt h).2.2.2]
theorem wp_icmp_eq {o : Int} {x y : Int32} {pc'' : Nat} (hd : Dc bytes pc (.if_icmp .eq o) 3 pc') (ht : Tg pc o pc'') (hy : x = y → Wp b l Z own nm bytes maxL ret R H k j pc'' Ls st Q) (hn : ¬ x = y → Wp b l Z own nm bytes maxL ret R H k j pc' Ls st Q) : Wp b l Z own nm bytes maxL ret R H k j pc Ls (.int y :: .int x :: st) Q :=
  wp_icmp hd ht (fun h => hy (by rw [(icmp_holds .eq x y).1] at h; simpa using h)) (fun h => hn (by rw [(icmp_holds .eq x y).1] at h; simpa using h))
theorem wp_if_eq {o : Int} {x : Int32} {pc'' : Nat} (hd : Dc bytes pc (.ifCond .eq o) 3 pc') (ht : Tg pc o pc'') (hy : x = 0 → Wp b l Z own nm bytes maxL ret R H k j pc'' Ls st Q) (hn : ¬ x = 0 → Wp b l Z own nm bytes maxL ret R H k j pc' Ls st Q) : Wp b l Z own nm bytes maxL ret R H k j pc Ls (.int x :: st) Q :=
  wp_if hd ht (fun h => hy (by rw [if0, (icmp_holds .eq x 0).1] at h; simpa using h)) (fun h => hn (by rw [if0, (icmp_holds .eq x 0).1] at h; simpa using h))
theorem wp_icmp_ne {o : Int} {x y : Int32} {pc'' : Nat} (hd : Dc bytes pc (.if_icmp .ne o) 3 pc') (ht : Tg pc o pc'') (hy : ¬ x = y → Wp b l Z own nm bytes maxL ret R H k j pc'' Ls st Q) (hn : x = y → Wp b l Z own nm bytes maxL ret R H k j pc' Ls st Q) : Wp b l Z own nm bytes maxL ret R H k j pc Ls (.int y :: .int x :: st) Q :=
  wp_icmp hd ht (fun h => hy (by rw [(icmp_holds .eq x y).2.1] at h; simpa using h)) (fun h => hn (by rw [(icmp_holds .eq x y).2.1] at h; simpa using h))
theorem wp_if_ne {o : Int} {x : Int32} {pc'' : Nat} (hd : Dc bytes pc (.ifCond .ne o) 3 pc') (ht : Tg pc o pc'') (hy : ¬ x = 0 → Wp b l Z own nm bytes maxL ret R H k j pc'' Ls st Q) (hn : x = 0 → Wp b l Z own nm bytes maxL ret R H k j pc' Ls st Q) : Wp b l Z own nm bytes maxL ret R H k j pc Ls (.int x :: st) Q :=
  wp_if hd ht (fun h => hy (by rw [if0, (icmp_holds .eq x 0).2.1] at h; simpa using h)) (fun h => hn (by rw [if0, (icmp_holds .eq x 0).2.1] at h; simpa using h))
theorem wp_icmp_lt {o : Int} {x y : Int32} {pc'' : Nat} (hd : Dc bytes pc (.if_icmp .lt o) 3 pc') (ht : Tg pc o pc'') (hy : x < y → Wp b l Z own nm bytes maxL ret R H k j pc'' Ls st Q) (hn : ¬ x < y → Wp b l Z own nm bytes maxL ret R H k j pc' Ls st Q) : Wp b l Z own nm bytes maxL ret R H k j pc Ls (.int y :: .int x :: st) Q :=
  wp_icmp hd ht (fun h => hy (by rw [(icmp_holds .eq x y).2.2.1] at h; simpa using h)) (fun h => hn (by rw [(icmp_holds .eq x y).2.2.1] at h; simpa using h))
theorem wp_if_lt {o : Int} {x : Int32} {pc'' : Nat} (hd : Dc bytes pc (.ifCond .lt o) 3 pc') (ht : Tg pc o pc'') (hy : x < 0 → Wp b l Z own nm bytes maxL ret R H k j pc'' Ls st Q) (hn : ¬ x < 0 → Wp b l Z own nm bytes maxL ret R H k j pc' Ls st Q) : Wp b l Z own nm bytes maxL ret R H k j pc Ls (.int x :: st) Q :=
  wp_if hd ht (fun h => hy (by rw [if0, (icmp_holds .eq x 0).2.2.1] at h; simpa using h)) (fun h => hn (by rw [if0, (icmp_holds .eq x 0).2.2.1] at h; simpa using h))
theorem wp_icmp_ge {o : Int} {x y : Int32} {pc'' : Nat} (hd : Dc bytes pc (.if_icmp .ge o) 3 pc') (ht : Tg pc o pc'') (hy : ¬ x < y → Wp b l Z own nm bytes maxL ret R H k j pc'' Ls st Q) (hn : x < y → Wp b l Z own nm bytes maxL ret R H k j pc' Ls st Q) : Wp b l Z own nm bytes maxL ret R H k j pc Ls (.int y :: .int x :: st) Q :=
  wp_icmp hd ht (fun h => hy (by rw [(icmp_holds .eq x y).2.2.2.1] at h; simpa using h)) (fun h => hn (by rw [(icmp_holds .eq x y).2.2.2.1] at h; simpa using h))
theorem wp_if_ge {o : Int} {x : Int32} {pc'' : Nat} (hd : Dc bytes pc (.ifCond .ge o) 3 pc') (ht : Tg pc o pc'') (hy : ¬ x < 0 → Wp b l Z own nm bytes maxL ret R H k j pc'' Ls st Q) (hn : x < 0 → Wp b l Z own nm bytes maxL ret R H k j pc' Ls st Q) : Wp b l Z own nm bytes maxL ret R H k j pc Ls (.int x :: st) Q :=
  wp_if hd ht (fun h => hy (by rw [if0, (icmp_holds .eq x 0).2.2.2.1] at h; simpa using h)) (fun h => hn (by rw [if0, (icmp_holds .eq x 0).2.2.2.1] at h; simpa using h))
theorem wp_icmp_gt {o : Int} {x y : Int32} {pc'' : Nat} (hd : Dc bytes pc (.if_icmp .gt o) 3 pc') (ht : Tg pc o pc'') (hy : y < x → Wp b l Z own nm bytes maxL ret R H k j pc'' Ls st Q) (hn : ¬ y < x → Wp b l Z own nm bytes maxL ret R H k j pc' Ls st Q) : Wp b l Z own nm bytes maxL ret R H k j pc Ls (.int y :: .int x :: st) Q :=
  wp_icmp hd ht (fun h => hy (by rw [(icmp_holds .eq x y).2.2.2.2.1] at h; simpa using h)) (fun h => hn (by rw [(icmp_holds .eq x y).2.2.2.2.1] at h; simpa using h))
theorem wp_if_gt {o : Int} {x : Int32} {pc'' : Nat} (hd : Dc bytes pc (.ifCond .gt o) 3 pc') (ht : Tg pc o pc'') (hy : 0 < x → Wp b l Z own nm bytes maxL ret R H k j pc'' Ls st Q) (hn : ¬ 0 < x → Wp b l Z own nm bytes maxL ret R H k j pc' Ls st Q) : Wp b l Z own nm bytes maxL ret R H k j pc Ls (.int x :: st) Q :=
  wp_if hd ht (fun h => hy (by rw [if0, (icmp_holds .eq x 0).2.2.2.2.1] at h; simpa using h)) (fun h => hn (by rw [if0, (icmp_holds .eq x 0).2.2.2.2.1] at h; simpa using h))
theorem wp_icmp_le {o : Int} {x y : Int32} {pc'' : Nat} (hd : Dc bytes pc (.if_icmp .le o) 3 pc') (ht : Tg pc o pc'') (hy : ¬ y < x → Wp b l Z own nm bytes maxL ret R H k j pc'' Ls st Q) (hn : y < x → Wp b l Z own nm bytes maxL ret R H k j pc' Ls st Q) : Wp b l Z own nm bytes maxL ret R H k j pc Ls (.int y :: .int x :: st) Q :=
  wp_icmp hd ht (fun h => hy (by rw [(icmp_holds .eq x y).2.2.2.2.2] at h; simpa using h)) (fun h => hn (by rw [(icmp_holds .eq x y).2.2.2.2.2] at h; simpa using h))
theorem wp_if_le {o : Int} {x : Int32} {pc'' : Nat} (hd : Dc bytes pc (.ifCond .le o) 3 pc') (ht : Tg pc o pc'') (hy : ¬ 0 < x → Wp b l Z own nm bytes maxL ret R H k j pc'' Ls st Q) (hn : 0 < x → Wp b l Z own nm bytes maxL ret R H k j pc' Ls st Q) : Wp b l Z own nm bytes maxL ret R H k j pc Ls (.int x :: st) Q :=
  wp_if hd ht (fun h => hy (by rw [if0, (icmp_holds .eq x 0).2.2.2.2.2] at h; simpa using h)) (fun h => hn (by rw [if0, (icmp_holds .eq x 0).2.2.2.2.2] at h; simpa using h))
theorem wp_ifnull_y {o : Int} {n pc'' : Nat} (hd : Dc bytes pc (.ifnull o) 3 n) (ht : Tg pc o pc'') (hr : Wp b l Z own nm bytes maxL ret R H k j pc'' Ls st Q) : Wp b l Z own nm bytes maxL ret R H k j pc Ls (.null :: st) Q :=
  Wp.step (fun p e s m args below meth c T L Dh hx hZ hby hown X hH target h => XS.ifnullYes X.here hx rfl rfl (hb hby hd.1) rfl ht.1 ht.2 h) hr
theorem wp_ifnull_n {o : Int} {x : Addr} (hd : Dc bytes pc (.ifnull o) 3 pc') (hr : Wp b l Z own nm bytes maxL ret R H k j pc' Ls st Q) : Wp b l Z own nm bytes maxL ret R H k j pc Ls (.ref x :: st) Q := by
  obtain ⟨hd, rfl⟩ := hd
  exact Wp.step (fun p e s m args below meth c T L Dh hx hZ hby hown X hH target h => XS.ifnullNo X.here hx rfl (hb hby hd) rfl h) hr
theorem wp_ifnonnull_y {o : Int} {x : Addr} {n pc'' : Nat} (hd : Dc bytes pc (.ifnonnull o) 3 n) (ht : Tg pc o pc'') (hr : Wp b l Z own nm bytes maxL ret R H k j pc'' Ls st Q) : Wp b l Z own nm bytes maxL ret R H k j pc Ls (.ref x :: st) Q :=
  Wp.step (fun p e s m args below meth c T L Dh hx hZ hby hown X hH target h => XT.ifnonnullYes X.here hx rfl rfl (hb hby hd.1) rfl ht.1 ht.2 h) hr
theorem wp_acmp {cd : ClassFile.ACond} {o : Int} {x y : Value} {pc'' : Nat} (hd : Dc bytes pc (.if_acmp cd o) 3 pc') (ht : Tg pc o pc'') (h1 : x.isRef = true) (h2 : y.isRef = true) (hy : acV cd (decide (x = y)) = true → Wp b l Z own nm bytes maxL ret R H k j pc'' Ls st Q) (hn : acV cd (decide (x = y)) = false → Wp b l Z own nm bytes maxL ret R H k j pc' Ls st Q) : Wp b l Z own nm bytes maxL ret R H k j pc Ls (y :: x :: st) Q := by
  obtain ⟨hd, rfl⟩ := hd
  cases hc : acV cd (decide (x = y)) with
  | true => exact Wp.step (fun p e s m args below meth c T L Dh hx hZ hby hown X hH target h => acmp X hx rfl h1 h2 (pc0 := pc) rfl (hb hby hd) rfl rfl ht.1 (by rw [if_pos hc]; exact ht.2.symm) h) (hy hc)
  | false => exact Wp.step (fun p e s m args below meth c T L Dh hx hZ hby hown X hH target h => acmp X hx rfl h1 h2 (pc0 := pc) rfl (hb hby hd) rfl rfl ht.1 (by rw [hc]; rfl) h) (hn hc)
theorem wp_acmp_ne {o : Int} {x y : Value} {pc'' : Nat} (hd : Dc bytes pc (.if_acmp .ne o) 3 pc') (ht : Tg pc o pc'') (h1 : x.isRef = true) (h2 : y.isRef = true) (hy : ¬ x = y → Wp b l Z own nm bytes maxL ret R H k j pc'' Ls st Q) (hn : x = y → Wp b l Z own nm bytes maxL ret R H k j pc' Ls st Q) : Wp b l Z own nm bytes maxL ret R H k j pc Ls (y :: x :: st) Q :=
  wp_acmp hd ht h1 h2 (fun h => hy (by simpa [acV] using h)) (fun h => hn (by simpa [acV] using h))
theorem wp_return  (hd : Dc bytes pc .return_ 1 pc') (hr : ret = none) (hk : k ≤ R.cells) (hj : j ≤ R.slots) (hQ : Q none H) : Wp b l Z own nm bytes maxL ret R H k j pc Ls [] Q :=
  fun p e s vm0 k0 m args below meth c T L Dh hx hZ hS hkz hby hml hown hnm hret X N hH hB => ⟨T, none, L, k, j, vm0, k0, H, ⟨hS, hkz, fun _ => rfl⟩, X, ⟨hk, hj, Nat.le_refl _⟩, N, ⟨Dh, hH, fun _ => rfl, hB⟩, fun h => by first | rfl | (rw [hr] at h; cases h), hQ, fun fs hl => X.returnOut hx (hret.trans hr) (hb hby hd.1) hl⟩
theorem wp_ireturn {x : Int32} (hd : Dc bytes pc .ireturn 1 pc') (hr : ret = some .int) (hk : k ≤ R.cells) (hj : j ≤ R.slots) (hQ : Q (some (.int x)) H) : Wp b l Z own nm bytes maxL ret R H k j pc Ls (.int x :: st) Q :=
  fun p e s vm0 k0 m args below meth c T L Dh hx hZ hS hkz hby hml hown hnm hret X N hH hB => ⟨T, (some (.int x)), L, k, j, vm0, k0, H, ⟨hS, hkz, fun _ => rfl⟩, X, ⟨hk, hj, Nat.le_refl _⟩, N, ⟨Dh, hH, fun _ => rfl, hB⟩, fun h => by first | rfl | (rw [hr] at h; cases h), hQ, fun fs hl => retOut X hx (hret.trans hr) rfl (Or.inl ⟨rfl, Or.inl rfl, x, rfl⟩) (hb hby hd.1) hl⟩
theorem wp_ireturnN {x : Int32} {t : FieldType} (hd : Dc bytes pc .ireturn 1 pc') (hr : ret = some t) (ht : t = .boolean ∨ t = .byte ∨ t = .char ∨ t = .short) (hk : k ≤ R.cells) (hj : j ≤ R.slots) (hQ : Q (some (.int (nar t x))) H) : Wp b l Z own nm bytes maxL ret R H k j pc Ls (.int x :: st) Q :=
  fun p e s vm0 k0 m args below meth c T L Dh hx hZ hS hkz hby hml hown hnm hret X N hH hB => ⟨T, (some (.int (nar t x))), L, k, j, vm0, k0, H, ⟨hS, hkz, fun _ => rfl⟩, X, ⟨hk, hj, Nat.le_refl _⟩, N, ⟨Dh, hH, fun _ => rfl, hB⟩, fun h => by first | rfl | (rw [hr] at h; cases h), hQ, fun fs hl => retN X hx (hret.trans hr) ht (hb hby hd.1) hl⟩
theorem wp_areturn {x : Value} {t : FieldType} (hd : Dc bytes pc .areturn 1 pc') (hr : ret = some t) (ht : t.isReference = true) (hn : narrow t x = x) (hv : x.isRef = true) (hk : k ≤ R.cells) (hj : j ≤ R.slots) (hQ : Q (some x) H) : Wp b l Z own nm bytes maxL ret R H k j pc Ls (x :: st) Q :=
  fun p e s vm0 k0 m args below meth c T L Dh hx hZ hS hkz hby hml hown hnm hret X N hH hB => ⟨T, (some x), L, k, j, vm0, k0, H, ⟨hS, hkz, fun _ => rfl⟩, X, ⟨hk, hj, Nat.le_refl _⟩, N, ⟨Dh, hH, fun _ => rfl, hB⟩, fun h => by first | rfl | (rw [hr] at h; cases h), hQ, fun fs hl => retOut X hx (hret.trans hr) hn (Or.inr (Or.inr (Or.inr (Or.inr ⟨rfl, ht, hv⟩)))) (hb hby hd.1) hl⟩
def FldAt (Z : State) (H : OH) (a : Addr) (O n d : String) (v : Value) : Prop := ∀ {Dh : HD} (h : Heap), Hp Z Dh h H → Fld Z h a O n d v
def ExaAt (Z : State) (H : OH) (a : Addr) (C : String) : Prop := ∀ {Dh : HD} (h : Heap), Hp Z Dh h H → Exa Z h a C
theorem fld_new {i fi : Nat} {a : Addr} {fl : Bool} {C O n d : String} {sg : OSig} {vs : List Value} {v : Value} (hi : H[i]? = some (a, (fl, .inl (C, sg, vs)))) (hf : sg[fi]? = some (O, n, d)) (hv : vs[fi]? = some v) : FldAt Z H a O n d v := fun h P => (P.at hi).2.2.2 fi _ v hf hv
theorem exa_new {i : Nat} {a : Addr} {fl : Bool} {C : String} {sg : OSig} {vs : List Value} (hi : H[i]? = some (a, (fl, .inl (C, sg, vs)))) : ExaAt Z H a C := fun h P => (P.at hi).2.1
theorem wp_getfield {a : Addr} {O n d : String} {v : Value} {idx : Nat} (hd : Dc bytes pc (.getfield idx) 3 pc') (w : (Cond.fieldLink own idx O n d).before a0 Z = true) (F : FldAt Z H a O n d v) (hr : Wp b l Z own nm bytes maxL ret R H k j pc' Ls (v :: st) Q) : Wp b l Z own nm bytes maxL ret R H k j pc Ls (.ref a :: st) Q := by
  obtain ⟨hd, rfl⟩ := hd
  refine Wp.stepH fun p e s m args below meth c T L Dh hx hZ hby hml hown hnm hret X N hH => ?_
  obtain ⟨T', X', e', stp⟩ := getF X hx hZ hown (host := "") (Or.inl w) Via.refl rfl (F _ hH) (g := mkF m pc Ls (.ref a :: st)) rfl rfl (hb hby hd)
  exact ⟨T', L, k, j, H, _, Ls, v :: st, X', by rw [e']; exact Nat.le_refl _, N, by rw [e']; exact hH, hr, stp⟩
theorem wp_getstatic {O n d : String} {v : Value} {idx : Nat} (hd : Dc bytes pc (.getstatic idx) 3 pc') (w : (Cond.fieldLink own idx O n d).before a0 Z = true) (F : Sta Z Z.heap O n d v) (hr : Wp b l Z own nm bytes maxL ret R H k j pc' Ls (v :: st) Q) : Wp b l Z own nm bytes maxL ret R H k j pc Ls st Q := by
  obtain ⟨hd, rfl⟩ := hd
  refine Wp.stepH fun p e s m args below meth c T L Dh hx hZ hby hml hown hnm hret X N hH => ?_
  obtain ⟨T', X', e', stp⟩ := getS (host := "") X hx hZ hown w Via.refl rfl (F.ext hH.1) (g := mkF m pc Ls st) rfl (hb hby hd)
  exact ⟨T', L, k, j, H, _, Ls, v :: st, X', by rw [e']; exact Nat.le_refl _, N, by rw [e']; exact hH, hr, stp⟩
theorem Sat.put {h h' : Heap} {a : Addr} {C O n d : String} {sg : OSig} {vs : List Value} {fi : Nat} {v : Value} (S : Sat Z h a (.inl (C, sg, vs))) (hf : sg[fi]? = some (O, n, d)) (W : Wr h h' a (Jvm.RoadKit.slotOf Z O n d) v) : Sat Z h' a (.inl (C, sg, vs.set fi v)) := by
  obtain ⟨S1, S2, S3⟩ := S
  refine ⟨S1.wr W, S2, fun i f u q r => ?_⟩
  rw [List.getElem?_set] at r
  split at r
  · rename_i e; subst e
    split at r
    · rename_i hlt
      cases r
      cases hf.symm.trans q
      exact (S3 fi _ _ hf (List.getElem?_eq_getElem hlt)).same W
    · cases r
  · rename_i ne
    refine (S3 i f u q r).other W (Or.inr ?_)
    have hP := List.pairwise_iff_getElem.mp S2
    obtain ⟨h1, e1⟩ := List.getElem?_eq_some_iff.mp q
    obtain ⟨h2, e2⟩ := List.getElem?_eq_some_iff.mp hf
    rcases Nat.lt_or_gt_of_ne ne with u | u
    · have := hP fi i h2 h1 u; rw [e1, e2] at this; exact Ne.symm this
    · have := hP i fi h1 h2 u; rw [e1, e2] at this; exact this
theorem wp_putfield {i fi kk : Nat} {a : Addr} {C O n d : String} {sg : OSig} {vs : List Value} {v old : Value} {ty : FieldType} {idx : Nat} (hd : Dc bytes pc (.putfield idx) 3 pc') (w : (Cond.fieldLink own idx O n d).before a0 Z = true) (hi : H[i]? = some (a, oI C sg vs)) (hf : sg[fi]? = some (O, n, d)) (ho : vs[fi]? = some old) (L0 : (Cond.lays C O n d).before a0 Z = true ∨ ((Cond.laysFinal C O n d).before a0 Z = true ∧ own = O ∧ nm = "<init>")) (wi : (Cond.instantiable C kk).before a0 Z = true) (hty : parseFieldDescriptor d = some ty) (hn : narrow ty v = v) (hfit : fits ty v = true) (hr : Wp b l Z own nm bytes maxL ret R (H.set i (a, oI C sg (vs.set fi v))) k j pc' Ls st Q) : Wp b l Z own nm bytes maxL ret R H k j pc Ls (v :: .ref a :: st) Q := by
  obtain ⟨hd, rfl⟩ := hd
  refine Wp.stepH fun p e s m args below meth c T L Dh hx hZ hby hml hown hnm hret X N hH => ?_
  have S := (hH.at hi).2
  obtain ⟨T', h', X', e', W', stp⟩ := putF X hx hZ hown (host := "") (Or.inl w) Via.refl rfl (S.2.2 fi _ _ hf ho) S.1 (L0.imp id fun q => ⟨q.1, q.2.1, hnm.trans q.2.2⟩) wi hty hn hfit (g := mkF m pc Ls (v :: .ref a :: st)) rfl rfl (hb hby hd)
  subst e'
  exact ⟨T', _, k, j, _, _, Ls, st, X', by rw [W'.size]; exact Nat.le_refl _, Fr.snoc X' N ((hH.at hi).1 rfl), hH.set hi W' (S.put hf W'), hr, stp⟩
def Dfl : OSig → List Value → Prop
  | [], [] => True
  | f :: sg, v :: vs => (∃ ty, parseFieldDescriptor f.2.2 = some ty ∧ defaultValue ty = v) ∧ Dfl sg vs
  | _, _ => False
theorem Dfl.at : ∀ {sg : OSig} {vs : List Value}, Dfl sg vs → ∀ (i : Nat) (f : String × String × String) (v : Value), sg[i]? = some f → vs[i]? = some v → ∃ ty, parseFieldDescriptor f.2.2 = some ty ∧ defaultValue ty = v
  | [], [], _, i, f, v, q, _ => by simp at q
  | f :: sg, v :: vs, D, 0, f', v', q, r => by simp at q r; subst q r; exact D.1
  | f :: sg, v :: vs, D, i + 1, f', v', q, r => D.2.at i f' v' (by simpa using q) (by simpa using r)
  | [], _ :: _, D, _, _, _, _, _ => D.elim
  | _ :: _, [], D, _, _, _, _, _ => D.elim
theorem Dfl.parse : ∀ {sg : OSig} {vs : List Value}, Dfl sg vs → ∀ f ∈ sg, ∃ ty, parseFieldDescriptor f.2.2 = some ty
  | [], [], _, f, q => by simp at q
  | g :: sg, v :: vs, D, f, q => (List.mem_cons.mp q).elim (fun e => by subst e; exact ⟨D.1.choose, D.1.choose_spec.1⟩) (D.2.parse f)
  | [], _ :: _, D, _, _ => D.elim
  | _ :: _, [], D, _, _ => D.elim
theorem slo_of {C : String} {sg : OSig} {vs : List Value} (D : Dfl sg vs) (hL : ∀ f ∈ sg, Laid Z a0 C f.1 f.2.1 f.2.2) (hn : (sg.map fun f => f.2.1).Nodup) : Slo Z sg := by
  have h1 : sg.Pairwise fun f g => f.2.1 ≠ g.2.1 := List.pairwise_map.mp hn
  refine List.Pairwise.imp_of_mem (fun {f g} hf hg ne => ?_) h1
  obtain ⟨t, ht⟩ := D.parse f hf
  obtain ⟨t', ht'⟩ := D.parse g hg
  exact slot_ne (hL f hf) (hL g hg) ne ht ht'
theorem all_nil {α : Type} {P : α → Prop} : ∀ x ∈ ([] : List α), P x := fun _ q => nomatch q
theorem all_cons {α : Type} {P : α → Prop} {y : α} {L : List α} (q : P y) (r : ∀ x ∈ L, P x) : ∀ x ∈ y :: L, P x := fun x z => (List.mem_cons.mp z).elim (fun u => u ▸ q) (r x)
theorem wp_new {C : String} {idx n : Nat} (sg : OSig) (vs : List Value) (hd : Dc bytes pc (.new idx) 3 pc') (w : (Cond.classLink own idx C).before a0 Z = true) (wi : (Cond.instantiable C n).before a0 Z = true) (wz : (Cond.initialized C).before a0 Z = true) (hL : ∀ f ∈ sg, Laid Z a0 C f.1 f.2.1 f.2.2) (hn : (sg.map fun f => f.2.1).Nodup) (D : Dfl sg vs) (hc : k + 1 ≤ R.cells) (hl : j + n ≤ R.slots) (hr : ∀ a, Wp b l Z own nm bytes maxL ret R ((a, oI C sg vs) :: H) (k + 1) (j + n) pc' Ls (.ref a :: st) Q) : Wp b l Z own nm bytes maxL ret R H k j pc Ls st Q := by
  obtain ⟨hd, rfl⟩ := hd
  refine Wp.stepH fun p e s m args below meth c T L Dh hx hZ hby hml hown hnm hret X N hH => ?_
  obtain ⟨T', h', X', e', E', A', D', -, stp⟩ := newO X hx hZ hown w wi wz rfl (g := mkF m pc Ls st) rfl (hb hby hd) hc hl
  subst e'
  refine ⟨T', L, _, _, _, _, Ls, _, X', E'.1, N, hH.cons E' (o := .inl (C, sg, vs)) ⟨A', slo_of D hL hn, fun i f v q r => ?_⟩, hr _, stp⟩
  obtain ⟨ty, t1, t2⟩ := D.at i f v q r
  rw [← t2]
  exact D' (hL f (List.mem_of_getElem? q)) t1
theorem wp_initO {a : Addr} {idx : Nat} (hd : Dc bytes pc (.invokespecial idx) 3 pc') (w1 : (Cond.methodLink own idx Lib.objectInit).before a0 Z = true) (w2 : (Cond.instanceMethod Lib.objectInit).before a0 Z = true) (w3 : (Cond.code Lib.objectInit ⟨#[0xb1]⟩ 1 none).before a0 Z = true) (hsz : Ls.size = maxL) (hf : 1 ≤ R.frames) (hl : (st.map fun v => v.category).sum + 12 ≤ R.locals) (hr : Wp b l Z own nm bytes maxL ret R H k j pc' Ls st Q) : Wp b l Z own nm bytes maxL ret R H k j pc Ls (.ref a :: st) Q := by
  obtain ⟨hd, rfl⟩ := hd
  refine Wp.stepH fun p e s m args below meth c T L Dh hx hZ hby hml hown hnm hret X N hH => ?_
  obtain ⟨T', X', e', stp⟩ := initO X hx hZ hown w1 w2 w3 rfl (g := mkF m pc Ls (.ref a :: st)) rfl (by rw [hml]; exact hsz) rfl (hb hby hd) hf (W := (st.map fun v => v.category).sum) (by show 2 * 0 + _ ≤ _; omega) hl
  exact ⟨T', L, k, j, H, _, Ls, st, X', by rw [e']; exact Nat.le_refl _, N, by rw [e']; exact hH, hr, stp⟩
theorem wp_newarrayI {aty : ArrayType} {ty : FieldType} {n : Int32} (cnt cap : Nat) (hd : Dc bytes pc (.newarray aty) 2 pc') (hty : newarray.typeOf aty = ty) (hdef : defaultValue ty = .int 0) (hfz : fits ty (.int 0) = true) (w : (Cond.arrayClass ty).before a0 Z = true) (hn : ¬ n < 0) (hcnt : n.toNatClampNeg = cnt) (hcap : cnt ≤ cap) (hb8 : cap * 8 ≤ 536870912) (hc : k + 1 ≤ R.cells) (hl : j + cap ≤ R.slots) (hr : ∀ a, Wp b l Z own nm bytes maxL ret R ((a, oA ty (List.replicate cnt 0)) :: H) (k + 1) (j + cap) pc' Ls (.ref a :: st) Q) : Wp b l Z own nm bytes maxL ret R H k j pc Ls (.int n :: st) Q := by
  obtain ⟨hd, rfl⟩ := hd
  subst hty
  refine Wp.stepH fun p e s m args below meth c T L Dh hx hZ hby hml hown hnm hret X N hH => ?_
  obtain ⟨T', h', cA, X', e', E', A', B', stp⟩ := newPE X hx hZ w rfl (g := mkF m pc Ls (.int n :: st)) rfl (hb hby hd) rfl hn (cap := cap) (by rw [hcnt]; exact hcap) hb8 hc hl rfl
  subst e'
  refine ⟨T', L, _, _, _, _, Ls, _, X', E'.1, N, hH.cons E' (o := .inr (.inl (_, List.replicate cnt 0))) ⟨Or.inr B', _, A', ?_, fun x hx => ?_⟩, hr _, stp⟩
  · simp [newA, hcnt, hdef]
  · rw [(List.mem_replicate.mp hx).2]; exact hfz
theorem in_of {j : Int32} {xs : List Value} {c : Cell} {v : Value} (hs : c.slots = xs.toArray) (hj : ¬ j < 0) (hv : xs[j.toNatClampNeg]? = some v) : ¬ (j < 0 ∨ c.slots.size ≤ j.toNatClampNeg) ∧ c.slots[j.toNatClampNeg]? = some v := by
  have h1 := (List.getElem?_eq_some_iff.mp hv).1
  refine ⟨fun q => q.elim hj fun r => ?_, by rw [hs]; simpa using hv⟩
  rw [hs] at r; simp at r; omega
theorem setSlot_list {c : Cell} {xs : List Value} {n : Nat} {v : Value} (hs : c.slots = xs.toArray) : (c.setSlot n v).slots = (xs.set n v).toArray := by simp [Cell.setSlot, hs]
theorem wp_caload {i : Nat} {a : Addr} {fl : Bool} {xs : List Int32} {n x : Int32} (m : Nat) (hd : Dc bytes pc .caload 1 pc') (hi : H[i]? = some (a, (fl, .inr (.inl (.char, xs))))) (hn : ¬ n < 0) (hm : n.toNatClampNeg = m) (hv : xs[m]? = some x) (hr : Wp b l Z own nm bytes maxL ret R H k j pc' Ls (.int x :: st) Q) : Wp b l Z own nm bytes maxL ret R H k j pc Ls (.int n :: .ref a :: st) Q := by
  obtain ⟨hd, rfl⟩ := hd
  refine Wp.step (fun p e s m args below meth c T L Dh hx hZ hby hown X hH target h => ?_) hr
  obtain ⟨-, cl, A, hs, -⟩ := (hH.at hi).2
  obtain ⟨h1, h2⟩ := in_of hs hn (v := .int x) (by rw [hm]; simpa using hv)
  exact X.caload hx A.1 (State.isArrayOf_alike hZ.alike A.2.1) A.2.2 h1 h2 (g := mkF m pc Ls (.int n :: .ref a :: st)) rfl rfl (hb hby hd) _ h
theorem wp_baload {i : Nat} {a : Addr} {fl : Bool} {xs : List Int32} {n x : Int32} (m : Nat) (hd : Dc bytes pc .baload 1 pc') (hi : H[i]? = some (a, (fl, .inr (.inl (.byte, xs))))) (hn : ¬ n < 0) (hm : n.toNatClampNeg = m) (hv : xs[m]? = some x) (hr : Wp b l Z own nm bytes maxL ret R H k j pc' Ls (.int x :: st) Q) : Wp b l Z own nm bytes maxL ret R H k j pc Ls (.int n :: .ref a :: st) Q := by
  obtain ⟨hd, rfl⟩ := hd
  refine Wp.step (fun p e s m args below meth c T L Dh hx hZ hby hown X hH target h => ?_) hr
  obtain ⟨-, cl, A, hs, -⟩ := (hH.at hi).2
  obtain ⟨h1, h2⟩ := in_of hs hn (v := .int x) (by rw [hm]; simpa using hv)
  exact X.baloadBytes hx A.1 (State.isArrayOf_alike hZ.alike A.2.1) A.2.2 h1 h2 (g := mkF m pc Ls (.int n :: .ref a :: st)) rfl rfl (hb hby hd) _ h
theorem wp_lengthI {i : Nat} {a : Addr} {fl : Bool} {ty : FieldType} {xs : List Int32} (n : Int32) (hd : Dc bytes pc .arraylength 1 pc') (hi : H[i]? = some (a, (fl, .inr (.inl (ty, xs))))) (hn : xs.length.toInt32 = n) (hr : Wp b l Z own nm bytes maxL ret R H k j pc' Ls (.int n :: st) Q) : Wp b l Z own nm bytes maxL ret R H k j pc Ls (.ref a :: st) Q := by
  obtain ⟨hd, rfl⟩ := hd
  refine Wp.step (fun p e s m args below meth c T L Dh hx hZ hby hown X hH target h => ?_) hr
  obtain ⟨-, cl, A, hs, -⟩ := (hH.at hi).2
  refine X.arraylength hx A.1 (State.isArrayOf_alike hZ.alike A.2.1) (g := mkF m pc Ls (.ref a :: st)) rfl rfl (hb hby hd) _ ?_
  have e1 : cl.slots.size.toInt32 = n := by rw [hs]; simpa using hn
  rw [e1]; exact h
theorem wp_castore {i : Nat} {a : Addr} {xs : List Int32} {n x : Int32} (m : Nat) (hd : Dc bytes pc .castore 1 pc') (hi : H[i]? = some (a, oA .char xs)) (hn : ¬ n < 0) (hm : n.toNatClampNeg = m) (hin : m < xs.length) (hr : Wp b l Z own nm bytes maxL ret R (H.set i (a, oA .char (xs.set m (nar .char x)))) k j pc' Ls st Q) : Wp b l Z own nm bytes maxL ret R H k j pc Ls (.int x :: .int n :: .ref a :: st) Q := by
  obtain ⟨hd, rfl⟩ := hd
  refine Wp.stepH fun p e s mm args below meth c T L Dh hx hZ hby hml hown hnm hret X N hH => ?_
  subst hm
  obtain ⟨Eq, cl, A, hs, G⟩ := (hH.at hi).2
  obtain ⟨h1, -⟩ := in_of hs hn (v := .int xs[n.toNatClampNeg]) (by simp [hin])
  obtain ⟨T', h', X', e', W', stp⟩ := stC X hx hZ rfl A h1 (g := mkF mm pc Ls (.int x :: .int n :: .ref a :: st)) rfl rfl (hb hby hd)
  subst e'
  exact ⟨T', _, k, j, _, _, Ls, st, X', by rw [W'.size]; exact Nat.le_refl _, Fr.snoc X' N ((hH.at hi).1 rfl), hH.set hi W' (o' := .inr (.inl (_, xs.set n.toNatClampNeg _))) ⟨Eq.imp id (·.wr W'), _, A.same W', by rw [setSlot_list hs, List.map_set], fun y hy => (List.mem_or_eq_of_mem_set hy).elim (G y) fun q => by rw [q]; exact fits_nar_char x⟩, hr, stp⟩
theorem wp_bastore {i : Nat} {a : Addr} {xs : List Int32} {n x : Int32} (m : Nat) (hd : Dc bytes pc .bastore 1 pc') (hi : H[i]? = some (a, oA .byte xs)) (hn : ¬ n < 0) (hm : n.toNatClampNeg = m) (hin : m < xs.length) (hr : Wp b l Z own nm bytes maxL ret R (H.set i (a, oA .byte (xs.set m (nar .byte x)))) k j pc' Ls st Q) : Wp b l Z own nm bytes maxL ret R H k j pc Ls (.int x :: .int n :: .ref a :: st) Q := by
  obtain ⟨hd, rfl⟩ := hd
  refine Wp.stepH fun p e s mm args below meth c T L Dh hx hZ hby hml hown hnm hret X N hH => ?_
  subst hm
  obtain ⟨Eq, cl, A, hs, G⟩ := (hH.at hi).2
  obtain ⟨h1, -⟩ := in_of hs hn (v := .int xs[n.toNatClampNeg]) (by simp [hin])
  obtain ⟨T', h', X', e', W', stp⟩ := stB X hx hZ rfl A h1 (g := mkF mm pc Ls (.int x :: .int n :: .ref a :: st)) rfl rfl (hb hby hd)
  subst e'
  exact ⟨T', _, k, j, _, _, Ls, st, X', by rw [W'.size]; exact Nat.le_refl _, Fr.snoc X' N ((hH.at hi).1 rfl), hH.set hi W' (o' := .inr (.inl (_, xs.set n.toNatClampNeg _))) ⟨Eq.imp id (·.wr W'), _, A.same W', by rw [setSlot_list hs, List.map_set], fun y hy => (List.mem_or_eq_of_mem_set hy).elim (G y) fun q => by rw [q]; exact fits_nar_byte x⟩, hr, stp⟩
/-- a body's contract: handed these arguments among these new objects it returns and Q holds -/
def Met (l : Launch) (Z : State) (y : MethodName) (bytes : ByteArray) (maxL : Nat) (ret : Option FieldType) (rm : Room) (as' : List Value) (H : OH) (Q : Option Value → OH → Prop) : Prop :=
  ∀ (ws : List Jvm.Cond) (h : Heap) (Dh : HD), Hp Z Dh h H → MetFree l y (head1 (Jvm.Cond.code y bytes maxL ret :: ws) rm) (fun a U => a = as'.toArray ∧ Z.Warmed39 U.vm ∧ U.heap = h) (fun _ _ _ _ _ => True)
    (fun _ U o U' => ∃ v L, o = .returned v ∧ (Fr Z.heap.size L ∧ h.size ≤ U'.heap.size ∧ ∃ H', Hp Z Dh U'.heap H' ∧ Q v H') ∧ FrameEnd U o U' L rm.cells rm.slots)
theorem Met.of_wp {y : MethodName} {rm : Room} {as' : List Value} (hx : plainFor y = true) (hef : ∀ m, entryFrame m as'.toArray maxL = mkF m 0 Ls []) (hw : Wp none l Z y.cls y.name bytes maxL ret rm H 0 0 0 Ls [] Q) : Met l Z y bytes maxL ret rm as' H Q := by
  intro ws h Dh hH
  refine MetFree.of_bodySF hx hisR ?_
  intro p e s m args below meth c s₁ Bd hml0 hP hK
  obtain ⟨rfl, hZ, hh⟩ := hP
  have X0 : Stand p l e rm s m as'.toArray below meth c s₁ [] 0 0 := Stand.of_body Bd
  have e0 : s₁.heap = h := by rw [← hh, Bd.state]; rfl
  obtain ⟨T', v, L', k', j', vm1, k1, H', ⟨hS, hk1, hvm⟩, X', ⟨hc, hj, hsz⟩, N', ⟨D1, hH', hD1, -⟩, hv, hQ, stp⟩ := hw p e s s.vm 0 m as'.toArray below meth c s₁ [] Dh Bd.exec hZ ((State.WarmedH.refl s).since 0) (Nat.zero_le _) Bd.bytes hml0 (findClass_of_methodNamed Bd.named) (name_of_methodNamed Bd.named Bd.method).1 Bd.returns X0 (Fr.nil _) (by rw [e0]; exact hH) (fun _ q => nomatch q)
  obtain rfl := hvm rfl
  obtain rfl := hD1 rfl
  have X'' : Stand p l e rm s m as'.toArray below meth c T' L' k' j' := X'
  obtain ⟨fs, hr, hrun, hended, hW, hsame⟩ := X''.leave (v := v) (fun h => hv (Bd.returns.symm.trans h))
  refine ⟨_, _, castTop (hef m) (stp fs hr), hrun, hended, v, L', rfl, ⟨N', ?_, H', hH', hQ⟩, ⟨_, rfl⟩, hW, hsame.mono hc hj⟩
  rw [e0] at hsz; exact hsz
theorem Met.mono {y : MethodName} {rm : Room} {as' : List Value} {Q' : Option Value → OH → Prop} (M : Met l Z y bytes maxL ret rm as' H Q') (hq : ∀ v H', Q' v H' → Q v H') : Met l Z y bytes maxL ret rm as' H Q := fun ws h Dh hH p e ha hc hk s m args below hf happ hP hK => by
  obtain ⟨n, o, h1, h2, h3, v, L, rfl, ⟨q1, q2, H', q3, q4⟩, h5⟩ := M ws h Dh hH p e ha hc hk s m args below hf happ hP hK
  exact ⟨n, _, h1, h2, h3, v, L, rfl, ⟨q1, q2, H', q3, hq _ _ q4⟩, h5⟩
theorem wp_callS {y : MethodName} {bytes' : ByteArray} {maxL' : Nat} {ret' : Option FieldType} {rm : Room} {rest : List Value} {Q' : Option Value → OH → Prop} {idx : Nat} {ps : List FieldType} {rt : Option FieldType} {as' : List Value} (M : Met l Z y bytes' maxL' ret' rm as' H Q') (hd : Dc bytes pc (.invokestatic idx) 3 pc') (w1 : (Cond.methodLink own idx y).before a0 Z = true) (w2 : (Cond.static y).before a0 Z = true) (w3 : (Cond.initialized y.cls).before a0 Z = true) (w4 : (Cond.code y bytes' maxL' ret').before a0 Z = true) (hy : y.cls ≠ "java/lang/invoke/MethodHandle" ∧ y.cls ≠ "java/lang/invoke/VarHandle") (hpd : parseMethodDescriptor y.desc = some ⟨ps, rt⟩) (hlen : as'.length = ps.length) (hst : st = as'.reverse ++ rest) (hsz : Ls.size = maxL) (hf : rm.frames + 1 ≤ R.frames) (hl : (rest.map fun v => v.category).sum + (maxL' + 11) + rm.locals ≤ R.locals) (hc : k + rm.cells ≤ R.cells) (hj : j + rm.slots ≤ R.slots) (hr : ∀ v H', Q' v H' → Wp b l Z own nm bytes maxL ret R H' (k + rm.cells) (j + rm.slots) pc' Ls (v.toList ++ rest) Q) : Wp b l Z own nm bytes maxL ret R H k j pc Ls st Q := by
  obtain ⟨hd, rfl⟩ := hd
  refine Wp.stepH fun p e s m args below meth c T L Dh hx hZ hby hml hown hnm hret X N hH => ?_
  obtain ⟨v, _, ⟨T', L', k', n'⟩, -, X', ⟨Lc, ⟨N', hsz', H', hH', hQ⟩, l1, y1, z1⟩, stp⟩ := Jvm.LawKit.callS X hx (y := y) hown (mvT hZ w1) (mvT hZ w2) (mvT hZ w3) (mvT hZ w4) hy (backOf (W := (rest.map fun v => v.category).sum) (Q := fun v h L => Fr Z.heap.size L ∧ T.heap.size ≤ h.size ∧ ∃ H', Hp Z Dh h H' ∧ Q' v H') (M [] T.heap Dh hH) hZ w4 w3 hf hl) (g := mkF m pc Ls st) rfl (by rw [hml]; exact hsz) (argsL := as') (rest := rest) (lenOf hpd hlen) hst (by show 2 * 0 + _ ≤ _; omega) (hb hby hd) (fun _ _ => ⟨rfl, rfl, hc, hj⟩)
  dsimp only [Pt.U, Pt.locs, Pt.cells, Pt.slots] at X' l1 y1 z1 stp hH' hsz'
  subst l1 y1 z1
  exact ⟨T', _, _, _, H', _, Ls, v.toList ++ rest, X', hsz', N.app N', hH', hr v H' hQ, stp⟩
theorem wp_init {y : MethodName} {bytes' : ByteArray} {maxL' : Nat} {rm : Room} {rest : List Value} {Q' : Option Value → OH → Prop} {idx : Nat} {ps : List FieldType} {rt : Option FieldType} {a : Addr} {as' : List Value} (M : Met l Z y bytes' maxL' none rm (.ref a :: as') H Q') (hd : Dc bytes pc (.invokespecial idx) 3 pc') (hin : y.name = "<init>") (w1 : (Cond.methodLink own idx y).before a0 Z = true) (w2 : (Cond.instanceMethod y).before a0 Z = true) (w3 : (Cond.initialized y.cls).before a0 Z = true) (w4 : (Cond.code y bytes' maxL' none).before a0 Z = true) (hy : y.cls ≠ "java/lang/invoke/MethodHandle" ∧ y.cls ≠ "java/lang/invoke/VarHandle") (hpd : parseMethodDescriptor y.desc = some ⟨ps, rt⟩) (hlen : as'.length = ps.length) (hst : st = as'.reverse ++ .ref a :: rest) (hsz : Ls.size = maxL) (hf : rm.frames + 1 ≤ R.frames) (hl : (rest.map fun v => v.category).sum + (maxL' + 11) + rm.locals ≤ R.locals) (hc : k + rm.cells ≤ R.cells) (hj : j + rm.slots ≤ R.slots) (hr : ∀ v H', Q' v H' → Wp b l Z own nm bytes maxL ret R H' (k + rm.cells) (j + rm.slots) pc' Ls (v.toList ++ rest) Q) : Wp b l Z own nm bytes maxL ret R H k j pc Ls st Q := by
  obtain ⟨hd, rfl⟩ := hd
  refine Wp.stepH fun p e s m args below meth c T L Dh hx hZ hby hml hown hnm hret X N hH => ?_
  obtain ⟨v, _, ⟨T', L', k', n'⟩, -, X', ⟨Lc, ⟨N', hsz', H', hH', hQ⟩, l1, y1, z1⟩, stp⟩ := X.specialBack hx (y := y) hin hown (mvT hZ w1) (mvT hZ w2) (mvT hZ w4) hy (backOf (W := (rest.map fun v => v.category).sum) (Q := fun v h L => Fr Z.heap.size L ∧ T.heap.size ≤ h.size ∧ ∃ H', Hp Z Dh h H' ∧ Q' v H') (M [] T.heap Dh hH) hZ w4 w3 hf hl) (g := mkF m pc Ls st) rfl (by rw [hml]; exact hsz) (Steps.refl _) (a := a) (argsL := as') (rest := rest) (lenOf hpd hlen) hst (by show 2 * 0 + _ ≤ _; omega) (hb hby hd) (fun _ _ => ⟨rfl, rfl, hc, hj⟩)
  dsimp only [Pt.U, Pt.locs, Pt.cells, Pt.slots] at X' l1 y1 z1 stp hH' hsz'
  subst l1 y1 z1
  exact ⟨T', _, _, _, H', _, Ls, v.toList ++ rest, X', hsz', N.app N', hH', hr v H' hQ, fun _ q => stp.trans q⟩
theorem wp_virtual {y : MethodName} {bytes' : ByteArray} {maxL' : Nat} {ret' : Option FieldType} {rm : Room} {rest : List Value} {Q' : Option Value → OH → Prop} {idx : Nat} {ps : List FieldType} {rt : Option FieldType} {x : MethodName} {C : String} {a : Addr} {as' : List Value} (M : Met l Z y bytes' maxL' ret' rm (.ref a :: as') H Q') (E : ExaAt Z H a C) (hd : Dc bytes pc (.invokevirtual idx) 3 pc') (w1 : (Cond.methodLink own idx x).before a0 Z = true) (w2 : (Cond.declares x).before a0 Z = true) (wn : (Cond.selects x.cls x x).before a0 Z = true) (ws : (Cond.selects C x y).before a0 Z = true) (wi : (Cond.instanceMethod y).before a0 Z = true) (w3 : (Cond.initialized y.cls).before a0 Z = true) (w4 : (Cond.code y bytes' maxL' ret').before a0 Z = true) (hy : x.cls ≠ "java/lang/invoke/MethodHandle" ∧ x.cls ≠ "java/lang/invoke/VarHandle") (hpd : parseMethodDescriptor x.desc = some ⟨ps, rt⟩) (hlen : as'.length = ps.length) (hst : st = as'.reverse ++ .ref a :: rest) (hsz : Ls.size = maxL) (hf : rm.frames + 1 ≤ R.frames) (hl : (rest.map fun v => v.category).sum + (maxL' + 11) + rm.locals ≤ R.locals) (hc : k + rm.cells ≤ R.cells) (hj : j + rm.slots ≤ R.slots) (hr : ∀ v H', Q' v H' → Wp b l Z own nm bytes maxL ret R H' (k + rm.cells) (j + rm.slots) pc' Ls (v.toList ++ rest) Q) : Wp b l Z own nm bytes maxL ret R H k j pc Ls st Q := by
  obtain ⟨hd, rfl⟩ := hd
  refine Wp.stepH fun p e s m args below meth c T L Dh hx hZ hby hml hown hnm hret X N hH => ?_
  obtain ⟨cq, kq, q1, q2, q3⟩ := isOf hZ rfl (E _ hH)
  obtain ⟨v, _, ⟨T', L', k', n'⟩, -, X', ⟨Lc, ⟨N', hsz', H', hH', hQ⟩, l1, y1, z1⟩, stp⟩ := X.virtualBack hx (y := x) (z := y) hown (mvT hZ w1) (mvT hZ w2) (notFace_of_selects (args := #[]) (mvT hZ wn)) (mvT hZ ws) (mvT hZ wi) hy (backOf (W := (rest.map fun v => v.category).sum) (Q := fun v h L => Fr Z.heap.size L ∧ T.heap.size ≤ h.size ∧ ∃ H', Hp Z Dh h H' ∧ Q' v H') (M [] T.heap Dh hH) hZ w4 w3 hf hl) q1 q3 (g := mkF m pc Ls st) rfl (by rw [hml]; exact hsz) (Steps.refl _) (argsL := as') (rest := rest) (lenOf hpd hlen) hst (by show 2 * 0 + _ ≤ _; omega) (hb hby hd) (fun _ _ => ⟨rfl, rfl, hc, hj⟩)
  dsimp only [Pt.U, Pt.locs, Pt.cells, Pt.slots] at X' l1 y1 z1 stp hH' hsz'
  subst l1 y1 z1
  exact ⟨T', _, _, _, H', _, Ls, v.toList ++ rest, X', hsz', N.app N', hH', hr v H' hQ, fun _ q => stp.trans q⟩
theorem wp_cast {a : Addr} {K : String} {idx : Nat} (hd : Dc bytes pc (.checkcast idx) 3 pc') (w : (Cond.classLink own idx K).before a0 Z = true) (F : ∀ {Dh : HD} (h : Heap), Hp Z Dh h H → Ins Z h a K true) (hr : Wp b l Z own nm bytes maxL ret R H k j pc' Ls (.ref a :: st) Q) : Wp b l Z own nm bytes maxL ret R H k j pc Ls (.ref a :: st) Q := by
  obtain ⟨hd, rfl⟩ := hd
  refine Wp.stepH fun p e s m args below meth c T L Dh hx hZ hby hml hown hnm hret X N hH => ?_
  obtain ⟨T', X', e', stp⟩ := castY X hx hZ hown w rfl (F _ hH) (g := mkF m pc Ls (.ref a :: st)) rfl rfl (hb hby hd)
  exact ⟨T', L, k, j, H, _, Ls, .ref a :: st, X', by rw [e']; exact Nat.le_refl _, N, by rw [e']; exact hH, hr, stp⟩
theorem wp_instY {a : Addr} {K : String} {idx : Nat} (hd : Dc bytes pc (.instanceof idx) 3 pc') (w : (Cond.classLink own idx K).before a0 Z = true) (F : ∀ {Dh : HD} (h : Heap), Hp Z Dh h H → Ins Z h a K true) (hr : Wp b l Z own nm bytes maxL ret R H k j pc' Ls (.int 1 :: st) Q) : Wp b l Z own nm bytes maxL ret R H k j pc Ls (.ref a :: st) Q := by
  obtain ⟨hd, rfl⟩ := hd
  refine Wp.stepH fun p e s m args below meth c T L Dh hx hZ hby hml hown hnm hret X N hH => ?_
  obtain ⟨T', X', e', stp⟩ := instY X hx hZ hown w rfl (F _ hH) (g := mkF m pc Ls (.ref a :: st)) rfl rfl (hb hby hd)
  exact ⟨T', L, k, j, H, _, Ls, .int 1 :: st, X', by rw [e']; exact Nat.le_refl _, N, by rw [e']; exact hH, hr, stp⟩
theorem fld_of {args : Array Value} {s : State} {t : Term} {a : Addr} {C n d : String} {v : Int32} (e : t.eval args s none [] s = some (.ref a)) (h : (Cond.eq (Term.field t C n d) (Term.int v)).value args s none s [] = some true) : Fld s s.heap a C n d (.int v) :=
  Fld.start ((fld_at e).symm.trans (Cond.eq_int (Cond.before_iff.mpr h) rfl))
theorem Sat.keep {h h' : Heap} {b : Addr} {ws : List Addr} (K : Keep h h' ws) (q : b ∉ ws) : ∀ {o : ObjB}, Sat Z h b o → Sat Z h' b o
  | .inl (C, sg, vs), ⟨h1, h2, h3⟩ => ⟨h1.keep K, h2, fun i f v r t => (h3 i f v r t).keep K q⟩
  | .inr (.inl (ty, xs)), ⟨r, c, h1, h2⟩ => ⟨r.imp id (·.keep K), c, ⟨K.2.1 _ _ h1.1 q, h1.2⟩, h2⟩
  | .inr (.inr (.inl xs)), ⟨r, c, h1, h2⟩ => ⟨r.keep K, c, ⟨K.2.1 _ _ h1.1 q, h1.2⟩, h2⟩
  | .inr (.inr (.inr (C, ty, vs))), ⟨r, c, h1, h2⟩ => ⟨r.keep K, c, ⟨K.2.1 _ _ h1.1 q, h1.2⟩, h2⟩
theorem Hp.setK {Dh : HD} {h h' : Heap} (P : Hp Z Dh h H) {i : Nat} {a : Addr} {o o' : ObjB} (q : H[i]? = some (a, (true, o))) (K : Keep h h' [a]) (S : Sat Z h' a o') : Hp Z Dh h' (H.set i (a, (true, o'))) := by
  have g : Z.heap.size ≤ a := (P.at q).1 rfl
  have g2 : ∀ c, ¬ Dh a c := ((P.2.1 _ (List.mem_of_getElem? q)).1 rfl).2
  obtain ⟨hi, hq⟩ := List.getElem?_eq_some_iff.mp q
  refine ⟨⟨Nat.le_trans P.1.1 K.1, fun b c r => ?_⟩, fun x hx => ?_, ?_, fun b c r => ?_⟩
  · have : b < Z.heap.size := (Array.getElem?_eq_some_iff.mp r).1
    exact K.2.1 _ _ (P.1.2 b c r) (ninS (by rintro rfl; exact absurd this (Nat.not_lt.mpr g)) nin0)
  · obtain ⟨n, hn⟩ := List.getElem?_of_mem hx
    rw [List.getElem?_set] at hn
    split at hn
    · have e0 : (a, (true, o')) = x := by simpa [hi] using hn
      subst e0; exact ⟨fun _ => ⟨g, g2⟩, S⟩
    · rename_i ne
      exact ⟨(P.2.1 x (List.mem_of_getElem? hn)).1, (P.at hn).2.keep K (ninS (P.ne hn q (Or.inr rfl) (Ne.symm ne)) nin0)⟩
  · have e : (H.set i (a, (true, o'))).map (fun x => (x.1, x.2.1)) = H.map (fun x => (x.1, x.2.1)) := by
      rw [List.map_set]
      refine List.ext_getElem? fun n => ?_
      rw [List.getElem?_set]
      split
      · rename_i e; subst e
        simp [hi, hq]
      · rfl
    have h1 : (H.map (fun x => (x.1, x.2.1))).Pairwise (fun u v => (u.2 = true ∨ v.2 = true) → u.1 ≠ v.1) := List.pairwise_map.mpr P.2.2.1
    rw [← e] at h1
    exact List.pairwise_map.mp h1
  · exact K.2.1 _ _ (P.2.2.2 b c r) (ninS (by rintro rfl; exact g2 _ r) nin0)
theorem nat_i32 {n : Nat} (h : n < 2 ^ 31) : (Int32.ofNat n).toNatClampNeg = n ∧ ¬ Int32.ofNat n < 0 := by
  have e : (Int32.ofNat n).toInt = n := Int32.toInt_ofNat_of_lt h
  refine ⟨by simp only [Int32.toNatClampNeg, e]; omega, ?_⟩
  rw [Int32.lt_iff_toInt_lt, e]; simp only [Int32.reduceToInt]; omega
theorem Sat.arv {h : Heap} {a : Addr} {ty : FieldType} {xs : List Int32} (S : Sat Z h a (.inr (.inl (ty, xs)))) (hl : xs.length < 2 ^ 31) : ∃ kc, Arv Z h a kc ty (Int32.ofNat xs.length) (xs.map Value.int) (.int 0) := by
  obtain ⟨-, c, A, hs, G⟩ := S
  refine ⟨c.cls, c, A, rfl, by rw [hs, (nat_i32 hl).1]; simp, (nat_i32 hl).2, fun i hi => ?_, fun i hi => ?_⟩
  · rw [hs] at hi ⊢; simp at hi; simp [hi]
  · rw [hs] at hi; simp at hi; simp [hi, G _ (List.getElem_mem hi)]
theorem Arv.sat {h : Heap} {a : Addr} {kc : ClassId} {ty : FieldType} {xs : List Int32} (V : Arv Z h a kc ty (Int32.ofNat xs.length) (xs.map Value.int) (.int 0)) (hl : xs.length < 2 ^ 31) (Eq : ty = .byte ∨ Exa Z h a ("[" ++ ty.toString)) : Sat Z h a (.inr (.inl (ty, xs))) := by
  obtain ⟨c, A, -, S, -, Hs, G⟩ := V
  rw [(nat_i32 hl).1] at S
  refine ⟨Eq, c, A, ?_, fun x hx => ?_⟩
  · refine Array.ext_getElem? fun i => ?_
    by_cases hi : i < c.slots.size
    · rw [Hs i hi]; rw [S] at hi; simp [hi]
    · rw [Array.getElem?_eq_none (Nat.le_of_not_lt hi)]; rw [S] at hi; symm; simp; omega
  · obtain ⟨i, hi, rfl⟩ := List.getElem_of_mem hx
    have := G i (by rw [S]; exact hi)
    simpa [hi] using this
theorem wp_arraycopyI {i i' : Nat} {a c' : Addr} {fl : Bool} {ty : FieldType} {xs ys : List Int32} {sp dp nn : Int32} {idx : Nat} (m1 m2 m3 : Nat) (hd : Dc bytes pc (.invokestatic idx) 3 pc') (w1 : (Cond.methodLink own idx Jvm.Stand.acN).before a0 Z = true) (w2 : (Cond.native Jvm.Stand.acN).before a0 Z = true) (w3 : (Cond.static Jvm.Stand.acN).before a0 Z = true) (w4 : (Cond.initialized "java/lang/System").before a0 Z = true) (hi : H[i]? = some (a, (fl, .inr (.inl (ty, xs))))) (hi' : H[i']? = some (c', oA ty ys)) (hp : refKind ty = false) (h1 : ¬ sp < 0) (h2 : ¬ dp < 0) (h3 : ¬ nn < 0) (e1 : sp.toNatClampNeg = m1) (e2 : dp.toNatClampNeg = m2) (e3 : nn.toNatClampNeg = m3) (h4 : m1 + m3 ≤ xs.length) (h5 : m2 + m3 ≤ ys.length) (hx31 : xs.length < 2 ^ 31) (hy31 : ys.length < 2 ^ 31) (hsz : Ls.size = maxL) (hf : 1 ≤ R.frames) (hl : (st.map fun v => v.category).sum + (nativeFrameWords "java/lang/System" "arraycopy" 5 + 11) ≤ R.locals) (hr : Wp b l Z own nm bytes maxL ret R (H.set i' (c', oA ty (ys.take m2 ++ (xs.drop m1).take m3 ++ ys.drop (m2 + m3)))) k j pc' Ls st Q) : Wp b l Z own nm bytes maxL ret R H k j pc Ls (.int nn :: .int dp :: .ref c' :: .int sp :: .ref a :: st) Q := by
  obtain ⟨hd, rfl⟩ := hd
  subst e1 e2 e3
  refine Wp.stepH fun p e s m args below meth c T L Dh hx hZ hby hml hown hnm hret X N hH => ?_
  obtain ⟨kc, V1⟩ := (hH.at hi).2.arv hx31
  obtain ⟨kd, V2⟩ := (hH.at hi').2.arv hy31
  obtain ⟨T', h', L', X', e', N', K', V', stp⟩ := cpA X hx hZ hown w1 w2 w3 w4 rfl V1 V2 (Or.inl ⟨rfl, hp⟩) h1 h2 h3 (by rw [(nat_i32 hx31).1]; exact h4) (by rw [(nat_i32 hy31).1]; exact h5) (us := ((xs.drop sp.toNatClampNeg).take nn.toNatClampNeg).map Value.int) (by
    refine List.ext_getElem? fun n => ?_
    simp only [List.getElem?_map, List.getElem?_range]
    by_cases hn : n < nn.toNatClampNeg
    · simp [hn, show sp.toNatClampNeg + n < xs.length by omega]
    · simp [hn]; omega) (by simpa using h5) N ((hH.at hi').1 rfl) (g := mkF m pc Ls (.int nn :: .int dp :: .ref c' :: .int sp :: .ref a :: st)) rfl (by rw [hml]; exact hsz) rfl (hb hby hd) hf (W := (st.map fun v => v.category).sum) (by show 2 * 0 + _ ≤ _; omega) hl
  subst e'
  have hlen : (ys.take dp.toNatClampNeg ++ (xs.drop sp.toNatClampNeg).take nn.toNatClampNeg ++ ys.drop (dp.toNatClampNeg + nn.toNatClampNeg)).length = ys.length := by
    simp only [List.length_append, List.length_take, List.length_drop]; omega
  refine ⟨T', L', k, j, _, _, Ls, st, X', K'.1, N', hH.setK hi' K' (Arv.sat (kc := kd) ?_ (by rw [hlen]; exact hy31) ((hH.at hi').2.1.imp id (·.keep K'))), hr, stp⟩
  rw [hlen]
  simpa [List.map_append, List.map_take, List.map_drop] using V'
theorem Hp.old {Dh : HD} {h : Heap} (P : Hp Z Dh h H) {a : Addr} {o : ObjB} (S : Sat Z Z.heap a o) : Hp Z Dh h ((a, (false, o)) :: H) :=
  ⟨P.1, fun x q => (List.mem_cons.mp q).elim (fun e => by subst e; exact ⟨(fun e => nomatch e), S.ext P.1⟩) fun q => P.2.1 x q,
    List.Pairwise.cons (fun y q t e => absurd ((P.2.1 y q).1 (t.elim (fun e => nomatch e) id)).1 (by rw [← e]; exact Nat.not_le.mpr S.lt)) P.2.2.1, P.2.2.2⟩
/-- an object of the start is laid to the list, only to be read -/
theorem Wp.old {a : Addr} {o : ObjB} (S : Sat Z Z.heap a o) (hr : Wp b l Z own nm bytes maxL ret R ((a, (false, o)) :: H) k j pc Ls st Q) : Wp b l Z own nm bytes maxL ret R H k j pc Ls st Q :=
  Wp.stepH fun p e s m args below meth c T L Dh hx hZ hby hml hown hnm hret X N hH => ⟨T, L, k, j, _, pc, Ls, st, X, Nat.le_refl _, N, hH.old S, hr, fun _ q => q⟩
abbrev sgStr : OSig := [("java/lang/String", "value", "[B"), ("java/lang/String", "coder", "B")]
abbrev oS (x : Value) : Obj := oI "java/lang/String" sgStr [x, .int 0]
abbrev rm4 (a b c d : Nat) : Room := { frames := a, cells := b, slots := c, locals := d }
theorem lb {n m : Nat} (h : Nat.ble n m = true) : n ≤ m := Nat.le_of_ble_eq_true h
abbrev strO (v : Addr) : Obj := fI "java/lang/String" sgStr [.ref v, .int 0]
theorem Fld.fun {h : Heap} {a : Addr} {C n d : String} {u v : Value} (F : Fld Z h a C n d u) (G : Fld Z h a C n d v) : u = v := by
  obtain ⟨c, cf, k, i, f, h1, h2, -, -, -, -, h7⟩ := F
  obtain ⟨c', cf', k', i', f', g1, g2, -, -, -, -, g7⟩ := G
  cases h1.symm.trans g1
  cases h2.symm.trans g2
  exact Option.some.inj (h7.symm.trans g7)
theorem str_old {a v : Addr} (slo : Slo Z sgStr) (E : Exa Z Z.heap a "java/lang/String") (F : Fld Z Z.heap a "java/lang/String" "value" "[B" (.ref v)) (G : Fld Z Z.heap a "java/lang/String" "coder" "B" (.int 0)) : Sat Z Z.heap a (.inl ("java/lang/String", sgStr, [.ref v, .int 0])) := by
  refine ⟨E, slo, fun i f u q r => ?_⟩
  rcases i with _ | _ | i
  · cases q; cases r; exact F
  · cases q; cases r; exact G
  · simp at q
/-- the contract of a body with an exception table (the walk throws nothing) -/
def MetX (l : Launch) (Z : State) (y : MethodName) (bytes : ByteArray) (maxL : Nat) (ret : Option FieldType) (hs : List (Nat × Nat × Nat × Nat)) (rm : Room) (as' : List Value) (H : OH) (Q : Option Value → OH → Prop) : Prop :=
  ∀ (ws : List Jvm.Cond) (h : Heap) (Dh : HD), Hp Z Dh h H → MetFree l y (head1 (Jvm.Cond.codeWith y bytes maxL ret hs :: ws) rm) (fun a U => a = as'.toArray ∧ Z.Warmed39 U.vm ∧ U.heap = h) (fun _ _ _ _ _ => True)
    (fun _ U o U' => ∃ v L, o = .returned v ∧ (Fr Z.heap.size L ∧ h.size ≤ U'.heap.size ∧ ∃ H', Hp Z Dh U'.heap H' ∧ Q v H') ∧ FrameEnd U o U' L rm.cells rm.slots)
theorem MetX.of_wp {y : MethodName} {hs : List (Nat × Nat × Nat × Nat)} {rm : Room} {as' : List Value} (hx : plainFor y = true) (hef : ∀ m, entryFrame m as'.toArray maxL = mkF m 0 Ls []) (hw : Wp none l Z y.cls y.name bytes maxL ret rm H 0 0 0 Ls [] Q) : MetX l Z y bytes maxL ret hs rm as' H Q := by
  intro ws h Dh hH
  refine MetFree.of_bodySF hx hisWith ?_
  intro p e s m args below meth c s₁ Bd hml0 hP hK
  obtain ⟨rfl, hZ, hh⟩ := hP
  have X0 : Stand p l e rm s m as'.toArray below meth c s₁ [] 0 0 := Stand.of_body Bd
  have e0 : s₁.heap = h := by rw [← hh, Bd.state]; rfl
  obtain ⟨T', v, L', k', j', vm1, k1, H', ⟨hS, hk1, hvm⟩, X', ⟨hc, hj, hsz⟩, N', ⟨D1, hH', hD1, -⟩, hv, hQ, stp⟩ := hw p e s s.vm 0 m as'.toArray below meth c s₁ [] Dh Bd.exec hZ ((State.WarmedH.refl s).since 0) (Nat.zero_le _) Bd.bytes hml0 (findClass_of_methodNamed Bd.named) (name_of_methodNamed Bd.named Bd.method).1 Bd.returns X0 (Fr.nil _) (by rw [e0]; exact hH) (fun _ q => nomatch q)
  obtain rfl := hvm rfl
  obtain rfl := hD1 rfl
  have X'' : Stand p l e rm s m as'.toArray below meth c T' L' k' j' := X'
  obtain ⟨fs, hr, hrun, hended, hW, hsame⟩ := X''.leave (v := v) (fun h => hv (Bd.returns.symm.trans h))
  refine ⟨_, _, castTop (hef m) (stp fs hr), hrun, hended, v, L', rfl, ⟨N', ?_, H', hH', hQ⟩, ⟨_, rfl⟩, hW, hsame.mono hc hj⟩
  rw [e0] at hsz; exact hsz
theorem Wp.frz {i : Nat} {a : Addr} {fl : Bool} {o : ObjB} (hi : H[i]? = some (a, (fl, o))) (hr : Wp b l Z own nm bytes maxL ret R (H.set i (a, (false, o))) k j pc Ls st Q) : Wp b l Z own nm bytes maxL ret R H k j pc Ls st Q :=
  Wp.stepH fun p e s m args below meth c T L Dh hx hZ hby hml hown hnm hret X N hH => ⟨T, L, k, j, _, pc, Ls, st, X, Nat.le_refl _, N, hH.frz hi, hr, fun _ q => q⟩
theorem Hp.swap {Dh : HD} {h : Heap} {x y : Addr × Obj} (P : Hp Z Dh h (x :: y :: H)) : Hp Z Dh h (y :: x :: H) := by
  obtain ⟨h1, h2⟩ := List.pairwise_cons.mp P.2.2.1
  obtain ⟨h3, h4⟩ := List.pairwise_cons.mp h2
  refine ⟨P.1, fun z q => ?_, List.Pairwise.cons (fun z q t e => ?_) (List.Pairwise.cons (fun z q => h1 z (List.mem_cons_of_mem _ q)) h4), P.2.2.2⟩
  · rcases List.mem_cons.mp q with rfl | q
    · exact P.2.1 _ (List.mem_cons_of_mem _ (List.mem_cons.mpr (Or.inl rfl)))
    · rcases List.mem_cons.mp q with rfl | q
      · exact P.2.1 _ (List.mem_cons.mpr (Or.inl rfl))
      · exact P.2.1 _ (List.mem_cons_of_mem _ (List.mem_cons_of_mem _ q))
  · rcases List.mem_cons.mp q with rfl | q
    · exact h1 y (List.mem_cons.mpr (Or.inl rfl)) t.symm e.symm
    · exact h3 z q t e
theorem Wp.swap {x y : Addr × Obj} (hr : Wp b l Z own nm bytes maxL ret R (y :: x :: H) k j pc Ls st Q) : Wp b l Z own nm bytes maxL ret R (x :: y :: H) k j pc Ls st Q :=
  Wp.stepH fun p e s m args below meth c T L Dh hx hZ hby hml hown hnm hret X N hH => ⟨T, L, k, j, _, pc, Ls, st, X, Nat.le_refl _, N, hH.swap, hr, fun _ q => q⟩
theorem Good.at {EL : List (String × Nat)} {Dh : HD} {p : Program} {e : Env} {s : State} {vm0 : Vm} {m : MethodId} {args : Array Value} {below : List Frame} {meth : Method} {c : Code} {T : State} {L : List Loc} (G : Good Z EL Dh vm0) (X : Stand p l e R (s.setVm vm0) m args below meth c T L k j) (hZ : Z.Warmed39 vm0) (hEL : Jvm.RoadKit.EW Z a0 EL) : Good Z EL Dh T.vm := fun h hh => by
  have q := Jvm.RoadKit.CHv.at X hZ hEL (G h hh).1
  exact ⟨q.1, fun y B => (q.2.2 y B).elim (fun B => (G h hh).2 y B) fun r => absurd B (Jvm.RoadKit.Safe.new r)⟩
theorem Good.start {EL : List (String × Nat)} {vm : Vm} (C : Jvm.RoadKit.CHv Z EL vm Z.heap) : Good Z EL (fun a c => Z.heap[a]? = some c) vm := fun h hh => by
  have q := C.step (h' := h) (fun y B cell r => hh y cell r)
  exact ⟨q.1, fun y B => (q.2 y B).there⟩
theorem Good.after {EL : List (String × Nat)} {vm : Vm} {h0 : Heap} (C : Jvm.RoadKit.CHv Z EL vm h0) : Good Z EL (fun y c => Jvm.RoadKit.Bk Z EL vm h0 y ∧ h0[y]? = some c) vm := fun h hh => by
  have q := C.step (h' := h) (fun y B cell r => hh y cell ⟨B, r⟩)
  refine ⟨q.1, fun y B => ?_⟩
  obtain ⟨c, hc⟩ := (q.2 y B).there
  exact ⟨c, q.2 y B, hc⟩
/-- ldc of a String constant of EL, its contents known -/
theorem wp_ldcH {text : String} {EL : List (String × Nat)} {idx n : Nat} (xs : List Int32) (hd : Dc bytes pc (.ldc idx) 2 pc') (w : (Cond.stringLink own idx text).before a0 Z = true) (wS : ∀ a ∈ Bundle.stringAtoms, a.before a0 Z = true) (slo : Slo Z sgStr) (hEL : Jvm.RoadKit.EW Z a0 EL) (hmem : (own, idx) ∈ EL) (ht : (∀ c ∈ text.toList, c.toNat < 256) ∧ text.toList.map (fun c => Value.int (Jvm.Lit.byteI c.toNat.toUInt16)) = xs.map Value.int) (h31 : xs.length < 2 ^ 31) (hn : 4 * text.toList.length ≤ n) (hbig : n ≤ 536870912) (hc : k + 2 ≤ R.cells) (hl : j + (n + 4) ≤ R.slots) (hr : ∀ a v, Wp (some EL) l Z own nm bytes maxL ret R ((a, strO v) :: (v, fA .byte xs) :: H) (k + 2) (j + (n + 4)) pc' Ls (.ref a :: st) Q) : Wp (some EL) l Z own nm bytes maxL ret R H k j pc Ls st Q := by
  obtain ⟨hd, rfl⟩ := hd
  intro p e s vm0 k0 m args below meth c T L Dh hx hZ hS hk hby hml hown hnm hret X N hH hB
  have C0 := hB EL rfl T.heap hH.2.2.2
  obtain ⟨a, T', h', k1, v, kc, X', e', E', hS', hk1, hZ', hown', A1, A2, A3, A4, l1, l2, C1, -, hne, stp⟩ := Jvm.RoadKit.ldcCH X hx hZ hown w wS rfl hS hk hEL hmem C0.1 (z := Int32.ofNat xs.length) ht (nat_i32 h31).2 (by rw [(nat_i32 h31).1]; simp) (g := mkF m pc Ls st) rfl (hb hby hd) hn hbig hc hl
  subst e'
  have far : ∀ y ∈ H, y.2.1 = true → Jvm.RoadKit.Safe Z EL T'.vm T'.heap y.1 := fun y q t => C1.safe (hH.2.1 y q).2.lt (fun B => by obtain ⟨c', hc'⟩ := C0.2 y.1 B; exact ((hH.2.1 y q).1 t).2 c' hc')
  have Sa : Sat Z T'.heap a (.inl ("java/lang/String", sgStr, [.ref v, .int 0])) := by
    refine ⟨A1, slo, fun i f u q r => ?_⟩
    rcases i with _ | _ | i
    · cases q; cases r; exact A3
    · cases q; cases r; exact A2
    · simp at q
  have Sv : Sat Z T'.heap v (.inr (.inl (.byte, xs))) := Arv.sat A4 h31 (Or.inl rfl)
  have H2 : Hp Z (fun y c => Jvm.RoadKit.Bk Z EL T'.vm T'.heap y ∧ T'.heap[y]? = some c) T'.heap ((a, strO v) :: (v, fA .byte xs) :: H) := by
    have h0 := hH.ext E'
    refine ⟨h0.1, fun x q => ?_, List.Pairwise.cons (fun y q t => ?_) (List.Pairwise.cons (fun y q t => ?_) h0.2.2.1), fun _ _ q => q.2⟩
    · rcases List.mem_cons.mp q with rfl | q
      · exact ⟨(fun e => nomatch e), Sa⟩
      · rcases List.mem_cons.mp q with rfl | q
        · exact ⟨(fun e => nomatch e), Sv⟩
        · exact ⟨fun t => ⟨((h0.2.1 x q).1 t).1, fun c B => far x q t B.1⟩, (h0.2.1 x q).2⟩
    · rcases List.mem_cons.mp q with rfl | q
      · rcases t with t | t <;> cases t
      · exact Ne.symm (hne _ (far y q (t.elim (fun e => nomatch e) id))).1
    · exact Ne.symm (hne _ (far y q (t.elim (fun e => nomatch e) id))).2
  obtain ⟨T2, u, L2, k2, j2, vm1, k3, H3, ⟨r0, r1, r2⟩, r3, ⟨r4, r5, r6⟩, r7, ⟨D1, r8, -, r8'⟩, r9, r10, r11⟩ := hr a v p e s T'.vm k1 m args below meth c T' L _ hx hZ' hS' hk1 hby hml hown' hnm hret X' N H2 (fun EL' q => by cases q; exact Good.after C1.1)
  exact ⟨T2, u, L2, k2, j2, vm1, k3, H3, ⟨r0, r1, fun q => nomatch q⟩, r3, ⟨r4, r5, Nat.le_trans E'.1 r6⟩, r7, ⟨D1, r8, (fun q => nomatch q), r8'⟩, r9, r10, fun fs hl => stp _ (r11 fs hl)⟩
/-- the contract of a body that may load the constants of EL -/
def MetI (EL : List (String × Nat)) (l : Launch) (Z : State) (y : MethodName) (bytes : ByteArray) (maxL : Nat) (ret : Option FieldType) (rm : Room) (as' : List Value) (H : OH) (Q : Option Value → OH → Prop) : Prop :=
  ∀ (ws : List Jvm.Cond) (h : Heap) (Dh : HD), Hp Z Dh h H → MetFree l y (head1 (Jvm.Cond.code y bytes maxL ret :: ws) rm) (fun a U => a = as'.toArray ∧ Z.Warmed39 U.vm ∧ U.heap = h ∧ Good Z EL Dh U.vm) (fun _ _ _ _ _ => True)
    (fun _ U o U' => ∃ v L, o = .returned v ∧ (Fr Z.heap.size L ∧ ∃ (H' : OH) (D1 : HD), Hp Z D1 U'.heap H' ∧ Good Z EL D1 U'.vm ∧ Q v H') ∧ ReturnedEndW U o U' L rm.cells rm.slots)
theorem MetI.of_wp {EL : List (String × Nat)} {y : MethodName} {rm : Room} {as' : List Value} (hx : plainFor y = true) (hef : ∀ m, entryFrame m as'.toArray maxL = mkF m 0 Ls []) (hEL : Jvm.RoadKit.EW Z a0 EL) (hw : Wp (some EL) l Z y.cls y.name bytes maxL ret rm H 0 0 0 Ls [] Q) : MetI EL l Z y bytes maxL ret rm as' H Q := by
  intro ws h Dh hH
  refine MetFree.of_bodySF hx hisR ?_
  intro p e s m args below meth c s₁ Bd hml0 hP hK
  obtain ⟨rfl, hZ, hh, hB⟩ := hP
  have X0 : Stand p l e rm s m as'.toArray below meth c s₁ [] 0 0 := Stand.of_body Bd
  have e0 : s₁.heap = h := by rw [← hh, Bd.state]; rfl
  obtain ⟨T', v, L', k', j', vm1, k1, H', ⟨hS, hk1, -⟩, X', ⟨hc, hj, hsz⟩, N', ⟨D1, hH', -, hB'⟩, hv, hQ, stp⟩ := hw p e s s.vm 0 m as'.toArray below meth c s₁ [] Dh Bd.exec hZ ((State.WarmedH.refl s).since 0) (Nat.zero_le _) Bd.bytes hml0 (findClass_of_methodNamed Bd.named) (name_of_methodNamed Bd.named Bd.method).1 Bd.returns X0 (Fr.nil _) (by rw [e0]; exact hH) (fun EL' q => by cases q; exact hB)
  obtain ⟨fs, hr, hrun, hended, q1, q2, q3, q4⟩ := X'.leaveW hS hk1 (v := v) (fun h => hv (Bd.returns.symm.trans h))
  have hG := (hB' EL rfl).at X' (State.Warmed39.trans (t := s) hZ hS.1) hEL
  exact ⟨_, _, castTop (hef m) (stp fs hr), hrun, hended, v, L', rfl, ⟨N', H', D1, hH', hG, hQ⟩, q1, q2, q3, q4.mono hc hj⟩
theorem backI {EL : List (String × Nat)} {Dh : HD} {h : Heap} {p : Program} {e : Env} {s : State} {args : Array Value} {below : List Frame} {vm0 : Vm} {y : MethodName} {bytes' : ByteArray} {maxL' : Nat} {ret' : Option FieldType} {rm : Room} {len W : Nat} {as' : List Value} (M : MetI EL l Z y bytes' maxL' ret' rm as' H Q) (hH : Hp Z Dh h H) (G : Good Z EL Dh vm0) (hZ : Z.Warmed39 vm0) (wc : (Cond.code y bytes' maxL' ret').before a0 Z = true) (wz : (Cond.initialized y.cls).before a0 Z = true) (hf : rm.frames + 1 ≤ R.frames) (hl : W + (maxL' + 11) + rm.locals ≤ R.locals) (hEL : Jvm.RoadKit.EW Z a0 EL) :
    BackS l R p e below (s.setVm vm0) args y len W (fun A a => a = as'.toArray ∧ A.U.heap = h ∧ A.cells + rm.cells ≤ R.cells ∧ A.slots + rm.slots ≤ R.slots)
      (fun A _ v B => ∃ L, (Fr Z.heap.size L ∧ ∃ (H' : OH) (D1 : HD), Hp Z D1 B.U.heap H' ∧ Good Z EL D1 B.U.vm ∧ Q v H') ∧ B.locs = A.locs ++ L ∧ B.cells = A.cells + rm.cells ∧ B.slots = A.slots + rm.slots) :=
  BackS.of_freeW (bytes := bytes') (maxL := maxL') (ret := ret') (E := fun _ _ o t L k n => k = rm.cells ∧ n = rm.slots ∧ ∃ v, o = .returned v ∧ (Fr Z.heap.size L ∧ ∃ (H' : OH) (D1 : HD), Hp Z D1 t.heap H' ∧ Good Z EL D1 t.vm ∧ Q v H')) (M [] h Dh hH) hf hl
    (fun m meth c A a Y hp => have hU : Z.Warmed39 A.U.vm := wtrans (s := s.setVm vm0) hZ Y.warmed
      ⟨by show (Cond.and _ .tt).before a A.U = true; rw [Cond.before_and, mv hU wc]; rfl, mv hU wc, mv hU wz, hp.2.2.1, hp.2.2.2⟩)
    (fun m meth c A a g mk Y hp => have hG : Good Z EL Dh A.U.vm := G.at Y hZ hEL
      ⟨hp.1, wtrans (s := s.setVm vm0) hZ Y.warmed, hp.2.1, hG⟩) (fun _ _ _ _ _ _ _ _ _ => trivial)
    (fun _ _ _ _ ⟨v, L, h1, h2, h3⟩ => ⟨L, _, _, h3, rfl, rfl, v, h1, h2⟩)
    (fun m meth c A a g mk v t L k n Y hp _ _ ⟨e1, e2, v', e3, e4⟩ => by cases e3; subst e1 e2; exact ⟨L, e4, rfl, rfl, rfl⟩)
theorem wp_callSI {EL : List (String × Nat)} {y : MethodName} {bytes' : ByteArray} {maxL' : Nat} {ret' : Option FieldType} {rm : Room} {rest : List Value} {Q' : Option Value → OH → Prop} {idx : Nat} {ps : List FieldType} {rt : Option FieldType} {as' : List Value} (M : MetI EL l Z y bytes' maxL' ret' rm as' H Q') (hEL : Jvm.RoadKit.EW Z a0 EL) (hd : Dc bytes pc (.invokestatic idx) 3 pc') (w1 : (Cond.methodLink own idx y).before a0 Z = true) (w2 : (Cond.static y).before a0 Z = true) (w3 : (Cond.initialized y.cls).before a0 Z = true) (w4 : (Cond.code y bytes' maxL' ret').before a0 Z = true) (hy : y.cls ≠ "java/lang/invoke/MethodHandle" ∧ y.cls ≠ "java/lang/invoke/VarHandle") (hpd : parseMethodDescriptor y.desc = some ⟨ps, rt⟩) (hlen : as'.length = ps.length) (hst : st = as'.reverse ++ rest) (hsz : Ls.size = maxL) (hf : rm.frames + 1 ≤ R.frames) (hl : (rest.map fun v => v.category).sum + (maxL' + 11) + rm.locals ≤ R.locals) (hc : k + rm.cells ≤ R.cells) (hj : j + rm.slots ≤ R.slots) (hr : ∀ v H', Q' v H' → Wp (some EL) l Z own nm bytes maxL ret R H' (k + rm.cells) (j + rm.slots) pc' Ls (v.toList ++ rest) Q) : Wp (some EL) l Z own nm bytes maxL ret R H k j pc Ls st Q := by
  obtain ⟨hd, rfl⟩ := hd
  intro p e s vm0 k0 m args below meth c T L Dh hx hZ hS hk hby hml hown hnm hret X N hH hB
  have hZv : Z.Warmed39 (s.setVm vm0).vm := hZ
  have hownv : (s.setVm vm0).vm.findClass own = some m.cls := hown
  obtain ⟨v, _, ⟨T', L', k', n'⟩, -, X', hS2, hsz', ⟨Lc, ⟨N', H', D1, hH', G', hQ⟩, l1, y1, z1⟩, stp⟩ := Jvm.RoadKit.callSS X hx (y := y) hownv (mvT hZv w1) (mvT hZv w2) (mvT hZv w3) (mvT hZv w4) hy (backI (s := s) (W := (rest.map fun v => v.category).sum) M hH (hB EL rfl) hZ w4 w3 hf hl hEL) (g := mkF m pc Ls st) rfl (by rw [hml]; exact hsz) (argsL := as') (rest := rest) (lenOf hpd hlen) hst (by show 2 * 0 + _ ≤ _; omega) (hb hby hd) (fun _ _ => ⟨rfl, rfl, hc, hj⟩)
  dsimp only [Pt.U, Pt.locs, Pt.cells, Pt.slots] at X' l1 y1 z1 stp hH' hsz' G' hS2
  subst l1 y1 z1
  have hS3 : s.Since T'.vm T'.heap.size := hS.trans hS2 (Nat.le_trans hk hsz')
  have hZ3 : Z.Warmed39 T'.vm := State.Warmed39.trans (t := s.setVm vm0) hZ hS2.1
  obtain ⟨T2, u, L2, k2, j2, vm1, k3, H3, ⟨r0, r1, r2⟩, r3, ⟨r4, r5, r6⟩, r7, ⟨D2, r8, -, r8'⟩, r9, r10, r11⟩ := hr v H' hQ p e s T'.vm _ m args below meth c T' _ D1 hx hZ3 hS3 (Nat.le_refl _) hby hml (by rw [hS2.1.alike.findClass]; exact hown) hnm hret X' (N.app N') hH' (fun EL' q => by cases q; exact G')
  exact ⟨T2, u, L2, k2, j2, vm1, k3, H3, ⟨r0, r1, fun q => nomatch q⟩, r3, ⟨r4, r5, Nat.le_trans hsz' r6⟩, r7, ⟨D2, r8, (fun q => nomatch q), r8'⟩, r9, r10, fun fs hl => stp.trans (r11 fs hl)⟩
theorem wp_initI {EL : List (String × Nat)} {y : MethodName} {bytes' : ByteArray} {maxL' : Nat} {rm : Room} {rest : List Value} {Q' : Option Value → OH → Prop} {idx : Nat} {ps : List FieldType} {rt : Option FieldType} {a : Addr} {as' : List Value} (M : MetI EL l Z y bytes' maxL' none rm (.ref a :: as') H Q') (hEL : Jvm.RoadKit.EW Z a0 EL) (hd : Dc bytes pc (.invokespecial idx) 3 pc') (hin : y.name = "<init>") (w1 : (Cond.methodLink own idx y).before a0 Z = true) (w2 : (Cond.instanceMethod y).before a0 Z = true) (w3 : (Cond.initialized y.cls).before a0 Z = true) (w4 : (Cond.code y bytes' maxL' none).before a0 Z = true) (hy : y.cls ≠ "java/lang/invoke/MethodHandle" ∧ y.cls ≠ "java/lang/invoke/VarHandle") (hpd : parseMethodDescriptor y.desc = some ⟨ps, rt⟩) (hlen : as'.length = ps.length) (hst : st = as'.reverse ++ .ref a :: rest) (hsz : Ls.size = maxL) (hf : rm.frames + 1 ≤ R.frames) (hl : (rest.map fun v => v.category).sum + (maxL' + 11) + rm.locals ≤ R.locals) (hc : k + rm.cells ≤ R.cells) (hj : j + rm.slots ≤ R.slots) (hr : ∀ v H', Q' v H' → Wp (some EL) l Z own nm bytes maxL ret R H' (k + rm.cells) (j + rm.slots) pc' Ls (v.toList ++ rest) Q) : Wp (some EL) l Z own nm bytes maxL ret R H k j pc Ls st Q := by
  obtain ⟨hd, rfl⟩ := hd
  intro p e s vm0 k0 m args below meth c T L Dh hx hZ hS hk hby hml hown hnm hret X N hH hB
  have hZv : Z.Warmed39 (s.setVm vm0).vm := hZ
  have hownv : (s.setVm vm0).vm.findClass own = some m.cls := hown
  obtain ⟨v, _, ⟨T', L', k', n'⟩, -, X', hS2, hsz', ⟨Lc, ⟨N', H', D1, hH', G', hQ⟩, l1, y1, z1⟩, stp⟩ := X.specialBackS hx (y := y) hin hownv (mvT hZv w1) (mvT hZv w2) (mvT hZv w4) hy (backI (s := s) (W := (rest.map fun v => v.category).sum) M hH (hB EL rfl) hZ w4 w3 hf hl hEL) (g := mkF m pc Ls st) rfl (by rw [hml]; exact hsz) (Steps.refl _) (a := a) (argsL := as') (rest := rest) (lenOf hpd hlen) hst (by show 2 * 0 + _ ≤ _; omega) (hb hby hd) (fun _ _ => ⟨rfl, rfl, hc, hj⟩)
  dsimp only [Pt.U, Pt.locs, Pt.cells, Pt.slots] at X' l1 y1 z1 stp hH' hsz' G' hS2
  subst l1 y1 z1
  have hS3 : s.Since T'.vm T'.heap.size := hS.trans hS2 (Nat.le_trans hk hsz')
  have hZ3 : Z.Warmed39 T'.vm := State.Warmed39.trans (t := s.setVm vm0) hZ hS2.1
  obtain ⟨T2, u, L2, k2, j2, vm1, k3, H3, ⟨r0, r1, r2⟩, r3, ⟨r4, r5, r6⟩, r7, ⟨D2, r8, -, r8'⟩, r9, r10, r11⟩ := hr v H' hQ p e s T'.vm _ m args below meth c T' _ D1 hx hZ3 hS3 (Nat.le_refl _) hby hml (by rw [hS2.1.alike.findClass]; exact hown) hnm hret X' (N.app N') hH' (fun EL' q => by cases q; exact G')
  exact ⟨T2, u, L2, k2, j2, vm1, k3, H3, ⟨r0, r1, fun q => nomatch q⟩, r3, ⟨r4, r5, Nat.le_trans hsz' r6⟩, r7, ⟨D2, r8, (fun q => nomatch q), r8'⟩, r9, r10, fun fs hl => stp.trans (r11 fs hl)⟩
theorem wp_virtualI {EL : List (String × Nat)} {y : MethodName} {bytes' : ByteArray} {maxL' : Nat} {ret' : Option FieldType} {rm : Room} {rest : List Value} {Q' : Option Value → OH → Prop} {idx : Nat} {ps : List FieldType} {rt : Option FieldType} {x : MethodName} {C : String} {a : Addr} {as' : List Value} (M : MetI EL l Z y bytes' maxL' ret' rm (.ref a :: as') H Q') (E : ExaAt Z H a C) (hEL : Jvm.RoadKit.EW Z a0 EL) (hd : Dc bytes pc (.invokevirtual idx) 3 pc') (w1 : (Cond.methodLink own idx x).before a0 Z = true) (w2 : (Cond.declares x).before a0 Z = true) (wn : (Cond.selects x.cls x x).before a0 Z = true) (ws : (Cond.selects C x y).before a0 Z = true) (wi : (Cond.instanceMethod y).before a0 Z = true) (w3 : (Cond.initialized y.cls).before a0 Z = true) (w4 : (Cond.code y bytes' maxL' ret').before a0 Z = true) (hy : x.cls ≠ "java/lang/invoke/MethodHandle" ∧ x.cls ≠ "java/lang/invoke/VarHandle") (hpd : parseMethodDescriptor x.desc = some ⟨ps, rt⟩) (hlen : as'.length = ps.length) (hst : st = as'.reverse ++ .ref a :: rest) (hsz : Ls.size = maxL) (hf : rm.frames + 1 ≤ R.frames) (hl : (rest.map fun v => v.category).sum + (maxL' + 11) + rm.locals ≤ R.locals) (hc : k + rm.cells ≤ R.cells) (hj : j + rm.slots ≤ R.slots) (hr : ∀ v H', Q' v H' → Wp (some EL) l Z own nm bytes maxL ret R H' (k + rm.cells) (j + rm.slots) pc' Ls (v.toList ++ rest) Q) : Wp (some EL) l Z own nm bytes maxL ret R H k j pc Ls st Q := by
  obtain ⟨hd, rfl⟩ := hd
  intro p e s vm0 k0 m args below meth c T L Dh hx hZ hS hk hby hml hown hnm hret X N hH hB
  have hZv : Z.Warmed39 (s.setVm vm0).vm := hZ
  have hownv : (s.setVm vm0).vm.findClass own = some m.cls := hown
  obtain ⟨cq, kq, q1, q2, q3⟩ := isOf (s := s.setVm vm0) hZ rfl (E _ hH)
  obtain ⟨v, _, ⟨T', L', k', n'⟩, -, X', hS2, hsz', ⟨Lc, ⟨N', H', D1, hH', G', hQ⟩, l1, y1, z1⟩, stp⟩ := X.virtualBackS hx (y := x) (z := y) hownv (mvT hZv w1) (mvT hZv w2) (notFace_of_selects (args := #[]) (mvT hZv wn)) (mvT hZv ws) (mvT hZv wi) hy (backI (s := s) (W := (rest.map fun v => v.category).sum) M hH (hB EL rfl) hZ w4 w3 hf hl hEL) q1 q3 (g := mkF m pc Ls st) rfl (by rw [hml]; exact hsz) (Steps.refl _) (argsL := as') (rest := rest) (lenOf hpd hlen) hst (by show 2 * 0 + _ ≤ _; omega) (hb hby hd) (fun _ _ => ⟨rfl, rfl, hc, hj⟩)
  dsimp only [Pt.U, Pt.locs, Pt.cells, Pt.slots] at X' l1 y1 z1 stp hH' hsz' G' hS2
  subst l1 y1 z1
  have hS3 : s.Since T'.vm T'.heap.size := hS.trans hS2 (Nat.le_trans hk hsz')
  have hZ3 : Z.Warmed39 T'.vm := State.Warmed39.trans (t := s.setVm vm0) hZ hS2.1
  obtain ⟨T2, u, L2, k2, j2, vm1, k3, H3, ⟨r0, r1, r2⟩, r3, ⟨r4, r5, r6⟩, r7, ⟨D2, r8, -, r8'⟩, r9, r10, r11⟩ := hr v H' hQ p e s T'.vm _ m args below meth c T' _ D1 hx hZ3 hS3 (Nat.le_refl _) hby hml (by rw [hS2.1.alike.findClass]; exact hown) hnm hret X' (N.app N') hH' (fun EL' q => by cases q; exact G')
  exact ⟨T2, u, L2, k2, j2, vm1, k3, H3, ⟨r0, r1, fun q => nomatch q⟩, r3, ⟨r4, r5, Nat.le_trans hsz' r6⟩, r7, ⟨D2, r8, (fun q => nomatch q), r8'⟩, r9, r10, fun fs hl => stp.trans (r11 fs hl)⟩
end Own
def HW (Z : State) (a0 : Array Value) : Prop := ∀ d ∈ tables_1, d.before a0 Z = true
theorem gw {Z : State} {a0 : Array Value} (hw : HW Z a0) (i : Nat) {d : Jvm.Cond} (e : tables_1[i]? = some d) : d.before a0 Z = true := hw d (List.mem_of_getElem? e)
def Std (Z : State) (cp : Int32) (fm : Value) : Prop := Sta Z Z.heap "java/lang/String" "COMPACT_STRINGS" "Z" (.int cp) ∧ (¬ cp = 0) ∧ Sta Z Z.heap "jdk/internal/util/Preconditions" "SIOOBE_FORMATTER" "Ljava/util/function/BiFunction;" fm ∧ fm.isRef = true
theorem laid_sgStr (l : Launch) (Z : State) (a0 : Array Value) (hw : HW Z a0) : ∀ f ∈ sgStr, Laid Z a0 "java/lang/String" f.1 f.2.1 f.2.2 := all_cons (Or.inr (gw hw 25 rfl)) (all_cons (Or.inr (gw hw 26 rfl)) all_nil)
theorem dfl_sgStr : Dfl sgStr [.null, .int 0] := ⟨⟨(.array .byte), by decide +kernel, rfl⟩, ⟨.byte, by decide +kernel, rfl⟩, trivial⟩
theorem own_slo (l : Launch) (Z : State) (a0 : Array Value) (hw : HW Z a0) : Slo Z sgStr := slo_of dfl_sgStr (laid_sgStr l Z a0 hw) (by decide)
theorem own_len {args : Array Value} {s : State} {t : Term} {x : Addr} {cl : Cell} {ty : FieldType} {n : Int32} (h : (Cond.eq (Term.length t) (Term.int n)).value args s none s [] = some true) (ht : t.eval args s none [] s = some (.ref x)) (A : Arr s s.heap x cl ty) : cl.slots.size = n.toNatClampNeg := by
  have h' := Cond.eq_int (Cond.before_iff.mpr h) rfl
  have ha : s.arrayAt? x = some cl := Arr.fin (State.Warmed39.refl s).alike A
  by_cases hl : cl.slots.size < 2 ^ 31
  · rw [len_f ht ha hl] at h'
    have e : cl.slots.size.toInt32 = n := by injection (Option.some.inj h')
    rw [← e]; exact (nat_i32 hl).1.symm
  · exfalso
    simp [Term.eval, ht, ha, hl] at h'
theorem own_elem {args : Array Value} {s : State} {t : Term} {x : Addr} {cl : Cell} {ty : FieldType} {i n : Int32} (h : (Cond.eq (Term.elem t (Term.int i)) (Term.int n)).value args s none s [] = some true) (ht : t.eval args s none [] s = some (.ref x)) (A : Arr s s.heap x cl ty) : cl.slots[i.toNatClampNeg]? = some (.int n) :=
  (elem_in (Cond.eq_int (Cond.before_iff.mpr h) rfl) ht (Term.int_eval i) A.1).2
theorem own_str {args : Array Value} {s : State} {u : Term} (slo : Slo s sgStr) (h1 : (Cond.exactly u "java/lang/String").value args s none s [] = some true) (h2 : (Cond.eq (Term.field u "java/lang/String" "coder" "B") (Term.int 0)).value args s none s [] = some true) (h3 : (Cond.arrayOf (Term.field u "java/lang/String" "value" "[B") .byte).value args s none s [] = some true) :
    ∃ a v cl, u.eval args s none [] s = some (.ref a) ∧ Sat s s.heap a (.inl ("java/lang/String", sgStr, [.ref v, .int 0])) ∧ (Term.field u "java/lang/String" "value" "[B").eval args s none [] s = some (.ref v) ∧ Arr s s.heap v cl .byte := by
  obtain ⟨a, e⟩ := exa_v h1
  obtain ⟨v, ev⟩ := arr_v h3
  obtain ⟨cl, A⟩ := Arr.start ev h3
  exact ⟨a, v, cl, e, str_old slo (Exa.start e h1) (Fld.start ((fld_at e).symm.trans ev)) (fld_of e h2), ev, A⟩
theorem own_b0 {s : State} {v : Addr} {cl : Cell} (A : Arr s s.heap v cl .byte) (h : cl.slots.size = (0 : Int32).toNatClampNeg) : Sat s s.heap v (.inr (.inl (.byte, []))) := by
  refine ⟨Or.inl rfl, cl, A, ?_, fun x hx => nomatch hx⟩
  exact Array.eq_empty_of_size_eq_zero h
theorem own_b1 {s : State} {v : Addr} {cl : Cell} {c : Int32} (A : Arr s s.heap v cl .byte) (h : cl.slots.size = (1 : Int32).toNatClampNeg) (h0 : cl.slots[(0 : Int32).toNatClampNeg]? = some (.int c)) (hf : fits .byte (.int c) = true) : Sat s s.heap v (.inr (.inl (.byte, [c]))) := by
  refine ⟨Or.inl rfl, cl, A, ?_, fun x hx => by cases List.mem_singleton.mp hx; exact hf⟩
  refine Array.ext_getElem? fun i => ?_
  rcases i with _ | i
  · exact h0
  · rw [Array.getElem?_eq_none (by rw [h]; show 1 ≤ _; omega)]; rfl
theorem own_nz {args : Array Value} {s : State} {t : Term} {c : Int32} (e : t.eval args s none [] s = some (.int c)) (h : (Cond.not (Cond.eq t (Term.int 0))).before args s = true) : ¬ c = 0 := by
  rintro rfl
  have h' := Cond.before_iff.mp h
  simp [Cond.value, e, Term.int_eval] at h'
theorem own_wS (l : Launch) (Z : State) (a0 : Array Value) (hw : HW Z a0) : ∀ a ∈ Bundle.stringAtoms, a.before a0 Z = true := by
  intro d hd
  simp only [Bundle.stringAtoms, List.mem_cons, List.not_mem_nil, or_false] at hd
  rcases hd with rfl | rfl | rfl | rfl | rfl | rfl | rfl
  · exact (gw hw 12 rfl)
  · exact (gw hw 11 rfl)
  · exact (gw hw 24 rfl)
  · exact (gw hw 25 rfl)
  · exact (gw hw 26 rfl)
  · exact (gw hw 27 rfl)
  · exact (gw hw 28 rfl)
theorem own_EL (l : Launch) (Z : State) (a0 : Array Value) (hw : HW Z a0) : Jvm.RoadKit.EW Z a0 consts_1 := (Jvm.RoadKit.EW.cons (text := "") (gw hw 23 rfl) (by decide) (Jvm.RoadKit.EW.cons (text := "") (gw hw 171 rfl) (by decide) Jvm.RoadKit.EW.nil))
theorem own_ch_all : ∀ n, n < 256 → 0 ≤ (nar .char (Int32.ofNat n).toUInt32.toUInt16.toUInt32.toInt32).toInt ∧ (nar .char (Int32.ofNat n).toUInt32.toUInt16.toUInt32.toInt32).toInt ≤ 255 := by decide +kernel
theorem own_of (y : Int32) (h : 0 ≤ y.toInt ∧ y.toInt ≤ 255) : y = Int32.ofNat y.toNatClampNeg ∧ y.toNatClampNeg < 256 := by
  have h2 : y.toNatClampNeg < 256 := by simp only [Int32.toNatClampNeg]; omega
  refine ⟨Int32.toInt_inj.mp ?_, h2⟩
  rw [Int32.toInt_ofNat_of_lt (by omega)]; simp only [Int32.toNatClampNeg]; omega
theorem own_m255 (x : Int32) : 0 ≤ (x &&& 255).toInt ∧ (x &&& 255).toInt ≤ 255 := by
  have h : (x &&& 255).toInt = x.toInt % 256 := c_mask x 255 8 (by decide) (by decide)
  omega
theorem own_ch (x : Int32) : 0 ≤ (nar .char (x &&& 255).toUInt32.toUInt16.toUInt32.toInt32).toInt ∧ (nar .char (x &&& 255).toUInt32.toUInt16.toUInt32.toInt32).toInt ≤ 255 := by
  have h := own_of (x &&& 255) (own_m255 x)
  rw [h.1]
  exact own_ch_all _ h.2
theorem own_of8 (c : Int32) (h : 0 ≤ c.toInt ∧ c.toInt ≤ 255) : c = Int32.ofNat c.toNatClampNeg ∧ c.toNatClampNeg < 256 := own_of c h
def byt (c : Int32) : Int32 := nar .byte c.toInt8.toInt32
def ub (y : Int32) : Int32 := nar .char (nar .char (y &&& 255).toUInt32.toUInt16.toUInt32.toInt32)
theorem own_ub_all : ∀ n, n < 256 → ub (nar .byte (Int32.ofNat n).toInt8.toInt32) = Int32.ofNat n := by decide +kernel
theorem own_ub (c : Int32) (h : 0 ≤ c.toInt ∧ c.toInt ≤ 255) : ub (nar .byte c.toInt8.toInt32) = c := by
  have q := own_of c h
  rw [q.1]
  exact own_ub_all _ q.2
theorem own_nc_all : ∀ n, n < 256 → nar .char (Int32.ofNat n) = Int32.ofNat n := by decide +kernel
theorem own_nc (c : Int32) (h : 0 ≤ c.toInt ∧ c.toInt ≤ 255) : nar .char c = c := by
  have q := own_of c h
  rw [q.1]
  exact own_nc_all _ q.2
theorem own_35_all : ∀ n, n < 256 → nar .byte (Int32.ofNat n).toInt8.toInt32 = 35 → n = 35 := by decide +kernel
theorem own_35 (c : Int32) (h : 0 ≤ c.toInt ∧ c.toInt ≤ 255) (hn : ¬ c = 35) : ¬ nar .byte c.toInt8.toInt32 = 35 := by
  have q := own_of c h
  intro e
  rw [q.1] at e
  have e2 := own_35_all _ q.2 e
  exact hn (q.1.trans (congrArg Int32.ofNat e2))
theorem own_mod5 (x : Int32) : (x &&& 2147483647) % 5 = 0 ∨ (x &&& 2147483647) % 5 = 1 ∨ (x &&& 2147483647) % 5 = 2 ∨ (x &&& 2147483647) % 5 = 3 ∨ (x &&& 2147483647) % 5 = 4 := by
  have h1 : (x &&& 2147483647).toInt = x.toInt % 2147483648 := c_mask x 2147483647 31 (by decide) (by decide)
  have h2 := (c_irem (x &&& 2147483647) 5 5 (by decide)).1 (by rw [h1]; omega)
  simp only [← Int32.toInt_inj, Int32.reduceToInt]
  omega
theorem own_35y (c : Int32) (h : c = 35) : nar .byte c.toInt8.toInt32 = 35 := by subst h; decide
def Q_c_cm5_1 (b s q : Addr) (c0 : Int32) (F : OH) : Option Value → OH → Prop := fun w' H' => w' = some (.int 1) ∧ H' = ((b, oA .byte [(nar .byte c0.toInt8.toInt32)]) :: (s, oS (.null)) :: (q, oA .char [c0]) :: F)
theorem pd_1 : parseMethodDescriptor "([CI[BII)I" = some ⟨[(.array .char), .int, (.array .byte), .int, .int], (some .int)⟩ := by decide +kernel
theorem pn_1 : plainFor (⟨"java/lang/StringUTF16", "compress", "([CI[BII)I"⟩ : MethodName) = true := by first | exact plainFor_of_name (by first | (simp [plainName, overriddenIn]; done) | decide +kernel) | decide +kernel
theorem D_jdk_52_m21_0 : Dc jdk_52_method_21_code 0 (.iconst 0) 1 1 := ⟨by decide +kernel, rfl⟩
theorem D_jdk_52_m21_1 : Dc jdk_52_method_21_code 1 (.istore 5) 2 3 := ⟨by decide +kernel, rfl⟩
theorem D_jdk_52_m21_3 : Dc jdk_52_method_21_code 3 (.iload 5) 2 5 := ⟨by decide +kernel, rfl⟩
theorem D_jdk_52_m21_5 : Dc jdk_52_method_21_code 5 (.iload 4) 2 7 := ⟨by decide +kernel, rfl⟩
theorem D_jdk_52_m21_7 : Dc jdk_52_method_21_code 7 (.if_icmp .ge 37) 3 10 := ⟨by decide +kernel, rfl⟩
theorem D_jdk_52_m21_10 : Dc jdk_52_method_21_code 10 (.aload_n 0) 1 11 := ⟨by decide +kernel, rfl⟩
theorem D_jdk_52_m21_11 : Dc jdk_52_method_21_code 11 (.iload_n 1) 1 12 := ⟨by decide +kernel, rfl⟩
theorem D_jdk_52_m21_12 : Dc jdk_52_method_21_code 12 (.caload) 1 13 := ⟨by decide +kernel, rfl⟩
theorem D_jdk_52_m21_13 : Dc jdk_52_method_21_code 13 (.istore 6) 2 15 := ⟨by decide +kernel, rfl⟩
theorem D_jdk_52_m21_15 : Dc jdk_52_method_21_code 15 (.iload 6) 2 17 := ⟨by decide +kernel, rfl⟩
theorem D_jdk_52_m21_17 : Dc jdk_52_method_21_code 17 (.sipush 255) 3 20 := ⟨by decide +kernel, rfl⟩
theorem D_jdk_52_m21_20 : Dc jdk_52_method_21_code 20 (.if_icmp .le 6) 3 23 := ⟨by decide +kernel, rfl⟩
theorem D_jdk_52_m21_26 : Dc jdk_52_method_21_code 26 (.aload_n 2) 1 27 := ⟨by decide +kernel, rfl⟩
theorem D_jdk_52_m21_27 : Dc jdk_52_method_21_code 27 (.iload_n 3) 1 28 := ⟨by decide +kernel, rfl⟩
theorem D_jdk_52_m21_28 : Dc jdk_52_method_21_code 28 (.iload 6) 2 30 := ⟨by decide +kernel, rfl⟩
theorem D_jdk_52_m21_30 : Dc jdk_52_method_21_code 30 (.i2b) 1 31 := ⟨by decide +kernel, rfl⟩
theorem D_jdk_52_m21_31 : Dc jdk_52_method_21_code 31 (.bastore) 1 32 := ⟨by decide +kernel, rfl⟩
theorem D_jdk_52_m21_32 : Dc jdk_52_method_21_code 32 (.iinc 1 1) 3 35 := ⟨by decide +kernel, rfl⟩
theorem D_jdk_52_m21_35 : Dc jdk_52_method_21_code 35 (.iinc 3 1) 3 38 := ⟨by decide +kernel, rfl⟩
theorem D_jdk_52_m21_38 : Dc jdk_52_method_21_code 38 (.iinc 5 1) 3 41 := ⟨by decide +kernel, rfl⟩
theorem D_jdk_52_m21_41 : Dc jdk_52_method_21_code 41 (.goto (-38)) 3 44 := ⟨by decide +kernel, rfl⟩
theorem D_jdk_52_m21_44 : Dc jdk_52_method_21_code 44 (.iload 4) 2 46 := ⟨by decide +kernel, rfl⟩
theorem D_jdk_52_m21_46 : Dc jdk_52_method_21_code 46 (.ireturn) 1 47 := ⟨by decide +kernel, rfl⟩
abbrev W1 (l : Launch) (Z : State) := Wp none l Z "java/lang/StringUTF16" "compress" jdk_52_method_21_code 7 (some .int)
set_option maxRecDepth 65536 in
set_option maxHeartbeats 40000000 in
theorem c_cm5_1 (l : Launch) (Z : State) (a0 : Array Value) (hw : HW Z a0) (b s q : Addr) (c0 : Int32) (F : OH) (h_c0 : 0 ≤ c0.toInt ∧ c0.toInt ≤ 255) :
    Met l Z (⟨"java/lang/StringUTF16", "compress", "([CI[BII)I"⟩ : MethodName) jdk_52_method_21_code 7 (some .int) (rm4 0 0 0 0) [(.ref q), (.int 0), (.ref b), (.int 0), (.int 1)] ((b, oA .byte [(0 : Int32)]) :: (s, oS (.null)) :: (q, oA .char [c0]) :: F) (Q_c_cm5_1 b s q c0 F) := by
  refine Met.of_wp (Ls := #[.val (.ref q), .val (.int 0), .val (.ref b), .val (.int 0), .val (.int 1), .unset, .unset]) pn_1 (fun m => (entry_loc m _ _).trans rfl) ?_
  show W1 l Z (rm4 0 0 0 0) ((b, oA .byte [(0 : Int32)]) :: (s, oS (.null)) :: (q, oA .char [c0]) :: F) 0 0 0 #[.val (.ref q), .val (.int 0), .val (.ref b), .val (.int 0), .val (.int 1), .unset, .unset] [] (Q_c_cm5_1 b s q c0 F)
  refine wp_iconst 0 D_jdk_52_m21_0 (by decide) ?_
  refine wp_istore #[.val (.ref q), .val (.int 0), .val (.ref b), .val (.int 0), .val (.int 1), .val (.int 0), .unset] D_jdk_52_m21_1 rfl ?_
  refine wp_iload D_jdk_52_m21_3 rfl ?_
  refine wp_iload D_jdk_52_m21_5 rfl ?_
  refine wp_icmp_ge D_jdk_52_m21_7 (pc'' := 44) ⟨by decide, by decide⟩ (fun h1 => by exact absurd h1 (by decide)) (fun h1 => ?_)
  refine wp_aload_n D_jdk_52_m21_10 rfl rfl ?_
  refine wp_iload_n D_jdk_52_m21_11 rfl ?_
  refine wp_caload (i := 2) (0) D_jdk_52_m21_12 rfl (by decide) (by decide) rfl ?_
  refine wp_istore #[.val (.ref q), .val (.int 0), .val (.ref b), .val (.int 0), .val (.int 1), .val (.int 0), .val (.int c0)] D_jdk_52_m21_13 rfl ?_
  refine wp_iload D_jdk_52_m21_15 rfl ?_
  refine wp_sipush 255 D_jdk_52_m21_17 (by decide) ?_
  refine wp_icmp_le D_jdk_52_m21_20 (pc'' := 26) ⟨by decide, by decide⟩ (fun h2 => ?_) (fun h2 => by exfalso; (simp only [Int32.lt_iff_toInt_lt, Int32.le_iff_toInt_le, ← Int32.toInt_inj, Int32.reduceToInt, Int64.lt_iff_toInt_lt, ← Int64.toInt_inj, Int64.reduceToInt] at *; omega))
  refine wp_aload_n D_jdk_52_m21_26 rfl rfl ?_
  refine wp_iload_n D_jdk_52_m21_27 rfl ?_
  refine wp_iload D_jdk_52_m21_28 rfl ?_
  refine wp_i2b D_jdk_52_m21_30 ?_
  refine wp_bastore (i := 0) (0) D_jdk_52_m21_31 rfl (by decide) (by decide) (by first | decide | exact Nat.le_of_ble_eq_true rfl | simp) ?_
  show W1 l Z (rm4 0 0 0 0) ((b, oA .byte [(nar .byte c0.toInt8.toInt32)]) :: (s, oS (.null)) :: (q, oA .char [c0]) :: F) 0 0 32 #[.val (.ref q), .val (.int 0), .val (.ref b), .val (.int 0), .val (.int 1), .val (.int 0), .val (.int c0)] [] (Q_c_cm5_1 b s q c0 F)
  refine wp_iinc 1 #[.val (.ref q), .val (.int 1), .val (.ref b), .val (.int 0), .val (.int 1), .val (.int 0), .val (.int c0)] D_jdk_52_m21_32 rfl rfl (by rw [show (0 : Int32) + (1 : Int32) = (1 : Int32) from by decide]; rfl) ?_
  refine wp_iinc 1 #[.val (.ref q), .val (.int 1), .val (.ref b), .val (.int 1), .val (.int 1), .val (.int 0), .val (.int c0)] D_jdk_52_m21_35 rfl rfl (by rw [show (0 : Int32) + (1 : Int32) = (1 : Int32) from by decide]; rfl) ?_
  refine wp_iinc 1 #[.val (.ref q), .val (.int 1), .val (.ref b), .val (.int 1), .val (.int 1), .val (.int 1), .val (.int c0)] D_jdk_52_m21_38 rfl rfl (by rw [show (0 : Int32) + (1 : Int32) = (1 : Int32) from by decide]; rfl) ?_
  refine wp_goto D_jdk_52_m21_41 (pc'' := 3) ⟨by decide, by decide⟩ ?_
  refine wp_iload D_jdk_52_m21_3 rfl ?_
  refine wp_iload D_jdk_52_m21_5 rfl ?_
  refine wp_icmp_ge D_jdk_52_m21_7 (pc'' := 44) ⟨by decide, by decide⟩ (fun h3 => ?_) (fun h3 => by exact absurd h3 (by decide))
  refine wp_iload D_jdk_52_m21_44 rfl ?_
  refine wp_ireturn D_jdk_52_m21_46 rfl (by decide) (by decide) ?_
  exact ⟨rfl, rfl⟩
def Q_c_cm3_1 (s q : Addr) (c0 : Int32) (F : OH) : Option Value → OH → Prop := fun w' H' => ∃ b, w' = some (.ref b) ∧ H' = ((b, oA .byte [(nar .byte c0.toInt8.toInt32)]) :: (s, oS (.null)) :: (q, oA .char [c0]) :: F)
theorem pn_2 : plainFor (⟨"java/lang/StringUTF16", "compress", "([CII)[B"⟩ : MethodName) = true := by first | exact plainFor_of_name (by first | (simp [plainName, overriddenIn]; done) | decide +kernel) | decide +kernel
theorem D_jdk_52_m16_0 : Dc jdk_52_method_16_code 0 (.iload_n 2) 1 1 := ⟨by decide +kernel, rfl⟩
theorem D_jdk_52_m16_1 : Dc jdk_52_method_16_code 1 (.newarray .byte) 2 3 := ⟨by decide +kernel, rfl⟩
theorem D_jdk_52_m16_3 : Dc jdk_52_method_16_code 3 (.astore_n 3) 1 4 := ⟨by decide +kernel, rfl⟩
theorem D_jdk_52_m16_4 : Dc jdk_52_method_16_code 4 (.aload_n 0) 1 5 := ⟨by decide +kernel, rfl⟩
theorem D_jdk_52_m16_5 : Dc jdk_52_method_16_code 5 (.iload_n 1) 1 6 := ⟨by decide +kernel, rfl⟩
theorem D_jdk_52_m16_6 : Dc jdk_52_method_16_code 6 (.aload_n 3) 1 7 := ⟨by decide +kernel, rfl⟩
theorem D_jdk_52_m16_7 : Dc jdk_52_method_16_code 7 (.iconst 0) 1 8 := ⟨by decide +kernel, rfl⟩
theorem D_jdk_52_m16_8 : Dc jdk_52_method_16_code 8 (.iload_n 2) 1 9 := ⟨by decide +kernel, rfl⟩
theorem D_jdk_52_m16_9 : Dc jdk_52_method_16_code 9 (.invokestatic 115) 3 12 := ⟨by decide +kernel, rfl⟩
theorem D_jdk_52_m16_12 : Dc jdk_52_method_16_code 12 (.istore 4) 2 14 := ⟨by decide +kernel, rfl⟩
theorem D_jdk_52_m16_14 : Dc jdk_52_method_16_code 14 (.iload 4) 2 16 := ⟨by decide +kernel, rfl⟩
theorem D_jdk_52_m16_16 : Dc jdk_52_method_16_code 16 (.iload_n 2) 1 17 := ⟨by decide +kernel, rfl⟩
theorem D_jdk_52_m16_17 : Dc jdk_52_method_16_code 17 (.if_icmp .eq 40) 3 20 := ⟨by decide +kernel, rfl⟩
theorem D_jdk_52_m16_57 : Dc jdk_52_method_16_code 57 (.aload_n 3) 1 58 := ⟨by decide +kernel, rfl⟩
theorem D_jdk_52_m16_58 : Dc jdk_52_method_16_code 58 (.areturn) 1 59 := ⟨by decide +kernel, rfl⟩
abbrev W2 (l : Launch) (Z : State) := Wp none l Z "java/lang/StringUTF16" "compress" jdk_52_method_16_code 6 (some (.array .byte))
set_option maxRecDepth 65536 in
set_option maxHeartbeats 40000000 in
theorem c_cm3_1 (l : Launch) (Z : State) (a0 : Array Value) (hw : HW Z a0) (s q : Addr) (c0 : Int32) (F : OH) (h_c0 : 0 ≤ c0.toInt ∧ c0.toInt ≤ 255) :
    Met l Z (⟨"java/lang/StringUTF16", "compress", "([CII)[B"⟩ : MethodName) jdk_52_method_16_code 6 (some (.array .byte)) (rm4 1 1 1 18) [(.ref q), (.int 0), (.int 1)] ((s, oS (.null)) :: (q, oA .char [c0]) :: F) (Q_c_cm3_1 s q c0 F) := by
  refine Met.of_wp (Ls := #[.val (.ref q), .val (.int 0), .val (.int 1), .unset, .unset, .unset]) pn_2 (fun m => (entry_loc m _ _).trans rfl) ?_
  show W2 l Z (rm4 1 1 1 18) ((s, oS (.null)) :: (q, oA .char [c0]) :: F) 0 0 0 #[.val (.ref q), .val (.int 0), .val (.int 1), .unset, .unset, .unset] [] (Q_c_cm3_1 s q c0 F)
  refine wp_iload_n D_jdk_52_m16_0 rfl ?_
  refine wp_newarrayI (n := (1 : Int32)) (1) 1 D_jdk_52_m16_1 rfl rfl rfl (gw hw 24 rfl) (by decide) (by decide) (by decide) (by decide) (by decide) (by decide) ?_
  intro a1
  show W2 l Z (rm4 1 1 1 18) ((a1, oA .byte [(0 : Int32)]) :: (s, oS (.null)) :: (q, oA .char [c0]) :: F) 1 1 3 #[.val (.ref q), .val (.int 0), .val (.int 1), .unset, .unset, .unset] [(.ref a1)] (Q_c_cm3_1 s q c0 F)
  refine wp_astore_n #[.val (.ref q), .val (.int 0), .val (.int 1), .val (.ref a1), .unset, .unset] D_jdk_52_m16_3 rfl rfl ?_
  refine wp_aload_n D_jdk_52_m16_4 rfl rfl ?_
  refine wp_iload_n D_jdk_52_m16_5 rfl ?_
  refine wp_aload_n D_jdk_52_m16_6 rfl rfl ?_
  refine wp_iconst 0 D_jdk_52_m16_7 (by decide) ?_
  refine wp_iload_n D_jdk_52_m16_8 rfl ?_
  refine wp_callS (c_cm5_1 l Z a0 hw a1 s q c0 F h_c0) D_jdk_52_m16_9 (gw hw 91 rfl) (gw hw 92 rfl) (gw hw 89 rfl) (gw hw 93 rfl) (by decide) pd_1 rfl rfl rfl (lb rfl) (lb rfl) (lb rfl) (lb rfl) ?_
  rintro _ _ ⟨rfl, rfl⟩
  show W2 l Z (rm4 1 1 1 18) ((a1, oA .byte [(nar .byte c0.toInt8.toInt32)]) :: (s, oS (.null)) :: (q, oA .char [c0]) :: F) 1 1 12 #[.val (.ref q), .val (.int 0), .val (.int 1), .val (.ref a1), .unset, .unset] [(.int 1)] (Q_c_cm3_1 s q c0 F)
  refine wp_istore #[.val (.ref q), .val (.int 0), .val (.int 1), .val (.ref a1), .val (.int 1), .unset] D_jdk_52_m16_12 rfl ?_
  refine wp_iload D_jdk_52_m16_14 rfl ?_
  refine wp_iload_n D_jdk_52_m16_16 rfl ?_
  refine wp_icmp_eq D_jdk_52_m16_17 (pc'' := 57) ⟨by decide, by decide⟩ (fun h2 => ?_) (fun h2 => by exact absurd h2 (by decide))
  refine wp_aload_n D_jdk_52_m16_57 rfl rfl ?_
  refine wp_areturn D_jdk_52_m16_58 rfl rfl rfl rfl (by decide) (by decide) ?_
  exact ⟨_, rfl, rfl⟩
def Q_c_cfa_1 (b s q : Addr) (c0 : Int32) (F : OH) : Option Value → OH → Prop := fun w' H' => w' = some (.int 0) ∧ H' = ((b, oA .byte [(nar .byte c0.toInt8.toInt32)]) :: (s, oS (.null)) :: (q, oA .char [c0]) :: F)
theorem pn_3 : plainFor (⟨"java/lang/StringUTF16", "coderFromArrayLen", "([BI)B"⟩ : MethodName) = true := by first | exact plainFor_of_name (by first | (simp [plainName, overriddenIn]; done) | decide +kernel) | decide +kernel
theorem D_jdk_52_m15_0 : Dc jdk_52_method_15_code 0 (.iload_n 1) 1 1 := ⟨by decide +kernel, rfl⟩
theorem D_jdk_52_m15_1 : Dc jdk_52_method_15_code 1 (.aload_n 0) 1 2 := ⟨by decide +kernel, rfl⟩
theorem D_jdk_52_m15_2 : Dc jdk_52_method_15_code 2 (.arraylength) 1 3 := ⟨by decide +kernel, rfl⟩
theorem D_jdk_52_m15_3 : Dc jdk_52_method_15_code 3 (.isub) 1 4 := ⟨by decide +kernel, rfl⟩
theorem D_jdk_52_m15_4 : Dc jdk_52_method_15_code 4 (.bipush 31) 2 6 := ⟨by decide +kernel, rfl⟩
theorem D_jdk_52_m15_6 : Dc jdk_52_method_15_code 6 (.iushr) 1 7 := ⟨by decide +kernel, rfl⟩
theorem D_jdk_52_m15_7 : Dc jdk_52_method_15_code 7 (.i2b) 1 8 := ⟨by decide +kernel, rfl⟩
theorem D_jdk_52_m15_8 : Dc jdk_52_method_15_code 8 (.ireturn) 1 9 := ⟨by decide +kernel, rfl⟩
abbrev W3 (l : Launch) (Z : State) := Wp none l Z "java/lang/StringUTF16" "coderFromArrayLen" jdk_52_method_15_code 2 (some .byte)
set_option maxRecDepth 65536 in
set_option maxHeartbeats 40000000 in
theorem c_cfa_1 (l : Launch) (Z : State) (a0 : Array Value) (hw : HW Z a0) (b s q : Addr) (c0 : Int32) (F : OH) :
    Met l Z (⟨"java/lang/StringUTF16", "coderFromArrayLen", "([BI)B"⟩ : MethodName) jdk_52_method_15_code 2 (some .byte) (rm4 0 0 0 0) [(.ref b), (.int 1)] ((b, oA .byte [(nar .byte c0.toInt8.toInt32)]) :: (s, oS (.null)) :: (q, oA .char [c0]) :: F) (Q_c_cfa_1 b s q c0 F) := by
  refine Met.of_wp (Ls := #[.val (.ref b), .val (.int 1)]) pn_3 (fun m => (entry_loc m _ _).trans rfl) ?_
  show W3 l Z (rm4 0 0 0 0) ((b, oA .byte [(nar .byte c0.toInt8.toInt32)]) :: (s, oS (.null)) :: (q, oA .char [c0]) :: F) 0 0 0 #[.val (.ref b), .val (.int 1)] [] (Q_c_cfa_1 b s q c0 F)
  refine wp_iload_n D_jdk_52_m15_0 rfl ?_
  refine wp_aload_n D_jdk_52_m15_1 rfl rfl ?_
  refine wp_lengthI (i := 0) (1 : Int32) D_jdk_52_m15_2 rfl rfl ?_
  refine wp_isub D_jdk_52_m15_3 ?_
  rw [show ((1 : Int32) - (1 : Int32)) = (0 : Int32) from by decide]
  refine wp_bipush 31 D_jdk_52_m15_4 (by decide) ?_
  refine wp_iushr D_jdk_52_m15_6 ?_
  rw [show (XT.ushr (0 : Int32) (31 : Int32)) = (0 : Int32) from by decide]
  refine wp_i2b D_jdk_52_m15_7 ?_
  rw [show (0 : Int32).toInt8.toInt32 = (0 : Int32) from by decide]
  refine wp_ireturnN D_jdk_52_m15_8 rfl (by simp) (by decide) (by decide) ?_
  exact ⟨rfl, rfl⟩
def Q_c_si4_1 (s q : Addr) (cp : Int32) (c0 : Int32) (F : OH) : Option Value → OH → Prop := fun w' H' => w' = none ∧ ∃ b, H' = ((b, oA .byte [(nar .byte c0.toInt8.toInt32)]) :: (s, oS (.ref b)) :: (q, oA .char [c0]) :: F)
theorem pd_2 : parseMethodDescriptor "([CIILjava/lang/Void;)V" = some ⟨[(.array .char), .int, .int, (.object "java/lang/Void")], none⟩ := by decide +kernel
theorem pd_3 : parseMethodDescriptor "(II)I" = some ⟨[.int, .int], (some .int)⟩ := by decide +kernel
theorem pd_4 : parseMethodDescriptor "()Z" = some ⟨[], (some .boolean)⟩ := by decide +kernel
theorem pd_5 : parseMethodDescriptor "()I" = some ⟨[], (some .int)⟩ := by decide +kernel
theorem pd_6 : parseMethodDescriptor "()B" = some ⟨[], (some .byte)⟩ := by decide +kernel
theorem pd_7 : parseMethodDescriptor "([BIII)I" = some ⟨[(.array .byte), .int, .int, .int], (some .int)⟩ := by decide +kernel
theorem pd_8 : parseMethodDescriptor "([CII)[B" = some ⟨[(.array .char), .int, .int], (some (.array .byte))⟩ := by decide +kernel
theorem pd_9 : parseMethodDescriptor "([BI)B" = some ⟨[(.array .byte), .int], (some .byte)⟩ := by decide +kernel
theorem pd_10 : parseMethodDescriptor "(II)Ljava/lang/String;" = some ⟨[.int, .int], (some (.object "java/lang/String"))⟩ := by decide +kernel
theorem pd_11 : parseMethodDescriptor "(III)V" = some ⟨[.int, .int, .int], none⟩ := by decide +kernel
theorem pd_12 : parseMethodDescriptor "(IIILjava/util/function/BiFunction;)I" = some ⟨[.int, .int, .int, (.object "java/util/function/BiFunction")], (some .int)⟩ := by decide +kernel
theorem pd_13 : parseMethodDescriptor "([BII)Ljava/lang/String;" = some ⟨[(.array .byte), .int, .int], (some (.object "java/lang/String"))⟩ := by decide +kernel
theorem pd_14 : parseMethodDescriptor "([B[B)Z" = some ⟨[(.array .byte), (.array .byte)], (some .boolean)⟩ := by decide +kernel
theorem pn_4 : plainFor (⟨"java/lang/String", "<init>", "([CIILjava/lang/Void;)V"⟩ : MethodName) = true := by first | exact plainFor_of_name (by first | (simp [plainName, overriddenIn]; done) | decide +kernel) | decide +kernel
theorem D_jdk_42_m149_0 : Dc jdk_42_method_149_code 0 (.aload_n 0) 1 1 := ⟨by decide +kernel, rfl⟩
theorem D_jdk_42_m149_1 : Dc jdk_42_method_149_code 1 (.invokespecial 1) 3 4 := ⟨by decide +kernel, rfl⟩
theorem D_jdk_42_m149_4 : Dc jdk_42_method_149_code 4 (.iload_n 3) 1 5 := ⟨by decide +kernel, rfl⟩
theorem D_jdk_42_m149_5 : Dc jdk_42_method_149_code 5 (.ifCond .ne 22) 3 8 := ⟨by decide +kernel, rfl⟩
theorem D_jdk_42_m149_8 : Dc jdk_42_method_149_code 8 (.aload_n 0) 1 9 := ⟨by decide +kernel, rfl⟩
theorem D_jdk_42_m149_9 : Dc jdk_42_method_149_code 9 (.ldc 7) 2 11 := ⟨by decide +kernel, rfl⟩
theorem D_jdk_42_m149_11 : Dc jdk_42_method_149_code 11 (.getfield 9) 3 14 := ⟨by decide +kernel, rfl⟩
theorem D_jdk_42_m149_14 : Dc jdk_42_method_149_code 14 (.putfield 9) 3 17 := ⟨by decide +kernel, rfl⟩
theorem D_jdk_42_m149_17 : Dc jdk_42_method_149_code 17 (.aload_n 0) 1 18 := ⟨by decide +kernel, rfl⟩
theorem D_jdk_42_m149_18 : Dc jdk_42_method_149_code 18 (.ldc 7) 2 20 := ⟨by decide +kernel, rfl⟩
theorem D_jdk_42_m149_20 : Dc jdk_42_method_149_code 20 (.getfield 15) 3 23 := ⟨by decide +kernel, rfl⟩
theorem D_jdk_42_m149_23 : Dc jdk_42_method_149_code 23 (.putfield 15) 3 26 := ⟨by decide +kernel, rfl⟩
theorem D_jdk_42_m149_26 : Dc jdk_42_method_149_code 26 (.return_) 1 27 := ⟨by decide +kernel, rfl⟩
theorem D_jdk_42_m149_27 : Dc jdk_42_method_149_code 27 (.getstatic 38) 3 30 := ⟨by decide +kernel, rfl⟩
theorem D_jdk_42_m149_30 : Dc jdk_42_method_149_code 30 (.ifCond .eq 28) 3 33 := ⟨by decide +kernel, rfl⟩
theorem D_jdk_42_m149_33 : Dc jdk_42_method_149_code 33 (.aload_n 1) 1 34 := ⟨by decide +kernel, rfl⟩
theorem D_jdk_42_m149_34 : Dc jdk_42_method_149_code 34 (.iload_n 2) 1 35 := ⟨by decide +kernel, rfl⟩
theorem D_jdk_42_m149_35 : Dc jdk_42_method_149_code 35 (.iload_n 3) 1 36 := ⟨by decide +kernel, rfl⟩
theorem D_jdk_42_m149_36 : Dc jdk_42_method_149_code 36 (.invokestatic 177) 3 39 := ⟨by decide +kernel, rfl⟩
theorem D_jdk_42_m149_39 : Dc jdk_42_method_149_code 39 (.astore 5) 2 41 := ⟨by decide +kernel, rfl⟩
theorem D_jdk_42_m149_41 : Dc jdk_42_method_149_code 41 (.aload_n 0) 1 42 := ⟨by decide +kernel, rfl⟩
theorem D_jdk_42_m149_42 : Dc jdk_42_method_149_code 42 (.aload 5) 2 44 := ⟨by decide +kernel, rfl⟩
theorem D_jdk_42_m149_44 : Dc jdk_42_method_149_code 44 (.iload_n 3) 1 45 := ⟨by decide +kernel, rfl⟩
theorem D_jdk_42_m149_45 : Dc jdk_42_method_149_code 45 (.invokestatic 47) 3 48 := ⟨by decide +kernel, rfl⟩
theorem D_jdk_42_m149_48 : Dc jdk_42_method_149_code 48 (.putfield 15) 3 51 := ⟨by decide +kernel, rfl⟩
theorem D_jdk_42_m149_51 : Dc jdk_42_method_149_code 51 (.aload_n 0) 1 52 := ⟨by decide +kernel, rfl⟩
theorem D_jdk_42_m149_52 : Dc jdk_42_method_149_code 52 (.aload 5) 2 54 := ⟨by decide +kernel, rfl⟩
theorem D_jdk_42_m149_54 : Dc jdk_42_method_149_code 54 (.putfield 9) 3 57 := ⟨by decide +kernel, rfl⟩
theorem D_jdk_42_m149_57 : Dc jdk_42_method_149_code 57 (.return_) 1 58 := ⟨by decide +kernel, rfl⟩
abbrev W4 (l : Launch) (Z : State) := Wp none l Z "java/lang/String" "<init>" jdk_42_method_149_code 6 none
set_option maxRecDepth 65536 in
set_option maxHeartbeats 40000000 in
theorem c_si4_1 (l : Launch) (Z : State) (a0 : Array Value) (hw : HW Z a0) (s q : Addr) (cp : Int32) (c0 : Int32) (F : OH) (S_cp : Sta Z Z.heap "java/lang/String" "COMPACT_STRINGS" "Z" (.int cp)) (hcp : ¬ cp = 0) (h_c0 : 0 ≤ c0.toInt ∧ c0.toInt ≤ 255) :
    Met l Z (⟨"java/lang/String", "<init>", "([CIILjava/lang/Void;)V"⟩ : MethodName) jdk_42_method_149_code 6 none (rm4 2 1 1 35) [(.ref s), (.ref q), (.int 0), (.int 1), (.null)] ((s, oS (.null)) :: (q, oA .char [c0]) :: F) (Q_c_si4_1 s q cp c0 F) := by
  refine Met.of_wp (Ls := #[.val (.ref s), .val (.ref q), .val (.int 0), .val (.int 1), .val (.null), .unset]) pn_4 (fun m => (entry_loc m _ _).trans rfl) ?_
  show W4 l Z (rm4 2 1 1 35) ((s, oS (.null)) :: (q, oA .char [c0]) :: F) 0 0 0 #[.val (.ref s), .val (.ref q), .val (.int 0), .val (.int 1), .val (.null), .unset] [] (Q_c_si4_1 s q cp c0 F)
  refine wp_aload_n D_jdk_42_m149_0 rfl rfl ?_
  refine wp_initO D_jdk_42_m149_1 (gw hw 20 rfl) (gw hw 21 rfl) (gw hw 22 rfl) rfl (Nat.le_of_ble_eq_true rfl) (Nat.le_of_ble_eq_true rfl) ?_
  refine wp_iload_n D_jdk_42_m149_4 rfl ?_
  refine wp_if_ne D_jdk_42_m149_5 (pc'' := 27) ⟨by decide, by decide⟩ (fun h1 => ?_) (fun h1 => by exact absurd h1 (by decide))
  refine wp_getstatic D_jdk_42_m149_27 (gw hw 50 rfl) S_cp ?_
  refine wp_if_eq D_jdk_42_m149_30 (pc'' := 58) ⟨by decide, by decide⟩ (fun h2 => by exact absurd h2 hcp) (fun h2 => ?_)
  refine wp_aload_n D_jdk_42_m149_33 rfl rfl ?_
  refine wp_iload_n D_jdk_42_m149_34 rfl ?_
  refine wp_iload_n D_jdk_42_m149_35 rfl ?_
  refine wp_callS (c_cm3_1 l Z a0 hw s q c0 F h_c0) D_jdk_42_m149_36 (gw hw 87 rfl) (gw hw 88 rfl) (gw hw 89 rfl) (gw hw 90 rfl) (by decide) pd_8 rfl rfl rfl (lb rfl) (lb rfl) (lb rfl) (lb rfl) ?_
  rintro _ _ ⟨b3, rfl, rfl⟩
  show W4 l Z (rm4 2 1 1 35) ((b3, oA .byte [(nar .byte c0.toInt8.toInt32)]) :: (s, oS (.null)) :: (q, oA .char [c0]) :: F) 1 1 39 #[.val (.ref s), .val (.ref q), .val (.int 0), .val (.int 1), .val (.null), .unset] [(.ref b3)] (Q_c_si4_1 s q cp c0 F)
  refine wp_astore #[.val (.ref s), .val (.ref q), .val (.int 0), .val (.int 1), .val (.null), .val (.ref b3)] D_jdk_42_m149_39 rfl rfl ?_
  refine wp_aload_n D_jdk_42_m149_41 rfl rfl ?_
  refine wp_aload D_jdk_42_m149_42 rfl rfl ?_
  refine wp_iload_n D_jdk_42_m149_44 rfl ?_
  refine wp_callS (c_cfa_1 l Z a0 hw b3 s q c0 F) D_jdk_42_m149_45 (gw hw 94 rfl) (gw hw 95 rfl) (gw hw 89 rfl) (gw hw 96 rfl) (by decide) pd_9 rfl rfl rfl (lb rfl) (lb rfl) (lb rfl) (lb rfl) ?_
  rintro _ _ ⟨rfl, rfl⟩
  show W4 l Z (rm4 2 1 1 35) ((b3, oA .byte [(nar .byte c0.toInt8.toInt32)]) :: (s, oS (.null)) :: (q, oA .char [c0]) :: F) 1 1 48 #[.val (.ref s), .val (.ref q), .val (.int 0), .val (.int 1), .val (.null), .val (.ref b3)] [(.int 0), (.ref s)] (Q_c_si4_1 s q cp c0 F)
  refine wp_putfield (i := 1) (fi := 1) (ty := .byte) D_jdk_42_m149_48 (gw hw 30 rfl) rfl rfl rfl (Or.inr ⟨(gw hw 26 rfl), rfl, rfl⟩) (gw hw 11 rfl) (by decide) rfl rfl ?_
  show W4 l Z (rm4 2 1 1 35) ((b3, oA .byte [(nar .byte c0.toInt8.toInt32)]) :: (s, oS (.null)) :: (q, oA .char [c0]) :: F) 1 1 51 #[.val (.ref s), .val (.ref q), .val (.int 0), .val (.int 1), .val (.null), .val (.ref b3)] [] (Q_c_si4_1 s q cp c0 F)
  refine wp_aload_n D_jdk_42_m149_51 rfl rfl ?_
  refine wp_aload D_jdk_42_m149_52 rfl rfl ?_
  refine wp_putfield (i := 1) (fi := 0) (ty := (.array .byte)) D_jdk_42_m149_54 (gw hw 29 rfl) rfl rfl rfl (Or.inr ⟨(gw hw 25 rfl), rfl, rfl⟩) (gw hw 11 rfl) (by decide) rfl rfl ?_
  show W4 l Z (rm4 2 1 1 35) ((b3, oA .byte [(nar .byte c0.toInt8.toInt32)]) :: (s, oS (.ref b3)) :: (q, oA .char [c0]) :: F) 1 1 57 #[.val (.ref s), .val (.ref q), .val (.int 0), .val (.int 1), .val (.null), .val (.ref b3)] [] (Q_c_si4_1 s q cp c0 F)
  refine wp_return D_jdk_42_m149_57 rfl (by decide) (by decide) ?_
  exact ⟨rfl, _, rfl⟩
def Q_c_si1_1 (s q : Addr) (cp : Int32) (c0 : Int32) (F : OH) : Option Value → OH → Prop := fun w' H' => w' = none ∧ ∃ b, H' = ((b, oA .byte [(nar .byte c0.toInt8.toInt32)]) :: (s, oS (.ref b)) :: (q, oA .char [c0]) :: F)
theorem pn_5 : plainFor (⟨"java/lang/String", "<init>", "([C)V"⟩ : MethodName) = true := by first | exact plainFor_of_name (by first | (simp [plainName, overriddenIn]; done) | decide +kernel) | decide +kernel
theorem D_jdk_42_m3_0 : Dc jdk_42_method_3_code 0 (.aload_n 0) 1 1 := ⟨by decide +kernel, rfl⟩
theorem D_jdk_42_m3_1 : Dc jdk_42_method_3_code 1 (.aload_n 1) 1 2 := ⟨by decide +kernel, rfl⟩
theorem D_jdk_42_m3_2 : Dc jdk_42_method_3_code 2 (.iconst 0) 1 3 := ⟨by decide +kernel, rfl⟩
theorem D_jdk_42_m3_3 : Dc jdk_42_method_3_code 3 (.aload_n 1) 1 4 := ⟨by decide +kernel, rfl⟩
theorem D_jdk_42_m3_4 : Dc jdk_42_method_3_code 4 (.arraylength) 1 5 := ⟨by decide +kernel, rfl⟩
theorem D_jdk_42_m3_5 : Dc jdk_42_method_3_code 5 (.aconst_null) 1 6 := ⟨by decide +kernel, rfl⟩
theorem D_jdk_42_m3_6 : Dc jdk_42_method_3_code 6 (.invokespecial 27) 3 9 := ⟨by decide +kernel, rfl⟩
theorem D_jdk_42_m3_9 : Dc jdk_42_method_3_code 9 (.return_) 1 10 := ⟨by decide +kernel, rfl⟩
abbrev W5 (l : Launch) (Z : State) := Wp none l Z "java/lang/String" "<init>" jdk_42_method_3_code 2 none
set_option maxRecDepth 65536 in
set_option maxHeartbeats 40000000 in
theorem c_si1_1 (l : Launch) (Z : State) (a0 : Array Value) (hw : HW Z a0) (s q : Addr) (cp : Int32) (c0 : Int32) (F : OH) (S_cp : Sta Z Z.heap "java/lang/String" "COMPACT_STRINGS" "Z" (.int cp)) (hcp : ¬ cp = 0) (h_c0 : 0 ≤ c0.toInt ∧ c0.toInt ≤ 255) :
    Met l Z (⟨"java/lang/String", "<init>", "([C)V"⟩ : MethodName) jdk_42_method_3_code 2 none (rm4 3 1 1 52) [(.ref s), (.ref q)] ((s, oS (.null)) :: (q, oA .char [c0]) :: F) (Q_c_si1_1 s q cp c0 F) := by
  refine Met.of_wp (Ls := #[.val (.ref s), .val (.ref q)]) pn_5 (fun m => (entry_loc m _ _).trans rfl) ?_
  show W5 l Z (rm4 3 1 1 52) ((s, oS (.null)) :: (q, oA .char [c0]) :: F) 0 0 0 #[.val (.ref s), .val (.ref q)] [] (Q_c_si1_1 s q cp c0 F)
  refine wp_aload_n D_jdk_42_m3_0 rfl rfl ?_
  refine wp_aload_n D_jdk_42_m3_1 rfl rfl ?_
  refine wp_iconst 0 D_jdk_42_m3_2 (by decide) ?_
  refine wp_aload_n D_jdk_42_m3_3 rfl rfl ?_
  refine wp_lengthI (i := 1) (1 : Int32) D_jdk_42_m3_4 rfl rfl ?_
  refine wp_aconst_null D_jdk_42_m3_5 ?_
  refine wp_init (c_si4_1 l Z a0 hw s q cp c0 F S_cp hcp h_c0) D_jdk_42_m3_6 rfl (gw hw 16 rfl) (gw hw 17 rfl) (gw hw 12 rfl) (gw hw 19 rfl) (by decide) pd_2 rfl rfl rfl (lb rfl) (lb rfl) (lb rfl) (lb rfl) ?_
  rintro _ _ ⟨rfl, b1, rfl⟩
  show W5 l Z (rm4 3 1 1 52) ((b1, oA .byte [(nar .byte c0.toInt8.toInt32)]) :: (s, oS (.ref b1)) :: (q, oA .char [c0]) :: F) 1 1 9 #[.val (.ref s), .val (.ref q)] [] (Q_c_si1_1 s q cp c0 F)
  refine wp_return D_jdk_42_m3_9 rfl (by decide) (by decide) ?_
  exact ⟨rfl, _, rfl⟩
def Q_c_cm5_2 (b s q : Addr) (c0 c1 : Int32) (F : OH) : Option Value → OH → Prop := fun w' H' => w' = some (.int 2) ∧ H' = ((b, oA .byte [(nar .byte c0.toInt8.toInt32), (nar .byte c1.toInt8.toInt32)]) :: (s, oS (.null)) :: (q, oA .char [c0, c1]) :: F)
set_option maxRecDepth 65536 in
set_option maxHeartbeats 40000000 in
theorem c_cm5_2 (l : Launch) (Z : State) (a0 : Array Value) (hw : HW Z a0) (b s q : Addr) (c0 c1 : Int32) (F : OH) (h_c0 : 0 ≤ c0.toInt ∧ c0.toInt ≤ 255) (h_c1 : 0 ≤ c1.toInt ∧ c1.toInt ≤ 255) :
    Met l Z (⟨"java/lang/StringUTF16", "compress", "([CI[BII)I"⟩ : MethodName) jdk_52_method_21_code 7 (some .int) (rm4 0 0 0 0) [(.ref q), (.int 0), (.ref b), (.int 0), (.int 2)] ((b, oA .byte [(0 : Int32), (0 : Int32)]) :: (s, oS (.null)) :: (q, oA .char [c0, c1]) :: F) (Q_c_cm5_2 b s q c0 c1 F) := by
  refine Met.of_wp (Ls := #[.val (.ref q), .val (.int 0), .val (.ref b), .val (.int 0), .val (.int 2), .unset, .unset]) pn_1 (fun m => (entry_loc m _ _).trans rfl) ?_
  show W1 l Z (rm4 0 0 0 0) ((b, oA .byte [(0 : Int32), (0 : Int32)]) :: (s, oS (.null)) :: (q, oA .char [c0, c1]) :: F) 0 0 0 #[.val (.ref q), .val (.int 0), .val (.ref b), .val (.int 0), .val (.int 2), .unset, .unset] [] (Q_c_cm5_2 b s q c0 c1 F)
  refine wp_iconst 0 D_jdk_52_m21_0 (by decide) ?_
  refine wp_istore #[.val (.ref q), .val (.int 0), .val (.ref b), .val (.int 0), .val (.int 2), .val (.int 0), .unset] D_jdk_52_m21_1 rfl ?_
  refine wp_iload D_jdk_52_m21_3 rfl ?_
  refine wp_iload D_jdk_52_m21_5 rfl ?_
  refine wp_icmp_ge D_jdk_52_m21_7 (pc'' := 44) ⟨by decide, by decide⟩ (fun h1 => by exact absurd h1 (by decide)) (fun h1 => ?_)
  refine wp_aload_n D_jdk_52_m21_10 rfl rfl ?_
  refine wp_iload_n D_jdk_52_m21_11 rfl ?_
  refine wp_caload (i := 2) (0) D_jdk_52_m21_12 rfl (by decide) (by decide) rfl ?_
  refine wp_istore #[.val (.ref q), .val (.int 0), .val (.ref b), .val (.int 0), .val (.int 2), .val (.int 0), .val (.int c0)] D_jdk_52_m21_13 rfl ?_
  refine wp_iload D_jdk_52_m21_15 rfl ?_
  refine wp_sipush 255 D_jdk_52_m21_17 (by decide) ?_
  refine wp_icmp_le D_jdk_52_m21_20 (pc'' := 26) ⟨by decide, by decide⟩ (fun h2 => ?_) (fun h2 => by exfalso; (simp only [Int32.lt_iff_toInt_lt, Int32.le_iff_toInt_le, ← Int32.toInt_inj, Int32.reduceToInt, Int64.lt_iff_toInt_lt, ← Int64.toInt_inj, Int64.reduceToInt] at *; omega))
  refine wp_aload_n D_jdk_52_m21_26 rfl rfl ?_
  refine wp_iload_n D_jdk_52_m21_27 rfl ?_
  refine wp_iload D_jdk_52_m21_28 rfl ?_
  refine wp_i2b D_jdk_52_m21_30 ?_
  refine wp_bastore (i := 0) (0) D_jdk_52_m21_31 rfl (by decide) (by decide) (by first | decide | exact Nat.le_of_ble_eq_true rfl | simp) ?_
  show W1 l Z (rm4 0 0 0 0) ((b, oA .byte [(nar .byte c0.toInt8.toInt32), (0 : Int32)]) :: (s, oS (.null)) :: (q, oA .char [c0, c1]) :: F) 0 0 32 #[.val (.ref q), .val (.int 0), .val (.ref b), .val (.int 0), .val (.int 2), .val (.int 0), .val (.int c0)] [] (Q_c_cm5_2 b s q c0 c1 F)
  refine wp_iinc 1 #[.val (.ref q), .val (.int 1), .val (.ref b), .val (.int 0), .val (.int 2), .val (.int 0), .val (.int c0)] D_jdk_52_m21_32 rfl rfl (by rw [show (0 : Int32) + (1 : Int32) = (1 : Int32) from by decide]; rfl) ?_
  refine wp_iinc 1 #[.val (.ref q), .val (.int 1), .val (.ref b), .val (.int 1), .val (.int 2), .val (.int 0), .val (.int c0)] D_jdk_52_m21_35 rfl rfl (by rw [show (0 : Int32) + (1 : Int32) = (1 : Int32) from by decide]; rfl) ?_
  refine wp_iinc 1 #[.val (.ref q), .val (.int 1), .val (.ref b), .val (.int 1), .val (.int 2), .val (.int 1), .val (.int c0)] D_jdk_52_m21_38 rfl rfl (by rw [show (0 : Int32) + (1 : Int32) = (1 : Int32) from by decide]; rfl) ?_
  refine wp_goto D_jdk_52_m21_41 (pc'' := 3) ⟨by decide, by decide⟩ ?_
  refine wp_iload D_jdk_52_m21_3 rfl ?_
  refine wp_iload D_jdk_52_m21_5 rfl ?_
  refine wp_icmp_ge D_jdk_52_m21_7 (pc'' := 44) ⟨by decide, by decide⟩ (fun h3 => by exact absurd h3 (by decide)) (fun h3 => ?_)
  refine wp_aload_n D_jdk_52_m21_10 rfl rfl ?_
  refine wp_iload_n D_jdk_52_m21_11 rfl ?_
  refine wp_caload (i := 2) (1) D_jdk_52_m21_12 rfl (by decide) (by decide) rfl ?_
  refine wp_istore #[.val (.ref q), .val (.int 1), .val (.ref b), .val (.int 1), .val (.int 2), .val (.int 1), .val (.int c1)] D_jdk_52_m21_13 rfl ?_
  refine wp_iload D_jdk_52_m21_15 rfl ?_
  refine wp_sipush 255 D_jdk_52_m21_17 (by decide) ?_
  refine wp_icmp_le D_jdk_52_m21_20 (pc'' := 26) ⟨by decide, by decide⟩ (fun h4 => ?_) (fun h4 => by exfalso; (simp only [Int32.lt_iff_toInt_lt, Int32.le_iff_toInt_le, ← Int32.toInt_inj, Int32.reduceToInt, Int64.lt_iff_toInt_lt, ← Int64.toInt_inj, Int64.reduceToInt] at *; omega))
  refine wp_aload_n D_jdk_52_m21_26 rfl rfl ?_
  refine wp_iload_n D_jdk_52_m21_27 rfl ?_
  refine wp_iload D_jdk_52_m21_28 rfl ?_
  refine wp_i2b D_jdk_52_m21_30 ?_
  refine wp_bastore (i := 0) (1) D_jdk_52_m21_31 rfl (by decide) (by decide) (by first | decide | exact Nat.le_of_ble_eq_true rfl | simp) ?_
  show W1 l Z (rm4 0 0 0 0) ((b, oA .byte [(nar .byte c0.toInt8.toInt32), (nar .byte c1.toInt8.toInt32)]) :: (s, oS (.null)) :: (q, oA .char [c0, c1]) :: F) 0 0 32 #[.val (.ref q), .val (.int 1), .val (.ref b), .val (.int 1), .val (.int 2), .val (.int 1), .val (.int c1)] [] (Q_c_cm5_2 b s q c0 c1 F)
  refine wp_iinc 1 #[.val (.ref q), .val (.int 2), .val (.ref b), .val (.int 1), .val (.int 2), .val (.int 1), .val (.int c1)] D_jdk_52_m21_32 rfl rfl (by rw [show (1 : Int32) + (1 : Int32) = (2 : Int32) from by decide]; rfl) ?_
  refine wp_iinc 1 #[.val (.ref q), .val (.int 2), .val (.ref b), .val (.int 2), .val (.int 2), .val (.int 1), .val (.int c1)] D_jdk_52_m21_35 rfl rfl (by rw [show (1 : Int32) + (1 : Int32) = (2 : Int32) from by decide]; rfl) ?_
  refine wp_iinc 1 #[.val (.ref q), .val (.int 2), .val (.ref b), .val (.int 2), .val (.int 2), .val (.int 2), .val (.int c1)] D_jdk_52_m21_38 rfl rfl (by rw [show (1 : Int32) + (1 : Int32) = (2 : Int32) from by decide]; rfl) ?_
  refine wp_goto D_jdk_52_m21_41 (pc'' := 3) ⟨by decide, by decide⟩ ?_
  refine wp_iload D_jdk_52_m21_3 rfl ?_
  refine wp_iload D_jdk_52_m21_5 rfl ?_
  refine wp_icmp_ge D_jdk_52_m21_7 (pc'' := 44) ⟨by decide, by decide⟩ (fun h5 => ?_) (fun h5 => by exact absurd h5 (by decide))
  refine wp_iload D_jdk_52_m21_44 rfl ?_
  refine wp_ireturn D_jdk_52_m21_46 rfl (by decide) (by decide) ?_
  exact ⟨rfl, rfl⟩
def Q_c_cm3_2 (s q : Addr) (c0 c1 : Int32) (F : OH) : Option Value → OH → Prop := fun w' H' => ∃ b, w' = some (.ref b) ∧ H' = ((b, oA .byte [(nar .byte c0.toInt8.toInt32), (nar .byte c1.toInt8.toInt32)]) :: (s, oS (.null)) :: (q, oA .char [c0, c1]) :: F)
set_option maxRecDepth 65536 in
set_option maxHeartbeats 40000000 in
theorem c_cm3_2 (l : Launch) (Z : State) (a0 : Array Value) (hw : HW Z a0) (s q : Addr) (c0 c1 : Int32) (F : OH) (h_c0 : 0 ≤ c0.toInt ∧ c0.toInt ≤ 255) (h_c1 : 0 ≤ c1.toInt ∧ c1.toInt ≤ 255) :
    Met l Z (⟨"java/lang/StringUTF16", "compress", "([CII)[B"⟩ : MethodName) jdk_52_method_16_code 6 (some (.array .byte)) (rm4 1 1 2 18) [(.ref q), (.int 0), (.int 2)] ((s, oS (.null)) :: (q, oA .char [c0, c1]) :: F) (Q_c_cm3_2 s q c0 c1 F) := by
  refine Met.of_wp (Ls := #[.val (.ref q), .val (.int 0), .val (.int 2), .unset, .unset, .unset]) pn_2 (fun m => (entry_loc m _ _).trans rfl) ?_
  show W2 l Z (rm4 1 1 2 18) ((s, oS (.null)) :: (q, oA .char [c0, c1]) :: F) 0 0 0 #[.val (.ref q), .val (.int 0), .val (.int 2), .unset, .unset, .unset] [] (Q_c_cm3_2 s q c0 c1 F)
  refine wp_iload_n D_jdk_52_m16_0 rfl ?_
  refine wp_newarrayI (n := (2 : Int32)) (2) 2 D_jdk_52_m16_1 rfl rfl rfl (gw hw 24 rfl) (by decide) (by decide) (by decide) (by decide) (by decide) (by decide) ?_
  intro a1
  show W2 l Z (rm4 1 1 2 18) ((a1, oA .byte [(0 : Int32), (0 : Int32)]) :: (s, oS (.null)) :: (q, oA .char [c0, c1]) :: F) 1 2 3 #[.val (.ref q), .val (.int 0), .val (.int 2), .unset, .unset, .unset] [(.ref a1)] (Q_c_cm3_2 s q c0 c1 F)
  refine wp_astore_n #[.val (.ref q), .val (.int 0), .val (.int 2), .val (.ref a1), .unset, .unset] D_jdk_52_m16_3 rfl rfl ?_
  refine wp_aload_n D_jdk_52_m16_4 rfl rfl ?_
  refine wp_iload_n D_jdk_52_m16_5 rfl ?_
  refine wp_aload_n D_jdk_52_m16_6 rfl rfl ?_
  refine wp_iconst 0 D_jdk_52_m16_7 (by decide) ?_
  refine wp_iload_n D_jdk_52_m16_8 rfl ?_
  refine wp_callS (c_cm5_2 l Z a0 hw a1 s q c0 c1 F h_c0 h_c1) D_jdk_52_m16_9 (gw hw 91 rfl) (gw hw 92 rfl) (gw hw 89 rfl) (gw hw 93 rfl) (by decide) pd_1 rfl rfl rfl (lb rfl) (lb rfl) (lb rfl) (lb rfl) ?_
  rintro _ _ ⟨rfl, rfl⟩
  show W2 l Z (rm4 1 1 2 18) ((a1, oA .byte [(nar .byte c0.toInt8.toInt32), (nar .byte c1.toInt8.toInt32)]) :: (s, oS (.null)) :: (q, oA .char [c0, c1]) :: F) 1 2 12 #[.val (.ref q), .val (.int 0), .val (.int 2), .val (.ref a1), .unset, .unset] [(.int 2)] (Q_c_cm3_2 s q c0 c1 F)
  refine wp_istore #[.val (.ref q), .val (.int 0), .val (.int 2), .val (.ref a1), .val (.int 2), .unset] D_jdk_52_m16_12 rfl ?_
  refine wp_iload D_jdk_52_m16_14 rfl ?_
  refine wp_iload_n D_jdk_52_m16_16 rfl ?_
  refine wp_icmp_eq D_jdk_52_m16_17 (pc'' := 57) ⟨by decide, by decide⟩ (fun h2 => ?_) (fun h2 => by exact absurd h2 (by decide))
  refine wp_aload_n D_jdk_52_m16_57 rfl rfl ?_
  refine wp_areturn D_jdk_52_m16_58 rfl rfl rfl rfl (by decide) (by decide) ?_
  exact ⟨_, rfl, rfl⟩
def Q_c_cfa_2 (b s q : Addr) (c0 c1 : Int32) (F : OH) : Option Value → OH → Prop := fun w' H' => w' = some (.int 0) ∧ H' = ((b, oA .byte [(nar .byte c0.toInt8.toInt32), (nar .byte c1.toInt8.toInt32)]) :: (s, oS (.null)) :: (q, oA .char [c0, c1]) :: F)
set_option maxRecDepth 65536 in
set_option maxHeartbeats 40000000 in
theorem c_cfa_2 (l : Launch) (Z : State) (a0 : Array Value) (hw : HW Z a0) (b s q : Addr) (c0 c1 : Int32) (F : OH) :
    Met l Z (⟨"java/lang/StringUTF16", "coderFromArrayLen", "([BI)B"⟩ : MethodName) jdk_52_method_15_code 2 (some .byte) (rm4 0 0 0 0) [(.ref b), (.int 2)] ((b, oA .byte [(nar .byte c0.toInt8.toInt32), (nar .byte c1.toInt8.toInt32)]) :: (s, oS (.null)) :: (q, oA .char [c0, c1]) :: F) (Q_c_cfa_2 b s q c0 c1 F) := by
  refine Met.of_wp (Ls := #[.val (.ref b), .val (.int 2)]) pn_3 (fun m => (entry_loc m _ _).trans rfl) ?_
  show W3 l Z (rm4 0 0 0 0) ((b, oA .byte [(nar .byte c0.toInt8.toInt32), (nar .byte c1.toInt8.toInt32)]) :: (s, oS (.null)) :: (q, oA .char [c0, c1]) :: F) 0 0 0 #[.val (.ref b), .val (.int 2)] [] (Q_c_cfa_2 b s q c0 c1 F)
  refine wp_iload_n D_jdk_52_m15_0 rfl ?_
  refine wp_aload_n D_jdk_52_m15_1 rfl rfl ?_
  refine wp_lengthI (i := 0) (2 : Int32) D_jdk_52_m15_2 rfl rfl ?_
  refine wp_isub D_jdk_52_m15_3 ?_
  rw [show ((2 : Int32) - (2 : Int32)) = (0 : Int32) from by decide]
  refine wp_bipush 31 D_jdk_52_m15_4 (by decide) ?_
  refine wp_iushr D_jdk_52_m15_6 ?_
  rw [show (XT.ushr (0 : Int32) (31 : Int32)) = (0 : Int32) from by decide]
  refine wp_i2b D_jdk_52_m15_7 ?_
  rw [show (0 : Int32).toInt8.toInt32 = (0 : Int32) from by decide]
  refine wp_ireturnN D_jdk_52_m15_8 rfl (by simp) (by decide) (by decide) ?_
  exact ⟨rfl, rfl⟩
def Q_c_si4_2 (s q : Addr) (cp : Int32) (c0 c1 : Int32) (F : OH) : Option Value → OH → Prop := fun w' H' => w' = none ∧ ∃ b, H' = ((b, oA .byte [(nar .byte c0.toInt8.toInt32), (nar .byte c1.toInt8.toInt32)]) :: (s, oS (.ref b)) :: (q, oA .char [c0, c1]) :: F)
set_option maxRecDepth 65536 in
set_option maxHeartbeats 40000000 in
theorem c_si4_2 (l : Launch) (Z : State) (a0 : Array Value) (hw : HW Z a0) (s q : Addr) (cp : Int32) (c0 c1 : Int32) (F : OH) (S_cp : Sta Z Z.heap "java/lang/String" "COMPACT_STRINGS" "Z" (.int cp)) (hcp : ¬ cp = 0) (h_c0 : 0 ≤ c0.toInt ∧ c0.toInt ≤ 255) (h_c1 : 0 ≤ c1.toInt ∧ c1.toInt ≤ 255) :
    Met l Z (⟨"java/lang/String", "<init>", "([CIILjava/lang/Void;)V"⟩ : MethodName) jdk_42_method_149_code 6 none (rm4 2 1 2 35) [(.ref s), (.ref q), (.int 0), (.int 2), (.null)] ((s, oS (.null)) :: (q, oA .char [c0, c1]) :: F) (Q_c_si4_2 s q cp c0 c1 F) := by
  refine Met.of_wp (Ls := #[.val (.ref s), .val (.ref q), .val (.int 0), .val (.int 2), .val (.null), .unset]) pn_4 (fun m => (entry_loc m _ _).trans rfl) ?_
  show W4 l Z (rm4 2 1 2 35) ((s, oS (.null)) :: (q, oA .char [c0, c1]) :: F) 0 0 0 #[.val (.ref s), .val (.ref q), .val (.int 0), .val (.int 2), .val (.null), .unset] [] (Q_c_si4_2 s q cp c0 c1 F)
  refine wp_aload_n D_jdk_42_m149_0 rfl rfl ?_
  refine wp_initO D_jdk_42_m149_1 (gw hw 20 rfl) (gw hw 21 rfl) (gw hw 22 rfl) rfl (Nat.le_of_ble_eq_true rfl) (Nat.le_of_ble_eq_true rfl) ?_
  refine wp_iload_n D_jdk_42_m149_4 rfl ?_
  refine wp_if_ne D_jdk_42_m149_5 (pc'' := 27) ⟨by decide, by decide⟩ (fun h1 => ?_) (fun h1 => by exact absurd h1 (by decide))
  refine wp_getstatic D_jdk_42_m149_27 (gw hw 50 rfl) S_cp ?_
  refine wp_if_eq D_jdk_42_m149_30 (pc'' := 58) ⟨by decide, by decide⟩ (fun h2 => by exact absurd h2 hcp) (fun h2 => ?_)
  refine wp_aload_n D_jdk_42_m149_33 rfl rfl ?_
  refine wp_iload_n D_jdk_42_m149_34 rfl ?_
  refine wp_iload_n D_jdk_42_m149_35 rfl ?_
  refine wp_callS (c_cm3_2 l Z a0 hw s q c0 c1 F h_c0 h_c1) D_jdk_42_m149_36 (gw hw 87 rfl) (gw hw 88 rfl) (gw hw 89 rfl) (gw hw 90 rfl) (by decide) pd_8 rfl rfl rfl (lb rfl) (lb rfl) (lb rfl) (lb rfl) ?_
  rintro _ _ ⟨b3, rfl, rfl⟩
  show W4 l Z (rm4 2 1 2 35) ((b3, oA .byte [(nar .byte c0.toInt8.toInt32), (nar .byte c1.toInt8.toInt32)]) :: (s, oS (.null)) :: (q, oA .char [c0, c1]) :: F) 1 2 39 #[.val (.ref s), .val (.ref q), .val (.int 0), .val (.int 2), .val (.null), .unset] [(.ref b3)] (Q_c_si4_2 s q cp c0 c1 F)
  refine wp_astore #[.val (.ref s), .val (.ref q), .val (.int 0), .val (.int 2), .val (.null), .val (.ref b3)] D_jdk_42_m149_39 rfl rfl ?_
  refine wp_aload_n D_jdk_42_m149_41 rfl rfl ?_
  refine wp_aload D_jdk_42_m149_42 rfl rfl ?_
  refine wp_iload_n D_jdk_42_m149_44 rfl ?_
  refine wp_callS (c_cfa_2 l Z a0 hw b3 s q c0 c1 F) D_jdk_42_m149_45 (gw hw 94 rfl) (gw hw 95 rfl) (gw hw 89 rfl) (gw hw 96 rfl) (by decide) pd_9 rfl rfl rfl (lb rfl) (lb rfl) (lb rfl) (lb rfl) ?_
  rintro _ _ ⟨rfl, rfl⟩
  show W4 l Z (rm4 2 1 2 35) ((b3, oA .byte [(nar .byte c0.toInt8.toInt32), (nar .byte c1.toInt8.toInt32)]) :: (s, oS (.null)) :: (q, oA .char [c0, c1]) :: F) 1 2 48 #[.val (.ref s), .val (.ref q), .val (.int 0), .val (.int 2), .val (.null), .val (.ref b3)] [(.int 0), (.ref s)] (Q_c_si4_2 s q cp c0 c1 F)
  refine wp_putfield (i := 1) (fi := 1) (ty := .byte) D_jdk_42_m149_48 (gw hw 30 rfl) rfl rfl rfl (Or.inr ⟨(gw hw 26 rfl), rfl, rfl⟩) (gw hw 11 rfl) (by decide) rfl rfl ?_
  show W4 l Z (rm4 2 1 2 35) ((b3, oA .byte [(nar .byte c0.toInt8.toInt32), (nar .byte c1.toInt8.toInt32)]) :: (s, oS (.null)) :: (q, oA .char [c0, c1]) :: F) 1 2 51 #[.val (.ref s), .val (.ref q), .val (.int 0), .val (.int 2), .val (.null), .val (.ref b3)] [] (Q_c_si4_2 s q cp c0 c1 F)
  refine wp_aload_n D_jdk_42_m149_51 rfl rfl ?_
  refine wp_aload D_jdk_42_m149_52 rfl rfl ?_
  refine wp_putfield (i := 1) (fi := 0) (ty := (.array .byte)) D_jdk_42_m149_54 (gw hw 29 rfl) rfl rfl rfl (Or.inr ⟨(gw hw 25 rfl), rfl, rfl⟩) (gw hw 11 rfl) (by decide) rfl rfl ?_
  show W4 l Z (rm4 2 1 2 35) ((b3, oA .byte [(nar .byte c0.toInt8.toInt32), (nar .byte c1.toInt8.toInt32)]) :: (s, oS (.ref b3)) :: (q, oA .char [c0, c1]) :: F) 1 2 57 #[.val (.ref s), .val (.ref q), .val (.int 0), .val (.int 2), .val (.null), .val (.ref b3)] [] (Q_c_si4_2 s q cp c0 c1 F)
  refine wp_return D_jdk_42_m149_57 rfl (by decide) (by decide) ?_
  exact ⟨rfl, _, rfl⟩
def Q_c_si1_2 (s q : Addr) (cp : Int32) (c0 c1 : Int32) (F : OH) : Option Value → OH → Prop := fun w' H' => w' = none ∧ ∃ b, H' = ((b, oA .byte [(nar .byte c0.toInt8.toInt32), (nar .byte c1.toInt8.toInt32)]) :: (s, oS (.ref b)) :: (q, oA .char [c0, c1]) :: F)
set_option maxRecDepth 65536 in
set_option maxHeartbeats 40000000 in
theorem c_si1_2 (l : Launch) (Z : State) (a0 : Array Value) (hw : HW Z a0) (s q : Addr) (cp : Int32) (c0 c1 : Int32) (F : OH) (S_cp : Sta Z Z.heap "java/lang/String" "COMPACT_STRINGS" "Z" (.int cp)) (hcp : ¬ cp = 0) (h_c0 : 0 ≤ c0.toInt ∧ c0.toInt ≤ 255) (h_c1 : 0 ≤ c1.toInt ∧ c1.toInt ≤ 255) :
    Met l Z (⟨"java/lang/String", "<init>", "([C)V"⟩ : MethodName) jdk_42_method_3_code 2 none (rm4 3 1 2 52) [(.ref s), (.ref q)] ((s, oS (.null)) :: (q, oA .char [c0, c1]) :: F) (Q_c_si1_2 s q cp c0 c1 F) := by
  refine Met.of_wp (Ls := #[.val (.ref s), .val (.ref q)]) pn_5 (fun m => (entry_loc m _ _).trans rfl) ?_
  show W5 l Z (rm4 3 1 2 52) ((s, oS (.null)) :: (q, oA .char [c0, c1]) :: F) 0 0 0 #[.val (.ref s), .val (.ref q)] [] (Q_c_si1_2 s q cp c0 c1 F)
  refine wp_aload_n D_jdk_42_m3_0 rfl rfl ?_
  refine wp_aload_n D_jdk_42_m3_1 rfl rfl ?_
  refine wp_iconst 0 D_jdk_42_m3_2 (by decide) ?_
  refine wp_aload_n D_jdk_42_m3_3 rfl rfl ?_
  refine wp_lengthI (i := 1) (2 : Int32) D_jdk_42_m3_4 rfl rfl ?_
  refine wp_aconst_null D_jdk_42_m3_5 ?_
  refine wp_init (c_si4_2 l Z a0 hw s q cp c0 c1 F S_cp hcp h_c0 h_c1) D_jdk_42_m3_6 rfl (gw hw 16 rfl) (gw hw 17 rfl) (gw hw 12 rfl) (gw hw 19 rfl) (by decide) pd_2 rfl rfl rfl (lb rfl) (lb rfl) (lb rfl) (lb rfl) ?_
  rintro _ _ ⟨rfl, b1, rfl⟩
  show W5 l Z (rm4 3 1 2 52) ((b1, oA .byte [(nar .byte c0.toInt8.toInt32), (nar .byte c1.toInt8.toInt32)]) :: (s, oS (.ref b1)) :: (q, oA .char [c0, c1]) :: F) 1 2 9 #[.val (.ref s), .val (.ref q)] [] (Q_c_si1_2 s q cp c0 c1 F)
  refine wp_return D_jdk_42_m3_9 rfl (by decide) (by decide) ?_
  exact ⟨rfl, _, rfl⟩
def Q_c_cm5_3 (b s q : Addr) (c0 c1 c2 : Int32) (F : OH) : Option Value → OH → Prop := fun w' H' => w' = some (.int 3) ∧ H' = ((b, oA .byte [(nar .byte c0.toInt8.toInt32), (nar .byte c1.toInt8.toInt32), (nar .byte c2.toInt8.toInt32)]) :: (s, oS (.null)) :: (q, oA .char [c0, c1, c2]) :: F)
set_option maxRecDepth 65536 in
set_option maxHeartbeats 40000000 in
theorem c_cm5_3 (l : Launch) (Z : State) (a0 : Array Value) (hw : HW Z a0) (b s q : Addr) (c0 c1 c2 : Int32) (F : OH) (h_c0 : 0 ≤ c0.toInt ∧ c0.toInt ≤ 255) (h_c1 : 0 ≤ c1.toInt ∧ c1.toInt ≤ 255) (h_c2 : 0 ≤ c2.toInt ∧ c2.toInt ≤ 255) :
    Met l Z (⟨"java/lang/StringUTF16", "compress", "([CI[BII)I"⟩ : MethodName) jdk_52_method_21_code 7 (some .int) (rm4 0 0 0 0) [(.ref q), (.int 0), (.ref b), (.int 0), (.int 3)] ((b, oA .byte [(0 : Int32), (0 : Int32), (0 : Int32)]) :: (s, oS (.null)) :: (q, oA .char [c0, c1, c2]) :: F) (Q_c_cm5_3 b s q c0 c1 c2 F) := by
  refine Met.of_wp (Ls := #[.val (.ref q), .val (.int 0), .val (.ref b), .val (.int 0), .val (.int 3), .unset, .unset]) pn_1 (fun m => (entry_loc m _ _).trans rfl) ?_
  show W1 l Z (rm4 0 0 0 0) ((b, oA .byte [(0 : Int32), (0 : Int32), (0 : Int32)]) :: (s, oS (.null)) :: (q, oA .char [c0, c1, c2]) :: F) 0 0 0 #[.val (.ref q), .val (.int 0), .val (.ref b), .val (.int 0), .val (.int 3), .unset, .unset] [] (Q_c_cm5_3 b s q c0 c1 c2 F)
  refine wp_iconst 0 D_jdk_52_m21_0 (by decide) ?_
  refine wp_istore #[.val (.ref q), .val (.int 0), .val (.ref b), .val (.int 0), .val (.int 3), .val (.int 0), .unset] D_jdk_52_m21_1 rfl ?_
  refine wp_iload D_jdk_52_m21_3 rfl ?_
  refine wp_iload D_jdk_52_m21_5 rfl ?_
  refine wp_icmp_ge D_jdk_52_m21_7 (pc'' := 44) ⟨by decide, by decide⟩ (fun h1 => by exact absurd h1 (by decide)) (fun h1 => ?_)
  refine wp_aload_n D_jdk_52_m21_10 rfl rfl ?_
  refine wp_iload_n D_jdk_52_m21_11 rfl ?_
  refine wp_caload (i := 2) (0) D_jdk_52_m21_12 rfl (by decide) (by decide) rfl ?_
  refine wp_istore #[.val (.ref q), .val (.int 0), .val (.ref b), .val (.int 0), .val (.int 3), .val (.int 0), .val (.int c0)] D_jdk_52_m21_13 rfl ?_
  refine wp_iload D_jdk_52_m21_15 rfl ?_
  refine wp_sipush 255 D_jdk_52_m21_17 (by decide) ?_
  refine wp_icmp_le D_jdk_52_m21_20 (pc'' := 26) ⟨by decide, by decide⟩ (fun h2 => ?_) (fun h2 => by exfalso; (simp only [Int32.lt_iff_toInt_lt, Int32.le_iff_toInt_le, ← Int32.toInt_inj, Int32.reduceToInt, Int64.lt_iff_toInt_lt, ← Int64.toInt_inj, Int64.reduceToInt] at *; omega))
  refine wp_aload_n D_jdk_52_m21_26 rfl rfl ?_
  refine wp_iload_n D_jdk_52_m21_27 rfl ?_
  refine wp_iload D_jdk_52_m21_28 rfl ?_
  refine wp_i2b D_jdk_52_m21_30 ?_
  refine wp_bastore (i := 0) (0) D_jdk_52_m21_31 rfl (by decide) (by decide) (by first | decide | exact Nat.le_of_ble_eq_true rfl | simp) ?_
  show W1 l Z (rm4 0 0 0 0) ((b, oA .byte [(nar .byte c0.toInt8.toInt32), (0 : Int32), (0 : Int32)]) :: (s, oS (.null)) :: (q, oA .char [c0, c1, c2]) :: F) 0 0 32 #[.val (.ref q), .val (.int 0), .val (.ref b), .val (.int 0), .val (.int 3), .val (.int 0), .val (.int c0)] [] (Q_c_cm5_3 b s q c0 c1 c2 F)
  refine wp_iinc 1 #[.val (.ref q), .val (.int 1), .val (.ref b), .val (.int 0), .val (.int 3), .val (.int 0), .val (.int c0)] D_jdk_52_m21_32 rfl rfl (by rw [show (0 : Int32) + (1 : Int32) = (1 : Int32) from by decide]; rfl) ?_
  refine wp_iinc 1 #[.val (.ref q), .val (.int 1), .val (.ref b), .val (.int 1), .val (.int 3), .val (.int 0), .val (.int c0)] D_jdk_52_m21_35 rfl rfl (by rw [show (0 : Int32) + (1 : Int32) = (1 : Int32) from by decide]; rfl) ?_
  refine wp_iinc 1 #[.val (.ref q), .val (.int 1), .val (.ref b), .val (.int 1), .val (.int 3), .val (.int 1), .val (.int c0)] D_jdk_52_m21_38 rfl rfl (by rw [show (0 : Int32) + (1 : Int32) = (1 : Int32) from by decide]; rfl) ?_
  refine wp_goto D_jdk_52_m21_41 (pc'' := 3) ⟨by decide, by decide⟩ ?_
  refine wp_iload D_jdk_52_m21_3 rfl ?_
  refine wp_iload D_jdk_52_m21_5 rfl ?_
  refine wp_icmp_ge D_jdk_52_m21_7 (pc'' := 44) ⟨by decide, by decide⟩ (fun h3 => by exact absurd h3 (by decide)) (fun h3 => ?_)
  refine wp_aload_n D_jdk_52_m21_10 rfl rfl ?_
  refine wp_iload_n D_jdk_52_m21_11 rfl ?_
  refine wp_caload (i := 2) (1) D_jdk_52_m21_12 rfl (by decide) (by decide) rfl ?_
  refine wp_istore #[.val (.ref q), .val (.int 1), .val (.ref b), .val (.int 1), .val (.int 3), .val (.int 1), .val (.int c1)] D_jdk_52_m21_13 rfl ?_
  refine wp_iload D_jdk_52_m21_15 rfl ?_
  refine wp_sipush 255 D_jdk_52_m21_17 (by decide) ?_
  refine wp_icmp_le D_jdk_52_m21_20 (pc'' := 26) ⟨by decide, by decide⟩ (fun h4 => ?_) (fun h4 => by exfalso; (simp only [Int32.lt_iff_toInt_lt, Int32.le_iff_toInt_le, ← Int32.toInt_inj, Int32.reduceToInt, Int64.lt_iff_toInt_lt, ← Int64.toInt_inj, Int64.reduceToInt] at *; omega))
  refine wp_aload_n D_jdk_52_m21_26 rfl rfl ?_
  refine wp_iload_n D_jdk_52_m21_27 rfl ?_
  refine wp_iload D_jdk_52_m21_28 rfl ?_
  refine wp_i2b D_jdk_52_m21_30 ?_
  refine wp_bastore (i := 0) (1) D_jdk_52_m21_31 rfl (by decide) (by decide) (by first | decide | exact Nat.le_of_ble_eq_true rfl | simp) ?_
  show W1 l Z (rm4 0 0 0 0) ((b, oA .byte [(nar .byte c0.toInt8.toInt32), (nar .byte c1.toInt8.toInt32), (0 : Int32)]) :: (s, oS (.null)) :: (q, oA .char [c0, c1, c2]) :: F) 0 0 32 #[.val (.ref q), .val (.int 1), .val (.ref b), .val (.int 1), .val (.int 3), .val (.int 1), .val (.int c1)] [] (Q_c_cm5_3 b s q c0 c1 c2 F)
  refine wp_iinc 1 #[.val (.ref q), .val (.int 2), .val (.ref b), .val (.int 1), .val (.int 3), .val (.int 1), .val (.int c1)] D_jdk_52_m21_32 rfl rfl (by rw [show (1 : Int32) + (1 : Int32) = (2 : Int32) from by decide]; rfl) ?_
  refine wp_iinc 1 #[.val (.ref q), .val (.int 2), .val (.ref b), .val (.int 2), .val (.int 3), .val (.int 1), .val (.int c1)] D_jdk_52_m21_35 rfl rfl (by rw [show (1 : Int32) + (1 : Int32) = (2 : Int32) from by decide]; rfl) ?_
  refine wp_iinc 1 #[.val (.ref q), .val (.int 2), .val (.ref b), .val (.int 2), .val (.int 3), .val (.int 2), .val (.int c1)] D_jdk_52_m21_38 rfl rfl (by rw [show (1 : Int32) + (1 : Int32) = (2 : Int32) from by decide]; rfl) ?_
  refine wp_goto D_jdk_52_m21_41 (pc'' := 3) ⟨by decide, by decide⟩ ?_
  refine wp_iload D_jdk_52_m21_3 rfl ?_
  refine wp_iload D_jdk_52_m21_5 rfl ?_
  refine wp_icmp_ge D_jdk_52_m21_7 (pc'' := 44) ⟨by decide, by decide⟩ (fun h5 => by exact absurd h5 (by decide)) (fun h5 => ?_)
  refine wp_aload_n D_jdk_52_m21_10 rfl rfl ?_
  refine wp_iload_n D_jdk_52_m21_11 rfl ?_
  refine wp_caload (i := 2) (2) D_jdk_52_m21_12 rfl (by decide) (by decide) rfl ?_
  refine wp_istore #[.val (.ref q), .val (.int 2), .val (.ref b), .val (.int 2), .val (.int 3), .val (.int 2), .val (.int c2)] D_jdk_52_m21_13 rfl ?_
  refine wp_iload D_jdk_52_m21_15 rfl ?_
  refine wp_sipush 255 D_jdk_52_m21_17 (by decide) ?_
  refine wp_icmp_le D_jdk_52_m21_20 (pc'' := 26) ⟨by decide, by decide⟩ (fun h6 => ?_) (fun h6 => by exfalso; (simp only [Int32.lt_iff_toInt_lt, Int32.le_iff_toInt_le, ← Int32.toInt_inj, Int32.reduceToInt, Int64.lt_iff_toInt_lt, ← Int64.toInt_inj, Int64.reduceToInt] at *; omega))
  refine wp_aload_n D_jdk_52_m21_26 rfl rfl ?_
  refine wp_iload_n D_jdk_52_m21_27 rfl ?_
  refine wp_iload D_jdk_52_m21_28 rfl ?_
  refine wp_i2b D_jdk_52_m21_30 ?_
  refine wp_bastore (i := 0) (2) D_jdk_52_m21_31 rfl (by decide) (by decide) (by first | decide | exact Nat.le_of_ble_eq_true rfl | simp) ?_
  show W1 l Z (rm4 0 0 0 0) ((b, oA .byte [(nar .byte c0.toInt8.toInt32), (nar .byte c1.toInt8.toInt32), (nar .byte c2.toInt8.toInt32)]) :: (s, oS (.null)) :: (q, oA .char [c0, c1, c2]) :: F) 0 0 32 #[.val (.ref q), .val (.int 2), .val (.ref b), .val (.int 2), .val (.int 3), .val (.int 2), .val (.int c2)] [] (Q_c_cm5_3 b s q c0 c1 c2 F)
  refine wp_iinc 1 #[.val (.ref q), .val (.int 3), .val (.ref b), .val (.int 2), .val (.int 3), .val (.int 2), .val (.int c2)] D_jdk_52_m21_32 rfl rfl (by rw [show (2 : Int32) + (1 : Int32) = (3 : Int32) from by decide]; rfl) ?_
  refine wp_iinc 1 #[.val (.ref q), .val (.int 3), .val (.ref b), .val (.int 3), .val (.int 3), .val (.int 2), .val (.int c2)] D_jdk_52_m21_35 rfl rfl (by rw [show (2 : Int32) + (1 : Int32) = (3 : Int32) from by decide]; rfl) ?_
  refine wp_iinc 1 #[.val (.ref q), .val (.int 3), .val (.ref b), .val (.int 3), .val (.int 3), .val (.int 3), .val (.int c2)] D_jdk_52_m21_38 rfl rfl (by rw [show (2 : Int32) + (1 : Int32) = (3 : Int32) from by decide]; rfl) ?_
  refine wp_goto D_jdk_52_m21_41 (pc'' := 3) ⟨by decide, by decide⟩ ?_
  refine wp_iload D_jdk_52_m21_3 rfl ?_
  refine wp_iload D_jdk_52_m21_5 rfl ?_
  refine wp_icmp_ge D_jdk_52_m21_7 (pc'' := 44) ⟨by decide, by decide⟩ (fun h7 => ?_) (fun h7 => by exact absurd h7 (by decide))
  refine wp_iload D_jdk_52_m21_44 rfl ?_
  refine wp_ireturn D_jdk_52_m21_46 rfl (by decide) (by decide) ?_
  exact ⟨rfl, rfl⟩
def Q_c_cm3_3 (s q : Addr) (c0 c1 c2 : Int32) (F : OH) : Option Value → OH → Prop := fun w' H' => ∃ b, w' = some (.ref b) ∧ H' = ((b, oA .byte [(nar .byte c0.toInt8.toInt32), (nar .byte c1.toInt8.toInt32), (nar .byte c2.toInt8.toInt32)]) :: (s, oS (.null)) :: (q, oA .char [c0, c1, c2]) :: F)
set_option maxRecDepth 65536 in
set_option maxHeartbeats 40000000 in
theorem c_cm3_3 (l : Launch) (Z : State) (a0 : Array Value) (hw : HW Z a0) (s q : Addr) (c0 c1 c2 : Int32) (F : OH) (h_c0 : 0 ≤ c0.toInt ∧ c0.toInt ≤ 255) (h_c1 : 0 ≤ c1.toInt ∧ c1.toInt ≤ 255) (h_c2 : 0 ≤ c2.toInt ∧ c2.toInt ≤ 255) :
    Met l Z (⟨"java/lang/StringUTF16", "compress", "([CII)[B"⟩ : MethodName) jdk_52_method_16_code 6 (some (.array .byte)) (rm4 1 1 3 18) [(.ref q), (.int 0), (.int 3)] ((s, oS (.null)) :: (q, oA .char [c0, c1, c2]) :: F) (Q_c_cm3_3 s q c0 c1 c2 F) := by
  refine Met.of_wp (Ls := #[.val (.ref q), .val (.int 0), .val (.int 3), .unset, .unset, .unset]) pn_2 (fun m => (entry_loc m _ _).trans rfl) ?_
  show W2 l Z (rm4 1 1 3 18) ((s, oS (.null)) :: (q, oA .char [c0, c1, c2]) :: F) 0 0 0 #[.val (.ref q), .val (.int 0), .val (.int 3), .unset, .unset, .unset] [] (Q_c_cm3_3 s q c0 c1 c2 F)
  refine wp_iload_n D_jdk_52_m16_0 rfl ?_
  refine wp_newarrayI (n := (3 : Int32)) (3) 3 D_jdk_52_m16_1 rfl rfl rfl (gw hw 24 rfl) (by decide) (by decide) (by decide) (by decide) (by decide) (by decide) ?_
  intro a1
  show W2 l Z (rm4 1 1 3 18) ((a1, oA .byte [(0 : Int32), (0 : Int32), (0 : Int32)]) :: (s, oS (.null)) :: (q, oA .char [c0, c1, c2]) :: F) 1 3 3 #[.val (.ref q), .val (.int 0), .val (.int 3), .unset, .unset, .unset] [(.ref a1)] (Q_c_cm3_3 s q c0 c1 c2 F)
  refine wp_astore_n #[.val (.ref q), .val (.int 0), .val (.int 3), .val (.ref a1), .unset, .unset] D_jdk_52_m16_3 rfl rfl ?_
  refine wp_aload_n D_jdk_52_m16_4 rfl rfl ?_
  refine wp_iload_n D_jdk_52_m16_5 rfl ?_
  refine wp_aload_n D_jdk_52_m16_6 rfl rfl ?_
  refine wp_iconst 0 D_jdk_52_m16_7 (by decide) ?_
  refine wp_iload_n D_jdk_52_m16_8 rfl ?_
  refine wp_callS (c_cm5_3 l Z a0 hw a1 s q c0 c1 c2 F h_c0 h_c1 h_c2) D_jdk_52_m16_9 (gw hw 91 rfl) (gw hw 92 rfl) (gw hw 89 rfl) (gw hw 93 rfl) (by decide) pd_1 rfl rfl rfl (lb rfl) (lb rfl) (lb rfl) (lb rfl) ?_
  rintro _ _ ⟨rfl, rfl⟩
  show W2 l Z (rm4 1 1 3 18) ((a1, oA .byte [(nar .byte c0.toInt8.toInt32), (nar .byte c1.toInt8.toInt32), (nar .byte c2.toInt8.toInt32)]) :: (s, oS (.null)) :: (q, oA .char [c0, c1, c2]) :: F) 1 3 12 #[.val (.ref q), .val (.int 0), .val (.int 3), .val (.ref a1), .unset, .unset] [(.int 3)] (Q_c_cm3_3 s q c0 c1 c2 F)
  refine wp_istore #[.val (.ref q), .val (.int 0), .val (.int 3), .val (.ref a1), .val (.int 3), .unset] D_jdk_52_m16_12 rfl ?_
  refine wp_iload D_jdk_52_m16_14 rfl ?_
  refine wp_iload_n D_jdk_52_m16_16 rfl ?_
  refine wp_icmp_eq D_jdk_52_m16_17 (pc'' := 57) ⟨by decide, by decide⟩ (fun h2 => ?_) (fun h2 => by exact absurd h2 (by decide))
  refine wp_aload_n D_jdk_52_m16_57 rfl rfl ?_
  refine wp_areturn D_jdk_52_m16_58 rfl rfl rfl rfl (by decide) (by decide) ?_
  exact ⟨_, rfl, rfl⟩
def Q_c_cfa_3 (b s q : Addr) (c0 c1 c2 : Int32) (F : OH) : Option Value → OH → Prop := fun w' H' => w' = some (.int 0) ∧ H' = ((b, oA .byte [(nar .byte c0.toInt8.toInt32), (nar .byte c1.toInt8.toInt32), (nar .byte c2.toInt8.toInt32)]) :: (s, oS (.null)) :: (q, oA .char [c0, c1, c2]) :: F)
set_option maxRecDepth 65536 in
set_option maxHeartbeats 40000000 in
theorem c_cfa_3 (l : Launch) (Z : State) (a0 : Array Value) (hw : HW Z a0) (b s q : Addr) (c0 c1 c2 : Int32) (F : OH) :
    Met l Z (⟨"java/lang/StringUTF16", "coderFromArrayLen", "([BI)B"⟩ : MethodName) jdk_52_method_15_code 2 (some .byte) (rm4 0 0 0 0) [(.ref b), (.int 3)] ((b, oA .byte [(nar .byte c0.toInt8.toInt32), (nar .byte c1.toInt8.toInt32), (nar .byte c2.toInt8.toInt32)]) :: (s, oS (.null)) :: (q, oA .char [c0, c1, c2]) :: F) (Q_c_cfa_3 b s q c0 c1 c2 F) := by
  refine Met.of_wp (Ls := #[.val (.ref b), .val (.int 3)]) pn_3 (fun m => (entry_loc m _ _).trans rfl) ?_
  show W3 l Z (rm4 0 0 0 0) ((b, oA .byte [(nar .byte c0.toInt8.toInt32), (nar .byte c1.toInt8.toInt32), (nar .byte c2.toInt8.toInt32)]) :: (s, oS (.null)) :: (q, oA .char [c0, c1, c2]) :: F) 0 0 0 #[.val (.ref b), .val (.int 3)] [] (Q_c_cfa_3 b s q c0 c1 c2 F)
  refine wp_iload_n D_jdk_52_m15_0 rfl ?_
  refine wp_aload_n D_jdk_52_m15_1 rfl rfl ?_
  refine wp_lengthI (i := 0) (3 : Int32) D_jdk_52_m15_2 rfl rfl ?_
  refine wp_isub D_jdk_52_m15_3 ?_
  rw [show ((3 : Int32) - (3 : Int32)) = (0 : Int32) from by decide]
  refine wp_bipush 31 D_jdk_52_m15_4 (by decide) ?_
  refine wp_iushr D_jdk_52_m15_6 ?_
  rw [show (XT.ushr (0 : Int32) (31 : Int32)) = (0 : Int32) from by decide]
  refine wp_i2b D_jdk_52_m15_7 ?_
  rw [show (0 : Int32).toInt8.toInt32 = (0 : Int32) from by decide]
  refine wp_ireturnN D_jdk_52_m15_8 rfl (by simp) (by decide) (by decide) ?_
  exact ⟨rfl, rfl⟩
def Q_c_si4_3 (s q : Addr) (cp : Int32) (c0 c1 c2 : Int32) (F : OH) : Option Value → OH → Prop := fun w' H' => w' = none ∧ ∃ b, H' = ((b, oA .byte [(nar .byte c0.toInt8.toInt32), (nar .byte c1.toInt8.toInt32), (nar .byte c2.toInt8.toInt32)]) :: (s, oS (.ref b)) :: (q, oA .char [c0, c1, c2]) :: F)
set_option maxRecDepth 65536 in
set_option maxHeartbeats 40000000 in
theorem c_si4_3 (l : Launch) (Z : State) (a0 : Array Value) (hw : HW Z a0) (s q : Addr) (cp : Int32) (c0 c1 c2 : Int32) (F : OH) (S_cp : Sta Z Z.heap "java/lang/String" "COMPACT_STRINGS" "Z" (.int cp)) (hcp : ¬ cp = 0) (h_c0 : 0 ≤ c0.toInt ∧ c0.toInt ≤ 255) (h_c1 : 0 ≤ c1.toInt ∧ c1.toInt ≤ 255) (h_c2 : 0 ≤ c2.toInt ∧ c2.toInt ≤ 255) :
    Met l Z (⟨"java/lang/String", "<init>", "([CIILjava/lang/Void;)V"⟩ : MethodName) jdk_42_method_149_code 6 none (rm4 2 1 3 35) [(.ref s), (.ref q), (.int 0), (.int 3), (.null)] ((s, oS (.null)) :: (q, oA .char [c0, c1, c2]) :: F) (Q_c_si4_3 s q cp c0 c1 c2 F) := by
  refine Met.of_wp (Ls := #[.val (.ref s), .val (.ref q), .val (.int 0), .val (.int 3), .val (.null), .unset]) pn_4 (fun m => (entry_loc m _ _).trans rfl) ?_
  show W4 l Z (rm4 2 1 3 35) ((s, oS (.null)) :: (q, oA .char [c0, c1, c2]) :: F) 0 0 0 #[.val (.ref s), .val (.ref q), .val (.int 0), .val (.int 3), .val (.null), .unset] [] (Q_c_si4_3 s q cp c0 c1 c2 F)
  refine wp_aload_n D_jdk_42_m149_0 rfl rfl ?_
  refine wp_initO D_jdk_42_m149_1 (gw hw 20 rfl) (gw hw 21 rfl) (gw hw 22 rfl) rfl (Nat.le_of_ble_eq_true rfl) (Nat.le_of_ble_eq_true rfl) ?_
  refine wp_iload_n D_jdk_42_m149_4 rfl ?_
  refine wp_if_ne D_jdk_42_m149_5 (pc'' := 27) ⟨by decide, by decide⟩ (fun h1 => ?_) (fun h1 => by exact absurd h1 (by decide))
  refine wp_getstatic D_jdk_42_m149_27 (gw hw 50 rfl) S_cp ?_
  refine wp_if_eq D_jdk_42_m149_30 (pc'' := 58) ⟨by decide, by decide⟩ (fun h2 => by exact absurd h2 hcp) (fun h2 => ?_)
  refine wp_aload_n D_jdk_42_m149_33 rfl rfl ?_
  refine wp_iload_n D_jdk_42_m149_34 rfl ?_
  refine wp_iload_n D_jdk_42_m149_35 rfl ?_
  refine wp_callS (c_cm3_3 l Z a0 hw s q c0 c1 c2 F h_c0 h_c1 h_c2) D_jdk_42_m149_36 (gw hw 87 rfl) (gw hw 88 rfl) (gw hw 89 rfl) (gw hw 90 rfl) (by decide) pd_8 rfl rfl rfl (lb rfl) (lb rfl) (lb rfl) (lb rfl) ?_
  rintro _ _ ⟨b3, rfl, rfl⟩
  show W4 l Z (rm4 2 1 3 35) ((b3, oA .byte [(nar .byte c0.toInt8.toInt32), (nar .byte c1.toInt8.toInt32), (nar .byte c2.toInt8.toInt32)]) :: (s, oS (.null)) :: (q, oA .char [c0, c1, c2]) :: F) 1 3 39 #[.val (.ref s), .val (.ref q), .val (.int 0), .val (.int 3), .val (.null), .unset] [(.ref b3)] (Q_c_si4_3 s q cp c0 c1 c2 F)
  refine wp_astore #[.val (.ref s), .val (.ref q), .val (.int 0), .val (.int 3), .val (.null), .val (.ref b3)] D_jdk_42_m149_39 rfl rfl ?_
  refine wp_aload_n D_jdk_42_m149_41 rfl rfl ?_
  refine wp_aload D_jdk_42_m149_42 rfl rfl ?_
  refine wp_iload_n D_jdk_42_m149_44 rfl ?_
  refine wp_callS (c_cfa_3 l Z a0 hw b3 s q c0 c1 c2 F) D_jdk_42_m149_45 (gw hw 94 rfl) (gw hw 95 rfl) (gw hw 89 rfl) (gw hw 96 rfl) (by decide) pd_9 rfl rfl rfl (lb rfl) (lb rfl) (lb rfl) (lb rfl) ?_
  rintro _ _ ⟨rfl, rfl⟩
  show W4 l Z (rm4 2 1 3 35) ((b3, oA .byte [(nar .byte c0.toInt8.toInt32), (nar .byte c1.toInt8.toInt32), (nar .byte c2.toInt8.toInt32)]) :: (s, oS (.null)) :: (q, oA .char [c0, c1, c2]) :: F) 1 3 48 #[.val (.ref s), .val (.ref q), .val (.int 0), .val (.int 3), .val (.null), .val (.ref b3)] [(.int 0), (.ref s)] (Q_c_si4_3 s q cp c0 c1 c2 F)
  refine wp_putfield (i := 1) (fi := 1) (ty := .byte) D_jdk_42_m149_48 (gw hw 30 rfl) rfl rfl rfl (Or.inr ⟨(gw hw 26 rfl), rfl, rfl⟩) (gw hw 11 rfl) (by decide) rfl rfl ?_
  show W4 l Z (rm4 2 1 3 35) ((b3, oA .byte [(nar .byte c0.toInt8.toInt32), (nar .byte c1.toInt8.toInt32), (nar .byte c2.toInt8.toInt32)]) :: (s, oS (.null)) :: (q, oA .char [c0, c1, c2]) :: F) 1 3 51 #[.val (.ref s), .val (.ref q), .val (.int 0), .val (.int 3), .val (.null), .val (.ref b3)] [] (Q_c_si4_3 s q cp c0 c1 c2 F)
  refine wp_aload_n D_jdk_42_m149_51 rfl rfl ?_
  refine wp_aload D_jdk_42_m149_52 rfl rfl ?_
  refine wp_putfield (i := 1) (fi := 0) (ty := (.array .byte)) D_jdk_42_m149_54 (gw hw 29 rfl) rfl rfl rfl (Or.inr ⟨(gw hw 25 rfl), rfl, rfl⟩) (gw hw 11 rfl) (by decide) rfl rfl ?_
  show W4 l Z (rm4 2 1 3 35) ((b3, oA .byte [(nar .byte c0.toInt8.toInt32), (nar .byte c1.toInt8.toInt32), (nar .byte c2.toInt8.toInt32)]) :: (s, oS (.ref b3)) :: (q, oA .char [c0, c1, c2]) :: F) 1 3 57 #[.val (.ref s), .val (.ref q), .val (.int 0), .val (.int 3), .val (.null), .val (.ref b3)] [] (Q_c_si4_3 s q cp c0 c1 c2 F)
  refine wp_return D_jdk_42_m149_57 rfl (by decide) (by decide) ?_
  exact ⟨rfl, _, rfl⟩
def Q_c_si1_3 (s q : Addr) (cp : Int32) (c0 c1 c2 : Int32) (F : OH) : Option Value → OH → Prop := fun w' H' => w' = none ∧ ∃ b, H' = ((b, oA .byte [(nar .byte c0.toInt8.toInt32), (nar .byte c1.toInt8.toInt32), (nar .byte c2.toInt8.toInt32)]) :: (s, oS (.ref b)) :: (q, oA .char [c0, c1, c2]) :: F)
set_option maxRecDepth 65536 in
set_option maxHeartbeats 40000000 in
theorem c_si1_3 (l : Launch) (Z : State) (a0 : Array Value) (hw : HW Z a0) (s q : Addr) (cp : Int32) (c0 c1 c2 : Int32) (F : OH) (S_cp : Sta Z Z.heap "java/lang/String" "COMPACT_STRINGS" "Z" (.int cp)) (hcp : ¬ cp = 0) (h_c0 : 0 ≤ c0.toInt ∧ c0.toInt ≤ 255) (h_c1 : 0 ≤ c1.toInt ∧ c1.toInt ≤ 255) (h_c2 : 0 ≤ c2.toInt ∧ c2.toInt ≤ 255) :
    Met l Z (⟨"java/lang/String", "<init>", "([C)V"⟩ : MethodName) jdk_42_method_3_code 2 none (rm4 3 1 3 52) [(.ref s), (.ref q)] ((s, oS (.null)) :: (q, oA .char [c0, c1, c2]) :: F) (Q_c_si1_3 s q cp c0 c1 c2 F) := by
  refine Met.of_wp (Ls := #[.val (.ref s), .val (.ref q)]) pn_5 (fun m => (entry_loc m _ _).trans rfl) ?_
  show W5 l Z (rm4 3 1 3 52) ((s, oS (.null)) :: (q, oA .char [c0, c1, c2]) :: F) 0 0 0 #[.val (.ref s), .val (.ref q)] [] (Q_c_si1_3 s q cp c0 c1 c2 F)
  refine wp_aload_n D_jdk_42_m3_0 rfl rfl ?_
  refine wp_aload_n D_jdk_42_m3_1 rfl rfl ?_
  refine wp_iconst 0 D_jdk_42_m3_2 (by decide) ?_
  refine wp_aload_n D_jdk_42_m3_3 rfl rfl ?_
  refine wp_lengthI (i := 1) (3 : Int32) D_jdk_42_m3_4 rfl rfl ?_
  refine wp_aconst_null D_jdk_42_m3_5 ?_
  refine wp_init (c_si4_3 l Z a0 hw s q cp c0 c1 c2 F S_cp hcp h_c0 h_c1 h_c2) D_jdk_42_m3_6 rfl (gw hw 16 rfl) (gw hw 17 rfl) (gw hw 12 rfl) (gw hw 19 rfl) (by decide) pd_2 rfl rfl rfl (lb rfl) (lb rfl) (lb rfl) (lb rfl) ?_
  rintro _ _ ⟨rfl, b1, rfl⟩
  show W5 l Z (rm4 3 1 3 52) ((b1, oA .byte [(nar .byte c0.toInt8.toInt32), (nar .byte c1.toInt8.toInt32), (nar .byte c2.toInt8.toInt32)]) :: (s, oS (.ref b1)) :: (q, oA .char [c0, c1, c2]) :: F) 1 3 9 #[.val (.ref s), .val (.ref q)] [] (Q_c_si1_3 s q cp c0 c1 c2 F)
  refine wp_return D_jdk_42_m3_9 rfl (by decide) (by decide) ?_
  exact ⟨rfl, _, rfl⟩
def Q_c_cm5_4 (b s q : Addr) (c0 c1 c2 c3 : Int32) (F : OH) : Option Value → OH → Prop := fun w' H' => w' = some (.int 4) ∧ H' = ((b, oA .byte [(nar .byte c0.toInt8.toInt32), (nar .byte c1.toInt8.toInt32), (nar .byte c2.toInt8.toInt32), (nar .byte c3.toInt8.toInt32)]) :: (s, oS (.null)) :: (q, oA .char [c0, c1, c2, c3]) :: F)
set_option maxRecDepth 65536 in
set_option maxHeartbeats 40000000 in
theorem c_cm5_4 (l : Launch) (Z : State) (a0 : Array Value) (hw : HW Z a0) (b s q : Addr) (c0 c1 c2 c3 : Int32) (F : OH) (h_c0 : 0 ≤ c0.toInt ∧ c0.toInt ≤ 255) (h_c1 : 0 ≤ c1.toInt ∧ c1.toInt ≤ 255) (h_c2 : 0 ≤ c2.toInt ∧ c2.toInt ≤ 255) (h_c3 : 0 ≤ c3.toInt ∧ c3.toInt ≤ 255) :
    Met l Z (⟨"java/lang/StringUTF16", "compress", "([CI[BII)I"⟩ : MethodName) jdk_52_method_21_code 7 (some .int) (rm4 0 0 0 0) [(.ref q), (.int 0), (.ref b), (.int 0), (.int 4)] ((b, oA .byte [(0 : Int32), (0 : Int32), (0 : Int32), (0 : Int32)]) :: (s, oS (.null)) :: (q, oA .char [c0, c1, c2, c3]) :: F) (Q_c_cm5_4 b s q c0 c1 c2 c3 F) := by
  refine Met.of_wp (Ls := #[.val (.ref q), .val (.int 0), .val (.ref b), .val (.int 0), .val (.int 4), .unset, .unset]) pn_1 (fun m => (entry_loc m _ _).trans rfl) ?_
  show W1 l Z (rm4 0 0 0 0) ((b, oA .byte [(0 : Int32), (0 : Int32), (0 : Int32), (0 : Int32)]) :: (s, oS (.null)) :: (q, oA .char [c0, c1, c2, c3]) :: F) 0 0 0 #[.val (.ref q), .val (.int 0), .val (.ref b), .val (.int 0), .val (.int 4), .unset, .unset] [] (Q_c_cm5_4 b s q c0 c1 c2 c3 F)
  refine wp_iconst 0 D_jdk_52_m21_0 (by decide) ?_
  refine wp_istore #[.val (.ref q), .val (.int 0), .val (.ref b), .val (.int 0), .val (.int 4), .val (.int 0), .unset] D_jdk_52_m21_1 rfl ?_
  refine wp_iload D_jdk_52_m21_3 rfl ?_
  refine wp_iload D_jdk_52_m21_5 rfl ?_
  refine wp_icmp_ge D_jdk_52_m21_7 (pc'' := 44) ⟨by decide, by decide⟩ (fun h1 => by exact absurd h1 (by decide)) (fun h1 => ?_)
  refine wp_aload_n D_jdk_52_m21_10 rfl rfl ?_
  refine wp_iload_n D_jdk_52_m21_11 rfl ?_
  refine wp_caload (i := 2) (0) D_jdk_52_m21_12 rfl (by decide) (by decide) rfl ?_
  refine wp_istore #[.val (.ref q), .val (.int 0), .val (.ref b), .val (.int 0), .val (.int 4), .val (.int 0), .val (.int c0)] D_jdk_52_m21_13 rfl ?_
  refine wp_iload D_jdk_52_m21_15 rfl ?_
  refine wp_sipush 255 D_jdk_52_m21_17 (by decide) ?_
  refine wp_icmp_le D_jdk_52_m21_20 (pc'' := 26) ⟨by decide, by decide⟩ (fun h2 => ?_) (fun h2 => by exfalso; (simp only [Int32.lt_iff_toInt_lt, Int32.le_iff_toInt_le, ← Int32.toInt_inj, Int32.reduceToInt, Int64.lt_iff_toInt_lt, ← Int64.toInt_inj, Int64.reduceToInt] at *; omega))
  refine wp_aload_n D_jdk_52_m21_26 rfl rfl ?_
  refine wp_iload_n D_jdk_52_m21_27 rfl ?_
  refine wp_iload D_jdk_52_m21_28 rfl ?_
  refine wp_i2b D_jdk_52_m21_30 ?_
  refine wp_bastore (i := 0) (0) D_jdk_52_m21_31 rfl (by decide) (by decide) (by first | decide | exact Nat.le_of_ble_eq_true rfl | simp) ?_
  show W1 l Z (rm4 0 0 0 0) ((b, oA .byte [(nar .byte c0.toInt8.toInt32), (0 : Int32), (0 : Int32), (0 : Int32)]) :: (s, oS (.null)) :: (q, oA .char [c0, c1, c2, c3]) :: F) 0 0 32 #[.val (.ref q), .val (.int 0), .val (.ref b), .val (.int 0), .val (.int 4), .val (.int 0), .val (.int c0)] [] (Q_c_cm5_4 b s q c0 c1 c2 c3 F)
  refine wp_iinc 1 #[.val (.ref q), .val (.int 1), .val (.ref b), .val (.int 0), .val (.int 4), .val (.int 0), .val (.int c0)] D_jdk_52_m21_32 rfl rfl (by rw [show (0 : Int32) + (1 : Int32) = (1 : Int32) from by decide]; rfl) ?_
  refine wp_iinc 1 #[.val (.ref q), .val (.int 1), .val (.ref b), .val (.int 1), .val (.int 4), .val (.int 0), .val (.int c0)] D_jdk_52_m21_35 rfl rfl (by rw [show (0 : Int32) + (1 : Int32) = (1 : Int32) from by decide]; rfl) ?_
  refine wp_iinc 1 #[.val (.ref q), .val (.int 1), .val (.ref b), .val (.int 1), .val (.int 4), .val (.int 1), .val (.int c0)] D_jdk_52_m21_38 rfl rfl (by rw [show (0 : Int32) + (1 : Int32) = (1 : Int32) from by decide]; rfl) ?_
  refine wp_goto D_jdk_52_m21_41 (pc'' := 3) ⟨by decide, by decide⟩ ?_
  refine wp_iload D_jdk_52_m21_3 rfl ?_
  refine wp_iload D_jdk_52_m21_5 rfl ?_
  refine wp_icmp_ge D_jdk_52_m21_7 (pc'' := 44) ⟨by decide, by decide⟩ (fun h3 => by exact absurd h3 (by decide)) (fun h3 => ?_)
  refine wp_aload_n D_jdk_52_m21_10 rfl rfl ?_
  refine wp_iload_n D_jdk_52_m21_11 rfl ?_
  refine wp_caload (i := 2) (1) D_jdk_52_m21_12 rfl (by decide) (by decide) rfl ?_
  refine wp_istore #[.val (.ref q), .val (.int 1), .val (.ref b), .val (.int 1), .val (.int 4), .val (.int 1), .val (.int c1)] D_jdk_52_m21_13 rfl ?_
  refine wp_iload D_jdk_52_m21_15 rfl ?_
  refine wp_sipush 255 D_jdk_52_m21_17 (by decide) ?_
  refine wp_icmp_le D_jdk_52_m21_20 (pc'' := 26) ⟨by decide, by decide⟩ (fun h4 => ?_) (fun h4 => by exfalso; (simp only [Int32.lt_iff_toInt_lt, Int32.le_iff_toInt_le, ← Int32.toInt_inj, Int32.reduceToInt, Int64.lt_iff_toInt_lt, ← Int64.toInt_inj, Int64.reduceToInt] at *; omega))
  refine wp_aload_n D_jdk_52_m21_26 rfl rfl ?_
  refine wp_iload_n D_jdk_52_m21_27 rfl ?_
  refine wp_iload D_jdk_52_m21_28 rfl ?_
  refine wp_i2b D_jdk_52_m21_30 ?_
  refine wp_bastore (i := 0) (1) D_jdk_52_m21_31 rfl (by decide) (by decide) (by first | decide | exact Nat.le_of_ble_eq_true rfl | simp) ?_
  show W1 l Z (rm4 0 0 0 0) ((b, oA .byte [(nar .byte c0.toInt8.toInt32), (nar .byte c1.toInt8.toInt32), (0 : Int32), (0 : Int32)]) :: (s, oS (.null)) :: (q, oA .char [c0, c1, c2, c3]) :: F) 0 0 32 #[.val (.ref q), .val (.int 1), .val (.ref b), .val (.int 1), .val (.int 4), .val (.int 1), .val (.int c1)] [] (Q_c_cm5_4 b s q c0 c1 c2 c3 F)
  refine wp_iinc 1 #[.val (.ref q), .val (.int 2), .val (.ref b), .val (.int 1), .val (.int 4), .val (.int 1), .val (.int c1)] D_jdk_52_m21_32 rfl rfl (by rw [show (1 : Int32) + (1 : Int32) = (2 : Int32) from by decide]; rfl) ?_
  refine wp_iinc 1 #[.val (.ref q), .val (.int 2), .val (.ref b), .val (.int 2), .val (.int 4), .val (.int 1), .val (.int c1)] D_jdk_52_m21_35 rfl rfl (by rw [show (1 : Int32) + (1 : Int32) = (2 : Int32) from by decide]; rfl) ?_
  refine wp_iinc 1 #[.val (.ref q), .val (.int 2), .val (.ref b), .val (.int 2), .val (.int 4), .val (.int 2), .val (.int c1)] D_jdk_52_m21_38 rfl rfl (by rw [show (1 : Int32) + (1 : Int32) = (2 : Int32) from by decide]; rfl) ?_
  refine wp_goto D_jdk_52_m21_41 (pc'' := 3) ⟨by decide, by decide⟩ ?_
  refine wp_iload D_jdk_52_m21_3 rfl ?_
  refine wp_iload D_jdk_52_m21_5 rfl ?_
  refine wp_icmp_ge D_jdk_52_m21_7 (pc'' := 44) ⟨by decide, by decide⟩ (fun h5 => by exact absurd h5 (by decide)) (fun h5 => ?_)
  refine wp_aload_n D_jdk_52_m21_10 rfl rfl ?_
  refine wp_iload_n D_jdk_52_m21_11 rfl ?_
  refine wp_caload (i := 2) (2) D_jdk_52_m21_12 rfl (by decide) (by decide) rfl ?_
  refine wp_istore #[.val (.ref q), .val (.int 2), .val (.ref b), .val (.int 2), .val (.int 4), .val (.int 2), .val (.int c2)] D_jdk_52_m21_13 rfl ?_
  refine wp_iload D_jdk_52_m21_15 rfl ?_
  refine wp_sipush 255 D_jdk_52_m21_17 (by decide) ?_
  refine wp_icmp_le D_jdk_52_m21_20 (pc'' := 26) ⟨by decide, by decide⟩ (fun h6 => ?_) (fun h6 => by exfalso; (simp only [Int32.lt_iff_toInt_lt, Int32.le_iff_toInt_le, ← Int32.toInt_inj, Int32.reduceToInt, Int64.lt_iff_toInt_lt, ← Int64.toInt_inj, Int64.reduceToInt] at *; omega))
  refine wp_aload_n D_jdk_52_m21_26 rfl rfl ?_
  refine wp_iload_n D_jdk_52_m21_27 rfl ?_
  refine wp_iload D_jdk_52_m21_28 rfl ?_
  refine wp_i2b D_jdk_52_m21_30 ?_
  refine wp_bastore (i := 0) (2) D_jdk_52_m21_31 rfl (by decide) (by decide) (by first | decide | exact Nat.le_of_ble_eq_true rfl | simp) ?_
  show W1 l Z (rm4 0 0 0 0) ((b, oA .byte [(nar .byte c0.toInt8.toInt32), (nar .byte c1.toInt8.toInt32), (nar .byte c2.toInt8.toInt32), (0 : Int32)]) :: (s, oS (.null)) :: (q, oA .char [c0, c1, c2, c3]) :: F) 0 0 32 #[.val (.ref q), .val (.int 2), .val (.ref b), .val (.int 2), .val (.int 4), .val (.int 2), .val (.int c2)] [] (Q_c_cm5_4 b s q c0 c1 c2 c3 F)
  refine wp_iinc 1 #[.val (.ref q), .val (.int 3), .val (.ref b), .val (.int 2), .val (.int 4), .val (.int 2), .val (.int c2)] D_jdk_52_m21_32 rfl rfl (by rw [show (2 : Int32) + (1 : Int32) = (3 : Int32) from by decide]; rfl) ?_
  refine wp_iinc 1 #[.val (.ref q), .val (.int 3), .val (.ref b), .val (.int 3), .val (.int 4), .val (.int 2), .val (.int c2)] D_jdk_52_m21_35 rfl rfl (by rw [show (2 : Int32) + (1 : Int32) = (3 : Int32) from by decide]; rfl) ?_
  refine wp_iinc 1 #[.val (.ref q), .val (.int 3), .val (.ref b), .val (.int 3), .val (.int 4), .val (.int 3), .val (.int c2)] D_jdk_52_m21_38 rfl rfl (by rw [show (2 : Int32) + (1 : Int32) = (3 : Int32) from by decide]; rfl) ?_
  refine wp_goto D_jdk_52_m21_41 (pc'' := 3) ⟨by decide, by decide⟩ ?_
  refine wp_iload D_jdk_52_m21_3 rfl ?_
  refine wp_iload D_jdk_52_m21_5 rfl ?_
  refine wp_icmp_ge D_jdk_52_m21_7 (pc'' := 44) ⟨by decide, by decide⟩ (fun h7 => by exact absurd h7 (by decide)) (fun h7 => ?_)
  refine wp_aload_n D_jdk_52_m21_10 rfl rfl ?_
  refine wp_iload_n D_jdk_52_m21_11 rfl ?_
  refine wp_caload (i := 2) (3) D_jdk_52_m21_12 rfl (by decide) (by decide) rfl ?_
  refine wp_istore #[.val (.ref q), .val (.int 3), .val (.ref b), .val (.int 3), .val (.int 4), .val (.int 3), .val (.int c3)] D_jdk_52_m21_13 rfl ?_
  refine wp_iload D_jdk_52_m21_15 rfl ?_
  refine wp_sipush 255 D_jdk_52_m21_17 (by decide) ?_
  refine wp_icmp_le D_jdk_52_m21_20 (pc'' := 26) ⟨by decide, by decide⟩ (fun h8 => ?_) (fun h8 => by exfalso; (simp only [Int32.lt_iff_toInt_lt, Int32.le_iff_toInt_le, ← Int32.toInt_inj, Int32.reduceToInt, Int64.lt_iff_toInt_lt, ← Int64.toInt_inj, Int64.reduceToInt] at *; omega))
  refine wp_aload_n D_jdk_52_m21_26 rfl rfl ?_
  refine wp_iload_n D_jdk_52_m21_27 rfl ?_
  refine wp_iload D_jdk_52_m21_28 rfl ?_
  refine wp_i2b D_jdk_52_m21_30 ?_
  refine wp_bastore (i := 0) (3) D_jdk_52_m21_31 rfl (by decide) (by decide) (by first | decide | exact Nat.le_of_ble_eq_true rfl | simp) ?_
  show W1 l Z (rm4 0 0 0 0) ((b, oA .byte [(nar .byte c0.toInt8.toInt32), (nar .byte c1.toInt8.toInt32), (nar .byte c2.toInt8.toInt32), (nar .byte c3.toInt8.toInt32)]) :: (s, oS (.null)) :: (q, oA .char [c0, c1, c2, c3]) :: F) 0 0 32 #[.val (.ref q), .val (.int 3), .val (.ref b), .val (.int 3), .val (.int 4), .val (.int 3), .val (.int c3)] [] (Q_c_cm5_4 b s q c0 c1 c2 c3 F)
  refine wp_iinc 1 #[.val (.ref q), .val (.int 4), .val (.ref b), .val (.int 3), .val (.int 4), .val (.int 3), .val (.int c3)] D_jdk_52_m21_32 rfl rfl (by rw [show (3 : Int32) + (1 : Int32) = (4 : Int32) from by decide]; rfl) ?_
  refine wp_iinc 1 #[.val (.ref q), .val (.int 4), .val (.ref b), .val (.int 4), .val (.int 4), .val (.int 3), .val (.int c3)] D_jdk_52_m21_35 rfl rfl (by rw [show (3 : Int32) + (1 : Int32) = (4 : Int32) from by decide]; rfl) ?_
  refine wp_iinc 1 #[.val (.ref q), .val (.int 4), .val (.ref b), .val (.int 4), .val (.int 4), .val (.int 4), .val (.int c3)] D_jdk_52_m21_38 rfl rfl (by rw [show (3 : Int32) + (1 : Int32) = (4 : Int32) from by decide]; rfl) ?_
  refine wp_goto D_jdk_52_m21_41 (pc'' := 3) ⟨by decide, by decide⟩ ?_
  refine wp_iload D_jdk_52_m21_3 rfl ?_
  refine wp_iload D_jdk_52_m21_5 rfl ?_
  refine wp_icmp_ge D_jdk_52_m21_7 (pc'' := 44) ⟨by decide, by decide⟩ (fun h9 => ?_) (fun h9 => by exact absurd h9 (by decide))
  refine wp_iload D_jdk_52_m21_44 rfl ?_
  refine wp_ireturn D_jdk_52_m21_46 rfl (by decide) (by decide) ?_
  exact ⟨rfl, rfl⟩
def Q_c_cm3_4 (s q : Addr) (c0 c1 c2 c3 : Int32) (F : OH) : Option Value → OH → Prop := fun w' H' => ∃ b, w' = some (.ref b) ∧ H' = ((b, oA .byte [(nar .byte c0.toInt8.toInt32), (nar .byte c1.toInt8.toInt32), (nar .byte c2.toInt8.toInt32), (nar .byte c3.toInt8.toInt32)]) :: (s, oS (.null)) :: (q, oA .char [c0, c1, c2, c3]) :: F)
set_option maxRecDepth 65536 in
set_option maxHeartbeats 40000000 in
theorem c_cm3_4 (l : Launch) (Z : State) (a0 : Array Value) (hw : HW Z a0) (s q : Addr) (c0 c1 c2 c3 : Int32) (F : OH) (h_c0 : 0 ≤ c0.toInt ∧ c0.toInt ≤ 255) (h_c1 : 0 ≤ c1.toInt ∧ c1.toInt ≤ 255) (h_c2 : 0 ≤ c2.toInt ∧ c2.toInt ≤ 255) (h_c3 : 0 ≤ c3.toInt ∧ c3.toInt ≤ 255) :
    Met l Z (⟨"java/lang/StringUTF16", "compress", "([CII)[B"⟩ : MethodName) jdk_52_method_16_code 6 (some (.array .byte)) (rm4 1 1 4 18) [(.ref q), (.int 0), (.int 4)] ((s, oS (.null)) :: (q, oA .char [c0, c1, c2, c3]) :: F) (Q_c_cm3_4 s q c0 c1 c2 c3 F) := by
  refine Met.of_wp (Ls := #[.val (.ref q), .val (.int 0), .val (.int 4), .unset, .unset, .unset]) pn_2 (fun m => (entry_loc m _ _).trans rfl) ?_
  show W2 l Z (rm4 1 1 4 18) ((s, oS (.null)) :: (q, oA .char [c0, c1, c2, c3]) :: F) 0 0 0 #[.val (.ref q), .val (.int 0), .val (.int 4), .unset, .unset, .unset] [] (Q_c_cm3_4 s q c0 c1 c2 c3 F)
  refine wp_iload_n D_jdk_52_m16_0 rfl ?_
  refine wp_newarrayI (n := (4 : Int32)) (4) 4 D_jdk_52_m16_1 rfl rfl rfl (gw hw 24 rfl) (by decide) (by decide) (by decide) (by decide) (by decide) (by decide) ?_
  intro a1
  show W2 l Z (rm4 1 1 4 18) ((a1, oA .byte [(0 : Int32), (0 : Int32), (0 : Int32), (0 : Int32)]) :: (s, oS (.null)) :: (q, oA .char [c0, c1, c2, c3]) :: F) 1 4 3 #[.val (.ref q), .val (.int 0), .val (.int 4), .unset, .unset, .unset] [(.ref a1)] (Q_c_cm3_4 s q c0 c1 c2 c3 F)
  refine wp_astore_n #[.val (.ref q), .val (.int 0), .val (.int 4), .val (.ref a1), .unset, .unset] D_jdk_52_m16_3 rfl rfl ?_
  refine wp_aload_n D_jdk_52_m16_4 rfl rfl ?_
  refine wp_iload_n D_jdk_52_m16_5 rfl ?_
  refine wp_aload_n D_jdk_52_m16_6 rfl rfl ?_
  refine wp_iconst 0 D_jdk_52_m16_7 (by decide) ?_
  refine wp_iload_n D_jdk_52_m16_8 rfl ?_
  refine wp_callS (c_cm5_4 l Z a0 hw a1 s q c0 c1 c2 c3 F h_c0 h_c1 h_c2 h_c3) D_jdk_52_m16_9 (gw hw 91 rfl) (gw hw 92 rfl) (gw hw 89 rfl) (gw hw 93 rfl) (by decide) pd_1 rfl rfl rfl (lb rfl) (lb rfl) (lb rfl) (lb rfl) ?_
  rintro _ _ ⟨rfl, rfl⟩
  show W2 l Z (rm4 1 1 4 18) ((a1, oA .byte [(nar .byte c0.toInt8.toInt32), (nar .byte c1.toInt8.toInt32), (nar .byte c2.toInt8.toInt32), (nar .byte c3.toInt8.toInt32)]) :: (s, oS (.null)) :: (q, oA .char [c0, c1, c2, c3]) :: F) 1 4 12 #[.val (.ref q), .val (.int 0), .val (.int 4), .val (.ref a1), .unset, .unset] [(.int 4)] (Q_c_cm3_4 s q c0 c1 c2 c3 F)
  refine wp_istore #[.val (.ref q), .val (.int 0), .val (.int 4), .val (.ref a1), .val (.int 4), .unset] D_jdk_52_m16_12 rfl ?_
  refine wp_iload D_jdk_52_m16_14 rfl ?_
  refine wp_iload_n D_jdk_52_m16_16 rfl ?_
  refine wp_icmp_eq D_jdk_52_m16_17 (pc'' := 57) ⟨by decide, by decide⟩ (fun h2 => ?_) (fun h2 => by exact absurd h2 (by decide))
  refine wp_aload_n D_jdk_52_m16_57 rfl rfl ?_
  refine wp_areturn D_jdk_52_m16_58 rfl rfl rfl rfl (by decide) (by decide) ?_
  exact ⟨_, rfl, rfl⟩
def Q_c_cfa_4 (b s q : Addr) (c0 c1 c2 c3 : Int32) (F : OH) : Option Value → OH → Prop := fun w' H' => w' = some (.int 0) ∧ H' = ((b, oA .byte [(nar .byte c0.toInt8.toInt32), (nar .byte c1.toInt8.toInt32), (nar .byte c2.toInt8.toInt32), (nar .byte c3.toInt8.toInt32)]) :: (s, oS (.null)) :: (q, oA .char [c0, c1, c2, c3]) :: F)
set_option maxRecDepth 65536 in
set_option maxHeartbeats 40000000 in
theorem c_cfa_4 (l : Launch) (Z : State) (a0 : Array Value) (hw : HW Z a0) (b s q : Addr) (c0 c1 c2 c3 : Int32) (F : OH) :
    Met l Z (⟨"java/lang/StringUTF16", "coderFromArrayLen", "([BI)B"⟩ : MethodName) jdk_52_method_15_code 2 (some .byte) (rm4 0 0 0 0) [(.ref b), (.int 4)] ((b, oA .byte [(nar .byte c0.toInt8.toInt32), (nar .byte c1.toInt8.toInt32), (nar .byte c2.toInt8.toInt32), (nar .byte c3.toInt8.toInt32)]) :: (s, oS (.null)) :: (q, oA .char [c0, c1, c2, c3]) :: F) (Q_c_cfa_4 b s q c0 c1 c2 c3 F) := by
  refine Met.of_wp (Ls := #[.val (.ref b), .val (.int 4)]) pn_3 (fun m => (entry_loc m _ _).trans rfl) ?_
  show W3 l Z (rm4 0 0 0 0) ((b, oA .byte [(nar .byte c0.toInt8.toInt32), (nar .byte c1.toInt8.toInt32), (nar .byte c2.toInt8.toInt32), (nar .byte c3.toInt8.toInt32)]) :: (s, oS (.null)) :: (q, oA .char [c0, c1, c2, c3]) :: F) 0 0 0 #[.val (.ref b), .val (.int 4)] [] (Q_c_cfa_4 b s q c0 c1 c2 c3 F)
  refine wp_iload_n D_jdk_52_m15_0 rfl ?_
  refine wp_aload_n D_jdk_52_m15_1 rfl rfl ?_
  refine wp_lengthI (i := 0) (4 : Int32) D_jdk_52_m15_2 rfl rfl ?_
  refine wp_isub D_jdk_52_m15_3 ?_
  rw [show ((4 : Int32) - (4 : Int32)) = (0 : Int32) from by decide]
  refine wp_bipush 31 D_jdk_52_m15_4 (by decide) ?_
  refine wp_iushr D_jdk_52_m15_6 ?_
  rw [show (XT.ushr (0 : Int32) (31 : Int32)) = (0 : Int32) from by decide]
  refine wp_i2b D_jdk_52_m15_7 ?_
  rw [show (0 : Int32).toInt8.toInt32 = (0 : Int32) from by decide]
  refine wp_ireturnN D_jdk_52_m15_8 rfl (by simp) (by decide) (by decide) ?_
  exact ⟨rfl, rfl⟩
def Q_c_si4_4 (s q : Addr) (cp : Int32) (c0 c1 c2 c3 : Int32) (F : OH) : Option Value → OH → Prop := fun w' H' => w' = none ∧ ∃ b, H' = ((b, oA .byte [(nar .byte c0.toInt8.toInt32), (nar .byte c1.toInt8.toInt32), (nar .byte c2.toInt8.toInt32), (nar .byte c3.toInt8.toInt32)]) :: (s, oS (.ref b)) :: (q, oA .char [c0, c1, c2, c3]) :: F)
set_option maxRecDepth 65536 in
set_option maxHeartbeats 40000000 in
theorem c_si4_4 (l : Launch) (Z : State) (a0 : Array Value) (hw : HW Z a0) (s q : Addr) (cp : Int32) (c0 c1 c2 c3 : Int32) (F : OH) (S_cp : Sta Z Z.heap "java/lang/String" "COMPACT_STRINGS" "Z" (.int cp)) (hcp : ¬ cp = 0) (h_c0 : 0 ≤ c0.toInt ∧ c0.toInt ≤ 255) (h_c1 : 0 ≤ c1.toInt ∧ c1.toInt ≤ 255) (h_c2 : 0 ≤ c2.toInt ∧ c2.toInt ≤ 255) (h_c3 : 0 ≤ c3.toInt ∧ c3.toInt ≤ 255) :
    Met l Z (⟨"java/lang/String", "<init>", "([CIILjava/lang/Void;)V"⟩ : MethodName) jdk_42_method_149_code 6 none (rm4 2 1 4 35) [(.ref s), (.ref q), (.int 0), (.int 4), (.null)] ((s, oS (.null)) :: (q, oA .char [c0, c1, c2, c3]) :: F) (Q_c_si4_4 s q cp c0 c1 c2 c3 F) := by
  refine Met.of_wp (Ls := #[.val (.ref s), .val (.ref q), .val (.int 0), .val (.int 4), .val (.null), .unset]) pn_4 (fun m => (entry_loc m _ _).trans rfl) ?_
  show W4 l Z (rm4 2 1 4 35) ((s, oS (.null)) :: (q, oA .char [c0, c1, c2, c3]) :: F) 0 0 0 #[.val (.ref s), .val (.ref q), .val (.int 0), .val (.int 4), .val (.null), .unset] [] (Q_c_si4_4 s q cp c0 c1 c2 c3 F)
  refine wp_aload_n D_jdk_42_m149_0 rfl rfl ?_
  refine wp_initO D_jdk_42_m149_1 (gw hw 20 rfl) (gw hw 21 rfl) (gw hw 22 rfl) rfl (Nat.le_of_ble_eq_true rfl) (Nat.le_of_ble_eq_true rfl) ?_
  refine wp_iload_n D_jdk_42_m149_4 rfl ?_
  refine wp_if_ne D_jdk_42_m149_5 (pc'' := 27) ⟨by decide, by decide⟩ (fun h1 => ?_) (fun h1 => by exact absurd h1 (by decide))
  refine wp_getstatic D_jdk_42_m149_27 (gw hw 50 rfl) S_cp ?_
  refine wp_if_eq D_jdk_42_m149_30 (pc'' := 58) ⟨by decide, by decide⟩ (fun h2 => by exact absurd h2 hcp) (fun h2 => ?_)
  refine wp_aload_n D_jdk_42_m149_33 rfl rfl ?_
  refine wp_iload_n D_jdk_42_m149_34 rfl ?_
  refine wp_iload_n D_jdk_42_m149_35 rfl ?_
  refine wp_callS (c_cm3_4 l Z a0 hw s q c0 c1 c2 c3 F h_c0 h_c1 h_c2 h_c3) D_jdk_42_m149_36 (gw hw 87 rfl) (gw hw 88 rfl) (gw hw 89 rfl) (gw hw 90 rfl) (by decide) pd_8 rfl rfl rfl (lb rfl) (lb rfl) (lb rfl) (lb rfl) ?_
  rintro _ _ ⟨b3, rfl, rfl⟩
  show W4 l Z (rm4 2 1 4 35) ((b3, oA .byte [(nar .byte c0.toInt8.toInt32), (nar .byte c1.toInt8.toInt32), (nar .byte c2.toInt8.toInt32), (nar .byte c3.toInt8.toInt32)]) :: (s, oS (.null)) :: (q, oA .char [c0, c1, c2, c3]) :: F) 1 4 39 #[.val (.ref s), .val (.ref q), .val (.int 0), .val (.int 4), .val (.null), .unset] [(.ref b3)] (Q_c_si4_4 s q cp c0 c1 c2 c3 F)
  refine wp_astore #[.val (.ref s), .val (.ref q), .val (.int 0), .val (.int 4), .val (.null), .val (.ref b3)] D_jdk_42_m149_39 rfl rfl ?_
  refine wp_aload_n D_jdk_42_m149_41 rfl rfl ?_
  refine wp_aload D_jdk_42_m149_42 rfl rfl ?_
  refine wp_iload_n D_jdk_42_m149_44 rfl ?_
  refine wp_callS (c_cfa_4 l Z a0 hw b3 s q c0 c1 c2 c3 F) D_jdk_42_m149_45 (gw hw 94 rfl) (gw hw 95 rfl) (gw hw 89 rfl) (gw hw 96 rfl) (by decide) pd_9 rfl rfl rfl (lb rfl) (lb rfl) (lb rfl) (lb rfl) ?_
  rintro _ _ ⟨rfl, rfl⟩
  show W4 l Z (rm4 2 1 4 35) ((b3, oA .byte [(nar .byte c0.toInt8.toInt32), (nar .byte c1.toInt8.toInt32), (nar .byte c2.toInt8.toInt32), (nar .byte c3.toInt8.toInt32)]) :: (s, oS (.null)) :: (q, oA .char [c0, c1, c2, c3]) :: F) 1 4 48 #[.val (.ref s), .val (.ref q), .val (.int 0), .val (.int 4), .val (.null), .val (.ref b3)] [(.int 0), (.ref s)] (Q_c_si4_4 s q cp c0 c1 c2 c3 F)
  refine wp_putfield (i := 1) (fi := 1) (ty := .byte) D_jdk_42_m149_48 (gw hw 30 rfl) rfl rfl rfl (Or.inr ⟨(gw hw 26 rfl), rfl, rfl⟩) (gw hw 11 rfl) (by decide) rfl rfl ?_
  show W4 l Z (rm4 2 1 4 35) ((b3, oA .byte [(nar .byte c0.toInt8.toInt32), (nar .byte c1.toInt8.toInt32), (nar .byte c2.toInt8.toInt32), (nar .byte c3.toInt8.toInt32)]) :: (s, oS (.null)) :: (q, oA .char [c0, c1, c2, c3]) :: F) 1 4 51 #[.val (.ref s), .val (.ref q), .val (.int 0), .val (.int 4), .val (.null), .val (.ref b3)] [] (Q_c_si4_4 s q cp c0 c1 c2 c3 F)
  refine wp_aload_n D_jdk_42_m149_51 rfl rfl ?_
  refine wp_aload D_jdk_42_m149_52 rfl rfl ?_
  refine wp_putfield (i := 1) (fi := 0) (ty := (.array .byte)) D_jdk_42_m149_54 (gw hw 29 rfl) rfl rfl rfl (Or.inr ⟨(gw hw 25 rfl), rfl, rfl⟩) (gw hw 11 rfl) (by decide) rfl rfl ?_
  show W4 l Z (rm4 2 1 4 35) ((b3, oA .byte [(nar .byte c0.toInt8.toInt32), (nar .byte c1.toInt8.toInt32), (nar .byte c2.toInt8.toInt32), (nar .byte c3.toInt8.toInt32)]) :: (s, oS (.ref b3)) :: (q, oA .char [c0, c1, c2, c3]) :: F) 1 4 57 #[.val (.ref s), .val (.ref q), .val (.int 0), .val (.int 4), .val (.null), .val (.ref b3)] [] (Q_c_si4_4 s q cp c0 c1 c2 c3 F)
  refine wp_return D_jdk_42_m149_57 rfl (by decide) (by decide) ?_
  exact ⟨rfl, _, rfl⟩
def Q_c_si1_4 (s q : Addr) (cp : Int32) (c0 c1 c2 c3 : Int32) (F : OH) : Option Value → OH → Prop := fun w' H' => w' = none ∧ ∃ b, H' = ((b, oA .byte [(nar .byte c0.toInt8.toInt32), (nar .byte c1.toInt8.toInt32), (nar .byte c2.toInt8.toInt32), (nar .byte c3.toInt8.toInt32)]) :: (s, oS (.ref b)) :: (q, oA .char [c0, c1, c2, c3]) :: F)
set_option maxRecDepth 65536 in
set_option maxHeartbeats 40000000 in
theorem c_si1_4 (l : Launch) (Z : State) (a0 : Array Value) (hw : HW Z a0) (s q : Addr) (cp : Int32) (c0 c1 c2 c3 : Int32) (F : OH) (S_cp : Sta Z Z.heap "java/lang/String" "COMPACT_STRINGS" "Z" (.int cp)) (hcp : ¬ cp = 0) (h_c0 : 0 ≤ c0.toInt ∧ c0.toInt ≤ 255) (h_c1 : 0 ≤ c1.toInt ∧ c1.toInt ≤ 255) (h_c2 : 0 ≤ c2.toInt ∧ c2.toInt ≤ 255) (h_c3 : 0 ≤ c3.toInt ∧ c3.toInt ≤ 255) :
    Met l Z (⟨"java/lang/String", "<init>", "([C)V"⟩ : MethodName) jdk_42_method_3_code 2 none (rm4 3 1 4 52) [(.ref s), (.ref q)] ((s, oS (.null)) :: (q, oA .char [c0, c1, c2, c3]) :: F) (Q_c_si1_4 s q cp c0 c1 c2 c3 F) := by
  refine Met.of_wp (Ls := #[.val (.ref s), .val (.ref q)]) pn_5 (fun m => (entry_loc m _ _).trans rfl) ?_
  show W5 l Z (rm4 3 1 4 52) ((s, oS (.null)) :: (q, oA .char [c0, c1, c2, c3]) :: F) 0 0 0 #[.val (.ref s), .val (.ref q)] [] (Q_c_si1_4 s q cp c0 c1 c2 c3 F)
  refine wp_aload_n D_jdk_42_m3_0 rfl rfl ?_
  refine wp_aload_n D_jdk_42_m3_1 rfl rfl ?_
  refine wp_iconst 0 D_jdk_42_m3_2 (by decide) ?_
  refine wp_aload_n D_jdk_42_m3_3 rfl rfl ?_
  refine wp_lengthI (i := 1) (4 : Int32) D_jdk_42_m3_4 rfl rfl ?_
  refine wp_aconst_null D_jdk_42_m3_5 ?_
  refine wp_init (c_si4_4 l Z a0 hw s q cp c0 c1 c2 c3 F S_cp hcp h_c0 h_c1 h_c2 h_c3) D_jdk_42_m3_6 rfl (gw hw 16 rfl) (gw hw 17 rfl) (gw hw 12 rfl) (gw hw 19 rfl) (by decide) pd_2 rfl rfl rfl (lb rfl) (lb rfl) (lb rfl) (lb rfl) ?_
  rintro _ _ ⟨rfl, b1, rfl⟩
  show W5 l Z (rm4 3 1 4 52) ((b1, oA .byte [(nar .byte c0.toInt8.toInt32), (nar .byte c1.toInt8.toInt32), (nar .byte c2.toInt8.toInt32), (nar .byte c3.toInt8.toInt32)]) :: (s, oS (.ref b1)) :: (q, oA .char [c0, c1, c2, c3]) :: F) 1 4 9 #[.val (.ref s), .val (.ref q)] [] (Q_c_si1_4 s q cp c0 c1 c2 c3 F)
  refine wp_return D_jdk_42_m3_9 rfl (by decide) (by decide) ?_
  exact ⟨rfl, _, rfl⟩
def Q_c_si4_0 (s q : Addr) (F : OH) : Option Value → OH → Prop := fun w' H' => w' = none ∧ ∃ a1 u1 a2 u2, H' = ((a1, strO u1) :: (u1, fA .byte []) :: (a2, strO u2) :: (u2, fA .byte []) :: (s, oS (.ref u2)) :: (q, oA .char []) :: F)
abbrev W6 (l : Launch) (Z : State) := Wp (some consts_1) l Z "java/lang/String" "<init>" jdk_42_method_149_code 6 none
set_option maxRecDepth 65536 in
set_option maxHeartbeats 40000000 in
theorem c_si4_0 (l : Launch) (Z : State) (a0 : Array Value) (hw : HW Z a0) (s q : Addr) (cp : Int32) (fm : Value) (F : OH) (hs : Std Z cp fm) :
    MetI consts_1 l Z (⟨"java/lang/String", "<init>", "([CIILjava/lang/Void;)V"⟩ : MethodName) jdk_42_method_149_code 6 none (rm4 1 4 8 12) [(.ref s), (.ref q), (.int 0), (.int 0), (.null)] ((s, oS (.null)) :: (q, oA .char []) :: F) (Q_c_si4_0 s q F) := by
  refine MetI.of_wp (Ls := #[.val (.ref s), .val (.ref q), .val (.int 0), .val (.int 0), .val (.null), .unset]) pn_4 (fun m => (entry_loc m _ _).trans rfl) (own_EL l Z a0 hw) ?_
  show W6 l Z (rm4 1 4 8 12) ((s, oS (.null)) :: (q, oA .char []) :: F) 0 0 0 #[.val (.ref s), .val (.ref q), .val (.int 0), .val (.int 0), .val (.null), .unset] [] (Q_c_si4_0 s q F)
  refine wp_aload_n D_jdk_42_m149_0 rfl rfl ?_
  refine wp_initO D_jdk_42_m149_1 (gw hw 20 rfl) (gw hw 21 rfl) (gw hw 22 rfl) rfl (Nat.le_of_ble_eq_true rfl) (Nat.le_of_ble_eq_true rfl) ?_
  refine wp_iload_n D_jdk_42_m149_4 rfl ?_
  refine wp_if_ne D_jdk_42_m149_5 (pc'' := 27) ⟨by decide, by decide⟩ (fun h1 => by exact absurd h1 (by decide)) (fun h1 => ?_)
  refine wp_aload_n D_jdk_42_m149_8 rfl rfl ?_
  refine wp_ldcH (n := 0) [] D_jdk_42_m149_9 (gw hw 23 rfl) (own_wS l Z a0 hw) (own_slo l Z a0 hw) (own_EL l Z a0 hw) (List.mem_of_getElem? (i := 0) rfl) ⟨by decide, by decide⟩ (by decide) (by decide) (by decide) (by decide) (by decide) ?_
  intro s2 v3
  show W6 l Z (rm4 1 4 8 12) ((s2, strO v3) :: (v3, fA .byte []) :: (s, oS (.null)) :: (q, oA .char []) :: F) 2 4 11 #[.val (.ref s), .val (.ref q), .val (.int 0), .val (.int 0), .val (.null), .unset] [(.ref s2), (.ref s)] (Q_c_si4_0 s q F)
  refine wp_getfield D_jdk_42_m149_11 (gw hw 29 rfl) (fld_new (i := 0) (fi := 0) rfl rfl rfl) ?_
  refine wp_putfield (i := 2) (fi := 0) (ty := (.array .byte)) D_jdk_42_m149_14 (gw hw 29 rfl) rfl rfl rfl (Or.inr ⟨(gw hw 25 rfl), rfl, rfl⟩) (gw hw 11 rfl) (by decide) rfl rfl ?_
  show W6 l Z (rm4 1 4 8 12) ((s2, strO v3) :: (v3, fA .byte []) :: (s, oS (.ref v3)) :: (q, oA .char []) :: F) 2 4 17 #[.val (.ref s), .val (.ref q), .val (.int 0), .val (.int 0), .val (.null), .unset] [] (Q_c_si4_0 s q F)
  refine wp_aload_n D_jdk_42_m149_17 rfl rfl ?_
  refine wp_ldcH (n := 0) [] D_jdk_42_m149_18 (gw hw 23 rfl) (own_wS l Z a0 hw) (own_slo l Z a0 hw) (own_EL l Z a0 hw) (List.mem_of_getElem? (i := 0) rfl) ⟨by decide, by decide⟩ (by decide) (by decide) (by decide) (by decide) (by decide) ?_
  intro s4 v5
  show W6 l Z (rm4 1 4 8 12) ((s4, strO v5) :: (v5, fA .byte []) :: (s2, strO v3) :: (v3, fA .byte []) :: (s, oS (.ref v3)) :: (q, oA .char []) :: F) 4 8 20 #[.val (.ref s), .val (.ref q), .val (.int 0), .val (.int 0), .val (.null), .unset] [(.ref s4), (.ref s)] (Q_c_si4_0 s q F)
  refine wp_getfield D_jdk_42_m149_20 (gw hw 30 rfl) (fld_new (i := 0) (fi := 1) rfl rfl rfl) ?_
  refine wp_putfield (i := 4) (fi := 1) (ty := .byte) D_jdk_42_m149_23 (gw hw 30 rfl) rfl rfl rfl (Or.inr ⟨(gw hw 26 rfl), rfl, rfl⟩) (gw hw 11 rfl) (by decide) rfl rfl ?_
  show W6 l Z (rm4 1 4 8 12) ((s4, strO v5) :: (v5, fA .byte []) :: (s2, strO v3) :: (v3, fA .byte []) :: (s, oS (.ref v3)) :: (q, oA .char []) :: F) 4 8 26 #[.val (.ref s), .val (.ref q), .val (.int 0), .val (.int 0), .val (.null), .unset] [] (Q_c_si4_0 s q F)
  refine wp_return D_jdk_42_m149_26 rfl (by decide) (by decide) ?_
  exact ⟨rfl, _, _, _, _, rfl⟩
def Q_c_si1_0 (s q : Addr) (F : OH) : Option Value → OH → Prop := fun w' H' => w' = none ∧ ∃ a1 u1 a2 u2, H' = ((a1, strO u1) :: (u1, fA .byte []) :: (a2, strO u2) :: (u2, fA .byte []) :: (s, oS (.ref u2)) :: (q, oA .char []) :: F)
abbrev W7 (l : Launch) (Z : State) := Wp (some consts_1) l Z "java/lang/String" "<init>" jdk_42_method_3_code 2 none
set_option maxRecDepth 65536 in
set_option maxHeartbeats 40000000 in
theorem c_si1_0 (l : Launch) (Z : State) (a0 : Array Value) (hw : HW Z a0) (s q : Addr) (cp : Int32) (fm : Value) (F : OH) (hs : Std Z cp fm) :
    MetI consts_1 l Z (⟨"java/lang/String", "<init>", "([C)V"⟩ : MethodName) jdk_42_method_3_code 2 none (rm4 2 4 8 29) [(.ref s), (.ref q)] ((s, oS (.null)) :: (q, oA .char []) :: F) (Q_c_si1_0 s q F) := by
  refine MetI.of_wp (Ls := #[.val (.ref s), .val (.ref q)]) pn_5 (fun m => (entry_loc m _ _).trans rfl) (own_EL l Z a0 hw) ?_
  show W7 l Z (rm4 2 4 8 29) ((s, oS (.null)) :: (q, oA .char []) :: F) 0 0 0 #[.val (.ref s), .val (.ref q)] [] (Q_c_si1_0 s q F)
  refine wp_aload_n D_jdk_42_m3_0 rfl rfl ?_
  refine wp_aload_n D_jdk_42_m3_1 rfl rfl ?_
  refine wp_iconst 0 D_jdk_42_m3_2 (by decide) ?_
  refine wp_aload_n D_jdk_42_m3_3 rfl rfl ?_
  refine wp_lengthI (i := 1) (0 : Int32) D_jdk_42_m3_4 rfl rfl ?_
  refine wp_aconst_null D_jdk_42_m3_5 ?_
  refine wp_initI (c_si4_0 l Z a0 hw s q cp fm F hs ) (own_EL l Z a0 hw) D_jdk_42_m3_6 rfl (gw hw 16 rfl) (gw hw 17 rfl) (gw hw 12 rfl) (gw hw 19 rfl) (by decide) pd_2 rfl rfl rfl (lb rfl) (lb rfl) (lb rfl) (lb rfl) ?_
  rintro _ _ ⟨rfl, z1, z2, z3, z4, rfl⟩
  show W7 l Z (rm4 2 4 8 29) ((z1, strO z2) :: (z2, fA .byte []) :: (z3, strO z4) :: (z4, fA .byte []) :: (s, oS (.ref z4)) :: (q, oA .char []) :: F) 4 8 9 #[.val (.ref s), .val (.ref q)] [] (Q_c_si1_0 s q F)
  refine wp_return D_jdk_42_m3_9 rfl (by decide) (by decide) ?_
  exact ⟨rfl, _, _, _, _, rfl⟩
theorem pn_6 : plainFor (⟨"java/lang/String", "coder", "()B"⟩ : MethodName) = true := by first | exact plainFor_of_name (by first | (simp [plainName, overriddenIn]; done) | decide +kernel) | decide +kernel
def Q_c_cod (s v : Addr) (F : OH) : Option Value → OH → Prop := fun w' H' => w' = some (.int 0) ∧ H' = ((s, strO v) :: F)
theorem D_jdk_42_m152_0 : Dc jdk_42_method_152_code 0 (.getstatic 38) 3 3 := ⟨by decide +kernel, rfl⟩
theorem D_jdk_42_m152_3 : Dc jdk_42_method_152_code 3 (.ifCond .eq 10) 3 6 := ⟨by decide +kernel, rfl⟩
theorem D_jdk_42_m152_6 : Dc jdk_42_method_152_code 6 (.aload_n 0) 1 7 := ⟨by decide +kernel, rfl⟩
theorem D_jdk_42_m152_7 : Dc jdk_42_method_152_code 7 (.getfield 15) 3 10 := ⟨by decide +kernel, rfl⟩
theorem D_jdk_42_m152_10 : Dc jdk_42_method_152_code 10 (.goto 4) 3 13 := ⟨by decide +kernel, rfl⟩
theorem D_jdk_42_m152_14 : Dc jdk_42_method_152_code 14 (.ireturn) 1 15 := ⟨by decide +kernel, rfl⟩
abbrev W8 (l : Launch) (Z : State) := Wp none l Z "java/lang/String" "coder" jdk_42_method_152_code 1 (some .byte)
set_option maxRecDepth 65536 in
set_option maxHeartbeats 40000000 in
theorem c_cod (l : Launch) (Z : State) (a0 : Array Value) (hw : HW Z a0) (s v : Addr) (cp : Int32) (fm : Value) (F : OH) (hs : Std Z cp fm) :
    Met l Z (⟨"java/lang/String", "coder", "()B"⟩ : MethodName) jdk_42_method_152_code 1 (some .byte) (rm4 0 0 0 0) [(.ref s)] ((s, strO v) :: F) (Q_c_cod s v F) := by
  refine Met.of_wp (Ls := #[.val (.ref s)]) pn_6 (fun m => (entry_loc m _ _).trans rfl) ?_
  show W8 l Z (rm4 0 0 0 0) ((s, strO v) :: F) 0 0 0 #[.val (.ref s)] [] (Q_c_cod s v F)
  refine wp_getstatic D_jdk_42_m152_0 (gw hw 50 rfl) hs.1 ?_
  refine wp_if_eq D_jdk_42_m152_3 (pc'' := 13) ⟨by decide, by decide⟩ (fun h1 => by exact absurd h1 hs.2.1) (fun h1 => ?_)
  refine wp_aload_n D_jdk_42_m152_6 rfl rfl ?_
  refine wp_getfield D_jdk_42_m152_7 (gw hw 30 rfl) (fld_new (i := 0) (fi := 1) rfl rfl rfl) ?_
  refine wp_goto D_jdk_42_m152_10 (pc'' := 14) ⟨by decide, by decide⟩ ?_
  refine wp_ireturnN D_jdk_42_m152_14 rfl (by simp) (by decide) (by decide) ?_
  exact ⟨rfl, rfl⟩
theorem pn_7 : plainFor (⟨"java/lang/String", "isLatin1", "()Z"⟩ : MethodName) = true := by first | exact plainFor_of_name (by first | (simp [plainName, overriddenIn]; done) | decide +kernel) | decide +kernel
def Q_c_lat (s v : Addr) (F : OH) : Option Value → OH → Prop := fun w' H' => w' = some (.int 1) ∧ H' = ((s, strO v) :: F)
theorem D_jdk_42_m154_0 : Dc jdk_42_method_154_code 0 (.getstatic 38) 3 3 := ⟨by decide +kernel, rfl⟩
theorem D_jdk_42_m154_3 : Dc jdk_42_method_154_code 3 (.ifCond .eq 14) 3 6 := ⟨by decide +kernel, rfl⟩
theorem D_jdk_42_m154_6 : Dc jdk_42_method_154_code 6 (.aload_n 0) 1 7 := ⟨by decide +kernel, rfl⟩
theorem D_jdk_42_m154_7 : Dc jdk_42_method_154_code 7 (.getfield 15) 3 10 := ⟨by decide +kernel, rfl⟩
theorem D_jdk_42_m154_10 : Dc jdk_42_method_154_code 10 (.ifCond .ne 7) 3 13 := ⟨by decide +kernel, rfl⟩
theorem D_jdk_42_m154_13 : Dc jdk_42_method_154_code 13 (.iconst 1) 1 14 := ⟨by decide +kernel, rfl⟩
theorem D_jdk_42_m154_14 : Dc jdk_42_method_154_code 14 (.goto 4) 3 17 := ⟨by decide +kernel, rfl⟩
theorem D_jdk_42_m154_18 : Dc jdk_42_method_154_code 18 (.ireturn) 1 19 := ⟨by decide +kernel, rfl⟩
abbrev W9 (l : Launch) (Z : State) := Wp none l Z "java/lang/String" "isLatin1" jdk_42_method_154_code 1 (some .boolean)
set_option maxRecDepth 65536 in
set_option maxHeartbeats 40000000 in
theorem c_lat (l : Launch) (Z : State) (a0 : Array Value) (hw : HW Z a0) (s v : Addr) (cp : Int32) (fm : Value) (F : OH) (hs : Std Z cp fm) :
    Met l Z (⟨"java/lang/String", "isLatin1", "()Z"⟩ : MethodName) jdk_42_method_154_code 1 (some .boolean) (rm4 0 0 0 0) [(.ref s)] ((s, strO v) :: F) (Q_c_lat s v F) := by
  refine Met.of_wp (Ls := #[.val (.ref s)]) pn_7 (fun m => (entry_loc m _ _).trans rfl) ?_
  show W9 l Z (rm4 0 0 0 0) ((s, strO v) :: F) 0 0 0 #[.val (.ref s)] [] (Q_c_lat s v F)
  refine wp_getstatic D_jdk_42_m154_0 (gw hw 50 rfl) hs.1 ?_
  refine wp_if_eq D_jdk_42_m154_3 (pc'' := 17) ⟨by decide, by decide⟩ (fun h1 => by exact absurd h1 hs.2.1) (fun h1 => ?_)
  refine wp_aload_n D_jdk_42_m154_6 rfl rfl ?_
  refine wp_getfield D_jdk_42_m154_7 (gw hw 30 rfl) (fld_new (i := 0) (fi := 1) rfl rfl rfl) ?_
  refine wp_if_ne D_jdk_42_m154_10 (pc'' := 17) ⟨by decide, by decide⟩ (fun h2 => by exact absurd h2 (by decide)) (fun h2 => ?_)
  refine wp_iconst 1 D_jdk_42_m154_13 (by decide) ?_
  refine wp_goto D_jdk_42_m154_14 (pc'' := 18) ⟨by decide, by decide⟩ ?_
  refine wp_ireturnN D_jdk_42_m154_18 rfl (by simp) (by decide) (by decide) ?_
  exact ⟨rfl, rfl⟩
theorem pn_8 : plainFor (⟨"java/lang/String", "length", "()I"⟩ : MethodName) = true := by first | exact plainFor_of_name (by first | (simp [plainName, overriddenIn]; done) | decide +kernel) | decide +kernel
def Q_c_len_0 (s v : Addr) (F : OH) : Option Value → OH → Prop := fun w' H' => w' = some (.int 0) ∧ H' = ((s, strO v) :: (v, fA .byte []) :: F)
theorem D_jdk_42_m54_0 : Dc jdk_42_method_54_code 0 (.aload_n 0) 1 1 := ⟨by decide +kernel, rfl⟩
theorem D_jdk_42_m54_1 : Dc jdk_42_method_54_code 1 (.getfield 9) 3 4 := ⟨by decide +kernel, rfl⟩
theorem D_jdk_42_m54_4 : Dc jdk_42_method_54_code 4 (.arraylength) 1 5 := ⟨by decide +kernel, rfl⟩
theorem D_jdk_42_m54_5 : Dc jdk_42_method_54_code 5 (.aload_n 0) 1 6 := ⟨by decide +kernel, rfl⟩
theorem D_jdk_42_m54_6 : Dc jdk_42_method_54_code 6 (.invokevirtual 335) 3 9 := ⟨by decide +kernel, rfl⟩
theorem D_jdk_42_m54_9 : Dc jdk_42_method_54_code 9 (.ishr) 1 10 := ⟨by decide +kernel, rfl⟩
theorem D_jdk_42_m54_10 : Dc jdk_42_method_54_code 10 (.ireturn) 1 11 := ⟨by decide +kernel, rfl⟩
abbrev W10 (l : Launch) (Z : State) := Wp none l Z "java/lang/String" "length" jdk_42_method_54_code 1 (some .int)
set_option maxRecDepth 65536 in
set_option maxHeartbeats 40000000 in
theorem c_len_0 (l : Launch) (Z : State) (a0 : Array Value) (hw : HW Z a0) (s v : Addr) (cp : Int32) (fm : Value) (F : OH) (hs : Std Z cp fm) :
    Met l Z (⟨"java/lang/String", "length", "()I"⟩ : MethodName) jdk_42_method_54_code 1 (some .int) (rm4 1 0 0 13) [(.ref s)] ((s, strO v) :: (v, fA .byte []) :: F) (Q_c_len_0 s v F) := by
  refine Met.of_wp (Ls := #[.val (.ref s)]) pn_8 (fun m => (entry_loc m _ _).trans rfl) ?_
  show W10 l Z (rm4 1 0 0 13) ((s, strO v) :: (v, fA .byte []) :: F) 0 0 0 #[.val (.ref s)] [] (Q_c_len_0 s v F)
  refine wp_aload_n D_jdk_42_m54_0 rfl rfl ?_
  refine wp_getfield D_jdk_42_m54_1 (gw hw 29 rfl) (fld_new (i := 0) (fi := 0) rfl rfl rfl) ?_
  refine wp_lengthI (i := 1) (0 : Int32) D_jdk_42_m54_4 rfl rfl ?_
  refine wp_aload_n D_jdk_42_m54_5 rfl rfl ?_
  refine wp_virtual (c_cod l Z a0 hw s v cp fm ((v, fA .byte []) :: F) hs ) (exa_new (i := 0) rfl) D_jdk_42_m54_6 (gw hw 56 rfl) (gw hw 57 rfl) (gw hw 59 rfl) (gw hw 59 rfl) (gw hw 58 rfl) (gw hw 12 rfl) (gw hw 60 rfl) (by decide) pd_6 rfl rfl rfl (lb rfl) (lb rfl) (lb rfl) (lb rfl) ?_
  rintro _ _ ⟨rfl, rfl⟩
  show W10 l Z (rm4 1 0 0 13) ((s, strO v) :: (v, fA .byte []) :: F) 0 0 9 #[.val (.ref s)] [(.int 0), (.int 0)] (Q_c_len_0 s v F)
  refine wp_ishr D_jdk_42_m54_9 ?_
  rw [show ((0 : Int32) >>> ((0 : Int32) &&& 31)) = (0 : Int32) from by decide]
  refine wp_ireturn D_jdk_42_m54_10 rfl (by decide) (by decide) ?_
  exact ⟨rfl, rfl⟩
def Q_c_len_1 (s v : Addr) (y0 : Int32) (F : OH) : Option Value → OH → Prop := fun w' H' => w' = some (.int 1) ∧ H' = ((s, strO v) :: (v, fA .byte [y0]) :: F)
set_option maxRecDepth 65536 in
set_option maxHeartbeats 40000000 in
theorem c_len_1 (l : Launch) (Z : State) (a0 : Array Value) (hw : HW Z a0) (s v : Addr) (y0 : Int32) (cp : Int32) (fm : Value) (F : OH) (hs : Std Z cp fm) :
    Met l Z (⟨"java/lang/String", "length", "()I"⟩ : MethodName) jdk_42_method_54_code 1 (some .int) (rm4 1 0 0 13) [(.ref s)] ((s, strO v) :: (v, fA .byte [y0]) :: F) (Q_c_len_1 s v y0 F) := by
  refine Met.of_wp (Ls := #[.val (.ref s)]) pn_8 (fun m => (entry_loc m _ _).trans rfl) ?_
  show W10 l Z (rm4 1 0 0 13) ((s, strO v) :: (v, fA .byte [y0]) :: F) 0 0 0 #[.val (.ref s)] [] (Q_c_len_1 s v y0 F)
  refine wp_aload_n D_jdk_42_m54_0 rfl rfl ?_
  refine wp_getfield D_jdk_42_m54_1 (gw hw 29 rfl) (fld_new (i := 0) (fi := 0) rfl rfl rfl) ?_
  refine wp_lengthI (i := 1) (1 : Int32) D_jdk_42_m54_4 rfl rfl ?_
  refine wp_aload_n D_jdk_42_m54_5 rfl rfl ?_
  refine wp_virtual (c_cod l Z a0 hw s v cp fm ((v, fA .byte [y0]) :: F) hs ) (exa_new (i := 0) rfl) D_jdk_42_m54_6 (gw hw 56 rfl) (gw hw 57 rfl) (gw hw 59 rfl) (gw hw 59 rfl) (gw hw 58 rfl) (gw hw 12 rfl) (gw hw 60 rfl) (by decide) pd_6 rfl rfl rfl (lb rfl) (lb rfl) (lb rfl) (lb rfl) ?_
  rintro _ _ ⟨rfl, rfl⟩
  show W10 l Z (rm4 1 0 0 13) ((s, strO v) :: (v, fA .byte [y0]) :: F) 0 0 9 #[.val (.ref s)] [(.int 0), (.int 1)] (Q_c_len_1 s v y0 F)
  refine wp_ishr D_jdk_42_m54_9 ?_
  rw [show ((1 : Int32) >>> ((0 : Int32) &&& 31)) = (1 : Int32) from by decide]
  refine wp_ireturn D_jdk_42_m54_10 rfl (by decide) (by decide) ?_
  exact ⟨rfl, rfl⟩
def Q_c_len_2 (s v : Addr) (y0 y1 : Int32) (F : OH) : Option Value → OH → Prop := fun w' H' => w' = some (.int 2) ∧ H' = ((s, strO v) :: (v, fA .byte [y0, y1]) :: F)
set_option maxRecDepth 65536 in
set_option maxHeartbeats 40000000 in
theorem c_len_2 (l : Launch) (Z : State) (a0 : Array Value) (hw : HW Z a0) (s v : Addr) (y0 y1 : Int32) (cp : Int32) (fm : Value) (F : OH) (hs : Std Z cp fm) :
    Met l Z (⟨"java/lang/String", "length", "()I"⟩ : MethodName) jdk_42_method_54_code 1 (some .int) (rm4 1 0 0 13) [(.ref s)] ((s, strO v) :: (v, fA .byte [y0, y1]) :: F) (Q_c_len_2 s v y0 y1 F) := by
  refine Met.of_wp (Ls := #[.val (.ref s)]) pn_8 (fun m => (entry_loc m _ _).trans rfl) ?_
  show W10 l Z (rm4 1 0 0 13) ((s, strO v) :: (v, fA .byte [y0, y1]) :: F) 0 0 0 #[.val (.ref s)] [] (Q_c_len_2 s v y0 y1 F)
  refine wp_aload_n D_jdk_42_m54_0 rfl rfl ?_
  refine wp_getfield D_jdk_42_m54_1 (gw hw 29 rfl) (fld_new (i := 0) (fi := 0) rfl rfl rfl) ?_
  refine wp_lengthI (i := 1) (2 : Int32) D_jdk_42_m54_4 rfl rfl ?_
  refine wp_aload_n D_jdk_42_m54_5 rfl rfl ?_
  refine wp_virtual (c_cod l Z a0 hw s v cp fm ((v, fA .byte [y0, y1]) :: F) hs ) (exa_new (i := 0) rfl) D_jdk_42_m54_6 (gw hw 56 rfl) (gw hw 57 rfl) (gw hw 59 rfl) (gw hw 59 rfl) (gw hw 58 rfl) (gw hw 12 rfl) (gw hw 60 rfl) (by decide) pd_6 rfl rfl rfl (lb rfl) (lb rfl) (lb rfl) (lb rfl) ?_
  rintro _ _ ⟨rfl, rfl⟩
  show W10 l Z (rm4 1 0 0 13) ((s, strO v) :: (v, fA .byte [y0, y1]) :: F) 0 0 9 #[.val (.ref s)] [(.int 0), (.int 2)] (Q_c_len_2 s v y0 y1 F)
  refine wp_ishr D_jdk_42_m54_9 ?_
  rw [show ((2 : Int32) >>> ((0 : Int32) &&& 31)) = (2 : Int32) from by decide]
  refine wp_ireturn D_jdk_42_m54_10 rfl (by decide) (by decide) ?_
  exact ⟨rfl, rfl⟩
def Q_c_len_3 (s v : Addr) (y0 y1 y2 : Int32) (F : OH) : Option Value → OH → Prop := fun w' H' => w' = some (.int 3) ∧ H' = ((s, strO v) :: (v, fA .byte [y0, y1, y2]) :: F)
set_option maxRecDepth 65536 in
set_option maxHeartbeats 40000000 in
theorem c_len_3 (l : Launch) (Z : State) (a0 : Array Value) (hw : HW Z a0) (s v : Addr) (y0 y1 y2 : Int32) (cp : Int32) (fm : Value) (F : OH) (hs : Std Z cp fm) :
    Met l Z (⟨"java/lang/String", "length", "()I"⟩ : MethodName) jdk_42_method_54_code 1 (some .int) (rm4 1 0 0 13) [(.ref s)] ((s, strO v) :: (v, fA .byte [y0, y1, y2]) :: F) (Q_c_len_3 s v y0 y1 y2 F) := by
  refine Met.of_wp (Ls := #[.val (.ref s)]) pn_8 (fun m => (entry_loc m _ _).trans rfl) ?_
  show W10 l Z (rm4 1 0 0 13) ((s, strO v) :: (v, fA .byte [y0, y1, y2]) :: F) 0 0 0 #[.val (.ref s)] [] (Q_c_len_3 s v y0 y1 y2 F)
  refine wp_aload_n D_jdk_42_m54_0 rfl rfl ?_
  refine wp_getfield D_jdk_42_m54_1 (gw hw 29 rfl) (fld_new (i := 0) (fi := 0) rfl rfl rfl) ?_
  refine wp_lengthI (i := 1) (3 : Int32) D_jdk_42_m54_4 rfl rfl ?_
  refine wp_aload_n D_jdk_42_m54_5 rfl rfl ?_
  refine wp_virtual (c_cod l Z a0 hw s v cp fm ((v, fA .byte [y0, y1, y2]) :: F) hs ) (exa_new (i := 0) rfl) D_jdk_42_m54_6 (gw hw 56 rfl) (gw hw 57 rfl) (gw hw 59 rfl) (gw hw 59 rfl) (gw hw 58 rfl) (gw hw 12 rfl) (gw hw 60 rfl) (by decide) pd_6 rfl rfl rfl (lb rfl) (lb rfl) (lb rfl) (lb rfl) ?_
  rintro _ _ ⟨rfl, rfl⟩
  show W10 l Z (rm4 1 0 0 13) ((s, strO v) :: (v, fA .byte [y0, y1, y2]) :: F) 0 0 9 #[.val (.ref s)] [(.int 0), (.int 3)] (Q_c_len_3 s v y0 y1 y2 F)
  refine wp_ishr D_jdk_42_m54_9 ?_
  rw [show ((3 : Int32) >>> ((0 : Int32) &&& 31)) = (3 : Int32) from by decide]
  refine wp_ireturn D_jdk_42_m54_10 rfl (by decide) (by decide) ?_
  exact ⟨rfl, rfl⟩
def Q_c_len_4 (s v : Addr) (y0 y1 y2 y3 : Int32) (F : OH) : Option Value → OH → Prop := fun w' H' => w' = some (.int 4) ∧ H' = ((s, strO v) :: (v, fA .byte [y0, y1, y2, y3]) :: F)
set_option maxRecDepth 65536 in
set_option maxHeartbeats 40000000 in
theorem c_len_4 (l : Launch) (Z : State) (a0 : Array Value) (hw : HW Z a0) (s v : Addr) (y0 y1 y2 y3 : Int32) (cp : Int32) (fm : Value) (F : OH) (hs : Std Z cp fm) :
    Met l Z (⟨"java/lang/String", "length", "()I"⟩ : MethodName) jdk_42_method_54_code 1 (some .int) (rm4 1 0 0 13) [(.ref s)] ((s, strO v) :: (v, fA .byte [y0, y1, y2, y3]) :: F) (Q_c_len_4 s v y0 y1 y2 y3 F) := by
  refine Met.of_wp (Ls := #[.val (.ref s)]) pn_8 (fun m => (entry_loc m _ _).trans rfl) ?_
  show W10 l Z (rm4 1 0 0 13) ((s, strO v) :: (v, fA .byte [y0, y1, y2, y3]) :: F) 0 0 0 #[.val (.ref s)] [] (Q_c_len_4 s v y0 y1 y2 y3 F)
  refine wp_aload_n D_jdk_42_m54_0 rfl rfl ?_
  refine wp_getfield D_jdk_42_m54_1 (gw hw 29 rfl) (fld_new (i := 0) (fi := 0) rfl rfl rfl) ?_
  refine wp_lengthI (i := 1) (4 : Int32) D_jdk_42_m54_4 rfl rfl ?_
  refine wp_aload_n D_jdk_42_m54_5 rfl rfl ?_
  refine wp_virtual (c_cod l Z a0 hw s v cp fm ((v, fA .byte [y0, y1, y2, y3]) :: F) hs ) (exa_new (i := 0) rfl) D_jdk_42_m54_6 (gw hw 56 rfl) (gw hw 57 rfl) (gw hw 59 rfl) (gw hw 59 rfl) (gw hw 58 rfl) (gw hw 12 rfl) (gw hw 60 rfl) (by decide) pd_6 rfl rfl rfl (lb rfl) (lb rfl) (lb rfl) (lb rfl) ?_
  rintro _ _ ⟨rfl, rfl⟩
  show W10 l Z (rm4 1 0 0 13) ((s, strO v) :: (v, fA .byte [y0, y1, y2, y3]) :: F) 0 0 9 #[.val (.ref s)] [(.int 0), (.int 4)] (Q_c_len_4 s v y0 y1 y2 y3 F)
  refine wp_ishr D_jdk_42_m54_9 ?_
  rw [show ((4 : Int32) >>> ((0 : Int32) &&& 31)) = (4 : Int32) from by decide]
  refine wp_ireturn D_jdk_42_m54_10 rfl (by decide) (by decide) ?_
  exact ⟨rfl, rfl⟩
theorem pd_15 : parseMethodDescriptor "(I)Z" = some ⟨[.int], (some .boolean)⟩ := by decide +kernel
theorem pd_16 : parseMethodDescriptor "([BII)[B" = some ⟨[(.array .byte), .int, .int], (some (.array .byte))⟩ := by decide +kernel
theorem pd_17 : parseMethodDescriptor "([BB)V" = some ⟨[(.array .byte), .byte], none⟩ := by decide +kernel
theorem pn_9 : plainFor (⟨"java/lang/StringLatin1", "equals", "([B[B)Z"⟩ : MethodName) = true := by first | exact plainFor_of_name (by first | (simp [plainName, overriddenIn]; done) | decide +kernel) | decide +kernel
def Q_c_leq_0 (s v t u : Addr) (F : OH) : Option Value → OH → Prop := fun w' H' => w' = some (.int 1) ∧ H' = ((s, strO v) :: (v, fA .byte []) :: (t, strO u) :: (u, fA .byte []) :: F)
theorem D_jdk_43_m13_0 : Dc jdk_43_method_13_code 0 (.aload_n 0) 1 1 := ⟨by decide +kernel, rfl⟩
theorem D_jdk_43_m13_1 : Dc jdk_43_method_13_code 1 (.arraylength) 1 2 := ⟨by decide +kernel, rfl⟩
theorem D_jdk_43_m13_2 : Dc jdk_43_method_13_code 2 (.aload_n 1) 1 3 := ⟨by decide +kernel, rfl⟩
theorem D_jdk_43_m13_3 : Dc jdk_43_method_13_code 3 (.arraylength) 1 4 := ⟨by decide +kernel, rfl⟩
theorem D_jdk_43_m13_4 : Dc jdk_43_method_13_code 4 (.if_icmp .ne 30) 3 7 := ⟨by decide +kernel, rfl⟩
theorem D_jdk_43_m13_7 : Dc jdk_43_method_13_code 7 (.iconst 0) 1 8 := ⟨by decide +kernel, rfl⟩
theorem D_jdk_43_m13_8 : Dc jdk_43_method_13_code 8 (.istore_n 2) 1 9 := ⟨by decide +kernel, rfl⟩
theorem D_jdk_43_m13_9 : Dc jdk_43_method_13_code 9 (.iload_n 2) 1 10 := ⟨by decide +kernel, rfl⟩
theorem D_jdk_43_m13_10 : Dc jdk_43_method_13_code 10 (.aload_n 0) 1 11 := ⟨by decide +kernel, rfl⟩
theorem D_jdk_43_m13_11 : Dc jdk_43_method_13_code 11 (.arraylength) 1 12 := ⟨by decide +kernel, rfl⟩
theorem D_jdk_43_m13_12 : Dc jdk_43_method_13_code 12 (.if_icmp .ge 20) 3 15 := ⟨by decide +kernel, rfl⟩
theorem D_jdk_43_m13_15 : Dc jdk_43_method_13_code 15 (.aload_n 0) 1 16 := ⟨by decide +kernel, rfl⟩
theorem D_jdk_43_m13_16 : Dc jdk_43_method_13_code 16 (.iload_n 2) 1 17 := ⟨by decide +kernel, rfl⟩
theorem D_jdk_43_m13_17 : Dc jdk_43_method_13_code 17 (.baload) 1 18 := ⟨by decide +kernel, rfl⟩
theorem D_jdk_43_m13_18 : Dc jdk_43_method_13_code 18 (.aload_n 1) 1 19 := ⟨by decide +kernel, rfl⟩
theorem D_jdk_43_m13_19 : Dc jdk_43_method_13_code 19 (.iload_n 2) 1 20 := ⟨by decide +kernel, rfl⟩
theorem D_jdk_43_m13_20 : Dc jdk_43_method_13_code 20 (.baload) 1 21 := ⟨by decide +kernel, rfl⟩
theorem D_jdk_43_m13_21 : Dc jdk_43_method_13_code 21 (.if_icmp .eq 5) 3 24 := ⟨by decide +kernel, rfl⟩
theorem D_jdk_43_m13_26 : Dc jdk_43_method_13_code 26 (.iinc 2 1) 3 29 := ⟨by decide +kernel, rfl⟩
theorem D_jdk_43_m13_29 : Dc jdk_43_method_13_code 29 (.goto (-20)) 3 32 := ⟨by decide +kernel, rfl⟩
theorem D_jdk_43_m13_32 : Dc jdk_43_method_13_code 32 (.iconst 1) 1 33 := ⟨by decide +kernel, rfl⟩
theorem D_jdk_43_m13_33 : Dc jdk_43_method_13_code 33 (.ireturn) 1 34 := ⟨by decide +kernel, rfl⟩
abbrev W11 (l : Launch) (Z : State) := Wp none l Z "java/lang/StringLatin1" "equals" jdk_43_method_13_code 3 (some .boolean)
set_option maxRecDepth 65536 in
set_option maxHeartbeats 40000000 in
theorem c_leq_0 (l : Launch) (Z : State) (a0 : Array Value) (hw : HW Z a0) (s v t u : Addr) (cp : Int32) (fm : Value) (F : OH) (hs : Std Z cp fm) :
    Met l Z (⟨"java/lang/StringLatin1", "equals", "([B[B)Z"⟩ : MethodName) jdk_43_method_13_code 3 (some .boolean) (rm4 0 0 0 0) [(.ref v), (.ref u)] ((s, strO v) :: (v, fA .byte []) :: (t, strO u) :: (u, fA .byte []) :: F) (Q_c_leq_0 s v t u F) := by
  refine Met.of_wp (Ls := #[.val (.ref v), .val (.ref u), .unset]) pn_9 (fun m => (entry_loc m _ _).trans rfl) ?_
  show W11 l Z (rm4 0 0 0 0) ((s, strO v) :: (v, fA .byte []) :: (t, strO u) :: (u, fA .byte []) :: F) 0 0 0 #[.val (.ref v), .val (.ref u), .unset] [] (Q_c_leq_0 s v t u F)
  refine wp_aload_n D_jdk_43_m13_0 rfl rfl ?_
  refine wp_lengthI (i := 1) (0 : Int32) D_jdk_43_m13_1 rfl rfl ?_
  refine wp_aload_n D_jdk_43_m13_2 rfl rfl ?_
  refine wp_lengthI (i := 3) (0 : Int32) D_jdk_43_m13_3 rfl rfl ?_
  refine wp_icmp_ne D_jdk_43_m13_4 (pc'' := 34) ⟨by decide, by decide⟩ (fun h1 => by exact absurd h1 (by decide)) (fun h1 => ?_)
  refine wp_iconst 0 D_jdk_43_m13_7 (by decide) ?_
  refine wp_istore_n #[.val (.ref v), .val (.ref u), .val (.int 0)] D_jdk_43_m13_8 rfl ?_
  refine wp_iload_n D_jdk_43_m13_9 rfl ?_
  refine wp_aload_n D_jdk_43_m13_10 rfl rfl ?_
  refine wp_lengthI (i := 1) (0 : Int32) D_jdk_43_m13_11 rfl rfl ?_
  refine wp_icmp_ge D_jdk_43_m13_12 (pc'' := 32) ⟨by decide, by decide⟩ (fun h2 => ?_) (fun h2 => by exact absurd h2 (by decide))
  refine wp_iconst 1 D_jdk_43_m13_32 (by decide) ?_
  refine wp_ireturnN D_jdk_43_m13_33 rfl (by simp) (by decide) (by decide) ?_
  exact ⟨rfl, rfl⟩
theorem pn_10 : plainFor (⟨"java/lang/String", "equals", "(Ljava/lang/Object;)Z"⟩ : MethodName) = true := by first | exact plainFor_of_name (by first | (simp [plainName, overriddenIn]; done) | decide +kernel) | decide +kernel
def Q_c_seq_0 (s v t u : Addr) (F : OH) : Option Value → OH → Prop := fun w' H' => w' = some (.int 1) ∧ H' = ((s, strO v) :: (v, fA .byte []) :: (t, strO u) :: (u, fA .byte []) :: F)
theorem D_jdk_42_m66_0 : Dc jdk_42_method_66_code 0 (.aload_n 0) 1 1 := ⟨by decide +kernel, rfl⟩
theorem D_jdk_42_m66_1 : Dc jdk_42_method_66_code 1 (.aload_n 1) 1 2 := ⟨by decide +kernel, rfl⟩
theorem D_jdk_42_m66_2 : Dc jdk_42_method_66_code 2 (.if_acmp .ne 5) 3 5 := ⟨by decide +kernel, rfl⟩
theorem D_jdk_42_m66_5 : Dc jdk_42_method_66_code 5 (.iconst 1) 1 6 := ⟨by decide +kernel, rfl⟩
theorem D_jdk_42_m66_6 : Dc jdk_42_method_66_code 6 (.ireturn) 1 7 := ⟨by decide +kernel, rfl⟩
theorem D_jdk_42_m66_7 : Dc jdk_42_method_66_code 7 (.aload_n 1) 1 8 := ⟨by decide +kernel, rfl⟩
theorem D_jdk_42_m66_8 : Dc jdk_42_method_66_code 8 (.instanceof 10) 3 11 := ⟨by decide +kernel, rfl⟩
theorem D_jdk_42_m66_11 : Dc jdk_42_method_66_code 11 (.ifCond .eq 43) 3 14 := ⟨by decide +kernel, rfl⟩
theorem D_jdk_42_m66_14 : Dc jdk_42_method_66_code 14 (.aload_n 1) 1 15 := ⟨by decide +kernel, rfl⟩
theorem D_jdk_42_m66_15 : Dc jdk_42_method_66_code 15 (.checkcast 10) 3 18 := ⟨by decide +kernel, rfl⟩
theorem D_jdk_42_m66_18 : Dc jdk_42_method_66_code 18 (.astore_n 2) 1 19 := ⟨by decide +kernel, rfl⟩
theorem D_jdk_42_m66_19 : Dc jdk_42_method_66_code 19 (.getstatic 38) 3 22 := ⟨by decide +kernel, rfl⟩
theorem D_jdk_42_m66_22 : Dc jdk_42_method_66_code 22 (.ifCond .eq 14) 3 25 := ⟨by decide +kernel, rfl⟩
theorem D_jdk_42_m66_25 : Dc jdk_42_method_66_code 25 (.aload_n 0) 1 26 := ⟨by decide +kernel, rfl⟩
theorem D_jdk_42_m66_26 : Dc jdk_42_method_66_code 26 (.getfield 15) 3 29 := ⟨by decide +kernel, rfl⟩
theorem D_jdk_42_m66_29 : Dc jdk_42_method_66_code 29 (.aload_n 2) 1 30 := ⟨by decide +kernel, rfl⟩
theorem D_jdk_42_m66_30 : Dc jdk_42_method_66_code 30 (.getfield 15) 3 33 := ⟨by decide +kernel, rfl⟩
theorem D_jdk_42_m66_33 : Dc jdk_42_method_66_code 33 (.if_icmp .ne 21) 3 36 := ⟨by decide +kernel, rfl⟩
theorem D_jdk_42_m66_36 : Dc jdk_42_method_66_code 36 (.aload_n 0) 1 37 := ⟨by decide +kernel, rfl⟩
theorem D_jdk_42_m66_37 : Dc jdk_42_method_66_code 37 (.getfield 9) 3 40 := ⟨by decide +kernel, rfl⟩
theorem D_jdk_42_m66_40 : Dc jdk_42_method_66_code 40 (.aload_n 2) 1 41 := ⟨by decide +kernel, rfl⟩
theorem D_jdk_42_m66_41 : Dc jdk_42_method_66_code 41 (.getfield 9) 3 44 := ⟨by decide +kernel, rfl⟩
theorem D_jdk_42_m66_44 : Dc jdk_42_method_66_code 44 (.invokestatic 541) 3 47 := ⟨by decide +kernel, rfl⟩
theorem D_jdk_42_m66_47 : Dc jdk_42_method_66_code 47 (.ifCond .eq 7) 3 50 := ⟨by decide +kernel, rfl⟩
theorem D_jdk_42_m66_50 : Dc jdk_42_method_66_code 50 (.iconst 1) 1 51 := ⟨by decide +kernel, rfl⟩
theorem D_jdk_42_m66_51 : Dc jdk_42_method_66_code 51 (.goto 4) 3 54 := ⟨by decide +kernel, rfl⟩
theorem D_jdk_42_m66_55 : Dc jdk_42_method_66_code 55 (.ireturn) 1 56 := ⟨by decide +kernel, rfl⟩
abbrev W12 (l : Launch) (Z : State) := Wp none l Z "java/lang/String" "equals" jdk_42_method_66_code 3 (some .boolean)
set_option maxRecDepth 65536 in
set_option maxHeartbeats 40000000 in
theorem c_seq_0 (l : Launch) (Z : State) (a0 : Array Value) (hw : HW Z a0) (s v t u : Addr) (cp : Int32) (fm : Value) (F : OH) (hs : Std Z cp fm) :
    Met l Z (⟨"java/lang/String", "equals", "(Ljava/lang/Object;)Z"⟩ : MethodName) jdk_42_method_66_code 3 (some .boolean) (rm4 1 0 0 14) [(.ref s), (.ref t)] ((s, strO v) :: (v, fA .byte []) :: (t, strO u) :: (u, fA .byte []) :: F) (Q_c_seq_0 s v t u F) := by
  refine Met.of_wp (Ls := #[.val (.ref s), .val (.ref t), .unset]) pn_10 (fun m => (entry_loc m _ _).trans rfl) ?_
  show W12 l Z (rm4 1 0 0 14) ((s, strO v) :: (v, fA .byte []) :: (t, strO u) :: (u, fA .byte []) :: F) 0 0 0 #[.val (.ref s), .val (.ref t), .unset] [] (Q_c_seq_0 s v t u F)
  refine wp_aload_n D_jdk_42_m66_0 rfl rfl ?_
  refine wp_aload_n D_jdk_42_m66_1 rfl rfl ?_
  refine wp_acmp_ne D_jdk_42_m66_2 (pc'' := 7) ⟨by decide, by decide⟩ rfl rfl (fun h1 => ?_) (fun h1 => ?_)
  · skip
    refine wp_aload_n D_jdk_42_m66_7 rfl rfl ?_
    refine wp_instY D_jdk_42_m66_8 (gw hw 167 rfl) (fun h P => Ins.self (exa_new (i := 2) rfl h P)) ?_
    show W12 l Z (rm4 1 0 0 14) ((s, strO v) :: (v, fA .byte []) :: (t, strO u) :: (u, fA .byte []) :: F) 0 0 11 #[.val (.ref s), .val (.ref t), .unset] [(.int 1)] (Q_c_seq_0 s v t u F)
    refine wp_if_eq D_jdk_42_m66_11 (pc'' := 54) ⟨by decide, by decide⟩ (fun h2 => by exact absurd h2 (by decide)) (fun h2 => ?_)
    refine wp_aload_n D_jdk_42_m66_14 rfl rfl ?_
    refine wp_cast D_jdk_42_m66_15 (gw hw 167 rfl) (fun h P => Ins.self (exa_new (i := 2) rfl h P)) ?_
    refine wp_astore_n #[.val (.ref s), .val (.ref t), .val (.ref t)] D_jdk_42_m66_18 rfl rfl ?_
    refine wp_getstatic D_jdk_42_m66_19 (gw hw 50 rfl) hs.1 ?_
    refine wp_if_eq D_jdk_42_m66_22 (pc'' := 36) ⟨by decide, by decide⟩ (fun h3 => by exact absurd h3 hs.2.1) (fun h3 => ?_)
    refine wp_aload_n D_jdk_42_m66_25 rfl rfl ?_
    refine wp_getfield D_jdk_42_m66_26 (gw hw 30 rfl) (fld_new (i := 0) (fi := 1) rfl rfl rfl) ?_
    refine wp_aload_n D_jdk_42_m66_29 rfl rfl ?_
    refine wp_getfield D_jdk_42_m66_30 (gw hw 30 rfl) (fld_new (i := 2) (fi := 1) rfl rfl rfl) ?_
    refine wp_icmp_ne D_jdk_42_m66_33 (pc'' := 54) ⟨by decide, by decide⟩ (fun h4 => by exact absurd h4 (by decide)) (fun h4 => ?_)
    refine wp_aload_n D_jdk_42_m66_36 rfl rfl ?_
    refine wp_getfield D_jdk_42_m66_37 (gw hw 29 rfl) (fld_new (i := 0) (fi := 0) rfl rfl rfl) ?_
    refine wp_aload_n D_jdk_42_m66_40 rfl rfl ?_
    refine wp_getfield D_jdk_42_m66_41 (gw hw 29 rfl) (fld_new (i := 2) (fi := 0) rfl rfl rfl) ?_
    refine wp_callS (c_leq_0 l Z a0 hw s v t u cp fm F hs ) D_jdk_42_m66_44 (gw hw 168 rfl) (gw hw 169 rfl) (gw hw 63 rfl) (gw hw 170 rfl) (by decide) pd_14 rfl rfl rfl (lb rfl) (lb rfl) (lb rfl) (lb rfl) ?_
    rintro _ _ ⟨rfl, rfl⟩
    show W12 l Z (rm4 1 0 0 14) ((s, strO v) :: (v, fA .byte []) :: (t, strO u) :: (u, fA .byte []) :: F) 0 0 47 #[.val (.ref s), .val (.ref t), .val (.ref t)] [(.int 1)] (Q_c_seq_0 s v t u F)
    refine wp_if_eq D_jdk_42_m66_47 (pc'' := 54) ⟨by decide, by decide⟩ (fun h5 => by exact absurd h5 (by decide)) (fun h5 => ?_)
    refine wp_iconst 1 D_jdk_42_m66_50 (by decide) ?_
    refine wp_goto D_jdk_42_m66_51 (pc'' := 55) ⟨by decide, by decide⟩ ?_
    refine wp_ireturnN D_jdk_42_m66_55 rfl (by simp) (by decide) (by decide) ?_
    exact ⟨rfl, rfl⟩
  · skip
    refine wp_iconst 1 D_jdk_42_m66_5 (by decide) ?_
    refine wp_ireturnN D_jdk_42_m66_6 rfl (by simp) (by decide) (by decide) ?_
    exact ⟨rfl, rfl⟩
def Q_c_leq_1 (s v t u : Addr) (y0 : Int32) (F : OH) : Option Value → OH → Prop := fun w' H' => w' = some (.int 1) ∧ H' = ((s, strO v) :: (v, fA .byte [y0]) :: (t, strO u) :: (u, fA .byte [y0]) :: F)
set_option maxRecDepth 65536 in
set_option maxHeartbeats 40000000 in
theorem c_leq_1 (l : Launch) (Z : State) (a0 : Array Value) (hw : HW Z a0) (s v t u : Addr) (y0 : Int32) (cp : Int32) (fm : Value) (F : OH) (hs : Std Z cp fm) :
    Met l Z (⟨"java/lang/StringLatin1", "equals", "([B[B)Z"⟩ : MethodName) jdk_43_method_13_code 3 (some .boolean) (rm4 0 0 0 0) [(.ref v), (.ref u)] ((s, strO v) :: (v, fA .byte [y0]) :: (t, strO u) :: (u, fA .byte [y0]) :: F) (Q_c_leq_1 s v t u y0 F) := by
  refine Met.of_wp (Ls := #[.val (.ref v), .val (.ref u), .unset]) pn_9 (fun m => (entry_loc m _ _).trans rfl) ?_
  show W11 l Z (rm4 0 0 0 0) ((s, strO v) :: (v, fA .byte [y0]) :: (t, strO u) :: (u, fA .byte [y0]) :: F) 0 0 0 #[.val (.ref v), .val (.ref u), .unset] [] (Q_c_leq_1 s v t u y0 F)
  refine wp_aload_n D_jdk_43_m13_0 rfl rfl ?_
  refine wp_lengthI (i := 1) (1 : Int32) D_jdk_43_m13_1 rfl rfl ?_
  refine wp_aload_n D_jdk_43_m13_2 rfl rfl ?_
  refine wp_lengthI (i := 3) (1 : Int32) D_jdk_43_m13_3 rfl rfl ?_
  refine wp_icmp_ne D_jdk_43_m13_4 (pc'' := 34) ⟨by decide, by decide⟩ (fun h1 => by exact absurd h1 (by decide)) (fun h1 => ?_)
  refine wp_iconst 0 D_jdk_43_m13_7 (by decide) ?_
  refine wp_istore_n #[.val (.ref v), .val (.ref u), .val (.int 0)] D_jdk_43_m13_8 rfl ?_
  refine wp_iload_n D_jdk_43_m13_9 rfl ?_
  refine wp_aload_n D_jdk_43_m13_10 rfl rfl ?_
  refine wp_lengthI (i := 1) (1 : Int32) D_jdk_43_m13_11 rfl rfl ?_
  refine wp_icmp_ge D_jdk_43_m13_12 (pc'' := 32) ⟨by decide, by decide⟩ (fun h2 => by exact absurd h2 (by decide)) (fun h2 => ?_)
  refine wp_aload_n D_jdk_43_m13_15 rfl rfl ?_
  refine wp_iload_n D_jdk_43_m13_16 rfl ?_
  refine wp_baload (i := 1) (0) D_jdk_43_m13_17 rfl (by decide) (by decide) rfl ?_
  refine wp_aload_n D_jdk_43_m13_18 rfl rfl ?_
  refine wp_iload_n D_jdk_43_m13_19 rfl ?_
  refine wp_baload (i := 3) (0) D_jdk_43_m13_20 rfl (by decide) (by decide) rfl ?_
  refine wp_icmp_eq D_jdk_43_m13_21 (pc'' := 26) ⟨by decide, by decide⟩ (fun h3 => ?_) (fun h3 => by exact absurd rfl h3)
  refine wp_iinc 1 #[.val (.ref v), .val (.ref u), .val (.int 1)] D_jdk_43_m13_26 rfl rfl (by rw [show (0 : Int32) + (1 : Int32) = (1 : Int32) from by decide]; rfl) ?_
  refine wp_goto D_jdk_43_m13_29 (pc'' := 9) ⟨by decide, by decide⟩ ?_
  refine wp_iload_n D_jdk_43_m13_9 rfl ?_
  refine wp_aload_n D_jdk_43_m13_10 rfl rfl ?_
  refine wp_lengthI (i := 1) (1 : Int32) D_jdk_43_m13_11 rfl rfl ?_
  refine wp_icmp_ge D_jdk_43_m13_12 (pc'' := 32) ⟨by decide, by decide⟩ (fun h4 => ?_) (fun h4 => by exact absurd h4 (by decide))
  refine wp_iconst 1 D_jdk_43_m13_32 (by decide) ?_
  refine wp_ireturnN D_jdk_43_m13_33 rfl (by simp) (by decide) (by decide) ?_
  exact ⟨rfl, rfl⟩
def Q_c_seq_1 (s v t u : Addr) (y0 : Int32) (F : OH) : Option Value → OH → Prop := fun w' H' => w' = some (.int 1) ∧ H' = ((s, strO v) :: (v, fA .byte [y0]) :: (t, strO u) :: (u, fA .byte [y0]) :: F)
set_option maxRecDepth 65536 in
set_option maxHeartbeats 40000000 in
theorem c_seq_1 (l : Launch) (Z : State) (a0 : Array Value) (hw : HW Z a0) (s v t u : Addr) (y0 : Int32) (cp : Int32) (fm : Value) (F : OH) (hs : Std Z cp fm) :
    Met l Z (⟨"java/lang/String", "equals", "(Ljava/lang/Object;)Z"⟩ : MethodName) jdk_42_method_66_code 3 (some .boolean) (rm4 1 0 0 14) [(.ref s), (.ref t)] ((s, strO v) :: (v, fA .byte [y0]) :: (t, strO u) :: (u, fA .byte [y0]) :: F) (Q_c_seq_1 s v t u y0 F) := by
  refine Met.of_wp (Ls := #[.val (.ref s), .val (.ref t), .unset]) pn_10 (fun m => (entry_loc m _ _).trans rfl) ?_
  show W12 l Z (rm4 1 0 0 14) ((s, strO v) :: (v, fA .byte [y0]) :: (t, strO u) :: (u, fA .byte [y0]) :: F) 0 0 0 #[.val (.ref s), .val (.ref t), .unset] [] (Q_c_seq_1 s v t u y0 F)
  refine wp_aload_n D_jdk_42_m66_0 rfl rfl ?_
  refine wp_aload_n D_jdk_42_m66_1 rfl rfl ?_
  refine wp_acmp_ne D_jdk_42_m66_2 (pc'' := 7) ⟨by decide, by decide⟩ rfl rfl (fun h1 => ?_) (fun h1 => ?_)
  · skip
    refine wp_aload_n D_jdk_42_m66_7 rfl rfl ?_
    refine wp_instY D_jdk_42_m66_8 (gw hw 167 rfl) (fun h P => Ins.self (exa_new (i := 2) rfl h P)) ?_
    show W12 l Z (rm4 1 0 0 14) ((s, strO v) :: (v, fA .byte [y0]) :: (t, strO u) :: (u, fA .byte [y0]) :: F) 0 0 11 #[.val (.ref s), .val (.ref t), .unset] [(.int 1)] (Q_c_seq_1 s v t u y0 F)
    refine wp_if_eq D_jdk_42_m66_11 (pc'' := 54) ⟨by decide, by decide⟩ (fun h2 => by exact absurd h2 (by decide)) (fun h2 => ?_)
    refine wp_aload_n D_jdk_42_m66_14 rfl rfl ?_
    refine wp_cast D_jdk_42_m66_15 (gw hw 167 rfl) (fun h P => Ins.self (exa_new (i := 2) rfl h P)) ?_
    refine wp_astore_n #[.val (.ref s), .val (.ref t), .val (.ref t)] D_jdk_42_m66_18 rfl rfl ?_
    refine wp_getstatic D_jdk_42_m66_19 (gw hw 50 rfl) hs.1 ?_
    refine wp_if_eq D_jdk_42_m66_22 (pc'' := 36) ⟨by decide, by decide⟩ (fun h3 => by exact absurd h3 hs.2.1) (fun h3 => ?_)
    refine wp_aload_n D_jdk_42_m66_25 rfl rfl ?_
    refine wp_getfield D_jdk_42_m66_26 (gw hw 30 rfl) (fld_new (i := 0) (fi := 1) rfl rfl rfl) ?_
    refine wp_aload_n D_jdk_42_m66_29 rfl rfl ?_
    refine wp_getfield D_jdk_42_m66_30 (gw hw 30 rfl) (fld_new (i := 2) (fi := 1) rfl rfl rfl) ?_
    refine wp_icmp_ne D_jdk_42_m66_33 (pc'' := 54) ⟨by decide, by decide⟩ (fun h4 => by exact absurd h4 (by decide)) (fun h4 => ?_)
    refine wp_aload_n D_jdk_42_m66_36 rfl rfl ?_
    refine wp_getfield D_jdk_42_m66_37 (gw hw 29 rfl) (fld_new (i := 0) (fi := 0) rfl rfl rfl) ?_
    refine wp_aload_n D_jdk_42_m66_40 rfl rfl ?_
    refine wp_getfield D_jdk_42_m66_41 (gw hw 29 rfl) (fld_new (i := 2) (fi := 0) rfl rfl rfl) ?_
    refine wp_callS (c_leq_1 l Z a0 hw s v t u y0 cp fm F hs ) D_jdk_42_m66_44 (gw hw 168 rfl) (gw hw 169 rfl) (gw hw 63 rfl) (gw hw 170 rfl) (by decide) pd_14 rfl rfl rfl (lb rfl) (lb rfl) (lb rfl) (lb rfl) ?_
    rintro _ _ ⟨rfl, rfl⟩
    show W12 l Z (rm4 1 0 0 14) ((s, strO v) :: (v, fA .byte [y0]) :: (t, strO u) :: (u, fA .byte [y0]) :: F) 0 0 47 #[.val (.ref s), .val (.ref t), .val (.ref t)] [(.int 1)] (Q_c_seq_1 s v t u y0 F)
    refine wp_if_eq D_jdk_42_m66_47 (pc'' := 54) ⟨by decide, by decide⟩ (fun h5 => by exact absurd h5 (by decide)) (fun h5 => ?_)
    refine wp_iconst 1 D_jdk_42_m66_50 (by decide) ?_
    refine wp_goto D_jdk_42_m66_51 (pc'' := 55) ⟨by decide, by decide⟩ ?_
    refine wp_ireturnN D_jdk_42_m66_55 rfl (by simp) (by decide) (by decide) ?_
    exact ⟨rfl, rfl⟩
  · skip
    refine wp_iconst 1 D_jdk_42_m66_5 (by decide) ?_
    refine wp_ireturnN D_jdk_42_m66_6 rfl (by simp) (by decide) (by decide) ?_
    exact ⟨rfl, rfl⟩
def Q_c_leq_2 (s v t u : Addr) (y0 y1 : Int32) (F : OH) : Option Value → OH → Prop := fun w' H' => w' = some (.int 1) ∧ H' = ((s, strO v) :: (v, fA .byte [y0, y1]) :: (t, strO u) :: (u, fA .byte [y0, y1]) :: F)
set_option maxRecDepth 65536 in
set_option maxHeartbeats 40000000 in
theorem c_leq_2 (l : Launch) (Z : State) (a0 : Array Value) (hw : HW Z a0) (s v t u : Addr) (y0 y1 : Int32) (cp : Int32) (fm : Value) (F : OH) (hs : Std Z cp fm) :
    Met l Z (⟨"java/lang/StringLatin1", "equals", "([B[B)Z"⟩ : MethodName) jdk_43_method_13_code 3 (some .boolean) (rm4 0 0 0 0) [(.ref v), (.ref u)] ((s, strO v) :: (v, fA .byte [y0, y1]) :: (t, strO u) :: (u, fA .byte [y0, y1]) :: F) (Q_c_leq_2 s v t u y0 y1 F) := by
  refine Met.of_wp (Ls := #[.val (.ref v), .val (.ref u), .unset]) pn_9 (fun m => (entry_loc m _ _).trans rfl) ?_
  show W11 l Z (rm4 0 0 0 0) ((s, strO v) :: (v, fA .byte [y0, y1]) :: (t, strO u) :: (u, fA .byte [y0, y1]) :: F) 0 0 0 #[.val (.ref v), .val (.ref u), .unset] [] (Q_c_leq_2 s v t u y0 y1 F)
  refine wp_aload_n D_jdk_43_m13_0 rfl rfl ?_
  refine wp_lengthI (i := 1) (2 : Int32) D_jdk_43_m13_1 rfl rfl ?_
  refine wp_aload_n D_jdk_43_m13_2 rfl rfl ?_
  refine wp_lengthI (i := 3) (2 : Int32) D_jdk_43_m13_3 rfl rfl ?_
  refine wp_icmp_ne D_jdk_43_m13_4 (pc'' := 34) ⟨by decide, by decide⟩ (fun h1 => by exact absurd h1 (by decide)) (fun h1 => ?_)
  refine wp_iconst 0 D_jdk_43_m13_7 (by decide) ?_
  refine wp_istore_n #[.val (.ref v), .val (.ref u), .val (.int 0)] D_jdk_43_m13_8 rfl ?_
  refine wp_iload_n D_jdk_43_m13_9 rfl ?_
  refine wp_aload_n D_jdk_43_m13_10 rfl rfl ?_
  refine wp_lengthI (i := 1) (2 : Int32) D_jdk_43_m13_11 rfl rfl ?_
  refine wp_icmp_ge D_jdk_43_m13_12 (pc'' := 32) ⟨by decide, by decide⟩ (fun h2 => by exact absurd h2 (by decide)) (fun h2 => ?_)
  refine wp_aload_n D_jdk_43_m13_15 rfl rfl ?_
  refine wp_iload_n D_jdk_43_m13_16 rfl ?_
  refine wp_baload (i := 1) (0) D_jdk_43_m13_17 rfl (by decide) (by decide) rfl ?_
  refine wp_aload_n D_jdk_43_m13_18 rfl rfl ?_
  refine wp_iload_n D_jdk_43_m13_19 rfl ?_
  refine wp_baload (i := 3) (0) D_jdk_43_m13_20 rfl (by decide) (by decide) rfl ?_
  refine wp_icmp_eq D_jdk_43_m13_21 (pc'' := 26) ⟨by decide, by decide⟩ (fun h3 => ?_) (fun h3 => by exact absurd rfl h3)
  refine wp_iinc 1 #[.val (.ref v), .val (.ref u), .val (.int 1)] D_jdk_43_m13_26 rfl rfl (by rw [show (0 : Int32) + (1 : Int32) = (1 : Int32) from by decide]; rfl) ?_
  refine wp_goto D_jdk_43_m13_29 (pc'' := 9) ⟨by decide, by decide⟩ ?_
  refine wp_iload_n D_jdk_43_m13_9 rfl ?_
  refine wp_aload_n D_jdk_43_m13_10 rfl rfl ?_
  refine wp_lengthI (i := 1) (2 : Int32) D_jdk_43_m13_11 rfl rfl ?_
  refine wp_icmp_ge D_jdk_43_m13_12 (pc'' := 32) ⟨by decide, by decide⟩ (fun h4 => by exact absurd h4 (by decide)) (fun h4 => ?_)
  refine wp_aload_n D_jdk_43_m13_15 rfl rfl ?_
  refine wp_iload_n D_jdk_43_m13_16 rfl ?_
  refine wp_baload (i := 1) (1) D_jdk_43_m13_17 rfl (by decide) (by decide) rfl ?_
  refine wp_aload_n D_jdk_43_m13_18 rfl rfl ?_
  refine wp_iload_n D_jdk_43_m13_19 rfl ?_
  refine wp_baload (i := 3) (1) D_jdk_43_m13_20 rfl (by decide) (by decide) rfl ?_
  refine wp_icmp_eq D_jdk_43_m13_21 (pc'' := 26) ⟨by decide, by decide⟩ (fun h5 => ?_) (fun h5 => by exact absurd rfl h5)
  refine wp_iinc 1 #[.val (.ref v), .val (.ref u), .val (.int 2)] D_jdk_43_m13_26 rfl rfl (by rw [show (1 : Int32) + (1 : Int32) = (2 : Int32) from by decide]; rfl) ?_
  refine wp_goto D_jdk_43_m13_29 (pc'' := 9) ⟨by decide, by decide⟩ ?_
  refine wp_iload_n D_jdk_43_m13_9 rfl ?_
  refine wp_aload_n D_jdk_43_m13_10 rfl rfl ?_
  refine wp_lengthI (i := 1) (2 : Int32) D_jdk_43_m13_11 rfl rfl ?_
  refine wp_icmp_ge D_jdk_43_m13_12 (pc'' := 32) ⟨by decide, by decide⟩ (fun h6 => ?_) (fun h6 => by exact absurd h6 (by decide))
  refine wp_iconst 1 D_jdk_43_m13_32 (by decide) ?_
  refine wp_ireturnN D_jdk_43_m13_33 rfl (by simp) (by decide) (by decide) ?_
  exact ⟨rfl, rfl⟩
def Q_c_seq_2 (s v t u : Addr) (y0 y1 : Int32) (F : OH) : Option Value → OH → Prop := fun w' H' => w' = some (.int 1) ∧ H' = ((s, strO v) :: (v, fA .byte [y0, y1]) :: (t, strO u) :: (u, fA .byte [y0, y1]) :: F)
set_option maxRecDepth 65536 in
set_option maxHeartbeats 40000000 in
theorem c_seq_2 (l : Launch) (Z : State) (a0 : Array Value) (hw : HW Z a0) (s v t u : Addr) (y0 y1 : Int32) (cp : Int32) (fm : Value) (F : OH) (hs : Std Z cp fm) :
    Met l Z (⟨"java/lang/String", "equals", "(Ljava/lang/Object;)Z"⟩ : MethodName) jdk_42_method_66_code 3 (some .boolean) (rm4 1 0 0 14) [(.ref s), (.ref t)] ((s, strO v) :: (v, fA .byte [y0, y1]) :: (t, strO u) :: (u, fA .byte [y0, y1]) :: F) (Q_c_seq_2 s v t u y0 y1 F) := by
  refine Met.of_wp (Ls := #[.val (.ref s), .val (.ref t), .unset]) pn_10 (fun m => (entry_loc m _ _).trans rfl) ?_
  show W12 l Z (rm4 1 0 0 14) ((s, strO v) :: (v, fA .byte [y0, y1]) :: (t, strO u) :: (u, fA .byte [y0, y1]) :: F) 0 0 0 #[.val (.ref s), .val (.ref t), .unset] [] (Q_c_seq_2 s v t u y0 y1 F)
  refine wp_aload_n D_jdk_42_m66_0 rfl rfl ?_
  refine wp_aload_n D_jdk_42_m66_1 rfl rfl ?_
  refine wp_acmp_ne D_jdk_42_m66_2 (pc'' := 7) ⟨by decide, by decide⟩ rfl rfl (fun h1 => ?_) (fun h1 => ?_)
  · skip
    refine wp_aload_n D_jdk_42_m66_7 rfl rfl ?_
    refine wp_instY D_jdk_42_m66_8 (gw hw 167 rfl) (fun h P => Ins.self (exa_new (i := 2) rfl h P)) ?_
    show W12 l Z (rm4 1 0 0 14) ((s, strO v) :: (v, fA .byte [y0, y1]) :: (t, strO u) :: (u, fA .byte [y0, y1]) :: F) 0 0 11 #[.val (.ref s), .val (.ref t), .unset] [(.int 1)] (Q_c_seq_2 s v t u y0 y1 F)
    refine wp_if_eq D_jdk_42_m66_11 (pc'' := 54) ⟨by decide, by decide⟩ (fun h2 => by exact absurd h2 (by decide)) (fun h2 => ?_)
    refine wp_aload_n D_jdk_42_m66_14 rfl rfl ?_
    refine wp_cast D_jdk_42_m66_15 (gw hw 167 rfl) (fun h P => Ins.self (exa_new (i := 2) rfl h P)) ?_
    refine wp_astore_n #[.val (.ref s), .val (.ref t), .val (.ref t)] D_jdk_42_m66_18 rfl rfl ?_
    refine wp_getstatic D_jdk_42_m66_19 (gw hw 50 rfl) hs.1 ?_
    refine wp_if_eq D_jdk_42_m66_22 (pc'' := 36) ⟨by decide, by decide⟩ (fun h3 => by exact absurd h3 hs.2.1) (fun h3 => ?_)
    refine wp_aload_n D_jdk_42_m66_25 rfl rfl ?_
    refine wp_getfield D_jdk_42_m66_26 (gw hw 30 rfl) (fld_new (i := 0) (fi := 1) rfl rfl rfl) ?_
    refine wp_aload_n D_jdk_42_m66_29 rfl rfl ?_
    refine wp_getfield D_jdk_42_m66_30 (gw hw 30 rfl) (fld_new (i := 2) (fi := 1) rfl rfl rfl) ?_
    refine wp_icmp_ne D_jdk_42_m66_33 (pc'' := 54) ⟨by decide, by decide⟩ (fun h4 => by exact absurd h4 (by decide)) (fun h4 => ?_)
    refine wp_aload_n D_jdk_42_m66_36 rfl rfl ?_
    refine wp_getfield D_jdk_42_m66_37 (gw hw 29 rfl) (fld_new (i := 0) (fi := 0) rfl rfl rfl) ?_
    refine wp_aload_n D_jdk_42_m66_40 rfl rfl ?_
    refine wp_getfield D_jdk_42_m66_41 (gw hw 29 rfl) (fld_new (i := 2) (fi := 0) rfl rfl rfl) ?_
    refine wp_callS (c_leq_2 l Z a0 hw s v t u y0 y1 cp fm F hs ) D_jdk_42_m66_44 (gw hw 168 rfl) (gw hw 169 rfl) (gw hw 63 rfl) (gw hw 170 rfl) (by decide) pd_14 rfl rfl rfl (lb rfl) (lb rfl) (lb rfl) (lb rfl) ?_
    rintro _ _ ⟨rfl, rfl⟩
    show W12 l Z (rm4 1 0 0 14) ((s, strO v) :: (v, fA .byte [y0, y1]) :: (t, strO u) :: (u, fA .byte [y0, y1]) :: F) 0 0 47 #[.val (.ref s), .val (.ref t), .val (.ref t)] [(.int 1)] (Q_c_seq_2 s v t u y0 y1 F)
    refine wp_if_eq D_jdk_42_m66_47 (pc'' := 54) ⟨by decide, by decide⟩ (fun h5 => by exact absurd h5 (by decide)) (fun h5 => ?_)
    refine wp_iconst 1 D_jdk_42_m66_50 (by decide) ?_
    refine wp_goto D_jdk_42_m66_51 (pc'' := 55) ⟨by decide, by decide⟩ ?_
    refine wp_ireturnN D_jdk_42_m66_55 rfl (by simp) (by decide) (by decide) ?_
    exact ⟨rfl, rfl⟩
  · skip
    refine wp_iconst 1 D_jdk_42_m66_5 (by decide) ?_
    refine wp_ireturnN D_jdk_42_m66_6 rfl (by simp) (by decide) (by decide) ?_
    exact ⟨rfl, rfl⟩
def Q_c_leq_3 (s v t u : Addr) (y0 y1 y2 : Int32) (F : OH) : Option Value → OH → Prop := fun w' H' => w' = some (.int 1) ∧ H' = ((s, strO v) :: (v, fA .byte [y0, y1, y2]) :: (t, strO u) :: (u, fA .byte [y0, y1, y2]) :: F)
set_option maxRecDepth 65536 in
set_option maxHeartbeats 40000000 in
theorem c_leq_3 (l : Launch) (Z : State) (a0 : Array Value) (hw : HW Z a0) (s v t u : Addr) (y0 y1 y2 : Int32) (cp : Int32) (fm : Value) (F : OH) (hs : Std Z cp fm) :
    Met l Z (⟨"java/lang/StringLatin1", "equals", "([B[B)Z"⟩ : MethodName) jdk_43_method_13_code 3 (some .boolean) (rm4 0 0 0 0) [(.ref v), (.ref u)] ((s, strO v) :: (v, fA .byte [y0, y1, y2]) :: (t, strO u) :: (u, fA .byte [y0, y1, y2]) :: F) (Q_c_leq_3 s v t u y0 y1 y2 F) := by
  refine Met.of_wp (Ls := #[.val (.ref v), .val (.ref u), .unset]) pn_9 (fun m => (entry_loc m _ _).trans rfl) ?_
  show W11 l Z (rm4 0 0 0 0) ((s, strO v) :: (v, fA .byte [y0, y1, y2]) :: (t, strO u) :: (u, fA .byte [y0, y1, y2]) :: F) 0 0 0 #[.val (.ref v), .val (.ref u), .unset] [] (Q_c_leq_3 s v t u y0 y1 y2 F)
  refine wp_aload_n D_jdk_43_m13_0 rfl rfl ?_
  refine wp_lengthI (i := 1) (3 : Int32) D_jdk_43_m13_1 rfl rfl ?_
  refine wp_aload_n D_jdk_43_m13_2 rfl rfl ?_
  refine wp_lengthI (i := 3) (3 : Int32) D_jdk_43_m13_3 rfl rfl ?_
  refine wp_icmp_ne D_jdk_43_m13_4 (pc'' := 34) ⟨by decide, by decide⟩ (fun h1 => by exact absurd h1 (by decide)) (fun h1 => ?_)
  refine wp_iconst 0 D_jdk_43_m13_7 (by decide) ?_
  refine wp_istore_n #[.val (.ref v), .val (.ref u), .val (.int 0)] D_jdk_43_m13_8 rfl ?_
  refine wp_iload_n D_jdk_43_m13_9 rfl ?_
  refine wp_aload_n D_jdk_43_m13_10 rfl rfl ?_
  refine wp_lengthI (i := 1) (3 : Int32) D_jdk_43_m13_11 rfl rfl ?_
  refine wp_icmp_ge D_jdk_43_m13_12 (pc'' := 32) ⟨by decide, by decide⟩ (fun h2 => by exact absurd h2 (by decide)) (fun h2 => ?_)
  refine wp_aload_n D_jdk_43_m13_15 rfl rfl ?_
  refine wp_iload_n D_jdk_43_m13_16 rfl ?_
  refine wp_baload (i := 1) (0) D_jdk_43_m13_17 rfl (by decide) (by decide) rfl ?_
  refine wp_aload_n D_jdk_43_m13_18 rfl rfl ?_
  refine wp_iload_n D_jdk_43_m13_19 rfl ?_
  refine wp_baload (i := 3) (0) D_jdk_43_m13_20 rfl (by decide) (by decide) rfl ?_
  refine wp_icmp_eq D_jdk_43_m13_21 (pc'' := 26) ⟨by decide, by decide⟩ (fun h3 => ?_) (fun h3 => by exact absurd rfl h3)
  refine wp_iinc 1 #[.val (.ref v), .val (.ref u), .val (.int 1)] D_jdk_43_m13_26 rfl rfl (by rw [show (0 : Int32) + (1 : Int32) = (1 : Int32) from by decide]; rfl) ?_
  refine wp_goto D_jdk_43_m13_29 (pc'' := 9) ⟨by decide, by decide⟩ ?_
  refine wp_iload_n D_jdk_43_m13_9 rfl ?_
  refine wp_aload_n D_jdk_43_m13_10 rfl rfl ?_
  refine wp_lengthI (i := 1) (3 : Int32) D_jdk_43_m13_11 rfl rfl ?_
  refine wp_icmp_ge D_jdk_43_m13_12 (pc'' := 32) ⟨by decide, by decide⟩ (fun h4 => by exact absurd h4 (by decide)) (fun h4 => ?_)
  refine wp_aload_n D_jdk_43_m13_15 rfl rfl ?_
  refine wp_iload_n D_jdk_43_m13_16 rfl ?_
  refine wp_baload (i := 1) (1) D_jdk_43_m13_17 rfl (by decide) (by decide) rfl ?_
  refine wp_aload_n D_jdk_43_m13_18 rfl rfl ?_
  refine wp_iload_n D_jdk_43_m13_19 rfl ?_
  refine wp_baload (i := 3) (1) D_jdk_43_m13_20 rfl (by decide) (by decide) rfl ?_
  refine wp_icmp_eq D_jdk_43_m13_21 (pc'' := 26) ⟨by decide, by decide⟩ (fun h5 => ?_) (fun h5 => by exact absurd rfl h5)
  refine wp_iinc 1 #[.val (.ref v), .val (.ref u), .val (.int 2)] D_jdk_43_m13_26 rfl rfl (by rw [show (1 : Int32) + (1 : Int32) = (2 : Int32) from by decide]; rfl) ?_
  refine wp_goto D_jdk_43_m13_29 (pc'' := 9) ⟨by decide, by decide⟩ ?_
  refine wp_iload_n D_jdk_43_m13_9 rfl ?_
  refine wp_aload_n D_jdk_43_m13_10 rfl rfl ?_
  refine wp_lengthI (i := 1) (3 : Int32) D_jdk_43_m13_11 rfl rfl ?_
  refine wp_icmp_ge D_jdk_43_m13_12 (pc'' := 32) ⟨by decide, by decide⟩ (fun h6 => by exact absurd h6 (by decide)) (fun h6 => ?_)
  refine wp_aload_n D_jdk_43_m13_15 rfl rfl ?_
  refine wp_iload_n D_jdk_43_m13_16 rfl ?_
  refine wp_baload (i := 1) (2) D_jdk_43_m13_17 rfl (by decide) (by decide) rfl ?_
  refine wp_aload_n D_jdk_43_m13_18 rfl rfl ?_
  refine wp_iload_n D_jdk_43_m13_19 rfl ?_
  refine wp_baload (i := 3) (2) D_jdk_43_m13_20 rfl (by decide) (by decide) rfl ?_
  refine wp_icmp_eq D_jdk_43_m13_21 (pc'' := 26) ⟨by decide, by decide⟩ (fun h7 => ?_) (fun h7 => by exact absurd rfl h7)
  refine wp_iinc 1 #[.val (.ref v), .val (.ref u), .val (.int 3)] D_jdk_43_m13_26 rfl rfl (by rw [show (2 : Int32) + (1 : Int32) = (3 : Int32) from by decide]; rfl) ?_
  refine wp_goto D_jdk_43_m13_29 (pc'' := 9) ⟨by decide, by decide⟩ ?_
  refine wp_iload_n D_jdk_43_m13_9 rfl ?_
  refine wp_aload_n D_jdk_43_m13_10 rfl rfl ?_
  refine wp_lengthI (i := 1) (3 : Int32) D_jdk_43_m13_11 rfl rfl ?_
  refine wp_icmp_ge D_jdk_43_m13_12 (pc'' := 32) ⟨by decide, by decide⟩ (fun h8 => ?_) (fun h8 => by exact absurd h8 (by decide))
  refine wp_iconst 1 D_jdk_43_m13_32 (by decide) ?_
  refine wp_ireturnN D_jdk_43_m13_33 rfl (by simp) (by decide) (by decide) ?_
  exact ⟨rfl, rfl⟩
def Q_c_seq_3 (s v t u : Addr) (y0 y1 y2 : Int32) (F : OH) : Option Value → OH → Prop := fun w' H' => w' = some (.int 1) ∧ H' = ((s, strO v) :: (v, fA .byte [y0, y1, y2]) :: (t, strO u) :: (u, fA .byte [y0, y1, y2]) :: F)
set_option maxRecDepth 65536 in
set_option maxHeartbeats 40000000 in
theorem c_seq_3 (l : Launch) (Z : State) (a0 : Array Value) (hw : HW Z a0) (s v t u : Addr) (y0 y1 y2 : Int32) (cp : Int32) (fm : Value) (F : OH) (hs : Std Z cp fm) :
    Met l Z (⟨"java/lang/String", "equals", "(Ljava/lang/Object;)Z"⟩ : MethodName) jdk_42_method_66_code 3 (some .boolean) (rm4 1 0 0 14) [(.ref s), (.ref t)] ((s, strO v) :: (v, fA .byte [y0, y1, y2]) :: (t, strO u) :: (u, fA .byte [y0, y1, y2]) :: F) (Q_c_seq_3 s v t u y0 y1 y2 F) := by
  refine Met.of_wp (Ls := #[.val (.ref s), .val (.ref t), .unset]) pn_10 (fun m => (entry_loc m _ _).trans rfl) ?_
  show W12 l Z (rm4 1 0 0 14) ((s, strO v) :: (v, fA .byte [y0, y1, y2]) :: (t, strO u) :: (u, fA .byte [y0, y1, y2]) :: F) 0 0 0 #[.val (.ref s), .val (.ref t), .unset] [] (Q_c_seq_3 s v t u y0 y1 y2 F)
  refine wp_aload_n D_jdk_42_m66_0 rfl rfl ?_
  refine wp_aload_n D_jdk_42_m66_1 rfl rfl ?_
  refine wp_acmp_ne D_jdk_42_m66_2 (pc'' := 7) ⟨by decide, by decide⟩ rfl rfl (fun h1 => ?_) (fun h1 => ?_)
  · skip
    refine wp_aload_n D_jdk_42_m66_7 rfl rfl ?_
    refine wp_instY D_jdk_42_m66_8 (gw hw 167 rfl) (fun h P => Ins.self (exa_new (i := 2) rfl h P)) ?_
    show W12 l Z (rm4 1 0 0 14) ((s, strO v) :: (v, fA .byte [y0, y1, y2]) :: (t, strO u) :: (u, fA .byte [y0, y1, y2]) :: F) 0 0 11 #[.val (.ref s), .val (.ref t), .unset] [(.int 1)] (Q_c_seq_3 s v t u y0 y1 y2 F)
    refine wp_if_eq D_jdk_42_m66_11 (pc'' := 54) ⟨by decide, by decide⟩ (fun h2 => by exact absurd h2 (by decide)) (fun h2 => ?_)
    refine wp_aload_n D_jdk_42_m66_14 rfl rfl ?_
    refine wp_cast D_jdk_42_m66_15 (gw hw 167 rfl) (fun h P => Ins.self (exa_new (i := 2) rfl h P)) ?_
    refine wp_astore_n #[.val (.ref s), .val (.ref t), .val (.ref t)] D_jdk_42_m66_18 rfl rfl ?_
    refine wp_getstatic D_jdk_42_m66_19 (gw hw 50 rfl) hs.1 ?_
    refine wp_if_eq D_jdk_42_m66_22 (pc'' := 36) ⟨by decide, by decide⟩ (fun h3 => by exact absurd h3 hs.2.1) (fun h3 => ?_)
    refine wp_aload_n D_jdk_42_m66_25 rfl rfl ?_
    refine wp_getfield D_jdk_42_m66_26 (gw hw 30 rfl) (fld_new (i := 0) (fi := 1) rfl rfl rfl) ?_
    refine wp_aload_n D_jdk_42_m66_29 rfl rfl ?_
    refine wp_getfield D_jdk_42_m66_30 (gw hw 30 rfl) (fld_new (i := 2) (fi := 1) rfl rfl rfl) ?_
    refine wp_icmp_ne D_jdk_42_m66_33 (pc'' := 54) ⟨by decide, by decide⟩ (fun h4 => by exact absurd h4 (by decide)) (fun h4 => ?_)
    refine wp_aload_n D_jdk_42_m66_36 rfl rfl ?_
    refine wp_getfield D_jdk_42_m66_37 (gw hw 29 rfl) (fld_new (i := 0) (fi := 0) rfl rfl rfl) ?_
    refine wp_aload_n D_jdk_42_m66_40 rfl rfl ?_
    refine wp_getfield D_jdk_42_m66_41 (gw hw 29 rfl) (fld_new (i := 2) (fi := 0) rfl rfl rfl) ?_
    refine wp_callS (c_leq_3 l Z a0 hw s v t u y0 y1 y2 cp fm F hs ) D_jdk_42_m66_44 (gw hw 168 rfl) (gw hw 169 rfl) (gw hw 63 rfl) (gw hw 170 rfl) (by decide) pd_14 rfl rfl rfl (lb rfl) (lb rfl) (lb rfl) (lb rfl) ?_
    rintro _ _ ⟨rfl, rfl⟩
    show W12 l Z (rm4 1 0 0 14) ((s, strO v) :: (v, fA .byte [y0, y1, y2]) :: (t, strO u) :: (u, fA .byte [y0, y1, y2]) :: F) 0 0 47 #[.val (.ref s), .val (.ref t), .val (.ref t)] [(.int 1)] (Q_c_seq_3 s v t u y0 y1 y2 F)
    refine wp_if_eq D_jdk_42_m66_47 (pc'' := 54) ⟨by decide, by decide⟩ (fun h5 => by exact absurd h5 (by decide)) (fun h5 => ?_)
    refine wp_iconst 1 D_jdk_42_m66_50 (by decide) ?_
    refine wp_goto D_jdk_42_m66_51 (pc'' := 55) ⟨by decide, by decide⟩ ?_
    refine wp_ireturnN D_jdk_42_m66_55 rfl (by simp) (by decide) (by decide) ?_
    exact ⟨rfl, rfl⟩
  · skip
    refine wp_iconst 1 D_jdk_42_m66_5 (by decide) ?_
    refine wp_ireturnN D_jdk_42_m66_6 rfl (by simp) (by decide) (by decide) ?_
    exact ⟨rfl, rfl⟩
def sg_2 : OSig := [("java/util/Optional", "value", "Ljava/lang/Object;")]
theorem laid_sg_2 (l : Launch) (Z : State) (a0 : Array Value) (hw : HW Z a0) : ∀ f ∈ sg_2, Laid Z a0 "java/util/Optional" f.1 f.2.1 f.2.2 := all_cons (Or.inr (gw hw 86 rfl)) (all_nil)
theorem dfl_sg_2 : Dfl sg_2 [(.null)] := ⟨⟨(.object "java/lang/Object"), by decide +kernel, rfl⟩, trivial⟩
theorem pd_18 : parseMethodDescriptor "(Ljava/lang/Object;)Ljava/lang/Object;" = some ⟨[(.object "java/lang/Object")], (some (.object "java/lang/Object"))⟩ := by decide +kernel
theorem pd_19 : parseMethodDescriptor "(Ljava/lang/Object;)V" = some ⟨[(.object "java/lang/Object")], none⟩ := by decide +kernel
theorem pn_11 : plainFor (⟨"java/util/Optional", "empty", "()Ljava/util/Optional;"⟩ : MethodName) = true := by first | exact plainFor_of_name (by first | (simp [plainName, overriddenIn]; done) | decide +kernel) | decide +kernel
def Q_c_emp (aE : Addr) (F : OH) : Option Value → OH → Prop := fun w' H' => w' = some (.ref aE) ∧ H' = F
theorem D_jdk_32_m1_0 : Dc jdk_32_method_1_code 0 (.getstatic 1) 3 3 := ⟨by decide +kernel, rfl⟩
theorem D_jdk_32_m1_3 : Dc jdk_32_method_1_code 3 (.astore_n 0) 1 4 := ⟨by decide +kernel, rfl⟩
theorem D_jdk_32_m1_4 : Dc jdk_32_method_1_code 4 (.aload_n 0) 1 5 := ⟨by decide +kernel, rfl⟩
theorem D_jdk_32_m1_5 : Dc jdk_32_method_1_code 5 (.areturn) 1 6 := ⟨by decide +kernel, rfl⟩
abbrev W13 (l : Launch) (Z : State) := Wp none l Z "java/util/Optional" "empty" jdk_32_method_1_code 1 (some (.object "java/util/Optional"))
set_option maxRecDepth 65536 in
set_option maxHeartbeats 40000000 in
theorem c_emp (l : Launch) (Z : State) (a0 : Array Value) (hw : HW Z a0) (aE : Addr) (F : OH) (S_E : Sta Z Z.heap "java/util/Optional" "EMPTY" "Ljava/util/Optional;" (.ref aE)) :
    Met l Z (⟨"java/util/Optional", "empty", "()Ljava/util/Optional;"⟩ : MethodName) jdk_32_method_1_code 1 (some (.object "java/util/Optional")) (rm4 0 0 0 0) [] F (Q_c_emp aE F) := by
  refine Met.of_wp (Ls := #[.unset]) pn_11 (fun m => (entry_loc m _ _).trans rfl) ?_
  show W13 l Z (rm4 0 0 0 0) F 0 0 0 #[.unset] [] (Q_c_emp aE F)
  refine wp_getstatic D_jdk_32_m1_0 (gw hw 79 rfl) S_E ?_
  refine wp_astore_n #[.val (.ref aE)] D_jdk_32_m1_3 rfl rfl ?_
  refine wp_aload_n D_jdk_32_m1_4 rfl rfl ?_
  refine wp_areturn D_jdk_32_m1_5 rfl rfl rfl rfl (by decide) (by decide) ?_
  exact ⟨rfl, rfl⟩
theorem pn_12 : plainFor (⟨"java/util/Optional", "isPresent", "()Z"⟩ : MethodName) = true := by first | exact plainFor_of_name (by first | (simp [plainName, overriddenIn]; done) | decide +kernel) | decide +kernel
def Q_c_ip0 (o : Addr) (F : OH) : Option Value → OH → Prop := fun w' H' => w' = some (.int 0) ∧ H' = ((o, fI "java/util/Optional" sg_2 [(.null)]) :: F)
theorem D_jdk_32_m6_0 : Dc jdk_32_method_6_code 0 (.aload_n 0) 1 1 := ⟨by decide +kernel, rfl⟩
theorem D_jdk_32_m6_1 : Dc jdk_32_method_6_code 1 (.getfield 13) 3 4 := ⟨by decide +kernel, rfl⟩
theorem D_jdk_32_m6_4 : Dc jdk_32_method_6_code 4 (.ifnull 7) 3 7 := ⟨by decide +kernel, rfl⟩
theorem D_jdk_32_m6_7 : Dc jdk_32_method_6_code 7 (.iconst 1) 1 8 := ⟨by decide +kernel, rfl⟩
theorem D_jdk_32_m6_8 : Dc jdk_32_method_6_code 8 (.goto 4) 3 11 := ⟨by decide +kernel, rfl⟩
theorem D_jdk_32_m6_11 : Dc jdk_32_method_6_code 11 (.iconst 0) 1 12 := ⟨by decide +kernel, rfl⟩
theorem D_jdk_32_m6_12 : Dc jdk_32_method_6_code 12 (.ireturn) 1 13 := ⟨by decide +kernel, rfl⟩
abbrev W14 (l : Launch) (Z : State) := Wp none l Z "java/util/Optional" "isPresent" jdk_32_method_6_code 1 (some .boolean)
set_option maxRecDepth 65536 in
set_option maxHeartbeats 40000000 in
theorem c_ip0 (l : Launch) (Z : State) (a0 : Array Value) (hw : HW Z a0) (o : Addr) (F : OH) :
    Met l Z (⟨"java/util/Optional", "isPresent", "()Z"⟩ : MethodName) jdk_32_method_6_code 1 (some .boolean) (rm4 0 0 0 0) [(.ref o)] ((o, fI "java/util/Optional" sg_2 [(.null)]) :: F) (Q_c_ip0 o F) := by
  refine Met.of_wp (Ls := #[.val (.ref o)]) pn_12 (fun m => (entry_loc m _ _).trans rfl) ?_
  show W14 l Z (rm4 0 0 0 0) ((o, fI "java/util/Optional" sg_2 [(.null)]) :: F) 0 0 0 #[.val (.ref o)] [] (Q_c_ip0 o F)
  refine wp_aload_n D_jdk_32_m6_0 rfl rfl ?_
  refine wp_getfield D_jdk_32_m6_1 (gw hw 85 rfl) (fld_new (i := 0) (fi := 0) rfl rfl rfl) ?_
  refine wp_ifnull_y D_jdk_32_m6_4 (pc'' := 11) ⟨by decide, by decide⟩ ?_
  refine wp_iconst 0 D_jdk_32_m6_11 (by decide) ?_
  refine wp_ireturnN D_jdk_32_m6_12 rfl (by simp) (by decide) (by decide) ?_
  exact ⟨rfl, rfl⟩
def Q_c_ip1 (o x : Addr) (F : OH) : Option Value → OH → Prop := fun w' H' => w' = some (.int 1) ∧ H' = ((o, fI "java/util/Optional" sg_2 [(.ref x)]) :: F)
set_option maxRecDepth 65536 in
set_option maxHeartbeats 40000000 in
theorem c_ip1 (l : Launch) (Z : State) (a0 : Array Value) (hw : HW Z a0) (o x : Addr) (F : OH) :
    Met l Z (⟨"java/util/Optional", "isPresent", "()Z"⟩ : MethodName) jdk_32_method_6_code 1 (some .boolean) (rm4 0 0 0 0) [(.ref o)] ((o, fI "java/util/Optional" sg_2 [(.ref x)]) :: F) (Q_c_ip1 o x F) := by
  refine Met.of_wp (Ls := #[.val (.ref o)]) pn_12 (fun m => (entry_loc m _ _).trans rfl) ?_
  show W14 l Z (rm4 0 0 0 0) ((o, fI "java/util/Optional" sg_2 [(.ref x)]) :: F) 0 0 0 #[.val (.ref o)] [] (Q_c_ip1 o x F)
  refine wp_aload_n D_jdk_32_m6_0 rfl rfl ?_
  refine wp_getfield D_jdk_32_m6_1 (gw hw 85 rfl) (fld_new (i := 0) (fi := 0) rfl rfl rfl) ?_
  refine wp_ifnull_n D_jdk_32_m6_4 ?_
  refine wp_iconst 1 D_jdk_32_m6_7 (by decide) ?_
  refine wp_goto D_jdk_32_m6_8 (pc'' := 12) ⟨by decide, by decide⟩ ?_
  refine wp_ireturnN D_jdk_32_m6_12 rfl (by simp) (by decide) (by decide) ?_
  exact ⟨rfl, rfl⟩
theorem pn_13 : plainFor (⟨"java/util/Optional", "get", "()Ljava/lang/Object;"⟩ : MethodName) = true := by first | exact plainFor_of_name (by first | (simp [plainName, overriddenIn]; done) | decide +kernel) | decide +kernel
def Q_c_get (o x : Addr) (F : OH) : Option Value → OH → Prop := fun w' H' => w' = some (.ref x) ∧ H' = ((o, fI "java/util/Optional" sg_2 [(.ref x)]) :: F)
theorem D_jdk_32_m5_0 : Dc jdk_32_method_5_code 0 (.aload_n 0) 1 1 := ⟨by decide +kernel, rfl⟩
theorem D_jdk_32_m5_1 : Dc jdk_32_method_5_code 1 (.getfield 13) 3 4 := ⟨by decide +kernel, rfl⟩
theorem D_jdk_32_m5_4 : Dc jdk_32_method_5_code 4 (.ifnonnull 13) 3 7 := ⟨by decide +kernel, rfl⟩
theorem D_jdk_32_m5_17 : Dc jdk_32_method_5_code 17 (.aload_n 0) 1 18 := ⟨by decide +kernel, rfl⟩
theorem D_jdk_32_m5_18 : Dc jdk_32_method_5_code 18 (.getfield 13) 3 21 := ⟨by decide +kernel, rfl⟩
theorem D_jdk_32_m5_21 : Dc jdk_32_method_5_code 21 (.areturn) 1 22 := ⟨by decide +kernel, rfl⟩
abbrev W15 (l : Launch) (Z : State) := Wp none l Z "java/util/Optional" "get" jdk_32_method_5_code 1 (some (.object "java/lang/Object"))
set_option maxRecDepth 65536 in
set_option maxHeartbeats 40000000 in
theorem c_get (l : Launch) (Z : State) (a0 : Array Value) (hw : HW Z a0) (o x : Addr) (F : OH) :
    Met l Z (⟨"java/util/Optional", "get", "()Ljava/lang/Object;"⟩ : MethodName) jdk_32_method_5_code 1 (some (.object "java/lang/Object")) (rm4 0 0 0 0) [(.ref o)] ((o, fI "java/util/Optional" sg_2 [(.ref x)]) :: F) (Q_c_get o x F) := by
  refine Met.of_wp (Ls := #[.val (.ref o)]) pn_13 (fun m => (entry_loc m _ _).trans rfl) ?_
  show W15 l Z (rm4 0 0 0 0) ((o, fI "java/util/Optional" sg_2 [(.ref x)]) :: F) 0 0 0 #[.val (.ref o)] [] (Q_c_get o x F)
  refine wp_aload_n D_jdk_32_m5_0 rfl rfl ?_
  refine wp_getfield D_jdk_32_m5_1 (gw hw 85 rfl) (fld_new (i := 0) (fi := 0) rfl rfl rfl) ?_
  refine wp_ifnonnull_y D_jdk_32_m5_4 (pc'' := 17) ⟨by decide, by decide⟩ ?_
  refine wp_aload_n D_jdk_32_m5_17 rfl rfl ?_
  refine wp_getfield D_jdk_32_m5_18 (gw hw 85 rfl) (fld_new (i := 0) (fi := 0) rfl rfl rfl) ?_
  refine wp_areturn D_jdk_32_m5_21 rfl rfl rfl rfl (by decide) (by decide) ?_
  exact ⟨rfl, rfl⟩
theorem pn_14 : plainFor (⟨"java/util/Objects", "requireNonNull", "(Ljava/lang/Object;)Ljava/lang/Object;"⟩ : MethodName) = true := by first | exact plainFor_of_name (by first | (simp [plainName, overriddenIn]; done) | decide +kernel) | decide +kernel
def Q_c_rn (x : Addr) (F : OH) : Option Value → OH → Prop := fun w' H' => w' = some (.ref x) ∧ H' = F
theorem D_jdk_31_m10_0 : Dc jdk_31_method_10_code 0 (.aload_n 0) 1 1 := ⟨by decide +kernel, rfl⟩
theorem D_jdk_31_m10_1 : Dc jdk_31_method_10_code 1 (.ifnonnull 11) 3 4 := ⟨by decide +kernel, rfl⟩
theorem D_jdk_31_m10_12 : Dc jdk_31_method_10_code 12 (.aload_n 0) 1 13 := ⟨by decide +kernel, rfl⟩
theorem D_jdk_31_m10_13 : Dc jdk_31_method_10_code 13 (.areturn) 1 14 := ⟨by decide +kernel, rfl⟩
abbrev W16 (l : Launch) (Z : State) := Wp none l Z "java/util/Objects" "requireNonNull" jdk_31_method_10_code 1 (some (.object "java/lang/Object"))
set_option maxRecDepth 65536 in
set_option maxHeartbeats 40000000 in
theorem c_rn (l : Launch) (Z : State) (a0 : Array Value) (hw : HW Z a0) (x : Addr) (F : OH) :
    Met l Z (⟨"java/util/Objects", "requireNonNull", "(Ljava/lang/Object;)Ljava/lang/Object;"⟩ : MethodName) jdk_31_method_10_code 1 (some (.object "java/lang/Object")) (rm4 0 0 0 0) [(.ref x)] F (Q_c_rn x F) := by
  refine Met.of_wp (Ls := #[.val (.ref x)]) pn_14 (fun m => (entry_loc m _ _).trans rfl) ?_
  show W16 l Z (rm4 0 0 0 0) F 0 0 0 #[.val (.ref x)] [] (Q_c_rn x F)
  refine wp_aload_n D_jdk_31_m10_0 rfl rfl ?_
  refine wp_ifnonnull_y D_jdk_31_m10_1 (pc'' := 12) ⟨by decide, by decide⟩ ?_
  refine wp_aload_n D_jdk_31_m10_12 rfl rfl ?_
  refine wp_areturn D_jdk_31_m10_13 rfl rfl rfl rfl (by decide) (by decide) ?_
  exact ⟨rfl, rfl⟩
theorem pn_15 : plainFor (⟨"java/util/Optional", "<init>", "(Ljava/lang/Object;)V"⟩ : MethodName) = true := by first | exact plainFor_of_name (by first | (simp [plainName, overriddenIn]; done) | decide +kernel) | decide +kernel
def Q_c_oi (o x : Addr) (F : OH) : Option Value → OH → Prop := fun w' H' => w' = none ∧ H' = ((o, oI "java/util/Optional" sg_2 [(.ref x)]) :: F)
theorem D_jdk_32_m2_0 : Dc jdk_32_method_2_code 0 (.aload_n 0) 1 1 := ⟨by decide +kernel, rfl⟩
theorem D_jdk_32_m2_1 : Dc jdk_32_method_2_code 1 (.invokespecial 7) 3 4 := ⟨by decide +kernel, rfl⟩
theorem D_jdk_32_m2_4 : Dc jdk_32_method_2_code 4 (.aload_n 0) 1 5 := ⟨by decide +kernel, rfl⟩
theorem D_jdk_32_m2_5 : Dc jdk_32_method_2_code 5 (.aload_n 1) 1 6 := ⟨by decide +kernel, rfl⟩
theorem D_jdk_32_m2_6 : Dc jdk_32_method_2_code 6 (.putfield 13) 3 9 := ⟨by decide +kernel, rfl⟩
theorem D_jdk_32_m2_9 : Dc jdk_32_method_2_code 9 (.return_) 1 10 := ⟨by decide +kernel, rfl⟩
abbrev W17 (l : Launch) (Z : State) := Wp none l Z "java/util/Optional" "<init>" jdk_32_method_2_code 2 none
set_option maxRecDepth 65536 in
set_option maxHeartbeats 40000000 in
theorem c_oi (l : Launch) (Z : State) (a0 : Array Value) (hw : HW Z a0) (o x : Addr) (F : OH) :
    Met l Z (⟨"java/util/Optional", "<init>", "(Ljava/lang/Object;)V"⟩ : MethodName) jdk_32_method_2_code 2 none (rm4 1 0 0 12) [(.ref o), (.ref x)] ((o, oI "java/util/Optional" sg_2 [(.null)]) :: F) (Q_c_oi o x F) := by
  refine Met.of_wp (Ls := #[.val (.ref o), .val (.ref x)]) pn_15 (fun m => (entry_loc m _ _).trans rfl) ?_
  show W17 l Z (rm4 1 0 0 12) ((o, oI "java/util/Optional" sg_2 [(.null)]) :: F) 0 0 0 #[.val (.ref o), .val (.ref x)] [] (Q_c_oi o x F)
  refine wp_aload_n D_jdk_32_m2_0 rfl rfl ?_
  refine wp_initO D_jdk_32_m2_1 (gw hw 153 rfl) (gw hw 21 rfl) (gw hw 22 rfl) rfl (Nat.le_of_ble_eq_true rfl) (Nat.le_of_ble_eq_true rfl) ?_
  refine wp_aload_n D_jdk_32_m2_4 rfl rfl ?_
  refine wp_aload_n D_jdk_32_m2_5 rfl rfl ?_
  refine wp_putfield (i := 0) (fi := 0) (ty := (.object "java/lang/Object")) D_jdk_32_m2_6 (gw hw 85 rfl) rfl rfl rfl (Or.inr ⟨(gw hw 86 rfl), rfl, rfl⟩) (gw hw 144 rfl) (by decide) rfl rfl ?_
  show W17 l Z (rm4 1 0 0 12) ((o, oI "java/util/Optional" sg_2 [(.ref x)]) :: F) 0 0 9 #[.val (.ref o), .val (.ref x)] [] (Q_c_oi o x F)
  refine wp_return D_jdk_32_m2_9 rfl (by decide) (by decide) ?_
  exact ⟨rfl, rfl⟩
theorem pn_16 : plainFor (⟨"java/util/Optional", "of", "(Ljava/lang/Object;)Ljava/util/Optional;"⟩ : MethodName) = true := by first | exact plainFor_of_name (by first | (simp [plainName, overriddenIn]; done) | decide +kernel) | decide +kernel
def Q_c_of (x : Addr) (F : OH) : Option Value → OH → Prop := fun w' H' => ∃ o, w' = some (.ref o) ∧ H' = ((o, fI "java/util/Optional" sg_2 [(.ref x)]) :: F)
theorem D_jdk_32_m3_0 : Dc jdk_32_method_3_code 0 (.new 2) 3 3 := ⟨by decide +kernel, rfl⟩
theorem D_jdk_32_m3_3 : Dc jdk_32_method_3_code 3 (.dup) 1 4 := ⟨by decide +kernel, rfl⟩
theorem D_jdk_32_m3_4 : Dc jdk_32_method_3_code 4 (.aload_n 0) 1 5 := ⟨by decide +kernel, rfl⟩
theorem D_jdk_32_m3_5 : Dc jdk_32_method_3_code 5 (.invokestatic 17) 3 8 := ⟨by decide +kernel, rfl⟩
theorem D_jdk_32_m3_8 : Dc jdk_32_method_3_code 8 (.invokespecial 23) 3 11 := ⟨by decide +kernel, rfl⟩
theorem D_jdk_32_m3_11 : Dc jdk_32_method_3_code 11 (.areturn) 1 12 := ⟨by decide +kernel, rfl⟩
abbrev W18 (l : Launch) (Z : State) := Wp none l Z "java/util/Optional" "of" jdk_32_method_3_code 1 (some (.object "java/util/Optional"))
set_option maxRecDepth 65536 in
set_option maxHeartbeats 40000000 in
theorem c_of (l : Launch) (Z : State) (a0 : Array Value) (hw : HW Z a0) (x : Addr) (F : OH) :
    Met l Z (⟨"java/util/Optional", "of", "(Ljava/lang/Object;)Ljava/util/Optional;"⟩ : MethodName) jdk_32_method_3_code 1 (some (.object "java/util/Optional")) (rm4 2 1 1 26) [(.ref x)] F (Q_c_of x F) := by
  refine Met.of_wp (Ls := #[.val (.ref x)]) pn_16 (fun m => (entry_loc m _ _).trans rfl) ?_
  show W18 l Z (rm4 2 1 1 26) F 0 0 0 #[.val (.ref x)] [] (Q_c_of x F)
  refine wp_new sg_2 [(.null)] D_jdk_32_m3_0 (gw hw 143 rfl) (gw hw 144 rfl) (gw hw 77 rfl) (laid_sg_2 l Z a0 hw) (by decide) dfl_sg_2 (by decide) (by decide) ?_
  intro a1
  show W18 l Z (rm4 2 1 1 26) ((a1, oI "java/util/Optional" sg_2 [(.null)]) :: F) 1 1 3 #[.val (.ref x)] [(.ref a1)] (Q_c_of x F)
  refine wp_dup D_jdk_32_m3_3 rfl ?_
  refine wp_aload_n D_jdk_32_m3_4 rfl rfl ?_
  refine wp_callS (c_rn l Z a0 hw x ((a1, oI "java/util/Optional" sg_2 [(.null)]) :: F) ) D_jdk_32_m3_5 (gw hw 145 rfl) (gw hw 146 rfl) (gw hw 147 rfl) (gw hw 148 rfl) (by decide) pd_18 rfl rfl rfl (lb rfl) (lb rfl) (lb rfl) (lb rfl) ?_
  rintro _ _ ⟨rfl, rfl⟩
  show W18 l Z (rm4 2 1 1 26) ((a1, oI "java/util/Optional" sg_2 [(.null)]) :: F) 1 1 8 #[.val (.ref x)] [(.ref x), (.ref a1), (.ref a1)] (Q_c_of x F)
  refine wp_init (c_oi l Z a0 hw a1 x F ) D_jdk_32_m3_8 rfl (gw hw 149 rfl) (gw hw 150 rfl) (gw hw 77 rfl) (gw hw 152 rfl) (by decide) pd_19 rfl rfl rfl (lb rfl) (lb rfl) (lb rfl) (lb rfl) ?_
  rintro _ _ ⟨rfl, rfl⟩
  show W18 l Z (rm4 2 1 1 26) ((a1, oI "java/util/Optional" sg_2 [(.ref x)]) :: F) 1 1 11 #[.val (.ref x)] [(.ref a1)] (Q_c_of x F)
  refine Wp.frz (i := 0) rfl ?_
  show W18 l Z (rm4 2 1 1 26) ((a1, fI "java/util/Optional" sg_2 [(.ref x)]) :: F) 1 1 11 #[.val (.ref x)] [(.ref a1)] (Q_c_of x F)
  refine wp_areturn D_jdk_32_m3_11 rfl rfl rfl rfl (by decide) (by decide) ?_
  exact ⟨_, rfl, rfl⟩
theorem pn_17 : plainFor (⟨"java/lang/StringLatin1", "canEncode", "(I)Z"⟩ : MethodName) = true := by first | exact plainFor_of_name (by first | (simp [plainName, overriddenIn]; done) | decide +kernel) | decide +kernel
def Q_c_can  (F : OH) : Option Value → OH → Prop := fun w' H' => w' = some (.int 1) ∧ H' = F
theorem D_jdk_43_m4_0 : Dc jdk_43_method_4_code 0 (.iload_n 0) 1 1 := ⟨by decide +kernel, rfl⟩
theorem D_jdk_43_m4_1 : Dc jdk_43_method_4_code 1 (.ifCond .lt 14) 3 4 := ⟨by decide +kernel, rfl⟩
theorem D_jdk_43_m4_4 : Dc jdk_43_method_4_code 4 (.iload_n 0) 1 5 := ⟨by decide +kernel, rfl⟩
theorem D_jdk_43_m4_5 : Dc jdk_43_method_4_code 5 (.sipush 255) 3 8 := ⟨by decide +kernel, rfl⟩
theorem D_jdk_43_m4_8 : Dc jdk_43_method_4_code 8 (.if_icmp .gt 7) 3 11 := ⟨by decide +kernel, rfl⟩
theorem D_jdk_43_m4_11 : Dc jdk_43_method_4_code 11 (.iconst 1) 1 12 := ⟨by decide +kernel, rfl⟩
theorem D_jdk_43_m4_12 : Dc jdk_43_method_4_code 12 (.goto 4) 3 15 := ⟨by decide +kernel, rfl⟩
theorem D_jdk_43_m4_16 : Dc jdk_43_method_4_code 16 (.ireturn) 1 17 := ⟨by decide +kernel, rfl⟩
abbrev W19 (l : Launch) (Z : State) := Wp none l Z "java/lang/StringLatin1" "canEncode" jdk_43_method_4_code 1 (some .boolean)
set_option maxRecDepth 65536 in
set_option maxHeartbeats 40000000 in
theorem c_can (l : Launch) (Z : State) (a0 : Array Value) (hw : HW Z a0)  (F : OH) :
    Met l Z (⟨"java/lang/StringLatin1", "canEncode", "(I)Z"⟩ : MethodName) jdk_43_method_4_code 1 (some .boolean) (rm4 0 0 0 0) [(.int 35)] F (Q_c_can F) := by
  refine Met.of_wp (Ls := #[.val (.int 35)]) pn_17 (fun m => (entry_loc m _ _).trans rfl) ?_
  show W19 l Z (rm4 0 0 0 0) F 0 0 0 #[.val (.int 35)] [] (Q_c_can F)
  refine wp_iload_n D_jdk_43_m4_0 rfl ?_
  refine wp_if_lt D_jdk_43_m4_1 (pc'' := 15) ⟨by decide, by decide⟩ (fun h1 => by exact absurd h1 (by decide)) (fun h1 => ?_)
  refine wp_iload_n D_jdk_43_m4_4 rfl ?_
  refine wp_sipush 255 D_jdk_43_m4_5 (by decide) ?_
  refine wp_icmp_gt D_jdk_43_m4_8 (pc'' := 15) ⟨by decide, by decide⟩ (fun h2 => by exact absurd h2 (by decide)) (fun h2 => ?_)
  refine wp_iconst 1 D_jdk_43_m4_11 (by decide) ?_
  refine wp_goto D_jdk_43_m4_12 (pc'' := 16) ⟨by decide, by decide⟩ ?_
  refine wp_ireturnN D_jdk_43_m4_16 rfl (by simp) (by decide) (by decide) ?_
  exact ⟨rfl, rfl⟩
theorem pn_18 : plainFor (⟨"java/lang/Math", "max", "(II)I"⟩ : MethodName) = true := by first | exact plainFor_of_name (by first | (simp [plainName, overriddenIn]; done) | decide +kernel) | decide +kernel
def Q_c_max_0_0  (F : OH) : Option Value → OH → Prop := fun w' H' => w' = some (.int 0) ∧ H' = F
theorem D_jdk_29_m65_0 : Dc jdk_29_method_65_code 0 (.iload_n 0) 1 1 := ⟨by decide +kernel, rfl⟩
theorem D_jdk_29_m65_1 : Dc jdk_29_method_65_code 1 (.iload_n 1) 1 2 := ⟨by decide +kernel, rfl⟩
theorem D_jdk_29_m65_2 : Dc jdk_29_method_65_code 2 (.if_icmp .lt 7) 3 5 := ⟨by decide +kernel, rfl⟩
theorem D_jdk_29_m65_5 : Dc jdk_29_method_65_code 5 (.iload_n 0) 1 6 := ⟨by decide +kernel, rfl⟩
theorem D_jdk_29_m65_6 : Dc jdk_29_method_65_code 6 (.goto 4) 3 9 := ⟨by decide +kernel, rfl⟩
theorem D_jdk_29_m65_10 : Dc jdk_29_method_65_code 10 (.ireturn) 1 11 := ⟨by decide +kernel, rfl⟩
abbrev W20 (l : Launch) (Z : State) := Wp none l Z "java/lang/Math" "max" jdk_29_method_65_code 2 (some .int)
set_option maxRecDepth 65536 in
set_option maxHeartbeats 40000000 in
theorem c_max_0_0 (l : Launch) (Z : State) (a0 : Array Value) (hw : HW Z a0)  (F : OH) :
    Met l Z (⟨"java/lang/Math", "max", "(II)I"⟩ : MethodName) jdk_29_method_65_code 2 (some .int) (rm4 0 0 0 0) [(.int 0), (.int 0)] F (Q_c_max_0_0 F) := by
  refine Met.of_wp (Ls := #[.val (.int 0), .val (.int 0)]) pn_18 (fun m => (entry_loc m _ _).trans rfl) ?_
  show W20 l Z (rm4 0 0 0 0) F 0 0 0 #[.val (.int 0), .val (.int 0)] [] (Q_c_max_0_0 F)
  refine wp_iload_n D_jdk_29_m65_0 rfl ?_
  refine wp_iload_n D_jdk_29_m65_1 rfl ?_
  refine wp_icmp_lt D_jdk_29_m65_2 (pc'' := 9) ⟨by decide, by decide⟩ (fun h1 => by exact absurd h1 (by decide)) (fun h1 => ?_)
  refine wp_iload_n D_jdk_29_m65_5 rfl ?_
  refine wp_goto D_jdk_29_m65_6 (pc'' := 10) ⟨by decide, by decide⟩ ?_
  refine wp_ireturn D_jdk_29_m65_10 rfl (by decide) (by decide) ?_
  exact ⟨rfl, rfl⟩
theorem pn_19 : plainFor (⟨"java/lang/Math", "min", "(II)I"⟩ : MethodName) = true := by first | exact plainFor_of_name (by first | (simp [plainName, overriddenIn]; done) | decide +kernel) | decide +kernel
def Q_c_min_0_0  (F : OH) : Option Value → OH → Prop := fun w' H' => w' = some (.int 0) ∧ H' = F
theorem D_jdk_29_m69_0 : Dc jdk_29_method_69_code 0 (.iload_n 0) 1 1 := ⟨by decide +kernel, rfl⟩
theorem D_jdk_29_m69_1 : Dc jdk_29_method_69_code 1 (.iload_n 1) 1 2 := ⟨by decide +kernel, rfl⟩
theorem D_jdk_29_m69_2 : Dc jdk_29_method_69_code 2 (.if_icmp .gt 7) 3 5 := ⟨by decide +kernel, rfl⟩
theorem D_jdk_29_m69_5 : Dc jdk_29_method_69_code 5 (.iload_n 0) 1 6 := ⟨by decide +kernel, rfl⟩
theorem D_jdk_29_m69_6 : Dc jdk_29_method_69_code 6 (.goto 4) 3 9 := ⟨by decide +kernel, rfl⟩
theorem D_jdk_29_m69_10 : Dc jdk_29_method_69_code 10 (.ireturn) 1 11 := ⟨by decide +kernel, rfl⟩
abbrev W21 (l : Launch) (Z : State) := Wp none l Z "java/lang/Math" "min" jdk_29_method_69_code 2 (some .int)
set_option maxRecDepth 65536 in
set_option maxHeartbeats 40000000 in
theorem c_min_0_0 (l : Launch) (Z : State) (a0 : Array Value) (hw : HW Z a0)  (F : OH) :
    Met l Z (⟨"java/lang/Math", "min", "(II)I"⟩ : MethodName) jdk_29_method_69_code 2 (some .int) (rm4 0 0 0 0) [(.int 0), (.int 0)] F (Q_c_min_0_0 F) := by
  refine Met.of_wp (Ls := #[.val (.int 0), .val (.int 0)]) pn_19 (fun m => (entry_loc m _ _).trans rfl) ?_
  show W21 l Z (rm4 0 0 0 0) F 0 0 0 #[.val (.int 0), .val (.int 0)] [] (Q_c_min_0_0 F)
  refine wp_iload_n D_jdk_29_m69_0 rfl ?_
  refine wp_iload_n D_jdk_29_m69_1 rfl ?_
  refine wp_icmp_gt D_jdk_29_m69_2 (pc'' := 9) ⟨by decide, by decide⟩ (fun h1 => by exact absurd h1 (by decide)) (fun h1 => ?_)
  refine wp_iload_n D_jdk_29_m69_5 rfl ?_
  refine wp_goto D_jdk_29_m69_6 (pc'' := 10) ⟨by decide, by decide⟩ ?_
  refine wp_ireturn D_jdk_29_m69_10 rfl (by decide) (by decide) ?_
  exact ⟨rfl, rfl⟩
theorem pn_20 : plainFor (⟨"java/lang/StringLatin1", "indexOfChar", "([BIII)I"⟩ : MethodName) = true := by first | exact plainFor_of_name (by first | (simp [plainName, overriddenIn]; done) | decide +kernel) | decide +kernel
theorem pn_21 : plainFor (⟨"java/lang/StringLatin1", "indexOf", "([BIII)I"⟩ : MethodName) = true := by first | exact plainFor_of_name (by first | (simp [plainName, overriddenIn]; done) | decide +kernel) | decide +kernel
def Q_c_lix_0 (s v : Addr) (F : OH) : Option Value → OH → Prop := fun w' H' => w' = some (.int (-1 : Int32)) ∧ H' = ((s, strO v) :: (v, fA .byte []) :: F)
theorem D_jdk_43_m22_0 : Dc jdk_43_method_22_code 0 (.iload_n 1) 1 1 := ⟨by decide +kernel, rfl⟩
theorem D_jdk_43_m22_1 : Dc jdk_43_method_22_code 1 (.invokestatic 88) 3 4 := ⟨by decide +kernel, rfl⟩
theorem D_jdk_43_m22_4 : Dc jdk_43_method_22_code 4 (.ifCond .ne 5) 3 7 := ⟨by decide +kernel, rfl⟩
theorem D_jdk_43_m22_9 : Dc jdk_43_method_22_code 9 (.iload_n 2) 1 10 := ⟨by decide +kernel, rfl⟩
theorem D_jdk_43_m22_10 : Dc jdk_43_method_22_code 10 (.iconst 0) 1 11 := ⟨by decide +kernel, rfl⟩
theorem D_jdk_43_m22_11 : Dc jdk_43_method_22_code 11 (.invokestatic 92) 3 14 := ⟨by decide +kernel, rfl⟩
theorem D_jdk_43_m22_14 : Dc jdk_43_method_22_code 14 (.istore_n 2) 1 15 := ⟨by decide +kernel, rfl⟩
theorem D_jdk_43_m22_15 : Dc jdk_43_method_22_code 15 (.iload_n 3) 1 16 := ⟨by decide +kernel, rfl⟩
theorem D_jdk_43_m22_16 : Dc jdk_43_method_22_code 16 (.aload_n 0) 1 17 := ⟨by decide +kernel, rfl⟩
theorem D_jdk_43_m22_17 : Dc jdk_43_method_22_code 17 (.arraylength) 1 18 := ⟨by decide +kernel, rfl⟩
theorem D_jdk_43_m22_18 : Dc jdk_43_method_22_code 18 (.invokestatic 38) 3 21 := ⟨by decide +kernel, rfl⟩
theorem D_jdk_43_m22_21 : Dc jdk_43_method_22_code 21 (.istore_n 3) 1 22 := ⟨by decide +kernel, rfl⟩
theorem D_jdk_43_m22_22 : Dc jdk_43_method_22_code 22 (.iload_n 2) 1 23 := ⟨by decide +kernel, rfl⟩
theorem D_jdk_43_m22_23 : Dc jdk_43_method_22_code 23 (.iload_n 3) 1 24 := ⟨by decide +kernel, rfl⟩
theorem D_jdk_43_m22_24 : Dc jdk_43_method_22_code 24 (.if_icmp .lt 5) 3 27 := ⟨by decide +kernel, rfl⟩
theorem D_jdk_43_m22_27 : Dc jdk_43_method_22_code 27 (.iconst (-1)) 1 28 := ⟨by decide +kernel, rfl⟩
theorem D_jdk_43_m22_28 : Dc jdk_43_method_22_code 28 (.ireturn) 1 29 := ⟨by decide +kernel, rfl⟩
theorem D_jdk_43_m22_29 : Dc jdk_43_method_22_code 29 (.aload_n 0) 1 30 := ⟨by decide +kernel, rfl⟩
theorem D_jdk_43_m22_30 : Dc jdk_43_method_22_code 30 (.iload_n 1) 1 31 := ⟨by decide +kernel, rfl⟩
theorem D_jdk_43_m22_31 : Dc jdk_43_method_22_code 31 (.iload_n 2) 1 32 := ⟨by decide +kernel, rfl⟩
theorem D_jdk_43_m22_32 : Dc jdk_43_method_22_code 32 (.iload_n 3) 1 33 := ⟨by decide +kernel, rfl⟩
theorem D_jdk_43_m22_33 : Dc jdk_43_method_22_code 33 (.invokestatic 95) 3 36 := ⟨by decide +kernel, rfl⟩
theorem D_jdk_43_m22_36 : Dc jdk_43_method_22_code 36 (.ireturn) 1 37 := ⟨by decide +kernel, rfl⟩
abbrev W22 (l : Launch) (Z : State) := Wp none l Z "java/lang/StringLatin1" "indexOf" jdk_43_method_22_code 4 (some .int)
set_option maxRecDepth 65536 in
set_option maxHeartbeats 40000000 in
theorem c_lix_0 (l : Launch) (Z : State) (a0 : Array Value) (hw : HW Z a0) (s v : Addr) (cp : Int32) (fm : Value) (F : OH) (hs : Std Z cp fm) :
    Met l Z (⟨"java/lang/StringLatin1", "indexOf", "([BIII)I"⟩ : MethodName) jdk_43_method_22_code 4 (some .int) (rm4 1 0 0 13) [(.ref v), (.int 35), (.int 0), (.int 0)] ((s, strO v) :: (v, fA .byte []) :: F) (Q_c_lix_0 s v F) := by
  refine Met.of_wp (Ls := #[.val (.ref v), .val (.int 35), .val (.int 0), .val (.int 0)]) pn_21 (fun m => (entry_loc m _ _).trans rfl) ?_
  show W22 l Z (rm4 1 0 0 13) ((s, strO v) :: (v, fA .byte []) :: F) 0 0 0 #[.val (.ref v), .val (.int 35), .val (.int 0), .val (.int 0)] [] (Q_c_lix_0 s v F)
  refine wp_iload_n D_jdk_43_m22_0 rfl ?_
  refine wp_callS (c_can l Z a0 hw  ((s, strO v) :: (v, fA .byte []) :: F) ) D_jdk_43_m22_1 (gw hw 65 rfl) (gw hw 66 rfl) (gw hw 63 rfl) (gw hw 67 rfl) (by decide) pd_15 rfl rfl rfl (lb rfl) (lb rfl) (lb rfl) (lb rfl) ?_
  rintro _ _ ⟨rfl, rfl⟩
  show W22 l Z (rm4 1 0 0 13) ((s, strO v) :: (v, fA .byte []) :: F) 0 0 4 #[.val (.ref v), .val (.int 35), .val (.int 0), .val (.int 0)] [(.int 1)] (Q_c_lix_0 s v F)
  refine wp_if_ne D_jdk_43_m22_4 (pc'' := 9) ⟨by decide, by decide⟩ (fun h1 => ?_) (fun h1 => by exact absurd h1 (by decide))
  refine wp_iload_n D_jdk_43_m22_9 rfl ?_
  refine wp_iconst 0 D_jdk_43_m22_10 (by decide) ?_
  refine wp_callS (c_max_0_0 l Z a0 hw  ((s, strO v) :: (v, fA .byte []) :: F) ) D_jdk_43_m22_11 (gw hw 68 rfl) (gw hw 69 rfl) (gw hw 70 rfl) (gw hw 71 rfl) (by decide) pd_3 rfl rfl rfl (lb rfl) (lb rfl) (lb rfl) (lb rfl) ?_
  rintro _ _ ⟨rfl, rfl⟩
  show W22 l Z (rm4 1 0 0 13) ((s, strO v) :: (v, fA .byte []) :: F) 0 0 14 #[.val (.ref v), .val (.int 35), .val (.int 0), .val (.int 0)] [(.int 0)] (Q_c_lix_0 s v F)
  refine wp_istore_n #[.val (.ref v), .val (.int 35), .val (.int 0), .val (.int 0)] D_jdk_43_m22_14 rfl ?_
  refine wp_iload_n D_jdk_43_m22_15 rfl ?_
  refine wp_aload_n D_jdk_43_m22_16 rfl rfl ?_
  refine wp_lengthI (i := 1) (0 : Int32) D_jdk_43_m22_17 rfl rfl ?_
  refine wp_callS (c_min_0_0 l Z a0 hw  ((s, strO v) :: (v, fA .byte []) :: F) ) D_jdk_43_m22_18 (gw hw 72 rfl) (gw hw 73 rfl) (gw hw 70 rfl) (gw hw 74 rfl) (by decide) pd_3 rfl rfl rfl (lb rfl) (lb rfl) (lb rfl) (lb rfl) ?_
  rintro _ _ ⟨rfl, rfl⟩
  show W22 l Z (rm4 1 0 0 13) ((s, strO v) :: (v, fA .byte []) :: F) 0 0 21 #[.val (.ref v), .val (.int 35), .val (.int 0), .val (.int 0)] [(.int 0)] (Q_c_lix_0 s v F)
  refine wp_istore_n #[.val (.ref v), .val (.int 35), .val (.int 0), .val (.int 0)] D_jdk_43_m22_21 rfl ?_
  refine wp_iload_n D_jdk_43_m22_22 rfl ?_
  refine wp_iload_n D_jdk_43_m22_23 rfl ?_
  refine wp_icmp_lt D_jdk_43_m22_24 (pc'' := 29) ⟨by decide, by decide⟩ (fun h2 => by exact absurd h2 (by decide)) (fun h2 => ?_)
  refine wp_iconst (-1) D_jdk_43_m22_27 (by decide) ?_
  refine wp_ireturn D_jdk_43_m22_28 rfl (by decide) (by decide) ?_
  exact ⟨rfl, rfl⟩
theorem pn_22 : plainFor (⟨"java/lang/String", "indexOf", "(II)I"⟩ : MethodName) = true := by first | exact plainFor_of_name (by first | (simp [plainName, overriddenIn]; done) | decide +kernel) | decide +kernel
def Q_c_six_0 (s v : Addr) (F : OH) : Option Value → OH → Prop := fun w' H' => w' = some (.int (-1 : Int32)) ∧ H' = ((s, strO v) :: (v, fA .byte []) :: F)
theorem D_jdk_42_m80_0 : Dc jdk_42_method_80_code 0 (.aload_n 0) 1 1 := ⟨by decide +kernel, rfl⟩
theorem D_jdk_42_m80_1 : Dc jdk_42_method_80_code 1 (.invokevirtual 492) 3 4 := ⟨by decide +kernel, rfl⟩
theorem D_jdk_42_m80_4 : Dc jdk_42_method_80_code 4 (.ifCond .eq 19) 3 7 := ⟨by decide +kernel, rfl⟩
theorem D_jdk_42_m80_7 : Dc jdk_42_method_80_code 7 (.aload_n 0) 1 8 := ⟨by decide +kernel, rfl⟩
theorem D_jdk_42_m80_8 : Dc jdk_42_method_80_code 8 (.getfield 9) 3 11 := ⟨by decide +kernel, rfl⟩
theorem D_jdk_42_m80_11 : Dc jdk_42_method_80_code 11 (.iload_n 1) 1 12 := ⟨by decide +kernel, rfl⟩
theorem D_jdk_42_m80_12 : Dc jdk_42_method_80_code 12 (.iload_n 2) 1 13 := ⟨by decide +kernel, rfl⟩
theorem D_jdk_42_m80_13 : Dc jdk_42_method_80_code 13 (.aload_n 0) 1 14 := ⟨by decide +kernel, rfl⟩
theorem D_jdk_42_m80_14 : Dc jdk_42_method_80_code 14 (.invokevirtual 505) 3 17 := ⟨by decide +kernel, rfl⟩
theorem D_jdk_42_m80_17 : Dc jdk_42_method_80_code 17 (.invokestatic 637) 3 20 := ⟨by decide +kernel, rfl⟩
theorem D_jdk_42_m80_20 : Dc jdk_42_method_80_code 20 (.goto 16) 3 23 := ⟨by decide +kernel, rfl⟩
theorem D_jdk_42_m80_36 : Dc jdk_42_method_80_code 36 (.ireturn) 1 37 := ⟨by decide +kernel, rfl⟩
abbrev W23 (l : Launch) (Z : State) := Wp none l Z "java/lang/String" "indexOf" jdk_42_method_80_code 3 (some .int)
set_option maxRecDepth 65536 in
set_option maxHeartbeats 40000000 in
theorem c_six_0 (l : Launch) (Z : State) (a0 : Array Value) (hw : HW Z a0) (s v : Addr) (cp : Int32) (fm : Value) (F : OH) (hs : Std Z cp fm) :
    Met l Z (⟨"java/lang/String", "indexOf", "(II)I"⟩ : MethodName) jdk_42_method_80_code 3 (some .int) (rm4 2 0 0 28) [(.ref s), (.int 35), (.int 0)] ((s, strO v) :: (v, fA .byte []) :: F) (Q_c_six_0 s v F) := by
  refine Met.of_wp (Ls := #[.val (.ref s), .val (.int 35), .val (.int 0)]) pn_22 (fun m => (entry_loc m _ _).trans rfl) ?_
  show W23 l Z (rm4 2 0 0 28) ((s, strO v) :: (v, fA .byte []) :: F) 0 0 0 #[.val (.ref s), .val (.int 35), .val (.int 0)] [] (Q_c_six_0 s v F)
  refine wp_aload_n D_jdk_42_m80_0 rfl rfl ?_
  refine wp_virtual (c_lat l Z a0 hw s v cp fm ((v, fA .byte []) :: F) hs ) (exa_new (i := 0) rfl) D_jdk_42_m80_1 (gw hw 45 rfl) (gw hw 46 rfl) (gw hw 48 rfl) (gw hw 48 rfl) (gw hw 47 rfl) (gw hw 12 rfl) (gw hw 49 rfl) (by decide) pd_4 rfl rfl rfl (lb rfl) (lb rfl) (lb rfl) (lb rfl) ?_
  rintro _ _ ⟨rfl, rfl⟩
  show W23 l Z (rm4 2 0 0 28) ((s, strO v) :: (v, fA .byte []) :: F) 0 0 4 #[.val (.ref s), .val (.int 35), .val (.int 0)] [(.int 1)] (Q_c_six_0 s v F)
  refine wp_if_eq D_jdk_42_m80_4 (pc'' := 23) ⟨by decide, by decide⟩ (fun h1 => by exact absurd h1 (by decide)) (fun h1 => ?_)
  refine wp_aload_n D_jdk_42_m80_7 rfl rfl ?_
  refine wp_getfield D_jdk_42_m80_8 (gw hw 29 rfl) (fld_new (i := 0) (fi := 0) rfl rfl rfl) ?_
  refine wp_iload_n D_jdk_42_m80_11 rfl ?_
  refine wp_iload_n D_jdk_42_m80_12 rfl ?_
  refine wp_aload_n D_jdk_42_m80_13 rfl rfl ?_
  refine wp_virtual (c_len_0 l Z a0 hw s v cp fm F hs ) (exa_new (i := 0) rfl) D_jdk_42_m80_14 (gw hw 51 rfl) (gw hw 52 rfl) (gw hw 54 rfl) (gw hw 54 rfl) (gw hw 53 rfl) (gw hw 12 rfl) (gw hw 55 rfl) (by decide) pd_5 rfl rfl rfl (lb rfl) (lb rfl) (lb rfl) (lb rfl) ?_
  rintro _ _ ⟨rfl, rfl⟩
  show W23 l Z (rm4 2 0 0 28) ((s, strO v) :: (v, fA .byte []) :: F) 0 0 17 #[.val (.ref s), .val (.int 35), .val (.int 0)] [(.int 0), (.int 0), (.int 35), (.ref v)] (Q_c_six_0 s v F)
  refine wp_callS (c_lix_0 l Z a0 hw s v cp fm F hs ) D_jdk_42_m80_17 (gw hw 61 rfl) (gw hw 62 rfl) (gw hw 63 rfl) (gw hw 64 rfl) (by decide) pd_7 rfl rfl rfl (lb rfl) (lb rfl) (lb rfl) (lb rfl) ?_
  rintro _ _ ⟨rfl, rfl⟩
  show W23 l Z (rm4 2 0 0 28) ((s, strO v) :: (v, fA .byte []) :: F) 0 0 20 #[.val (.ref s), .val (.int 35), .val (.int 0)] [(.int (-1))] (Q_c_six_0 s v F)
  refine wp_goto D_jdk_42_m80_20 (pc'' := 36) ⟨by decide, by decide⟩ ?_
  refine wp_ireturn D_jdk_42_m80_36 rfl (by decide) (by decide) ?_
  exact ⟨rfl, rfl⟩
theorem pn_23 : plainFor (⟨"java/lang/String", "indexOf", "(I)I"⟩ : MethodName) = true := by first | exact plainFor_of_name (by first | (simp [plainName, overriddenIn]; done) | decide +kernel) | decide +kernel
def Q_c_si_0 (s v : Addr) (F : OH) : Option Value → OH → Prop := fun w' H' => w' = some (.int (-1 : Int32)) ∧ H' = ((s, strO v) :: (v, fA .byte []) :: F)
theorem D_jdk_42_m79_0 : Dc jdk_42_method_79_code 0 (.aload_n 0) 1 1 := ⟨by decide +kernel, rfl⟩
theorem D_jdk_42_m79_1 : Dc jdk_42_method_79_code 1 (.iload_n 1) 1 2 := ⟨by decide +kernel, rfl⟩
theorem D_jdk_42_m79_2 : Dc jdk_42_method_79_code 2 (.iconst 0) 1 3 := ⟨by decide +kernel, rfl⟩
theorem D_jdk_42_m79_3 : Dc jdk_42_method_79_code 3 (.invokevirtual 633) 3 6 := ⟨by decide +kernel, rfl⟩
theorem D_jdk_42_m79_6 : Dc jdk_42_method_79_code 6 (.ireturn) 1 7 := ⟨by decide +kernel, rfl⟩
abbrev W24 (l : Launch) (Z : State) := Wp none l Z "java/lang/String" "indexOf" jdk_42_method_79_code 2 (some .int)
set_option maxRecDepth 65536 in
set_option maxHeartbeats 40000000 in
theorem c_si_0 (l : Launch) (Z : State) (a0 : Array Value) (hw : HW Z a0) (s v : Addr) (cp : Int32) (fm : Value) (F : OH) (hs : Std Z cp fm) :
    Met l Z (⟨"java/lang/String", "indexOf", "(I)I"⟩ : MethodName) jdk_42_method_79_code 2 (some .int) (rm4 3 0 0 42) [(.ref s), (.int 35)] ((s, strO v) :: (v, fA .byte []) :: F) (Q_c_si_0 s v F) := by
  refine Met.of_wp (Ls := #[.val (.ref s), .val (.int 35)]) pn_23 (fun m => (entry_loc m _ _).trans rfl) ?_
  show W24 l Z (rm4 3 0 0 42) ((s, strO v) :: (v, fA .byte []) :: F) 0 0 0 #[.val (.ref s), .val (.int 35)] [] (Q_c_si_0 s v F)
  refine wp_aload_n D_jdk_42_m79_0 rfl rfl ?_
  refine wp_iload_n D_jdk_42_m79_1 rfl ?_
  refine wp_iconst 0 D_jdk_42_m79_2 (by decide) ?_
  refine wp_virtual (c_six_0 l Z a0 hw s v cp fm F hs ) (exa_new (i := 0) rfl) D_jdk_42_m79_3 (gw hw 40 rfl) (gw hw 41 rfl) (gw hw 43 rfl) (gw hw 43 rfl) (gw hw 42 rfl) (gw hw 12 rfl) (gw hw 44 rfl) (by decide) pd_3 rfl rfl rfl (lb rfl) (lb rfl) (lb rfl) (lb rfl) ?_
  rintro _ _ ⟨rfl, rfl⟩
  show W24 l Z (rm4 3 0 0 42) ((s, strO v) :: (v, fA .byte []) :: F) 0 0 6 #[.val (.ref s), .val (.int 35)] [(.int (-1))] (Q_c_si_0 s v F)
  refine wp_ireturn D_jdk_42_m79_6 rfl (by decide) (by decide) ?_
  exact ⟨rfl, rfl⟩
theorem pd_20 : parseMethodDescriptor "(I)I" = some ⟨[.int], (some .int)⟩ := by decide +kernel
theorem pd_21 : parseMethodDescriptor "()Ljava/util/Optional;" = some ⟨[], (some (.object "java/util/Optional"))⟩ := by decide +kernel
theorem pd_22 : parseMethodDescriptor "(I)Ljava/lang/String;" = some ⟨[.int], (some (.object "java/lang/String"))⟩ := by decide +kernel
theorem pd_23 : parseMethodDescriptor "(Ljava/lang/Object;)Ljava/util/Optional;" = some ⟨[(.object "java/lang/Object")], (some (.object "java/util/Optional"))⟩ := by decide +kernel
theorem pn_24 : plainFor (⟨"com/example/bylint/bylint/description/UriReferences", "fragment", "(Ljava/lang/String;)Ljava/util/Optional;"⟩ : MethodName) = true := by first | exact plainFor_of_name (by first | (simp [plainName, overriddenIn]; done) | decide +kernel) | decide +kernel
def Q_c_fr_0_m (s v : Addr) (aE : Addr) (F : OH) : Option Value → OH → Prop := fun w' H' => w' = some (.ref aE) ∧ H' = ((s, strO v) :: (v, fA .byte []) :: F)
theorem D_prog_9_m6_0 : Dc prog_9_method_6_code 0 (.aload_n 0) 1 1 := ⟨by decide +kernel, rfl⟩
theorem D_prog_9_m6_1 : Dc prog_9_method_6_code 1 (.bipush 35) 2 3 := ⟨by decide +kernel, rfl⟩
theorem D_prog_9_m6_3 : Dc prog_9_method_6_code 3 (.invokevirtual 73) 3 6 := ⟨by decide +kernel, rfl⟩
theorem D_prog_9_m6_6 : Dc prog_9_method_6_code 6 (.istore_n 1) 1 7 := ⟨by decide +kernel, rfl⟩
theorem D_prog_9_m6_7 : Dc prog_9_method_6_code 7 (.iload_n 1) 1 8 := ⟨by decide +kernel, rfl⟩
theorem D_prog_9_m6_8 : Dc prog_9_method_6_code 8 (.ifCond .ge 9) 3 11 := ⟨by decide +kernel, rfl⟩
theorem D_prog_9_m6_11 : Dc prog_9_method_6_code 11 (.invokestatic 30) 3 14 := ⟨by decide +kernel, rfl⟩
theorem D_prog_9_m6_14 : Dc prog_9_method_6_code 14 (.goto 13) 3 17 := ⟨by decide +kernel, rfl⟩
theorem D_prog_9_m6_17 : Dc prog_9_method_6_code 17 (.aload_n 0) 1 18 := ⟨by decide +kernel, rfl⟩
theorem D_prog_9_m6_18 : Dc prog_9_method_6_code 18 (.iload_n 1) 1 19 := ⟨by decide +kernel, rfl⟩
theorem D_prog_9_m6_19 : Dc prog_9_method_6_code 19 (.iconst 1) 1 20 := ⟨by decide +kernel, rfl⟩
theorem D_prog_9_m6_20 : Dc prog_9_method_6_code 20 (.iadd) 1 21 := ⟨by decide +kernel, rfl⟩
theorem D_prog_9_m6_21 : Dc prog_9_method_6_code 21 (.invokevirtual 81) 3 24 := ⟨by decide +kernel, rfl⟩
theorem D_prog_9_m6_24 : Dc prog_9_method_6_code 24 (.invokestatic 36) 3 27 := ⟨by decide +kernel, rfl⟩
theorem D_prog_9_m6_27 : Dc prog_9_method_6_code 27 (.areturn) 1 28 := ⟨by decide +kernel, rfl⟩
abbrev W25 (l : Launch) (Z : State) := Wp none l Z "com/example/bylint/bylint/description/UriReferences" "fragment" prog_9_method_6_code 2 (some (.object "java/util/Optional"))
set_option maxRecDepth 65536 in
set_option maxHeartbeats 40000000 in
theorem c_fr_0_m (l : Launch) (Z : State) (a0 : Array Value) (hw : HW Z a0) (s v : Addr) (aE : Addr) (cp : Int32) (fm : Value) (F : OH) (hs : Std Z cp fm) (S_E : Sta Z Z.heap "java/util/Optional" "EMPTY" "Ljava/util/Optional;" (.ref aE)) :
    Met l Z (⟨"com/example/bylint/bylint/description/UriReferences", "fragment", "(Ljava/lang/String;)Ljava/util/Optional;"⟩ : MethodName) prog_9_method_6_code 2 (some (.object "java/util/Optional")) (rm4 4 0 0 55) [(.ref s)] ((s, strO v) :: (v, fA .byte []) :: F) (Q_c_fr_0_m s v aE F) := by
  refine Met.of_wp (Ls := #[.val (.ref s), .unset]) pn_24 (fun m => (entry_loc m _ _).trans rfl) ?_
  show W25 l Z (rm4 4 0 0 55) ((s, strO v) :: (v, fA .byte []) :: F) 0 0 0 #[.val (.ref s), .unset] [] (Q_c_fr_0_m s v aE F)
  refine wp_aload_n D_prog_9_m6_0 rfl rfl ?_
  refine wp_bipush 35 D_prog_9_m6_1 (by decide) ?_
  refine wp_virtual (c_si_0 l Z a0 hw s v cp fm F hs ) (exa_new (i := 0) rfl) D_prog_9_m6_3 (gw hw 35 rfl) (gw hw 36 rfl) (gw hw 38 rfl) (gw hw 38 rfl) (gw hw 37 rfl) (gw hw 12 rfl) (gw hw 39 rfl) (by decide) pd_20 rfl rfl rfl (lb rfl) (lb rfl) (lb rfl) (lb rfl) ?_
  rintro _ _ ⟨rfl, rfl⟩
  show W25 l Z (rm4 4 0 0 55) ((s, strO v) :: (v, fA .byte []) :: F) 0 0 6 #[.val (.ref s), .unset] [(.int (-1))] (Q_c_fr_0_m s v aE F)
  refine wp_istore_n #[.val (.ref s), .val (.int (-1))] D_prog_9_m6_6 rfl ?_
  refine wp_iload_n D_prog_9_m6_7 rfl ?_
  refine wp_if_ge D_prog_9_m6_8 (pc'' := 17) ⟨by decide, by decide⟩ (fun h1 => by exact absurd h1 (by decide)) (fun h1 => ?_)
  refine wp_callS (c_emp l Z a0 hw aE ((s, strO v) :: (v, fA .byte []) :: F) S_E) D_prog_9_m6_11 (gw hw 75 rfl) (gw hw 76 rfl) (gw hw 77 rfl) (gw hw 78 rfl) (by decide) pd_21 rfl rfl rfl (lb rfl) (lb rfl) (lb rfl) (lb rfl) ?_
  rintro _ _ ⟨rfl, rfl⟩
  show W25 l Z (rm4 4 0 0 55) ((s, strO v) :: (v, fA .byte []) :: F) 0 0 14 #[.val (.ref s), .val (.int (-1))] [(.ref aE)] (Q_c_fr_0_m s v aE F)
  refine wp_goto D_prog_9_m6_14 (pc'' := 27) ⟨by decide, by decide⟩ ?_
  refine wp_areturn D_prog_9_m6_27 rfl rfl rfl rfl (by decide) (by decide) ?_
  exact ⟨rfl, rfl⟩
def Q_c_min_1_1  (F : OH) : Option Value → OH → Prop := fun w' H' => w' = some (.int 1) ∧ H' = F
set_option maxRecDepth 65536 in
set_option maxHeartbeats 40000000 in
theorem c_min_1_1 (l : Launch) (Z : State) (a0 : Array Value) (hw : HW Z a0)  (F : OH) :
    Met l Z (⟨"java/lang/Math", "min", "(II)I"⟩ : MethodName) jdk_29_method_69_code 2 (some .int) (rm4 0 0 0 0) [(.int 1), (.int 1)] F (Q_c_min_1_1 F) := by
  refine Met.of_wp (Ls := #[.val (.int 1), .val (.int 1)]) pn_19 (fun m => (entry_loc m _ _).trans rfl) ?_
  show W21 l Z (rm4 0 0 0 0) F 0 0 0 #[.val (.int 1), .val (.int 1)] [] (Q_c_min_1_1 F)
  refine wp_iload_n D_jdk_29_m69_0 rfl ?_
  refine wp_iload_n D_jdk_29_m69_1 rfl ?_
  refine wp_icmp_gt D_jdk_29_m69_2 (pc'' := 9) ⟨by decide, by decide⟩ (fun h1 => by exact absurd h1 (by decide)) (fun h1 => ?_)
  refine wp_iload_n D_jdk_29_m69_5 rfl ?_
  refine wp_goto D_jdk_29_m69_6 (pc'' := 10) ⟨by decide, by decide⟩ ?_
  refine wp_ireturn D_jdk_29_m69_10 rfl (by decide) (by decide) ?_
  exact ⟨rfl, rfl⟩
def Q_ioc_1 (s v : Addr) (y0 : Int32) (r : Int32) (F : OH) : Option Value → OH → Prop := fun w' H' => w' = some (.int r) ∧ H' = ((s, strO v) :: (v, fA .byte [y0]) :: F)
def Q_c_lix_1 (s v : Addr) (y0 : Int32) (r : Int32) (F : OH) : Option Value → OH → Prop := fun w' H' => w' = some (.int r) ∧ H' = ((s, strO v) :: (v, fA .byte [y0]) :: F)
set_option maxRecDepth 65536 in
set_option maxHeartbeats 40000000 in
theorem c_lix_1 (l : Launch) (Z : State) (a0 : Array Value) (hw : HW Z a0) (s v : Addr) (y0 : Int32) (r : Int32) (cp : Int32) (fm : Value) (F : OH) (hs : Std Z cp fm) (hM : Met l Z (⟨"java/lang/StringLatin1", "indexOfChar", "([BIII)I"⟩ : MethodName) jdk_43_method_23_code 6 (some .int) (rm4 0 0 0 0) [.ref v, .int 35, .int 0, .int 1] ((s, strO v) :: (v, fA .byte [y0]) :: F) (Q_ioc_1 s v y0 r F)) :
    Met l Z (⟨"java/lang/StringLatin1", "indexOf", "([BIII)I"⟩ : MethodName) jdk_43_method_22_code 4 (some .int) (rm4 1 0 0 17) [(.ref v), (.int 35), (.int 0), (.int 1)] ((s, strO v) :: (v, fA .byte [y0]) :: F) (Q_c_lix_1 s v y0 r F) := by
  refine Met.of_wp (Ls := #[.val (.ref v), .val (.int 35), .val (.int 0), .val (.int 1)]) pn_21 (fun m => (entry_loc m _ _).trans rfl) ?_
  show W22 l Z (rm4 1 0 0 17) ((s, strO v) :: (v, fA .byte [y0]) :: F) 0 0 0 #[.val (.ref v), .val (.int 35), .val (.int 0), .val (.int 1)] [] (Q_c_lix_1 s v y0 r F)
  refine wp_iload_n D_jdk_43_m22_0 rfl ?_
  refine wp_callS (c_can l Z a0 hw  ((s, strO v) :: (v, fA .byte [y0]) :: F) ) D_jdk_43_m22_1 (gw hw 65 rfl) (gw hw 66 rfl) (gw hw 63 rfl) (gw hw 67 rfl) (by decide) pd_15 rfl rfl rfl (lb rfl) (lb rfl) (lb rfl) (lb rfl) ?_
  rintro _ _ ⟨rfl, rfl⟩
  show W22 l Z (rm4 1 0 0 17) ((s, strO v) :: (v, fA .byte [y0]) :: F) 0 0 4 #[.val (.ref v), .val (.int 35), .val (.int 0), .val (.int 1)] [(.int 1)] (Q_c_lix_1 s v y0 r F)
  refine wp_if_ne D_jdk_43_m22_4 (pc'' := 9) ⟨by decide, by decide⟩ (fun h1 => ?_) (fun h1 => by exact absurd h1 (by decide))
  refine wp_iload_n D_jdk_43_m22_9 rfl ?_
  refine wp_iconst 0 D_jdk_43_m22_10 (by decide) ?_
  refine wp_callS (c_max_0_0 l Z a0 hw  ((s, strO v) :: (v, fA .byte [y0]) :: F) ) D_jdk_43_m22_11 (gw hw 68 rfl) (gw hw 69 rfl) (gw hw 70 rfl) (gw hw 71 rfl) (by decide) pd_3 rfl rfl rfl (lb rfl) (lb rfl) (lb rfl) (lb rfl) ?_
  rintro _ _ ⟨rfl, rfl⟩
  show W22 l Z (rm4 1 0 0 17) ((s, strO v) :: (v, fA .byte [y0]) :: F) 0 0 14 #[.val (.ref v), .val (.int 35), .val (.int 0), .val (.int 1)] [(.int 0)] (Q_c_lix_1 s v y0 r F)
  refine wp_istore_n #[.val (.ref v), .val (.int 35), .val (.int 0), .val (.int 1)] D_jdk_43_m22_14 rfl ?_
  refine wp_iload_n D_jdk_43_m22_15 rfl ?_
  refine wp_aload_n D_jdk_43_m22_16 rfl rfl ?_
  refine wp_lengthI (i := 1) (1 : Int32) D_jdk_43_m22_17 rfl rfl ?_
  refine wp_callS (c_min_1_1 l Z a0 hw  ((s, strO v) :: (v, fA .byte [y0]) :: F) ) D_jdk_43_m22_18 (gw hw 72 rfl) (gw hw 73 rfl) (gw hw 70 rfl) (gw hw 74 rfl) (by decide) pd_3 rfl rfl rfl (lb rfl) (lb rfl) (lb rfl) (lb rfl) ?_
  rintro _ _ ⟨rfl, rfl⟩
  show W22 l Z (rm4 1 0 0 17) ((s, strO v) :: (v, fA .byte [y0]) :: F) 0 0 21 #[.val (.ref v), .val (.int 35), .val (.int 0), .val (.int 1)] [(.int 1)] (Q_c_lix_1 s v y0 r F)
  refine wp_istore_n #[.val (.ref v), .val (.int 35), .val (.int 0), .val (.int 1)] D_jdk_43_m22_21 rfl ?_
  refine wp_iload_n D_jdk_43_m22_22 rfl ?_
  refine wp_iload_n D_jdk_43_m22_23 rfl ?_
  refine wp_icmp_lt D_jdk_43_m22_24 (pc'' := 29) ⟨by decide, by decide⟩ (fun h2 => ?_) (fun h2 => by exact absurd h2 (by decide))
  refine wp_aload_n D_jdk_43_m22_29 rfl rfl ?_
  refine wp_iload_n D_jdk_43_m22_30 rfl ?_
  refine wp_iload_n D_jdk_43_m22_31 rfl ?_
  refine wp_iload_n D_jdk_43_m22_32 rfl ?_
  refine wp_callS hM D_jdk_43_m22_33 (gw hw 97 rfl) (gw hw 98 rfl) (gw hw 63 rfl) (gw hw 99 rfl) (by decide) pd_7 rfl rfl rfl (lb rfl) (lb rfl) (lb rfl) (lb rfl) ?_
  rintro _ _ ⟨rfl, rfl⟩
  show W22 l Z (rm4 1 0 0 17) ((s, strO v) :: (v, fA .byte [y0]) :: F) 0 0 36 #[.val (.ref v), .val (.int 35), .val (.int 0), .val (.int 1)] [(.int r)] (Q_c_lix_1 s v y0 r F)
  refine wp_ireturn D_jdk_43_m22_36 rfl (by decide) (by decide) ?_
  exact ⟨rfl, rfl⟩
def Q_c_six_1 (s v : Addr) (y0 : Int32) (r : Int32) (F : OH) : Option Value → OH → Prop := fun w' H' => w' = some (.int r) ∧ H' = ((s, strO v) :: (v, fA .byte [y0]) :: F)
set_option maxRecDepth 65536 in
set_option maxHeartbeats 40000000 in
theorem c_six_1 (l : Launch) (Z : State) (a0 : Array Value) (hw : HW Z a0) (s v : Addr) (y0 : Int32) (r : Int32) (cp : Int32) (fm : Value) (F : OH) (hs : Std Z cp fm) (hM : Met l Z (⟨"java/lang/StringLatin1", "indexOfChar", "([BIII)I"⟩ : MethodName) jdk_43_method_23_code 6 (some .int) (rm4 0 0 0 0) [.ref v, .int 35, .int 0, .int 1] ((s, strO v) :: (v, fA .byte [y0]) :: F) (Q_ioc_1 s v y0 r F)) :
    Met l Z (⟨"java/lang/String", "indexOf", "(II)I"⟩ : MethodName) jdk_42_method_80_code 3 (some .int) (rm4 2 0 0 32) [(.ref s), (.int 35), (.int 0)] ((s, strO v) :: (v, fA .byte [y0]) :: F) (Q_c_six_1 s v y0 r F) := by
  refine Met.of_wp (Ls := #[.val (.ref s), .val (.int 35), .val (.int 0)]) pn_22 (fun m => (entry_loc m _ _).trans rfl) ?_
  show W23 l Z (rm4 2 0 0 32) ((s, strO v) :: (v, fA .byte [y0]) :: F) 0 0 0 #[.val (.ref s), .val (.int 35), .val (.int 0)] [] (Q_c_six_1 s v y0 r F)
  refine wp_aload_n D_jdk_42_m80_0 rfl rfl ?_
  refine wp_virtual (c_lat l Z a0 hw s v cp fm ((v, fA .byte [y0]) :: F) hs ) (exa_new (i := 0) rfl) D_jdk_42_m80_1 (gw hw 45 rfl) (gw hw 46 rfl) (gw hw 48 rfl) (gw hw 48 rfl) (gw hw 47 rfl) (gw hw 12 rfl) (gw hw 49 rfl) (by decide) pd_4 rfl rfl rfl (lb rfl) (lb rfl) (lb rfl) (lb rfl) ?_
  rintro _ _ ⟨rfl, rfl⟩
  show W23 l Z (rm4 2 0 0 32) ((s, strO v) :: (v, fA .byte [y0]) :: F) 0 0 4 #[.val (.ref s), .val (.int 35), .val (.int 0)] [(.int 1)] (Q_c_six_1 s v y0 r F)
  refine wp_if_eq D_jdk_42_m80_4 (pc'' := 23) ⟨by decide, by decide⟩ (fun h1 => by exact absurd h1 (by decide)) (fun h1 => ?_)
  refine wp_aload_n D_jdk_42_m80_7 rfl rfl ?_
  refine wp_getfield D_jdk_42_m80_8 (gw hw 29 rfl) (fld_new (i := 0) (fi := 0) rfl rfl rfl) ?_
  refine wp_iload_n D_jdk_42_m80_11 rfl ?_
  refine wp_iload_n D_jdk_42_m80_12 rfl ?_
  refine wp_aload_n D_jdk_42_m80_13 rfl rfl ?_
  refine wp_virtual (c_len_1 l Z a0 hw s v y0 cp fm F hs ) (exa_new (i := 0) rfl) D_jdk_42_m80_14 (gw hw 51 rfl) (gw hw 52 rfl) (gw hw 54 rfl) (gw hw 54 rfl) (gw hw 53 rfl) (gw hw 12 rfl) (gw hw 55 rfl) (by decide) pd_5 rfl rfl rfl (lb rfl) (lb rfl) (lb rfl) (lb rfl) ?_
  rintro _ _ ⟨rfl, rfl⟩
  show W23 l Z (rm4 2 0 0 32) ((s, strO v) :: (v, fA .byte [y0]) :: F) 0 0 17 #[.val (.ref s), .val (.int 35), .val (.int 0)] [(.int 1), (.int 0), (.int 35), (.ref v)] (Q_c_six_1 s v y0 r F)
  refine wp_callS (c_lix_1 l Z a0 hw s v y0 r cp fm F hs hM) D_jdk_42_m80_17 (gw hw 61 rfl) (gw hw 62 rfl) (gw hw 63 rfl) (gw hw 64 rfl) (by decide) pd_7 rfl rfl rfl (lb rfl) (lb rfl) (lb rfl) (lb rfl) ?_
  rintro _ _ ⟨rfl, rfl⟩
  show W23 l Z (rm4 2 0 0 32) ((s, strO v) :: (v, fA .byte [y0]) :: F) 0 0 20 #[.val (.ref s), .val (.int 35), .val (.int 0)] [(.int r)] (Q_c_six_1 s v y0 r F)
  refine wp_goto D_jdk_42_m80_20 (pc'' := 36) ⟨by decide, by decide⟩ ?_
  refine wp_ireturn D_jdk_42_m80_36 rfl (by decide) (by decide) ?_
  exact ⟨rfl, rfl⟩
def Q_c_si_1 (s v : Addr) (y0 : Int32) (r : Int32) (F : OH) : Option Value → OH → Prop := fun w' H' => w' = some (.int r) ∧ H' = ((s, strO v) :: (v, fA .byte [y0]) :: F)
set_option maxRecDepth 65536 in
set_option maxHeartbeats 40000000 in
theorem c_si_1 (l : Launch) (Z : State) (a0 : Array Value) (hw : HW Z a0) (s v : Addr) (y0 : Int32) (r : Int32) (cp : Int32) (fm : Value) (F : OH) (hs : Std Z cp fm) (hM : Met l Z (⟨"java/lang/StringLatin1", "indexOfChar", "([BIII)I"⟩ : MethodName) jdk_43_method_23_code 6 (some .int) (rm4 0 0 0 0) [.ref v, .int 35, .int 0, .int 1] ((s, strO v) :: (v, fA .byte [y0]) :: F) (Q_ioc_1 s v y0 r F)) :
    Met l Z (⟨"java/lang/String", "indexOf", "(I)I"⟩ : MethodName) jdk_42_method_79_code 2 (some .int) (rm4 3 0 0 46) [(.ref s), (.int 35)] ((s, strO v) :: (v, fA .byte [y0]) :: F) (Q_c_si_1 s v y0 r F) := by
  refine Met.of_wp (Ls := #[.val (.ref s), .val (.int 35)]) pn_23 (fun m => (entry_loc m _ _).trans rfl) ?_
  show W24 l Z (rm4 3 0 0 46) ((s, strO v) :: (v, fA .byte [y0]) :: F) 0 0 0 #[.val (.ref s), .val (.int 35)] [] (Q_c_si_1 s v y0 r F)
  refine wp_aload_n D_jdk_42_m79_0 rfl rfl ?_
  refine wp_iload_n D_jdk_42_m79_1 rfl ?_
  refine wp_iconst 0 D_jdk_42_m79_2 (by decide) ?_
  refine wp_virtual (c_six_1 l Z a0 hw s v y0 r cp fm F hs hM) (exa_new (i := 0) rfl) D_jdk_42_m79_3 (gw hw 40 rfl) (gw hw 41 rfl) (gw hw 43 rfl) (gw hw 43 rfl) (gw hw 42 rfl) (gw hw 12 rfl) (gw hw 44 rfl) (by decide) pd_3 rfl rfl rfl (lb rfl) (lb rfl) (lb rfl) (lb rfl) ?_
  rintro _ _ ⟨rfl, rfl⟩
  show W24 l Z (rm4 3 0 0 46) ((s, strO v) :: (v, fA .byte [y0]) :: F) 0 0 6 #[.val (.ref s), .val (.int 35)] [(.int r)] (Q_c_si_1 s v y0 r F)
  refine wp_ireturn D_jdk_42_m79_6 rfl (by decide) (by decide) ?_
  exact ⟨rfl, rfl⟩
theorem D_jdk_43_m23_0 : Dc jdk_43_method_23_code 0 (.iload_n 1) 1 1 := ⟨by decide +kernel, rfl⟩
theorem D_jdk_43_m23_1 : Dc jdk_43_method_23_code 1 (.i2b) 1 2 := ⟨by decide +kernel, rfl⟩
theorem D_jdk_43_m23_2 : Dc jdk_43_method_23_code 2 (.istore 4) 2 4 := ⟨by decide +kernel, rfl⟩
theorem D_jdk_43_m23_4 : Dc jdk_43_method_23_code 4 (.iload_n 2) 1 5 := ⟨by decide +kernel, rfl⟩
theorem D_jdk_43_m23_5 : Dc jdk_43_method_23_code 5 (.istore 5) 2 7 := ⟨by decide +kernel, rfl⟩
theorem D_jdk_43_m23_7 : Dc jdk_43_method_23_code 7 (.iload 5) 2 9 := ⟨by decide +kernel, rfl⟩
theorem D_jdk_43_m23_9 : Dc jdk_43_method_23_code 9 (.iload_n 3) 1 10 := ⟨by decide +kernel, rfl⟩
theorem D_jdk_43_m23_10 : Dc jdk_43_method_23_code 10 (.if_icmp .ge 21) 3 13 := ⟨by decide +kernel, rfl⟩
theorem D_jdk_43_m23_13 : Dc jdk_43_method_23_code 13 (.aload_n 0) 1 14 := ⟨by decide +kernel, rfl⟩
theorem D_jdk_43_m23_14 : Dc jdk_43_method_23_code 14 (.iload 5) 2 16 := ⟨by decide +kernel, rfl⟩
theorem D_jdk_43_m23_16 : Dc jdk_43_method_23_code 16 (.baload) 1 17 := ⟨by decide +kernel, rfl⟩
theorem D_jdk_43_m23_17 : Dc jdk_43_method_23_code 17 (.iload 4) 2 19 := ⟨by decide +kernel, rfl⟩
theorem D_jdk_43_m23_19 : Dc jdk_43_method_23_code 19 (.if_icmp .ne 6) 3 22 := ⟨by decide +kernel, rfl⟩
theorem D_jdk_43_m23_22 : Dc jdk_43_method_23_code 22 (.iload 5) 2 24 := ⟨by decide +kernel, rfl⟩
theorem D_jdk_43_m23_24 : Dc jdk_43_method_23_code 24 (.ireturn) 1 25 := ⟨by decide +kernel, rfl⟩
theorem D_jdk_43_m23_25 : Dc jdk_43_method_23_code 25 (.iinc 5 1) 3 28 := ⟨by decide +kernel, rfl⟩
theorem D_jdk_43_m23_28 : Dc jdk_43_method_23_code 28 (.goto (-21)) 3 31 := ⟨by decide +kernel, rfl⟩
theorem D_jdk_43_m23_31 : Dc jdk_43_method_23_code 31 (.iconst (-1)) 1 32 := ⟨by decide +kernel, rfl⟩
theorem D_jdk_43_m23_32 : Dc jdk_43_method_23_code 32 (.ireturn) 1 33 := ⟨by decide +kernel, rfl⟩
abbrev W26 (l : Launch) (Z : State) := Wp none l Z "java/lang/StringLatin1" "indexOfChar" jdk_43_method_23_code 6 (some .int)
set_option maxRecDepth 65536 in
set_option maxHeartbeats 40000000 in
theorem c_ioc_1_m (l : Launch) (Z : State) (a0 : Array Value) (hw : HW Z a0) (s v : Addr) (y0 : Int32) (F : OH) (hq0 : ¬ y0 = 35) :
    Met l Z (⟨"java/lang/StringLatin1", "indexOfChar", "([BIII)I"⟩ : MethodName) jdk_43_method_23_code 6 (some .int) (rm4 0 0 0 0) [(.ref v), (.int 35), (.int 0), (.int 1)] ((s, strO v) :: (v, fA .byte [y0]) :: F) (Q_ioc_1 s v y0 (-1 : Int32) F) := by
  refine Met.of_wp (Ls := #[.val (.ref v), .val (.int 35), .val (.int 0), .val (.int 1), .unset, .unset]) pn_20 (fun m => (entry_loc m _ _).trans rfl) ?_
  show W26 l Z (rm4 0 0 0 0) ((s, strO v) :: (v, fA .byte [y0]) :: F) 0 0 0 #[.val (.ref v), .val (.int 35), .val (.int 0), .val (.int 1), .unset, .unset] [] (Q_ioc_1 s v y0 (-1 : Int32) F)
  refine wp_iload_n D_jdk_43_m23_0 rfl ?_
  refine wp_i2b D_jdk_43_m23_1 ?_
  rw [show (35 : Int32).toInt8.toInt32 = (35 : Int32) from by decide]
  refine wp_istore #[.val (.ref v), .val (.int 35), .val (.int 0), .val (.int 1), .val (.int 35), .unset] D_jdk_43_m23_2 rfl ?_
  refine wp_iload_n D_jdk_43_m23_4 rfl ?_
  refine wp_istore #[.val (.ref v), .val (.int 35), .val (.int 0), .val (.int 1), .val (.int 35), .val (.int 0)] D_jdk_43_m23_5 rfl ?_
  refine wp_iload D_jdk_43_m23_7 rfl ?_
  refine wp_iload_n D_jdk_43_m23_9 rfl ?_
  refine wp_icmp_ge D_jdk_43_m23_10 (pc'' := 31) ⟨by decide, by decide⟩ (fun h1 => by exact absurd h1 (by decide)) (fun h1 => ?_)
  refine wp_aload_n D_jdk_43_m23_13 rfl rfl ?_
  refine wp_iload D_jdk_43_m23_14 rfl ?_
  refine wp_baload (i := 1) (0) D_jdk_43_m23_16 rfl (by decide) (by decide) rfl ?_
  refine wp_iload D_jdk_43_m23_17 rfl ?_
  refine wp_icmp_ne D_jdk_43_m23_19 (pc'' := 25) ⟨by decide, by decide⟩ (fun h2 => ?_) (fun h2 => by exact absurd h2 hq0)
  refine wp_iinc 1 #[.val (.ref v), .val (.int 35), .val (.int 0), .val (.int 1), .val (.int 35), .val (.int 1)] D_jdk_43_m23_25 rfl rfl (by rw [show (0 : Int32) + (1 : Int32) = (1 : Int32) from by decide]; rfl) ?_
  refine wp_goto D_jdk_43_m23_28 (pc'' := 7) ⟨by decide, by decide⟩ ?_
  refine wp_iload D_jdk_43_m23_7 rfl ?_
  refine wp_iload_n D_jdk_43_m23_9 rfl ?_
  refine wp_icmp_ge D_jdk_43_m23_10 (pc'' := 31) ⟨by decide, by decide⟩ (fun h3 => ?_) (fun h3 => by exact absurd h3 (by decide))
  refine wp_iconst (-1) D_jdk_43_m23_31 (by decide) ?_
  refine wp_ireturn D_jdk_43_m23_32 rfl (by decide) (by decide) ?_
  exact ⟨rfl, rfl⟩
def Q_c_fr_1_m (s v : Addr) (y0 : Int32) (aE : Addr) (F : OH) : Option Value → OH → Prop := fun w' H' => w' = some (.ref aE) ∧ H' = ((s, strO v) :: (v, fA .byte [y0]) :: F)
set_option maxRecDepth 65536 in
set_option maxHeartbeats 40000000 in
theorem c_fr_1_m (l : Launch) (Z : State) (a0 : Array Value) (hw : HW Z a0) (s v : Addr) (y0 : Int32) (aE : Addr) (cp : Int32) (fm : Value) (F : OH) (hs : Std Z cp fm) (S_E : Sta Z Z.heap "java/util/Optional" "EMPTY" "Ljava/util/Optional;" (.ref aE)) (hq0 : ¬ y0 = 35) :
    Met l Z (⟨"com/example/bylint/bylint/description/UriReferences", "fragment", "(Ljava/lang/String;)Ljava/util/Optional;"⟩ : MethodName) prog_9_method_6_code 2 (some (.object "java/util/Optional")) (rm4 4 0 0 59) [(.ref s)] ((s, strO v) :: (v, fA .byte [y0]) :: F) (Q_c_fr_1_m s v y0 aE F) := by
  refine Met.of_wp (Ls := #[.val (.ref s), .unset]) pn_24 (fun m => (entry_loc m _ _).trans rfl) ?_
  show W25 l Z (rm4 4 0 0 59) ((s, strO v) :: (v, fA .byte [y0]) :: F) 0 0 0 #[.val (.ref s), .unset] [] (Q_c_fr_1_m s v y0 aE F)
  refine wp_aload_n D_prog_9_m6_0 rfl rfl ?_
  refine wp_bipush 35 D_prog_9_m6_1 (by decide) ?_
  refine wp_virtual (c_si_1 l Z a0 hw s v y0 (-1 : Int32) cp fm F hs (c_ioc_1_m l Z a0 hw s v y0 F hq0)) (exa_new (i := 0) rfl) D_prog_9_m6_3 (gw hw 35 rfl) (gw hw 36 rfl) (gw hw 38 rfl) (gw hw 38 rfl) (gw hw 37 rfl) (gw hw 12 rfl) (gw hw 39 rfl) (by decide) pd_20 rfl rfl rfl (lb rfl) (lb rfl) (lb rfl) (lb rfl) ?_
  rintro _ _ ⟨rfl, rfl⟩
  show W25 l Z (rm4 4 0 0 59) ((s, strO v) :: (v, fA .byte [y0]) :: F) 0 0 6 #[.val (.ref s), .unset] [(.int (-1))] (Q_c_fr_1_m s v y0 aE F)
  refine wp_istore_n #[.val (.ref s), .val (.int (-1))] D_prog_9_m6_6 rfl ?_
  refine wp_iload_n D_prog_9_m6_7 rfl ?_
  refine wp_if_ge D_prog_9_m6_8 (pc'' := 17) ⟨by decide, by decide⟩ (fun h1 => by exact absurd h1 (by decide)) (fun h1 => ?_)
  refine wp_callS (c_emp l Z a0 hw aE ((s, strO v) :: (v, fA .byte [y0]) :: F) S_E) D_prog_9_m6_11 (gw hw 75 rfl) (gw hw 76 rfl) (gw hw 77 rfl) (gw hw 78 rfl) (by decide) pd_21 rfl rfl rfl (lb rfl) (lb rfl) (lb rfl) (lb rfl) ?_
  rintro _ _ ⟨rfl, rfl⟩
  show W25 l Z (rm4 4 0 0 59) ((s, strO v) :: (v, fA .byte [y0]) :: F) 0 0 14 #[.val (.ref s), .val (.int (-1))] [(.ref aE)] (Q_c_fr_1_m s v y0 aE F)
  refine wp_goto D_prog_9_m6_14 (pc'' := 27) ⟨by decide, by decide⟩ ?_
  refine wp_areturn D_prog_9_m6_27 rfl rfl rfl rfl (by decide) (by decide) ?_
  exact ⟨rfl, rfl⟩
set_option maxRecDepth 65536 in
set_option maxHeartbeats 40000000 in
theorem c_ioc_1_0 (l : Launch) (Z : State) (a0 : Array Value) (hw : HW Z a0) (s v : Addr) (y0 : Int32) (F : OH) (hq0 : y0 = 35) :
    Met l Z (⟨"java/lang/StringLatin1", "indexOfChar", "([BIII)I"⟩ : MethodName) jdk_43_method_23_code 6 (some .int) (rm4 0 0 0 0) [(.ref v), (.int 35), (.int 0), (.int 1)] ((s, strO v) :: (v, fA .byte [y0]) :: F) (Q_ioc_1 s v y0 (0 : Int32) F) := by
  refine Met.of_wp (Ls := #[.val (.ref v), .val (.int 35), .val (.int 0), .val (.int 1), .unset, .unset]) pn_20 (fun m => (entry_loc m _ _).trans rfl) ?_
  show W26 l Z (rm4 0 0 0 0) ((s, strO v) :: (v, fA .byte [y0]) :: F) 0 0 0 #[.val (.ref v), .val (.int 35), .val (.int 0), .val (.int 1), .unset, .unset] [] (Q_ioc_1 s v y0 (0 : Int32) F)
  refine wp_iload_n D_jdk_43_m23_0 rfl ?_
  refine wp_i2b D_jdk_43_m23_1 ?_
  rw [show (35 : Int32).toInt8.toInt32 = (35 : Int32) from by decide]
  refine wp_istore #[.val (.ref v), .val (.int 35), .val (.int 0), .val (.int 1), .val (.int 35), .unset] D_jdk_43_m23_2 rfl ?_
  refine wp_iload_n D_jdk_43_m23_4 rfl ?_
  refine wp_istore #[.val (.ref v), .val (.int 35), .val (.int 0), .val (.int 1), .val (.int 35), .val (.int 0)] D_jdk_43_m23_5 rfl ?_
  refine wp_iload D_jdk_43_m23_7 rfl ?_
  refine wp_iload_n D_jdk_43_m23_9 rfl ?_
  refine wp_icmp_ge D_jdk_43_m23_10 (pc'' := 31) ⟨by decide, by decide⟩ (fun h1 => by exact absurd h1 (by decide)) (fun h1 => ?_)
  refine wp_aload_n D_jdk_43_m23_13 rfl rfl ?_
  refine wp_iload D_jdk_43_m23_14 rfl ?_
  refine wp_baload (i := 1) (0) D_jdk_43_m23_16 rfl (by decide) (by decide) rfl ?_
  refine wp_iload D_jdk_43_m23_17 rfl ?_
  refine wp_icmp_ne D_jdk_43_m23_19 (pc'' := 25) ⟨by decide, by decide⟩ (fun h2 => by exact absurd hq0 h2) (fun h2 => ?_)
  refine wp_iload D_jdk_43_m23_22 rfl ?_
  refine wp_ireturn D_jdk_43_m23_24 rfl (by decide) (by decide) ?_
  exact ⟨rfl, rfl⟩
theorem pn_25 : plainFor (⟨"jdk/internal/util/Preconditions", "checkFromToIndex", "(IIILjava/util/function/BiFunction;)I"⟩ : MethodName) = true := by first | exact plainFor_of_name (by first | (simp [plainName, overriddenIn]; done) | decide +kernel) | decide +kernel
def Q_c_cftN (b e n : Int32) (F : OH) : Option Value → OH → Prop := fun w' H' => w' = some (.int b) ∧ H' = F
theorem D_jdk_41_m12_0 : Dc jdk_41_method_12_code 0 (.iload_n 0) 1 1 := ⟨by decide +kernel, rfl⟩
theorem D_jdk_41_m12_1 : Dc jdk_41_method_12_code 1 (.ifCond .lt 13) 3 4 := ⟨by decide +kernel, rfl⟩
theorem D_jdk_41_m12_4 : Dc jdk_41_method_12_code 4 (.iload_n 0) 1 5 := ⟨by decide +kernel, rfl⟩
theorem D_jdk_41_m12_5 : Dc jdk_41_method_12_code 5 (.iload_n 1) 1 6 := ⟨by decide +kernel, rfl⟩
theorem D_jdk_41_m12_6 : Dc jdk_41_method_12_code 6 (.if_icmp .gt 8) 3 9 := ⟨by decide +kernel, rfl⟩
theorem D_jdk_41_m12_9 : Dc jdk_41_method_12_code 9 (.iload_n 1) 1 10 := ⟨by decide +kernel, rfl⟩
theorem D_jdk_41_m12_10 : Dc jdk_41_method_12_code 10 (.iload_n 2) 1 11 := ⟨by decide +kernel, rfl⟩
theorem D_jdk_41_m12_11 : Dc jdk_41_method_12_code 11 (.if_icmp .le 11) 3 14 := ⟨by decide +kernel, rfl⟩
theorem D_jdk_41_m12_22 : Dc jdk_41_method_12_code 22 (.iload_n 0) 1 23 := ⟨by decide +kernel, rfl⟩
theorem D_jdk_41_m12_23 : Dc jdk_41_method_12_code 23 (.ireturn) 1 24 := ⟨by decide +kernel, rfl⟩
abbrev W27 (l : Launch) (Z : State) := Wp none l Z "jdk/internal/util/Preconditions" "checkFromToIndex" jdk_41_method_12_code 4 (some .int)
set_option maxRecDepth 65536 in
set_option maxHeartbeats 40000000 in
theorem c_cftN (l : Launch) (Z : State) (a0 : Array Value) (hw : HW Z a0) (b e n : Int32) (F : OH) (hb0 : ¬ b < 0) (hb1 : ¬ e < b) (hb2 : ¬ n < e) :
    Met l Z (⟨"jdk/internal/util/Preconditions", "checkFromToIndex", "(IIILjava/util/function/BiFunction;)I"⟩ : MethodName) jdk_41_method_12_code 4 (some .int) (rm4 0 0 0 0) [(.int b), (.int e), (.int n), (.null)] F (Q_c_cftN b e n F) := by
  refine Met.of_wp (Ls := #[.val (.int b), .val (.int e), .val (.int n), .val (.null)]) pn_25 (fun m => (entry_loc m _ _).trans rfl) ?_
  show W27 l Z (rm4 0 0 0 0) F 0 0 0 #[.val (.int b), .val (.int e), .val (.int n), .val (.null)] [] (Q_c_cftN b e n F)
  refine wp_iload_n D_jdk_41_m12_0 rfl ?_
  refine wp_if_lt D_jdk_41_m12_1 (pc'' := 14) ⟨by decide, by decide⟩ (fun h1 => by exact absurd h1 hb0) (fun h1 => ?_)
  refine wp_iload_n D_jdk_41_m12_4 rfl ?_
  refine wp_iload_n D_jdk_41_m12_5 rfl ?_
  refine wp_icmp_gt D_jdk_41_m12_6 (pc'' := 14) ⟨by decide, by decide⟩ (fun h2 => by exact absurd h2 hb1) (fun h2 => ?_)
  refine wp_iload_n D_jdk_41_m12_9 rfl ?_
  refine wp_iload_n D_jdk_41_m12_10 rfl ?_
  refine wp_icmp_le D_jdk_41_m12_11 (pc'' := 22) ⟨by decide, by decide⟩ (fun h3 => ?_) (fun h3 => by exact absurd h3 hb2)
  refine wp_iload_n D_jdk_41_m12_22 rfl ?_
  refine wp_ireturn D_jdk_41_m12_23 rfl (by decide) (by decide) ?_
  exact ⟨rfl, rfl⟩
def Q_c_cftR (b e n : Int32) (af : Addr) (F : OH) : Option Value → OH → Prop := fun w' H' => w' = some (.int b) ∧ H' = F
set_option maxRecDepth 65536 in
set_option maxHeartbeats 40000000 in
theorem c_cftR (l : Launch) (Z : State) (a0 : Array Value) (hw : HW Z a0) (b e n : Int32) (af : Addr) (F : OH) (hb0 : ¬ b < 0) (hb1 : ¬ e < b) (hb2 : ¬ n < e) :
    Met l Z (⟨"jdk/internal/util/Preconditions", "checkFromToIndex", "(IIILjava/util/function/BiFunction;)I"⟩ : MethodName) jdk_41_method_12_code 4 (some .int) (rm4 0 0 0 0) [(.int b), (.int e), (.int n), (.ref af)] F (Q_c_cftR b e n af F) := by
  refine Met.of_wp (Ls := #[.val (.int b), .val (.int e), .val (.int n), .val (.ref af)]) pn_25 (fun m => (entry_loc m _ _).trans rfl) ?_
  show W27 l Z (rm4 0 0 0 0) F 0 0 0 #[.val (.int b), .val (.int e), .val (.int n), .val (.ref af)] [] (Q_c_cftR b e n af F)
  refine wp_iload_n D_jdk_41_m12_0 rfl ?_
  refine wp_if_lt D_jdk_41_m12_1 (pc'' := 14) ⟨by decide, by decide⟩ (fun h1 => by exact absurd h1 hb0) (fun h1 => ?_)
  refine wp_iload_n D_jdk_41_m12_4 rfl ?_
  refine wp_iload_n D_jdk_41_m12_5 rfl ?_
  refine wp_icmp_gt D_jdk_41_m12_6 (pc'' := 14) ⟨by decide, by decide⟩ (fun h2 => by exact absurd h2 hb1) (fun h2 => ?_)
  refine wp_iload_n D_jdk_41_m12_9 rfl ?_
  refine wp_iload_n D_jdk_41_m12_10 rfl ?_
  refine wp_icmp_le D_jdk_41_m12_11 (pc'' := 22) ⟨by decide, by decide⟩ (fun h3 => ?_) (fun h3 => by exact absurd h3 hb2)
  refine wp_iload_n D_jdk_41_m12_22 rfl ?_
  refine wp_ireturn D_jdk_41_m12_23 rfl (by decide) (by decide) ?_
  exact ⟨rfl, rfl⟩
theorem pn_26 : plainFor (⟨"java/lang/String", "checkBoundsBeginEnd", "(III)V"⟩ : MethodName) = true := by first | exact plainFor_of_name (by first | (simp [plainName, overriddenIn]; done) | decide +kernel) | decide +kernel
def Q_c_cbe (b e n : Int32) (F : OH) : Option Value → OH → Prop := fun w' H' => w' = none ∧ H' = F
theorem D_jdk_42_m158_0 : Dc jdk_42_method_158_code 0 (.iload_n 0) 1 1 := ⟨by decide +kernel, rfl⟩
theorem D_jdk_42_m158_1 : Dc jdk_42_method_158_code 1 (.iload_n 1) 1 2 := ⟨by decide +kernel, rfl⟩
theorem D_jdk_42_m158_2 : Dc jdk_42_method_158_code 2 (.iload_n 2) 1 3 := ⟨by decide +kernel, rfl⟩
theorem D_jdk_42_m158_3 : Dc jdk_42_method_158_code 3 (.getstatic 1053) 3 6 := ⟨by decide +kernel, rfl⟩
theorem D_jdk_42_m158_6 : Dc jdk_42_method_158_code 6 (.invokestatic 1062) 3 9 := ⟨by decide +kernel, rfl⟩
theorem D_jdk_42_m158_9 : Dc jdk_42_method_158_code 9 (.pop) 1 10 := ⟨by decide +kernel, rfl⟩
theorem D_jdk_42_m158_10 : Dc jdk_42_method_158_code 10 (.return_) 1 11 := ⟨by decide +kernel, rfl⟩
abbrev W28 (l : Launch) (Z : State) := Wp none l Z "java/lang/String" "checkBoundsBeginEnd" jdk_42_method_158_code 3 none
set_option maxRecDepth 65536 in
set_option maxHeartbeats 40000000 in
theorem c_cbe (l : Launch) (Z : State) (a0 : Array Value) (hw : HW Z a0) (b e n : Int32) (cp : Int32) (fm : Value) (F : OH) (hs : Std Z cp fm) (hb0 : ¬ b < 0) (hb1 : ¬ e < b) (hb2 : ¬ n < e) :
    Met l Z (⟨"java/lang/String", "checkBoundsBeginEnd", "(III)V"⟩ : MethodName) jdk_42_method_158_code 3 none (rm4 1 0 0 15) [(.int b), (.int e), (.int n)] F (Q_c_cbe b e n F) := by
  refine Met.of_wp (Ls := #[.val (.int b), .val (.int e), .val (.int n)]) pn_26 (fun m => (entry_loc m _ _).trans rfl) ?_
  show W28 l Z (rm4 1 0 0 15) F 0 0 0 #[.val (.int b), .val (.int e), .val (.int n)] [] (Q_c_cbe b e n F)
  rcases ref_cases hs.2.2.2 with rfl | ⟨af, rfl⟩
  · skip
    show W28 l Z (rm4 1 0 0 15) F 0 0 0 #[.val (.int b), .val (.int e), .val (.int n)] [] (Q_c_cbe b e n F)
    refine wp_iload_n D_jdk_42_m158_0 rfl ?_
    refine wp_iload_n D_jdk_42_m158_1 rfl ?_
    refine wp_iload_n D_jdk_42_m158_2 rfl ?_
    refine wp_getstatic D_jdk_42_m158_3 (gw hw 113 rfl) hs.2.2.1 ?_
    refine wp_callS (c_cftN l Z a0 hw b e n F hb0 hb1 hb2) D_jdk_42_m158_6 (gw hw 115 rfl) (gw hw 116 rfl) (gw hw 114 rfl) (gw hw 117 rfl) (by decide) pd_12 rfl rfl rfl (lb rfl) (lb rfl) (lb rfl) (lb rfl) ?_
    rintro _ H_ ⟨rfl, eH⟩
    rw [eH]
    show W28 l Z (rm4 1 0 0 15) F 0 0 9 #[.val (.int b), .val (.int e), .val (.int n)] [(.int b)] (Q_c_cbe b e n F)
    refine wp_pop D_jdk_42_m158_9 rfl ?_
    refine wp_return D_jdk_42_m158_10 rfl (by decide) (by decide) ?_
    exact ⟨rfl, rfl⟩
  · skip
    show W28 l Z (rm4 1 0 0 15) F 0 0 0 #[.val (.int b), .val (.int e), .val (.int n)] [] (Q_c_cbe b e n F)
    refine wp_iload_n D_jdk_42_m158_0 rfl ?_
    refine wp_iload_n D_jdk_42_m158_1 rfl ?_
    refine wp_iload_n D_jdk_42_m158_2 rfl ?_
    refine wp_getstatic D_jdk_42_m158_3 (gw hw 113 rfl) hs.2.2.1 ?_
    refine wp_callS (c_cftR l Z a0 hw b e n af F hb0 hb1 hb2) D_jdk_42_m158_6 (gw hw 115 rfl) (gw hw 116 rfl) (gw hw 114 rfl) (gw hw 117 rfl) (by decide) pd_12 rfl rfl rfl (lb rfl) (lb rfl) (lb rfl) (lb rfl) ?_
    rintro _ H_ ⟨rfl, eH⟩
    rw [eH]
    show W28 l Z (rm4 1 0 0 15) F 0 0 9 #[.val (.int b), .val (.int e), .val (.int n)] [(.int b)] (Q_c_cbe b e n F)
    refine wp_pop D_jdk_42_m158_9 rfl ?_
    refine wp_return D_jdk_42_m158_10 rfl (by decide) (by decide) ?_
    exact ⟨rfl, rfl⟩
theorem pn_27 : plainFor (⟨"java/lang/StringLatin1", "newString", "([BII)Ljava/lang/String;"⟩ : MethodName) = true := by first | exact plainFor_of_name (by first | (simp [plainName, overriddenIn]; done) | decide +kernel) | decide +kernel
def Q_c_nst_1_1_1 (s v : Addr) (y0 : Int32) (F : OH) : Option Value → OH → Prop := fun w' H' => ∃ a u, w' = some (.ref a) ∧ H' = ((a, strO u) :: (u, fA .byte []) :: (s, strO v) :: (v, fA .byte [y0]) :: F)
theorem D_jdk_43_m47_0 : Dc jdk_43_method_47_code 0 (.iload_n 2) 1 1 := ⟨by decide +kernel, rfl⟩
theorem D_jdk_43_m47_1 : Dc jdk_43_method_47_code 1 (.ifCond .ne 6) 3 4 := ⟨by decide +kernel, rfl⟩
theorem D_jdk_43_m47_4 : Dc jdk_43_method_47_code 4 (.ldc 151) 2 6 := ⟨by decide +kernel, rfl⟩
theorem D_jdk_43_m47_6 : Dc jdk_43_method_47_code 6 (.areturn) 1 7 := ⟨by decide +kernel, rfl⟩
theorem D_jdk_43_m47_7 : Dc jdk_43_method_47_code 7 (.new 1) 3 10 := ⟨by decide +kernel, rfl⟩
theorem D_jdk_43_m47_10 : Dc jdk_43_method_47_code 10 (.dup) 1 11 := ⟨by decide +kernel, rfl⟩
theorem D_jdk_43_m47_11 : Dc jdk_43_method_47_code 11 (.aload_n 0) 1 12 := ⟨by decide +kernel, rfl⟩
theorem D_jdk_43_m47_12 : Dc jdk_43_method_47_code 12 (.iload_n 1) 1 13 := ⟨by decide +kernel, rfl⟩
theorem D_jdk_43_m47_13 : Dc jdk_43_method_47_code 13 (.iload_n 1) 1 14 := ⟨by decide +kernel, rfl⟩
theorem D_jdk_43_m47_14 : Dc jdk_43_method_47_code 14 (.iload_n 2) 1 15 := ⟨by decide +kernel, rfl⟩
theorem D_jdk_43_m47_15 : Dc jdk_43_method_47_code 15 (.iadd) 1 16 := ⟨by decide +kernel, rfl⟩
theorem D_jdk_43_m47_16 : Dc jdk_43_method_47_code 16 (.invokestatic 232) 3 19 := ⟨by decide +kernel, rfl⟩
theorem D_jdk_43_m47_19 : Dc jdk_43_method_47_code 19 (.iconst 0) 1 20 := ⟨by decide +kernel, rfl⟩
theorem D_jdk_43_m47_20 : Dc jdk_43_method_47_code 20 (.invokespecial 112) 3 23 := ⟨by decide +kernel, rfl⟩
theorem D_jdk_43_m47_23 : Dc jdk_43_method_47_code 23 (.areturn) 1 24 := ⟨by decide +kernel, rfl⟩
abbrev W29 (l : Launch) (Z : State) := Wp (some consts_1) l Z "java/lang/StringLatin1" "newString" jdk_43_method_47_code 3 (some (.object "java/lang/String"))
set_option maxRecDepth 65536 in
set_option maxHeartbeats 40000000 in
theorem c_nst_1_1_1 (l : Launch) (Z : State) (a0 : Array Value) (hw : HW Z a0) (s v : Addr) (y0 : Int32) (cp : Int32) (fm : Value) (F : OH) (hs : Std Z cp fm) :
    MetI consts_1 l Z (⟨"java/lang/StringLatin1", "newString", "([BII)Ljava/lang/String;"⟩ : MethodName) jdk_43_method_47_code 3 (some (.object "java/lang/String")) (rm4 0 2 4 0) [(.ref v), (.int 1), (.int 0)] ((s, strO v) :: (v, fA .byte [y0]) :: F) (Q_c_nst_1_1_1 s v y0 F) := by
  refine MetI.of_wp (Ls := #[.val (.ref v), .val (.int 1), .val (.int 0)]) pn_27 (fun m => (entry_loc m _ _).trans rfl) (own_EL l Z a0 hw) ?_
  show W29 l Z (rm4 0 2 4 0) ((s, strO v) :: (v, fA .byte [y0]) :: F) 0 0 0 #[.val (.ref v), .val (.int 1), .val (.int 0)] [] (Q_c_nst_1_1_1 s v y0 F)
  refine wp_iload_n D_jdk_43_m47_0 rfl ?_
  refine wp_if_ne D_jdk_43_m47_1 (pc'' := 7) ⟨by decide, by decide⟩ (fun h1 => by exact absurd h1 (by decide)) (fun h1 => ?_)
  refine wp_ldcH (n := 0) [] D_jdk_43_m47_4 (gw hw 171 rfl) (own_wS l Z a0 hw) (own_slo l Z a0 hw) (own_EL l Z a0 hw) (List.mem_of_getElem? (i := 1) rfl) ⟨by decide, by decide⟩ (by decide) (by decide) (by decide) (by decide) (by decide) ?_
  intro s2 v3
  show W29 l Z (rm4 0 2 4 0) ((s2, strO v3) :: (v3, fA .byte []) :: (s, strO v) :: (v, fA .byte [y0]) :: F) 2 4 6 #[.val (.ref v), .val (.int 1), .val (.int 0)] [(.ref s2)] (Q_c_nst_1_1_1 s v y0 F)
  refine wp_areturn D_jdk_43_m47_6 rfl rfl rfl rfl (by decide) (by decide) ?_
  exact ⟨_, _, rfl, rfl⟩
theorem pn_28 : plainFor (⟨"java/lang/String", "substring", "(II)Ljava/lang/String;"⟩ : MethodName) = true := by first | exact plainFor_of_name (by first | (simp [plainName, overriddenIn]; done) | decide +kernel) | decide +kernel
def Q_c_sub_1_1_1 (s v : Addr) (y0 : Int32) (F : OH) : Option Value → OH → Prop := fun w' H' => ∃ a u, w' = some (.ref a) ∧ H' = ((a, strO u) :: (u, fA .byte []) :: (s, strO v) :: (v, fA .byte [y0]) :: F)
theorem D_jdk_42_m92_0 : Dc jdk_42_method_92_code 0 (.aload_n 0) 1 1 := ⟨by decide +kernel, rfl⟩
theorem D_jdk_42_m92_1 : Dc jdk_42_method_92_code 1 (.invokevirtual 505) 3 4 := ⟨by decide +kernel, rfl⟩
theorem D_jdk_42_m92_4 : Dc jdk_42_method_92_code 4 (.istore_n 3) 1 5 := ⟨by decide +kernel, rfl⟩
theorem D_jdk_42_m92_5 : Dc jdk_42_method_92_code 5 (.iload_n 1) 1 6 := ⟨by decide +kernel, rfl⟩
theorem D_jdk_42_m92_6 : Dc jdk_42_method_92_code 6 (.iload_n 2) 1 7 := ⟨by decide +kernel, rfl⟩
theorem D_jdk_42_m92_7 : Dc jdk_42_method_92_code 7 (.iload_n 3) 1 8 := ⟨by decide +kernel, rfl⟩
theorem D_jdk_42_m92_8 : Dc jdk_42_method_92_code 8 (.invokestatic 521) 3 11 := ⟨by decide +kernel, rfl⟩
theorem D_jdk_42_m92_11 : Dc jdk_42_method_92_code 11 (.iload_n 1) 1 12 := ⟨by decide +kernel, rfl⟩
theorem D_jdk_42_m92_12 : Dc jdk_42_method_92_code 12 (.ifCond .ne 10) 3 15 := ⟨by decide +kernel, rfl⟩
theorem D_jdk_42_m92_22 : Dc jdk_42_method_92_code 22 (.iload_n 2) 1 23 := ⟨by decide +kernel, rfl⟩
theorem D_jdk_42_m92_23 : Dc jdk_42_method_92_code 23 (.iload_n 1) 1 24 := ⟨by decide +kernel, rfl⟩
theorem D_jdk_42_m92_24 : Dc jdk_42_method_92_code 24 (.isub) 1 25 := ⟨by decide +kernel, rfl⟩
theorem D_jdk_42_m92_25 : Dc jdk_42_method_92_code 25 (.istore 4) 2 27 := ⟨by decide +kernel, rfl⟩
theorem D_jdk_42_m92_27 : Dc jdk_42_method_92_code 27 (.aload_n 0) 1 28 := ⟨by decide +kernel, rfl⟩
theorem D_jdk_42_m92_28 : Dc jdk_42_method_92_code 28 (.invokevirtual 492) 3 31 := ⟨by decide +kernel, rfl⟩
theorem D_jdk_42_m92_31 : Dc jdk_42_method_92_code 31 (.ifCond .eq 16) 3 34 := ⟨by decide +kernel, rfl⟩
theorem D_jdk_42_m92_34 : Dc jdk_42_method_92_code 34 (.aload_n 0) 1 35 := ⟨by decide +kernel, rfl⟩
theorem D_jdk_42_m92_35 : Dc jdk_42_method_92_code 35 (.getfield 9) 3 38 := ⟨by decide +kernel, rfl⟩
theorem D_jdk_42_m92_38 : Dc jdk_42_method_92_code 38 (.iload_n 1) 1 39 := ⟨by decide +kernel, rfl⟩
theorem D_jdk_42_m92_39 : Dc jdk_42_method_92_code 39 (.iload 4) 2 41 := ⟨by decide +kernel, rfl⟩
theorem D_jdk_42_m92_41 : Dc jdk_42_method_92_code 41 (.invokestatic 685) 3 44 := ⟨by decide +kernel, rfl⟩
theorem D_jdk_42_m92_44 : Dc jdk_42_method_92_code 44 (.goto 13) 3 47 := ⟨by decide +kernel, rfl⟩
theorem D_jdk_42_m92_57 : Dc jdk_42_method_92_code 57 (.areturn) 1 58 := ⟨by decide +kernel, rfl⟩
abbrev W30 (l : Launch) (Z : State) := Wp (some consts_1) l Z "java/lang/String" "substring" jdk_42_method_92_code 5 (some (.object "java/lang/String"))
set_option maxRecDepth 65536 in
set_option maxHeartbeats 40000000 in
theorem c_sub_1_1_1 (l : Launch) (Z : State) (a0 : Array Value) (hw : HW Z a0) (s v : Addr) (y0 : Int32) (cp : Int32) (fm : Value) (F : OH) (hs : Std Z cp fm) :
    MetI consts_1 l Z (⟨"java/lang/String", "substring", "(II)Ljava/lang/String;"⟩ : MethodName) jdk_42_method_92_code 5 (some (.object "java/lang/String")) (rm4 2 2 4 29) [(.ref s), (.int 1), (.int 1)] ((s, strO v) :: (v, fA .byte [y0]) :: F) (Q_c_sub_1_1_1 s v y0 F) := by
  refine MetI.of_wp (Ls := #[.val (.ref s), .val (.int 1), .val (.int 1), .unset, .unset]) pn_28 (fun m => (entry_loc m _ _).trans rfl) (own_EL l Z a0 hw) ?_
  show W30 l Z (rm4 2 2 4 29) ((s, strO v) :: (v, fA .byte [y0]) :: F) 0 0 0 #[.val (.ref s), .val (.int 1), .val (.int 1), .unset, .unset] [] (Q_c_sub_1_1_1 s v y0 F)
  refine wp_aload_n D_jdk_42_m92_0 rfl rfl ?_
  refine wp_virtual (c_len_1 l Z a0 hw s v y0 cp fm F hs ) (exa_new (i := 0) rfl) D_jdk_42_m92_1 (gw hw 51 rfl) (gw hw 52 rfl) (gw hw 54 rfl) (gw hw 54 rfl) (gw hw 53 rfl) (gw hw 12 rfl) (gw hw 55 rfl) (by decide) pd_5 rfl rfl rfl (lb rfl) (lb rfl) (lb rfl) (lb rfl) ?_
  rintro _ _ ⟨rfl, rfl⟩
  show W30 l Z (rm4 2 2 4 29) ((s, strO v) :: (v, fA .byte [y0]) :: F) 0 0 4 #[.val (.ref s), .val (.int 1), .val (.int 1), .unset, .unset] [(.int 1)] (Q_c_sub_1_1_1 s v y0 F)
  refine wp_istore_n #[.val (.ref s), .val (.int 1), .val (.int 1), .val (.int 1), .unset] D_jdk_42_m92_4 rfl ?_
  refine wp_iload_n D_jdk_42_m92_5 rfl ?_
  refine wp_iload_n D_jdk_42_m92_6 rfl ?_
  refine wp_iload_n D_jdk_42_m92_7 rfl ?_
  refine wp_callS (c_cbe l Z a0 hw 1 1 1 cp fm ((s, strO v) :: (v, fA .byte [y0]) :: F) hs (by decide) (by decide) (by decide)) D_jdk_42_m92_8 (gw hw 110 rfl) (gw hw 111 rfl) (gw hw 12 rfl) (gw hw 112 rfl) (by decide) pd_11 rfl rfl rfl (lb rfl) (lb rfl) (lb rfl) (lb rfl) ?_
  rintro _ _ ⟨rfl, rfl⟩
  show W30 l Z (rm4 2 2 4 29) ((s, strO v) :: (v, fA .byte [y0]) :: F) 0 0 11 #[.val (.ref s), .val (.int 1), .val (.int 1), .val (.int 1), .unset] [] (Q_c_sub_1_1_1 s v y0 F)
  refine wp_iload_n D_jdk_42_m92_11 rfl ?_
  refine wp_if_ne D_jdk_42_m92_12 (pc'' := 22) ⟨by decide, by decide⟩ (fun h1 => ?_) (fun h1 => by exact absurd h1 (by decide))
  refine wp_iload_n D_jdk_42_m92_22 rfl ?_
  refine wp_iload_n D_jdk_42_m92_23 rfl ?_
  refine wp_isub D_jdk_42_m92_24 ?_
  rw [show ((1 : Int32) - (1 : Int32)) = (0 : Int32) from by decide]
  refine wp_istore #[.val (.ref s), .val (.int 1), .val (.int 1), .val (.int 1), .val (.int 0)] D_jdk_42_m92_25 rfl ?_
  refine wp_aload_n D_jdk_42_m92_27 rfl rfl ?_
  refine wp_virtual (c_lat l Z a0 hw s v cp fm ((v, fA .byte [y0]) :: F) hs ) (exa_new (i := 0) rfl) D_jdk_42_m92_28 (gw hw 45 rfl) (gw hw 46 rfl) (gw hw 48 rfl) (gw hw 48 rfl) (gw hw 47 rfl) (gw hw 12 rfl) (gw hw 49 rfl) (by decide) pd_4 rfl rfl rfl (lb rfl) (lb rfl) (lb rfl) (lb rfl) ?_
  rintro _ _ ⟨rfl, rfl⟩
  show W30 l Z (rm4 2 2 4 29) ((s, strO v) :: (v, fA .byte [y0]) :: F) 0 0 31 #[.val (.ref s), .val (.int 1), .val (.int 1), .val (.int 1), .val (.int 0)] [(.int 1)] (Q_c_sub_1_1_1 s v y0 F)
  refine wp_if_eq D_jdk_42_m92_31 (pc'' := 47) ⟨by decide, by decide⟩ (fun h2 => by exact absurd h2 (by decide)) (fun h2 => ?_)
  refine wp_aload_n D_jdk_42_m92_34 rfl rfl ?_
  refine wp_getfield D_jdk_42_m92_35 (gw hw 29 rfl) (fld_new (i := 0) (fi := 0) rfl rfl rfl) ?_
  refine wp_iload_n D_jdk_42_m92_38 rfl ?_
  refine wp_iload D_jdk_42_m92_39 rfl ?_
  refine wp_callSI (c_nst_1_1_1 l Z a0 hw s v y0 cp fm F hs ) (own_EL l Z a0 hw) D_jdk_42_m92_41 (gw hw 118 rfl) (gw hw 119 rfl) (gw hw 63 rfl) (gw hw 120 rfl) (by decide) pd_13 rfl rfl rfl (lb rfl) (lb rfl) (lb rfl) (lb rfl) ?_
  rintro _ _ ⟨sa3, su4, rfl, rfl⟩
  show W30 l Z (rm4 2 2 4 29) ((sa3, strO su4) :: (su4, fA .byte []) :: (s, strO v) :: (v, fA .byte [y0]) :: F) 2 4 44 #[.val (.ref s), .val (.int 1), .val (.int 1), .val (.int 1), .val (.int 0)] [(.ref sa3)] (Q_c_sub_1_1_1 s v y0 F)
  refine wp_goto D_jdk_42_m92_44 (pc'' := 57) ⟨by decide, by decide⟩ ?_
  refine wp_areturn D_jdk_42_m92_57 rfl rfl rfl rfl (by decide) (by decide) ?_
  exact ⟨_, _, rfl, rfl⟩
theorem pn_29 : plainFor (⟨"java/lang/String", "substring", "(I)Ljava/lang/String;"⟩ : MethodName) = true := by first | exact plainFor_of_name (by first | (simp [plainName, overriddenIn]; done) | decide +kernel) | decide +kernel
def Q_c_sb1_1_1_1 (s v : Addr) (y0 : Int32) (F : OH) : Option Value → OH → Prop := fun w' H' => ∃ a u, w' = some (.ref a) ∧ H' = ((a, strO u) :: (u, fA .byte []) :: (s, strO v) :: (v, fA .byte [y0]) :: F)
theorem D_jdk_42_m91_0 : Dc jdk_42_method_91_code 0 (.aload_n 0) 1 1 := ⟨by decide +kernel, rfl⟩
theorem D_jdk_42_m91_1 : Dc jdk_42_method_91_code 1 (.iload_n 1) 1 2 := ⟨by decide +kernel, rfl⟩
theorem D_jdk_42_m91_2 : Dc jdk_42_method_91_code 2 (.aload_n 0) 1 3 := ⟨by decide +kernel, rfl⟩
theorem D_jdk_42_m91_3 : Dc jdk_42_method_91_code 3 (.invokevirtual 505) 3 6 := ⟨by decide +kernel, rfl⟩
theorem D_jdk_42_m91_6 : Dc jdk_42_method_91_code 6 (.invokevirtual 681) 3 9 := ⟨by decide +kernel, rfl⟩
theorem D_jdk_42_m91_9 : Dc jdk_42_method_91_code 9 (.areturn) 1 10 := ⟨by decide +kernel, rfl⟩
abbrev W31 (l : Launch) (Z : State) := Wp (some consts_1) l Z "java/lang/String" "substring" jdk_42_method_91_code 2 (some (.object "java/lang/String"))
set_option maxRecDepth 65536 in
set_option maxHeartbeats 40000000 in
theorem c_sb1_1_1_1 (l : Launch) (Z : State) (a0 : Array Value) (hw : HW Z a0) (s v : Addr) (y0 : Int32) (cp : Int32) (fm : Value) (F : OH) (hs : Std Z cp fm) :
    MetI consts_1 l Z (⟨"java/lang/String", "substring", "(I)Ljava/lang/String;"⟩ : MethodName) jdk_42_method_91_code 2 (some (.object "java/lang/String")) (rm4 3 2 4 45) [(.ref s), (.int 1)] ((s, strO v) :: (v, fA .byte [y0]) :: F) (Q_c_sb1_1_1_1 s v y0 F) := by
  refine MetI.of_wp (Ls := #[.val (.ref s), .val (.int 1)]) pn_29 (fun m => (entry_loc m _ _).trans rfl) (own_EL l Z a0 hw) ?_
  show W31 l Z (rm4 3 2 4 45) ((s, strO v) :: (v, fA .byte [y0]) :: F) 0 0 0 #[.val (.ref s), .val (.int 1)] [] (Q_c_sb1_1_1_1 s v y0 F)
  refine wp_aload_n D_jdk_42_m91_0 rfl rfl ?_
  refine wp_iload_n D_jdk_42_m91_1 rfl ?_
  refine wp_aload_n D_jdk_42_m91_2 rfl rfl ?_
  refine wp_virtual (c_len_1 l Z a0 hw s v y0 cp fm F hs ) (exa_new (i := 0) rfl) D_jdk_42_m91_3 (gw hw 51 rfl) (gw hw 52 rfl) (gw hw 54 rfl) (gw hw 54 rfl) (gw hw 53 rfl) (gw hw 12 rfl) (gw hw 55 rfl) (by decide) pd_5 rfl rfl rfl (lb rfl) (lb rfl) (lb rfl) (lb rfl) ?_
  rintro _ _ ⟨rfl, rfl⟩
  show W31 l Z (rm4 3 2 4 45) ((s, strO v) :: (v, fA .byte [y0]) :: F) 0 0 6 #[.val (.ref s), .val (.int 1)] [(.int 1), (.int 1), (.ref s)] (Q_c_sb1_1_1_1 s v y0 F)
  refine wp_virtualI (c_sub_1_1_1 l Z a0 hw s v y0 cp fm F hs ) (exa_new (i := 0) rfl) (own_EL l Z a0 hw) D_jdk_42_m91_6 (gw hw 105 rfl) (gw hw 106 rfl) (gw hw 108 rfl) (gw hw 108 rfl) (gw hw 107 rfl) (gw hw 12 rfl) (gw hw 109 rfl) (by decide) pd_10 rfl rfl rfl (lb rfl) (lb rfl) (lb rfl) (lb rfl) ?_
  rintro _ _ ⟨sa1, su2, rfl, rfl⟩
  show W31 l Z (rm4 3 2 4 45) ((sa1, strO su2) :: (su2, fA .byte []) :: (s, strO v) :: (v, fA .byte [y0]) :: F) 2 4 9 #[.val (.ref s), .val (.int 1)] [(.ref sa1)] (Q_c_sb1_1_1_1 s v y0 F)
  refine wp_areturn D_jdk_42_m91_9 rfl rfl rfl rfl (by decide) (by decide) ?_
  exact ⟨_, _, rfl, rfl⟩
def Q_c_fr_1_0 (s v : Addr) (y0 : Int32) (F : OH) : Option Value → OH → Prop := fun w' H' => ∃ o a u, w' = some (.ref o) ∧ H' = ((o, fI "java/util/Optional" sg_2 [(.ref a)]) :: (a, strO u) :: (u, fA .byte []) :: (s, strO v) :: (v, fA .byte [y0]) :: F)
abbrev W32 (l : Launch) (Z : State) := Wp (some consts_1) l Z "com/example/bylint/bylint/description/UriReferences" "fragment" prog_9_method_6_code 2 (some (.object "java/util/Optional"))
set_option maxRecDepth 65536 in
set_option maxHeartbeats 40000000 in
theorem c_fr_1_0 (l : Launch) (Z : State) (a0 : Array Value) (hw : HW Z a0) (s v : Addr) (y0 : Int32) (cp : Int32) (fm : Value) (F : OH) (hs : Std Z cp fm) (hq0 : y0 = 35) :
    MetI consts_1 l Z (⟨"com/example/bylint/bylint/description/UriReferences", "fragment", "(Ljava/lang/String;)Ljava/util/Optional;"⟩ : MethodName) prog_9_method_6_code 2 (some (.object "java/util/Optional")) (rm4 4 3 5 59) [(.ref s)] ((s, strO v) :: (v, fA .byte [y0]) :: F) (Q_c_fr_1_0 s v y0 F) := by
  refine MetI.of_wp (Ls := #[.val (.ref s), .unset]) pn_24 (fun m => (entry_loc m _ _).trans rfl) (own_EL l Z a0 hw) ?_
  show W32 l Z (rm4 4 3 5 59) ((s, strO v) :: (v, fA .byte [y0]) :: F) 0 0 0 #[.val (.ref s), .unset] [] (Q_c_fr_1_0 s v y0 F)
  refine wp_aload_n D_prog_9_m6_0 rfl rfl ?_
  refine wp_bipush 35 D_prog_9_m6_1 (by decide) ?_
  refine wp_virtual (c_si_1 l Z a0 hw s v y0 (0 : Int32) cp fm F hs (c_ioc_1_0 l Z a0 hw s v y0 F hq0)) (exa_new (i := 0) rfl) D_prog_9_m6_3 (gw hw 35 rfl) (gw hw 36 rfl) (gw hw 38 rfl) (gw hw 38 rfl) (gw hw 37 rfl) (gw hw 12 rfl) (gw hw 39 rfl) (by decide) pd_20 rfl rfl rfl (lb rfl) (lb rfl) (lb rfl) (lb rfl) ?_
  rintro _ _ ⟨rfl, rfl⟩
  show W32 l Z (rm4 4 3 5 59) ((s, strO v) :: (v, fA .byte [y0]) :: F) 0 0 6 #[.val (.ref s), .unset] [(.int 0)] (Q_c_fr_1_0 s v y0 F)
  refine wp_istore_n #[.val (.ref s), .val (.int 0)] D_prog_9_m6_6 rfl ?_
  refine wp_iload_n D_prog_9_m6_7 rfl ?_
  refine wp_if_ge D_prog_9_m6_8 (pc'' := 17) ⟨by decide, by decide⟩ (fun h1 => ?_) (fun h1 => by exact absurd h1 (by decide))
  refine wp_aload_n D_prog_9_m6_17 rfl rfl ?_
  refine wp_iload_n D_prog_9_m6_18 rfl ?_
  refine wp_iconst 1 D_prog_9_m6_19 (by decide) ?_
  refine wp_iadd D_prog_9_m6_20 ?_
  rw [show ((0 : Int32) + (1 : Int32)) = (1 : Int32) from by decide]
  refine wp_virtualI (c_sb1_1_1_1 l Z a0 hw s v y0 cp fm F hs ) (exa_new (i := 0) rfl) (own_EL l Z a0 hw) D_prog_9_m6_21 (gw hw 100 rfl) (gw hw 101 rfl) (gw hw 103 rfl) (gw hw 103 rfl) (gw hw 102 rfl) (gw hw 12 rfl) (gw hw 104 rfl) (by decide) pd_22 rfl rfl rfl (lb rfl) (lb rfl) (lb rfl) (lb rfl) ?_
  rintro _ _ ⟨sa2, su3, rfl, rfl⟩
  show W32 l Z (rm4 4 3 5 59) ((sa2, strO su3) :: (su3, fA .byte []) :: (s, strO v) :: (v, fA .byte [y0]) :: F) 2 4 24 #[.val (.ref s), .val (.int 0)] [(.ref sa2)] (Q_c_fr_1_0 s v y0 F)
  refine wp_callS (c_of l Z a0 hw sa2 ((sa2, strO su3) :: (su3, fA .byte []) :: (s, strO v) :: (v, fA .byte [y0]) :: F) ) D_prog_9_m6_24 (gw hw 140 rfl) (gw hw 141 rfl) (gw hw 77 rfl) (gw hw 142 rfl) (by decide) pd_23 rfl rfl rfl (lb rfl) (lb rfl) (lb rfl) (lb rfl) ?_
  rintro _ _ ⟨o4, rfl, rfl⟩
  show W32 l Z (rm4 4 3 5 59) ((o4, fI "java/util/Optional" sg_2 [(.ref sa2)]) :: (sa2, strO su3) :: (su3, fA .byte []) :: (s, strO v) :: (v, fA .byte [y0]) :: F) 3 5 27 #[.val (.ref s), .val (.int 0)] [(.ref o4)] (Q_c_fr_1_0 s v y0 F)
  refine wp_areturn D_prog_9_m6_27 rfl rfl rfl rfl (by decide) (by decide) ?_
  exact ⟨_, _, _, rfl, rfl⟩
def Q_c_min_2_2  (F : OH) : Option Value → OH → Prop := fun w' H' => w' = some (.int 2) ∧ H' = F
set_option maxRecDepth 65536 in
set_option maxHeartbeats 40000000 in
theorem c_min_2_2 (l : Launch) (Z : State) (a0 : Array Value) (hw : HW Z a0)  (F : OH) :
    Met l Z (⟨"java/lang/Math", "min", "(II)I"⟩ : MethodName) jdk_29_method_69_code 2 (some .int) (rm4 0 0 0 0) [(.int 2), (.int 2)] F (Q_c_min_2_2 F) := by
  refine Met.of_wp (Ls := #[.val (.int 2), .val (.int 2)]) pn_19 (fun m => (entry_loc m _ _).trans rfl) ?_
  show W21 l Z (rm4 0 0 0 0) F 0 0 0 #[.val (.int 2), .val (.int 2)] [] (Q_c_min_2_2 F)
  refine wp_iload_n D_jdk_29_m69_0 rfl ?_
  refine wp_iload_n D_jdk_29_m69_1 rfl ?_
  refine wp_icmp_gt D_jdk_29_m69_2 (pc'' := 9) ⟨by decide, by decide⟩ (fun h1 => by exact absurd h1 (by decide)) (fun h1 => ?_)
  refine wp_iload_n D_jdk_29_m69_5 rfl ?_
  refine wp_goto D_jdk_29_m69_6 (pc'' := 10) ⟨by decide, by decide⟩ ?_
  refine wp_ireturn D_jdk_29_m69_10 rfl (by decide) (by decide) ?_
  exact ⟨rfl, rfl⟩
def Q_ioc_2 (s v : Addr) (y0 y1 : Int32) (r : Int32) (F : OH) : Option Value → OH → Prop := fun w' H' => w' = some (.int r) ∧ H' = ((s, strO v) :: (v, fA .byte [y0, y1]) :: F)
def Q_c_lix_2 (s v : Addr) (y0 y1 : Int32) (r : Int32) (F : OH) : Option Value → OH → Prop := fun w' H' => w' = some (.int r) ∧ H' = ((s, strO v) :: (v, fA .byte [y0, y1]) :: F)
set_option maxRecDepth 65536 in
set_option maxHeartbeats 40000000 in
theorem c_lix_2 (l : Launch) (Z : State) (a0 : Array Value) (hw : HW Z a0) (s v : Addr) (y0 y1 : Int32) (r : Int32) (cp : Int32) (fm : Value) (F : OH) (hs : Std Z cp fm) (hM : Met l Z (⟨"java/lang/StringLatin1", "indexOfChar", "([BIII)I"⟩ : MethodName) jdk_43_method_23_code 6 (some .int) (rm4 0 0 0 0) [.ref v, .int 35, .int 0, .int 2] ((s, strO v) :: (v, fA .byte [y0, y1]) :: F) (Q_ioc_2 s v y0 y1 r F)) :
    Met l Z (⟨"java/lang/StringLatin1", "indexOf", "([BIII)I"⟩ : MethodName) jdk_43_method_22_code 4 (some .int) (rm4 1 0 0 17) [(.ref v), (.int 35), (.int 0), (.int 2)] ((s, strO v) :: (v, fA .byte [y0, y1]) :: F) (Q_c_lix_2 s v y0 y1 r F) := by
  refine Met.of_wp (Ls := #[.val (.ref v), .val (.int 35), .val (.int 0), .val (.int 2)]) pn_21 (fun m => (entry_loc m _ _).trans rfl) ?_
  show W22 l Z (rm4 1 0 0 17) ((s, strO v) :: (v, fA .byte [y0, y1]) :: F) 0 0 0 #[.val (.ref v), .val (.int 35), .val (.int 0), .val (.int 2)] [] (Q_c_lix_2 s v y0 y1 r F)
  refine wp_iload_n D_jdk_43_m22_0 rfl ?_
  refine wp_callS (c_can l Z a0 hw  ((s, strO v) :: (v, fA .byte [y0, y1]) :: F) ) D_jdk_43_m22_1 (gw hw 65 rfl) (gw hw 66 rfl) (gw hw 63 rfl) (gw hw 67 rfl) (by decide) pd_15 rfl rfl rfl (lb rfl) (lb rfl) (lb rfl) (lb rfl) ?_
  rintro _ _ ⟨rfl, rfl⟩
  show W22 l Z (rm4 1 0 0 17) ((s, strO v) :: (v, fA .byte [y0, y1]) :: F) 0 0 4 #[.val (.ref v), .val (.int 35), .val (.int 0), .val (.int 2)] [(.int 1)] (Q_c_lix_2 s v y0 y1 r F)
  refine wp_if_ne D_jdk_43_m22_4 (pc'' := 9) ⟨by decide, by decide⟩ (fun h1 => ?_) (fun h1 => by exact absurd h1 (by decide))
  refine wp_iload_n D_jdk_43_m22_9 rfl ?_
  refine wp_iconst 0 D_jdk_43_m22_10 (by decide) ?_
  refine wp_callS (c_max_0_0 l Z a0 hw  ((s, strO v) :: (v, fA .byte [y0, y1]) :: F) ) D_jdk_43_m22_11 (gw hw 68 rfl) (gw hw 69 rfl) (gw hw 70 rfl) (gw hw 71 rfl) (by decide) pd_3 rfl rfl rfl (lb rfl) (lb rfl) (lb rfl) (lb rfl) ?_
  rintro _ _ ⟨rfl, rfl⟩
  show W22 l Z (rm4 1 0 0 17) ((s, strO v) :: (v, fA .byte [y0, y1]) :: F) 0 0 14 #[.val (.ref v), .val (.int 35), .val (.int 0), .val (.int 2)] [(.int 0)] (Q_c_lix_2 s v y0 y1 r F)
  refine wp_istore_n #[.val (.ref v), .val (.int 35), .val (.int 0), .val (.int 2)] D_jdk_43_m22_14 rfl ?_
  refine wp_iload_n D_jdk_43_m22_15 rfl ?_
  refine wp_aload_n D_jdk_43_m22_16 rfl rfl ?_
  refine wp_lengthI (i := 1) (2 : Int32) D_jdk_43_m22_17 rfl rfl ?_
  refine wp_callS (c_min_2_2 l Z a0 hw  ((s, strO v) :: (v, fA .byte [y0, y1]) :: F) ) D_jdk_43_m22_18 (gw hw 72 rfl) (gw hw 73 rfl) (gw hw 70 rfl) (gw hw 74 rfl) (by decide) pd_3 rfl rfl rfl (lb rfl) (lb rfl) (lb rfl) (lb rfl) ?_
  rintro _ _ ⟨rfl, rfl⟩
  show W22 l Z (rm4 1 0 0 17) ((s, strO v) :: (v, fA .byte [y0, y1]) :: F) 0 0 21 #[.val (.ref v), .val (.int 35), .val (.int 0), .val (.int 2)] [(.int 2)] (Q_c_lix_2 s v y0 y1 r F)
  refine wp_istore_n #[.val (.ref v), .val (.int 35), .val (.int 0), .val (.int 2)] D_jdk_43_m22_21 rfl ?_
  refine wp_iload_n D_jdk_43_m22_22 rfl ?_
  refine wp_iload_n D_jdk_43_m22_23 rfl ?_
  refine wp_icmp_lt D_jdk_43_m22_24 (pc'' := 29) ⟨by decide, by decide⟩ (fun h2 => ?_) (fun h2 => by exact absurd h2 (by decide))
  refine wp_aload_n D_jdk_43_m22_29 rfl rfl ?_
  refine wp_iload_n D_jdk_43_m22_30 rfl ?_
  refine wp_iload_n D_jdk_43_m22_31 rfl ?_
  refine wp_iload_n D_jdk_43_m22_32 rfl ?_
  refine wp_callS hM D_jdk_43_m22_33 (gw hw 97 rfl) (gw hw 98 rfl) (gw hw 63 rfl) (gw hw 99 rfl) (by decide) pd_7 rfl rfl rfl (lb rfl) (lb rfl) (lb rfl) (lb rfl) ?_
  rintro _ _ ⟨rfl, rfl⟩
  show W22 l Z (rm4 1 0 0 17) ((s, strO v) :: (v, fA .byte [y0, y1]) :: F) 0 0 36 #[.val (.ref v), .val (.int 35), .val (.int 0), .val (.int 2)] [(.int r)] (Q_c_lix_2 s v y0 y1 r F)
  refine wp_ireturn D_jdk_43_m22_36 rfl (by decide) (by decide) ?_
  exact ⟨rfl, rfl⟩
def Q_c_six_2 (s v : Addr) (y0 y1 : Int32) (r : Int32) (F : OH) : Option Value → OH → Prop := fun w' H' => w' = some (.int r) ∧ H' = ((s, strO v) :: (v, fA .byte [y0, y1]) :: F)
set_option maxRecDepth 65536 in
set_option maxHeartbeats 40000000 in
theorem c_six_2 (l : Launch) (Z : State) (a0 : Array Value) (hw : HW Z a0) (s v : Addr) (y0 y1 : Int32) (r : Int32) (cp : Int32) (fm : Value) (F : OH) (hs : Std Z cp fm) (hM : Met l Z (⟨"java/lang/StringLatin1", "indexOfChar", "([BIII)I"⟩ : MethodName) jdk_43_method_23_code 6 (some .int) (rm4 0 0 0 0) [.ref v, .int 35, .int 0, .int 2] ((s, strO v) :: (v, fA .byte [y0, y1]) :: F) (Q_ioc_2 s v y0 y1 r F)) :
    Met l Z (⟨"java/lang/String", "indexOf", "(II)I"⟩ : MethodName) jdk_42_method_80_code 3 (some .int) (rm4 2 0 0 32) [(.ref s), (.int 35), (.int 0)] ((s, strO v) :: (v, fA .byte [y0, y1]) :: F) (Q_c_six_2 s v y0 y1 r F) := by
  refine Met.of_wp (Ls := #[.val (.ref s), .val (.int 35), .val (.int 0)]) pn_22 (fun m => (entry_loc m _ _).trans rfl) ?_
  show W23 l Z (rm4 2 0 0 32) ((s, strO v) :: (v, fA .byte [y0, y1]) :: F) 0 0 0 #[.val (.ref s), .val (.int 35), .val (.int 0)] [] (Q_c_six_2 s v y0 y1 r F)
  refine wp_aload_n D_jdk_42_m80_0 rfl rfl ?_
  refine wp_virtual (c_lat l Z a0 hw s v cp fm ((v, fA .byte [y0, y1]) :: F) hs ) (exa_new (i := 0) rfl) D_jdk_42_m80_1 (gw hw 45 rfl) (gw hw 46 rfl) (gw hw 48 rfl) (gw hw 48 rfl) (gw hw 47 rfl) (gw hw 12 rfl) (gw hw 49 rfl) (by decide) pd_4 rfl rfl rfl (lb rfl) (lb rfl) (lb rfl) (lb rfl) ?_
  rintro _ _ ⟨rfl, rfl⟩
  show W23 l Z (rm4 2 0 0 32) ((s, strO v) :: (v, fA .byte [y0, y1]) :: F) 0 0 4 #[.val (.ref s), .val (.int 35), .val (.int 0)] [(.int 1)] (Q_c_six_2 s v y0 y1 r F)
  refine wp_if_eq D_jdk_42_m80_4 (pc'' := 23) ⟨by decide, by decide⟩ (fun h1 => by exact absurd h1 (by decide)) (fun h1 => ?_)
  refine wp_aload_n D_jdk_42_m80_7 rfl rfl ?_
  refine wp_getfield D_jdk_42_m80_8 (gw hw 29 rfl) (fld_new (i := 0) (fi := 0) rfl rfl rfl) ?_
  refine wp_iload_n D_jdk_42_m80_11 rfl ?_
  refine wp_iload_n D_jdk_42_m80_12 rfl ?_
  refine wp_aload_n D_jdk_42_m80_13 rfl rfl ?_
  refine wp_virtual (c_len_2 l Z a0 hw s v y0 y1 cp fm F hs ) (exa_new (i := 0) rfl) D_jdk_42_m80_14 (gw hw 51 rfl) (gw hw 52 rfl) (gw hw 54 rfl) (gw hw 54 rfl) (gw hw 53 rfl) (gw hw 12 rfl) (gw hw 55 rfl) (by decide) pd_5 rfl rfl rfl (lb rfl) (lb rfl) (lb rfl) (lb rfl) ?_
  rintro _ _ ⟨rfl, rfl⟩
  show W23 l Z (rm4 2 0 0 32) ((s, strO v) :: (v, fA .byte [y0, y1]) :: F) 0 0 17 #[.val (.ref s), .val (.int 35), .val (.int 0)] [(.int 2), (.int 0), (.int 35), (.ref v)] (Q_c_six_2 s v y0 y1 r F)
  refine wp_callS (c_lix_2 l Z a0 hw s v y0 y1 r cp fm F hs hM) D_jdk_42_m80_17 (gw hw 61 rfl) (gw hw 62 rfl) (gw hw 63 rfl) (gw hw 64 rfl) (by decide) pd_7 rfl rfl rfl (lb rfl) (lb rfl) (lb rfl) (lb rfl) ?_
  rintro _ _ ⟨rfl, rfl⟩
  show W23 l Z (rm4 2 0 0 32) ((s, strO v) :: (v, fA .byte [y0, y1]) :: F) 0 0 20 #[.val (.ref s), .val (.int 35), .val (.int 0)] [(.int r)] (Q_c_six_2 s v y0 y1 r F)
  refine wp_goto D_jdk_42_m80_20 (pc'' := 36) ⟨by decide, by decide⟩ ?_
  refine wp_ireturn D_jdk_42_m80_36 rfl (by decide) (by decide) ?_
  exact ⟨rfl, rfl⟩
def Q_c_si_2 (s v : Addr) (y0 y1 : Int32) (r : Int32) (F : OH) : Option Value → OH → Prop := fun w' H' => w' = some (.int r) ∧ H' = ((s, strO v) :: (v, fA .byte [y0, y1]) :: F)
set_option maxRecDepth 65536 in
set_option maxHeartbeats 40000000 in
theorem c_si_2 (l : Launch) (Z : State) (a0 : Array Value) (hw : HW Z a0) (s v : Addr) (y0 y1 : Int32) (r : Int32) (cp : Int32) (fm : Value) (F : OH) (hs : Std Z cp fm) (hM : Met l Z (⟨"java/lang/StringLatin1", "indexOfChar", "([BIII)I"⟩ : MethodName) jdk_43_method_23_code 6 (some .int) (rm4 0 0 0 0) [.ref v, .int 35, .int 0, .int 2] ((s, strO v) :: (v, fA .byte [y0, y1]) :: F) (Q_ioc_2 s v y0 y1 r F)) :
    Met l Z (⟨"java/lang/String", "indexOf", "(I)I"⟩ : MethodName) jdk_42_method_79_code 2 (some .int) (rm4 3 0 0 46) [(.ref s), (.int 35)] ((s, strO v) :: (v, fA .byte [y0, y1]) :: F) (Q_c_si_2 s v y0 y1 r F) := by
  refine Met.of_wp (Ls := #[.val (.ref s), .val (.int 35)]) pn_23 (fun m => (entry_loc m _ _).trans rfl) ?_
  show W24 l Z (rm4 3 0 0 46) ((s, strO v) :: (v, fA .byte [y0, y1]) :: F) 0 0 0 #[.val (.ref s), .val (.int 35)] [] (Q_c_si_2 s v y0 y1 r F)
  refine wp_aload_n D_jdk_42_m79_0 rfl rfl ?_
  refine wp_iload_n D_jdk_42_m79_1 rfl ?_
  refine wp_iconst 0 D_jdk_42_m79_2 (by decide) ?_
  refine wp_virtual (c_six_2 l Z a0 hw s v y0 y1 r cp fm F hs hM) (exa_new (i := 0) rfl) D_jdk_42_m79_3 (gw hw 40 rfl) (gw hw 41 rfl) (gw hw 43 rfl) (gw hw 43 rfl) (gw hw 42 rfl) (gw hw 12 rfl) (gw hw 44 rfl) (by decide) pd_3 rfl rfl rfl (lb rfl) (lb rfl) (lb rfl) (lb rfl) ?_
  rintro _ _ ⟨rfl, rfl⟩
  show W24 l Z (rm4 3 0 0 46) ((s, strO v) :: (v, fA .byte [y0, y1]) :: F) 0 0 6 #[.val (.ref s), .val (.int 35)] [(.int r)] (Q_c_si_2 s v y0 y1 r F)
  refine wp_ireturn D_jdk_42_m79_6 rfl (by decide) (by decide) ?_
  exact ⟨rfl, rfl⟩
set_option maxRecDepth 65536 in
set_option maxHeartbeats 40000000 in
theorem c_ioc_2_m (l : Launch) (Z : State) (a0 : Array Value) (hw : HW Z a0) (s v : Addr) (y0 y1 : Int32) (F : OH) (hq0 : ¬ y0 = 35) (hq1 : ¬ y1 = 35) :
    Met l Z (⟨"java/lang/StringLatin1", "indexOfChar", "([BIII)I"⟩ : MethodName) jdk_43_method_23_code 6 (some .int) (rm4 0 0 0 0) [(.ref v), (.int 35), (.int 0), (.int 2)] ((s, strO v) :: (v, fA .byte [y0, y1]) :: F) (Q_ioc_2 s v y0 y1 (-1 : Int32) F) := by
  refine Met.of_wp (Ls := #[.val (.ref v), .val (.int 35), .val (.int 0), .val (.int 2), .unset, .unset]) pn_20 (fun m => (entry_loc m _ _).trans rfl) ?_
  show W26 l Z (rm4 0 0 0 0) ((s, strO v) :: (v, fA .byte [y0, y1]) :: F) 0 0 0 #[.val (.ref v), .val (.int 35), .val (.int 0), .val (.int 2), .unset, .unset] [] (Q_ioc_2 s v y0 y1 (-1 : Int32) F)
  refine wp_iload_n D_jdk_43_m23_0 rfl ?_
  refine wp_i2b D_jdk_43_m23_1 ?_
  rw [show (35 : Int32).toInt8.toInt32 = (35 : Int32) from by decide]
  refine wp_istore #[.val (.ref v), .val (.int 35), .val (.int 0), .val (.int 2), .val (.int 35), .unset] D_jdk_43_m23_2 rfl ?_
  refine wp_iload_n D_jdk_43_m23_4 rfl ?_
  refine wp_istore #[.val (.ref v), .val (.int 35), .val (.int 0), .val (.int 2), .val (.int 35), .val (.int 0)] D_jdk_43_m23_5 rfl ?_
  refine wp_iload D_jdk_43_m23_7 rfl ?_
  refine wp_iload_n D_jdk_43_m23_9 rfl ?_
  refine wp_icmp_ge D_jdk_43_m23_10 (pc'' := 31) ⟨by decide, by decide⟩ (fun h1 => by exact absurd h1 (by decide)) (fun h1 => ?_)
  refine wp_aload_n D_jdk_43_m23_13 rfl rfl ?_
  refine wp_iload D_jdk_43_m23_14 rfl ?_
  refine wp_baload (i := 1) (0) D_jdk_43_m23_16 rfl (by decide) (by decide) rfl ?_
  refine wp_iload D_jdk_43_m23_17 rfl ?_
  refine wp_icmp_ne D_jdk_43_m23_19 (pc'' := 25) ⟨by decide, by decide⟩ (fun h2 => ?_) (fun h2 => by exact absurd h2 hq0)
  refine wp_iinc 1 #[.val (.ref v), .val (.int 35), .val (.int 0), .val (.int 2), .val (.int 35), .val (.int 1)] D_jdk_43_m23_25 rfl rfl (by rw [show (0 : Int32) + (1 : Int32) = (1 : Int32) from by decide]; rfl) ?_
  refine wp_goto D_jdk_43_m23_28 (pc'' := 7) ⟨by decide, by decide⟩ ?_
  refine wp_iload D_jdk_43_m23_7 rfl ?_
  refine wp_iload_n D_jdk_43_m23_9 rfl ?_
  refine wp_icmp_ge D_jdk_43_m23_10 (pc'' := 31) ⟨by decide, by decide⟩ (fun h3 => by exact absurd h3 (by decide)) (fun h3 => ?_)
  refine wp_aload_n D_jdk_43_m23_13 rfl rfl ?_
  refine wp_iload D_jdk_43_m23_14 rfl ?_
  refine wp_baload (i := 1) (1) D_jdk_43_m23_16 rfl (by decide) (by decide) rfl ?_
  refine wp_iload D_jdk_43_m23_17 rfl ?_
  refine wp_icmp_ne D_jdk_43_m23_19 (pc'' := 25) ⟨by decide, by decide⟩ (fun h4 => ?_) (fun h4 => by exact absurd h4 hq1)
  refine wp_iinc 1 #[.val (.ref v), .val (.int 35), .val (.int 0), .val (.int 2), .val (.int 35), .val (.int 2)] D_jdk_43_m23_25 rfl rfl (by rw [show (1 : Int32) + (1 : Int32) = (2 : Int32) from by decide]; rfl) ?_
  refine wp_goto D_jdk_43_m23_28 (pc'' := 7) ⟨by decide, by decide⟩ ?_
  refine wp_iload D_jdk_43_m23_7 rfl ?_
  refine wp_iload_n D_jdk_43_m23_9 rfl ?_
  refine wp_icmp_ge D_jdk_43_m23_10 (pc'' := 31) ⟨by decide, by decide⟩ (fun h5 => ?_) (fun h5 => by exact absurd h5 (by decide))
  refine wp_iconst (-1) D_jdk_43_m23_31 (by decide) ?_
  refine wp_ireturn D_jdk_43_m23_32 rfl (by decide) (by decide) ?_
  exact ⟨rfl, rfl⟩
def Q_c_fr_2_m (s v : Addr) (y0 y1 : Int32) (aE : Addr) (F : OH) : Option Value → OH → Prop := fun w' H' => w' = some (.ref aE) ∧ H' = ((s, strO v) :: (v, fA .byte [y0, y1]) :: F)
set_option maxRecDepth 65536 in
set_option maxHeartbeats 40000000 in
theorem c_fr_2_m (l : Launch) (Z : State) (a0 : Array Value) (hw : HW Z a0) (s v : Addr) (y0 y1 : Int32) (aE : Addr) (cp : Int32) (fm : Value) (F : OH) (hs : Std Z cp fm) (S_E : Sta Z Z.heap "java/util/Optional" "EMPTY" "Ljava/util/Optional;" (.ref aE)) (hq0 : ¬ y0 = 35) (hq1 : ¬ y1 = 35) :
    Met l Z (⟨"com/example/bylint/bylint/description/UriReferences", "fragment", "(Ljava/lang/String;)Ljava/util/Optional;"⟩ : MethodName) prog_9_method_6_code 2 (some (.object "java/util/Optional")) (rm4 4 0 0 59) [(.ref s)] ((s, strO v) :: (v, fA .byte [y0, y1]) :: F) (Q_c_fr_2_m s v y0 y1 aE F) := by
  refine Met.of_wp (Ls := #[.val (.ref s), .unset]) pn_24 (fun m => (entry_loc m _ _).trans rfl) ?_
  show W25 l Z (rm4 4 0 0 59) ((s, strO v) :: (v, fA .byte [y0, y1]) :: F) 0 0 0 #[.val (.ref s), .unset] [] (Q_c_fr_2_m s v y0 y1 aE F)
  refine wp_aload_n D_prog_9_m6_0 rfl rfl ?_
  refine wp_bipush 35 D_prog_9_m6_1 (by decide) ?_
  refine wp_virtual (c_si_2 l Z a0 hw s v y0 y1 (-1 : Int32) cp fm F hs (c_ioc_2_m l Z a0 hw s v y0 y1 F hq0 hq1)) (exa_new (i := 0) rfl) D_prog_9_m6_3 (gw hw 35 rfl) (gw hw 36 rfl) (gw hw 38 rfl) (gw hw 38 rfl) (gw hw 37 rfl) (gw hw 12 rfl) (gw hw 39 rfl) (by decide) pd_20 rfl rfl rfl (lb rfl) (lb rfl) (lb rfl) (lb rfl) ?_
  rintro _ _ ⟨rfl, rfl⟩
  show W25 l Z (rm4 4 0 0 59) ((s, strO v) :: (v, fA .byte [y0, y1]) :: F) 0 0 6 #[.val (.ref s), .unset] [(.int (-1))] (Q_c_fr_2_m s v y0 y1 aE F)
  refine wp_istore_n #[.val (.ref s), .val (.int (-1))] D_prog_9_m6_6 rfl ?_
  refine wp_iload_n D_prog_9_m6_7 rfl ?_
  refine wp_if_ge D_prog_9_m6_8 (pc'' := 17) ⟨by decide, by decide⟩ (fun h1 => by exact absurd h1 (by decide)) (fun h1 => ?_)
  refine wp_callS (c_emp l Z a0 hw aE ((s, strO v) :: (v, fA .byte [y0, y1]) :: F) S_E) D_prog_9_m6_11 (gw hw 75 rfl) (gw hw 76 rfl) (gw hw 77 rfl) (gw hw 78 rfl) (by decide) pd_21 rfl rfl rfl (lb rfl) (lb rfl) (lb rfl) (lb rfl) ?_
  rintro _ _ ⟨rfl, rfl⟩
  show W25 l Z (rm4 4 0 0 59) ((s, strO v) :: (v, fA .byte [y0, y1]) :: F) 0 0 14 #[.val (.ref s), .val (.int (-1))] [(.ref aE)] (Q_c_fr_2_m s v y0 y1 aE F)
  refine wp_goto D_prog_9_m6_14 (pc'' := 27) ⟨by decide, by decide⟩ ?_
  refine wp_areturn D_prog_9_m6_27 rfl rfl rfl rfl (by decide) (by decide) ?_
  exact ⟨rfl, rfl⟩
set_option maxRecDepth 65536 in
set_option maxHeartbeats 40000000 in
theorem c_ioc_2_0 (l : Launch) (Z : State) (a0 : Array Value) (hw : HW Z a0) (s v : Addr) (y0 y1 : Int32) (F : OH) (hq0 : y0 = 35) :
    Met l Z (⟨"java/lang/StringLatin1", "indexOfChar", "([BIII)I"⟩ : MethodName) jdk_43_method_23_code 6 (some .int) (rm4 0 0 0 0) [(.ref v), (.int 35), (.int 0), (.int 2)] ((s, strO v) :: (v, fA .byte [y0, y1]) :: F) (Q_ioc_2 s v y0 y1 (0 : Int32) F) := by
  refine Met.of_wp (Ls := #[.val (.ref v), .val (.int 35), .val (.int 0), .val (.int 2), .unset, .unset]) pn_20 (fun m => (entry_loc m _ _).trans rfl) ?_
  show W26 l Z (rm4 0 0 0 0) ((s, strO v) :: (v, fA .byte [y0, y1]) :: F) 0 0 0 #[.val (.ref v), .val (.int 35), .val (.int 0), .val (.int 2), .unset, .unset] [] (Q_ioc_2 s v y0 y1 (0 : Int32) F)
  refine wp_iload_n D_jdk_43_m23_0 rfl ?_
  refine wp_i2b D_jdk_43_m23_1 ?_
  rw [show (35 : Int32).toInt8.toInt32 = (35 : Int32) from by decide]
  refine wp_istore #[.val (.ref v), .val (.int 35), .val (.int 0), .val (.int 2), .val (.int 35), .unset] D_jdk_43_m23_2 rfl ?_
  refine wp_iload_n D_jdk_43_m23_4 rfl ?_
  refine wp_istore #[.val (.ref v), .val (.int 35), .val (.int 0), .val (.int 2), .val (.int 35), .val (.int 0)] D_jdk_43_m23_5 rfl ?_
  refine wp_iload D_jdk_43_m23_7 rfl ?_
  refine wp_iload_n D_jdk_43_m23_9 rfl ?_
  refine wp_icmp_ge D_jdk_43_m23_10 (pc'' := 31) ⟨by decide, by decide⟩ (fun h1 => by exact absurd h1 (by decide)) (fun h1 => ?_)
  refine wp_aload_n D_jdk_43_m23_13 rfl rfl ?_
  refine wp_iload D_jdk_43_m23_14 rfl ?_
  refine wp_baload (i := 1) (0) D_jdk_43_m23_16 rfl (by decide) (by decide) rfl ?_
  refine wp_iload D_jdk_43_m23_17 rfl ?_
  refine wp_icmp_ne D_jdk_43_m23_19 (pc'' := 25) ⟨by decide, by decide⟩ (fun h2 => by exact absurd hq0 h2) (fun h2 => ?_)
  refine wp_iload D_jdk_43_m23_22 rfl ?_
  refine wp_ireturn D_jdk_43_m23_24 rfl (by decide) (by decide) ?_
  exact ⟨rfl, rfl⟩
theorem pd_24 : parseMethodDescriptor "(II)V" = some ⟨[.int, .int], none⟩ := by decide +kernel
theorem pd_25 : parseMethodDescriptor "(Ljava/lang/Object;ILjava/lang/Object;II)V" = some ⟨[(.object "java/lang/Object"), .int, (.object "java/lang/Object"), .int, .int], none⟩ := by decide +kernel
theorem pn_30 : plainFor (⟨"java/util/Arrays", "checkLength", "(II)V"⟩ : MethodName) = true := by first | exact plainFor_of_name (by first | (simp [plainName, overriddenIn]; done) | decide +kernel) | decide +kernel
def Q_c_ckl (b e : Int32) (F : OH) : Option Value → OH → Prop := fun w' H' => w' = none ∧ H' = F
theorem D_jdk_65_m131_0 : Dc jdk_65_method_131_code 0 (.iload_n 1) 1 1 := ⟨by decide +kernel, rfl⟩
theorem D_jdk_65_m131_1 : Dc jdk_65_method_131_code 1 (.iload_n 0) 1 2 := ⟨by decide +kernel, rfl⟩
theorem D_jdk_65_m131_2 : Dc jdk_65_method_131_code 2 (.if_icmp .ge 35) 3 5 := ⟨by decide +kernel, rfl⟩
theorem D_jdk_65_m131_37 : Dc jdk_65_method_131_code 37 (.return_) 1 38 := ⟨by decide +kernel, rfl⟩
abbrev W33 (l : Launch) (Z : State) := Wp none l Z "java/util/Arrays" "checkLength" jdk_65_method_131_code 2 none
set_option maxRecDepth 65536 in
set_option maxHeartbeats 40000000 in
theorem c_ckl (l : Launch) (Z : State) (a0 : Array Value) (hw : HW Z a0) (b e : Int32) (F : OH) (hb0 : ¬ e < b) :
    Met l Z (⟨"java/util/Arrays", "checkLength", "(II)V"⟩ : MethodName) jdk_65_method_131_code 2 none (rm4 0 0 0 0) [(.int b), (.int e)] F (Q_c_ckl b e F) := by
  refine Met.of_wp (Ls := #[.val (.int b), .val (.int e)]) pn_30 (fun m => (entry_loc m _ _).trans rfl) ?_
  show W33 l Z (rm4 0 0 0 0) F 0 0 0 #[.val (.int b), .val (.int e)] [] (Q_c_ckl b e F)
  refine wp_iload_n D_jdk_65_m131_0 rfl ?_
  refine wp_iload_n D_jdk_65_m131_1 rfl ?_
  refine wp_icmp_ge D_jdk_65_m131_2 (pc'' := 37) ⟨by decide, by decide⟩ (fun h1 => ?_) (fun h1 => by exact absurd h1 hb0)
  refine wp_return D_jdk_65_m131_37 rfl (by decide) (by decide) ?_
  exact ⟨rfl, rfl⟩
theorem pn_31 : plainFor (⟨"java/util/Arrays", "copyOfRangeByte", "([BII)[B"⟩ : MethodName) = true := by first | exact plainFor_of_name (by first | (simp [plainName, overriddenIn]; done) | decide +kernel) | decide +kernel
def Q_c_crb_2_1_2 (a s v : Addr) (y0 y1 : Int32) (F : OH) : Option Value → OH → Prop := fun w' H' => ∃ b', w' = some (.ref b') ∧ H' = ((b', oA .byte [y1]) :: (a, oS (.null)) :: (s, strO v) :: (v, fA .byte [y0, y1]) :: F)
theorem D_jdk_65_m133_0 : Dc jdk_65_method_133_code 0 (.iload_n 1) 1 1 := ⟨by decide +kernel, rfl⟩
theorem D_jdk_65_m133_1 : Dc jdk_65_method_133_code 1 (.iload_n 2) 1 2 := ⟨by decide +kernel, rfl⟩
theorem D_jdk_65_m133_2 : Dc jdk_65_method_133_code 2 (.invokestatic 343) 3 5 := ⟨by decide +kernel, rfl⟩
theorem D_jdk_65_m133_5 : Dc jdk_65_method_133_code 5 (.iload_n 2) 1 6 := ⟨by decide +kernel, rfl⟩
theorem D_jdk_65_m133_6 : Dc jdk_65_method_133_code 6 (.iload_n 1) 1 7 := ⟨by decide +kernel, rfl⟩
theorem D_jdk_65_m133_7 : Dc jdk_65_method_133_code 7 (.isub) 1 8 := ⟨by decide +kernel, rfl⟩
theorem D_jdk_65_m133_8 : Dc jdk_65_method_133_code 8 (.istore_n 3) 1 9 := ⟨by decide +kernel, rfl⟩
theorem D_jdk_65_m133_9 : Dc jdk_65_method_133_code 9 (.iload_n 3) 1 10 := ⟨by decide +kernel, rfl⟩
theorem D_jdk_65_m133_10 : Dc jdk_65_method_133_code 10 (.newarray .byte) 2 12 := ⟨by decide +kernel, rfl⟩
theorem D_jdk_65_m133_12 : Dc jdk_65_method_133_code 12 (.astore 4) 2 14 := ⟨by decide +kernel, rfl⟩
theorem D_jdk_65_m133_14 : Dc jdk_65_method_133_code 14 (.aload_n 0) 1 15 := ⟨by decide +kernel, rfl⟩
theorem D_jdk_65_m133_15 : Dc jdk_65_method_133_code 15 (.iload_n 1) 1 16 := ⟨by decide +kernel, rfl⟩
theorem D_jdk_65_m133_16 : Dc jdk_65_method_133_code 16 (.aload 4) 2 18 := ⟨by decide +kernel, rfl⟩
theorem D_jdk_65_m133_18 : Dc jdk_65_method_133_code 18 (.iconst 0) 1 19 := ⟨by decide +kernel, rfl⟩
theorem D_jdk_65_m133_19 : Dc jdk_65_method_133_code 19 (.aload_n 0) 1 20 := ⟨by decide +kernel, rfl⟩
theorem D_jdk_65_m133_20 : Dc jdk_65_method_133_code 20 (.arraylength) 1 21 := ⟨by decide +kernel, rfl⟩
theorem D_jdk_65_m133_21 : Dc jdk_65_method_133_code 21 (.iload_n 1) 1 22 := ⟨by decide +kernel, rfl⟩
theorem D_jdk_65_m133_22 : Dc jdk_65_method_133_code 22 (.isub) 1 23 := ⟨by decide +kernel, rfl⟩
theorem D_jdk_65_m133_23 : Dc jdk_65_method_133_code 23 (.iload_n 3) 1 24 := ⟨by decide +kernel, rfl⟩
theorem D_jdk_65_m133_24 : Dc jdk_65_method_133_code 24 (.invokestatic 304) 3 27 := ⟨by decide +kernel, rfl⟩
theorem D_jdk_65_m133_27 : Dc jdk_65_method_133_code 27 (.invokestatic 150) 3 30 := ⟨by decide +kernel, rfl⟩
theorem D_jdk_65_m133_30 : Dc jdk_65_method_133_code 30 (.aload 4) 2 32 := ⟨by decide +kernel, rfl⟩
theorem D_jdk_65_m133_32 : Dc jdk_65_method_133_code 32 (.areturn) 1 33 := ⟨by decide +kernel, rfl⟩
abbrev W34 (l : Launch) (Z : State) := Wp none l Z "java/util/Arrays" "copyOfRangeByte" jdk_65_method_133_code 5 (some (.array .byte))
set_option maxRecDepth 65536 in
set_option maxHeartbeats 40000000 in
theorem c_crb_2_1_2 (l : Launch) (Z : State) (a0 : Array Value) (hw : HW Z a0) (a s v : Addr) (y0 y1 : Int32) (cp : Int32) (fm : Value) (F : OH) (hs : Std Z cp fm) :
    Met l Z (⟨"java/util/Arrays", "copyOfRangeByte", "([BII)[B"⟩ : MethodName) jdk_65_method_133_code 5 (some (.array .byte)) (rm4 1 1 1 20) [(.ref v), (.int 1), (.int 2)] ((a, oS (.null)) :: (s, strO v) :: (v, fA .byte [y0, y1]) :: F) (Q_c_crb_2_1_2 a s v y0 y1 F) := by
  refine Met.of_wp (Ls := #[.val (.ref v), .val (.int 1), .val (.int 2), .unset, .unset]) pn_31 (fun m => (entry_loc m _ _).trans rfl) ?_
  show W34 l Z (rm4 1 1 1 20) ((a, oS (.null)) :: (s, strO v) :: (v, fA .byte [y0, y1]) :: F) 0 0 0 #[.val (.ref v), .val (.int 1), .val (.int 2), .unset, .unset] [] (Q_c_crb_2_1_2 a s v y0 y1 F)
  refine wp_iload_n D_jdk_65_m133_0 rfl ?_
  refine wp_iload_n D_jdk_65_m133_1 rfl ?_
  refine wp_callS (c_ckl l Z a0 hw 1 2 ((a, oS (.null)) :: (s, strO v) :: (v, fA .byte [y0, y1]) :: F) (by decide)) D_jdk_65_m133_2 (gw hw 129 rfl) (gw hw 130 rfl) (gw hw 124 rfl) (gw hw 131 rfl) (by decide) pd_24 rfl rfl rfl (lb rfl) (lb rfl) (lb rfl) (lb rfl) ?_
  rintro _ _ ⟨rfl, rfl⟩
  show W34 l Z (rm4 1 1 1 20) ((a, oS (.null)) :: (s, strO v) :: (v, fA .byte [y0, y1]) :: F) 0 0 5 #[.val (.ref v), .val (.int 1), .val (.int 2), .unset, .unset] [] (Q_c_crb_2_1_2 a s v y0 y1 F)
  refine wp_iload_n D_jdk_65_m133_5 rfl ?_
  refine wp_iload_n D_jdk_65_m133_6 rfl ?_
  refine wp_isub D_jdk_65_m133_7 ?_
  rw [show ((2 : Int32) - (1 : Int32)) = (1 : Int32) from by decide]
  refine wp_istore_n #[.val (.ref v), .val (.int 1), .val (.int 2), .val (.int 1), .unset] D_jdk_65_m133_8 rfl ?_
  refine wp_iload_n D_jdk_65_m133_9 rfl ?_
  refine wp_newarrayI (n := (1 : Int32)) (1) 1 D_jdk_65_m133_10 rfl rfl rfl (gw hw 24 rfl) (by decide) (by decide) (by decide) (by decide) (by decide) (by decide) ?_
  intro a1
  show W34 l Z (rm4 1 1 1 20) ((a1, oA .byte [(0 : Int32)]) :: (a, oS (.null)) :: (s, strO v) :: (v, fA .byte [y0, y1]) :: F) 1 1 12 #[.val (.ref v), .val (.int 1), .val (.int 2), .val (.int 1), .unset] [(.ref a1)] (Q_c_crb_2_1_2 a s v y0 y1 F)
  refine wp_astore #[.val (.ref v), .val (.int 1), .val (.int 2), .val (.int 1), .val (.ref a1)] D_jdk_65_m133_12 rfl rfl ?_
  refine wp_aload_n D_jdk_65_m133_14 rfl rfl ?_
  refine wp_iload_n D_jdk_65_m133_15 rfl ?_
  refine wp_aload D_jdk_65_m133_16 rfl rfl ?_
  refine wp_iconst 0 D_jdk_65_m133_18 (by decide) ?_
  refine wp_aload_n D_jdk_65_m133_19 rfl rfl ?_
  refine wp_lengthI (i := 3) (2 : Int32) D_jdk_65_m133_20 rfl rfl ?_
  refine wp_iload_n D_jdk_65_m133_21 rfl ?_
  refine wp_isub D_jdk_65_m133_22 ?_
  rw [show ((2 : Int32) - (1 : Int32)) = (1 : Int32) from by decide]
  refine wp_iload_n D_jdk_65_m133_23 rfl ?_
  refine wp_callS (c_min_1_1 l Z a0 hw  ((a1, oA .byte [(0 : Int32)]) :: (a, oS (.null)) :: (s, strO v) :: (v, fA .byte [y0, y1]) :: F) ) D_jdk_65_m133_24 (gw hw 132 rfl) (gw hw 73 rfl) (gw hw 70 rfl) (gw hw 74 rfl) (by decide) pd_3 rfl rfl rfl (lb rfl) (lb rfl) (lb rfl) (lb rfl) ?_
  rintro _ _ ⟨rfl, rfl⟩
  show W34 l Z (rm4 1 1 1 20) ((a1, oA .byte [(0 : Int32)]) :: (a, oS (.null)) :: (s, strO v) :: (v, fA .byte [y0, y1]) :: F) 1 1 27 #[.val (.ref v), .val (.int 1), .val (.int 2), .val (.int 1), .val (.ref a1)] [(.int 1), (.int 0), (.ref a1), (.int 1), (.ref v)] (Q_c_crb_2_1_2 a s v y0 y1 F)
  refine wp_arraycopyI (i := 3) (i' := 0) 1 0 1 D_jdk_65_m133_27 (gw hw 133 rfl) (gw hw 136 rfl) (gw hw 134 rfl) (gw hw 135 rfl) rfl rfl rfl (by decide) (by decide) (by decide) (by decide) (by decide) (by decide) (by first | exact Nat.le_of_ble_eq_true rfl | simp) (by first | exact Nat.le_of_ble_eq_true rfl | simp) (by first | exact Nat.le_of_ble_eq_true rfl | simp) (by first | exact Nat.le_of_ble_eq_true rfl | simp) rfl (by decide) (by decide) ?_
  show W34 l Z (rm4 1 1 1 20) ((a1, oA .byte [y1]) :: (a, oS (.null)) :: (s, strO v) :: (v, fA .byte [y0, y1]) :: F) 1 1 30 #[.val (.ref v), .val (.int 1), .val (.int 2), .val (.int 1), .val (.ref a1)] [] (Q_c_crb_2_1_2 a s v y0 y1 F)
  refine wp_aload D_jdk_65_m133_30 rfl rfl ?_
  refine wp_areturn D_jdk_65_m133_32 rfl rfl rfl rfl (by decide) (by decide) ?_
  exact ⟨_, rfl, rfl⟩
theorem pn_32 : plainFor (⟨"java/util/Arrays", "copyOfRange", "([BII)[B"⟩ : MethodName) = true := by first | exact plainFor_of_name (by first | (simp [plainName, overriddenIn]; done) | decide +kernel) | decide +kernel
def Q_c_cor_2_1_2 (a s v : Addr) (y0 y1 : Int32) (F : OH) : Option Value → OH → Prop := fun w' H' => ∃ b', w' = some (.ref b') ∧ H' = ((b', oA .byte [y1]) :: (a, oS (.null)) :: (s, strO v) :: (v, fA .byte [y0, y1]) :: F)
theorem D_jdk_65_m132_0 : Dc jdk_65_method_132_code 0 (.iload_n 1) 1 1 := ⟨by decide +kernel, rfl⟩
theorem D_jdk_65_m132_1 : Dc jdk_65_method_132_code 1 (.ifCond .ne 9) 3 4 := ⟨by decide +kernel, rfl⟩
theorem D_jdk_65_m132_10 : Dc jdk_65_method_132_code 10 (.aload_n 0) 1 11 := ⟨by decide +kernel, rfl⟩
theorem D_jdk_65_m132_11 : Dc jdk_65_method_132_code 11 (.iload_n 1) 1 12 := ⟨by decide +kernel, rfl⟩
theorem D_jdk_65_m132_12 : Dc jdk_65_method_132_code 12 (.iload_n 2) 1 13 := ⟨by decide +kernel, rfl⟩
theorem D_jdk_65_m132_13 : Dc jdk_65_method_132_code 13 (.invokestatic 339) 3 16 := ⟨by decide +kernel, rfl⟩
theorem D_jdk_65_m132_16 : Dc jdk_65_method_132_code 16 (.areturn) 1 17 := ⟨by decide +kernel, rfl⟩
abbrev W35 (l : Launch) (Z : State) := Wp none l Z "java/util/Arrays" "copyOfRange" jdk_65_method_132_code 3 (some (.array .byte))
set_option maxRecDepth 65536 in
set_option maxHeartbeats 40000000 in
theorem c_cor_2_1_2 (l : Launch) (Z : State) (a0 : Array Value) (hw : HW Z a0) (a s v : Addr) (y0 y1 : Int32) (cp : Int32) (fm : Value) (F : OH) (hs : Std Z cp fm) :
    Met l Z (⟨"java/util/Arrays", "copyOfRange", "([BII)[B"⟩ : MethodName) jdk_65_method_132_code 3 (some (.array .byte)) (rm4 2 1 1 36) [(.ref v), (.int 1), (.int 2)] ((a, oS (.null)) :: (s, strO v) :: (v, fA .byte [y0, y1]) :: F) (Q_c_cor_2_1_2 a s v y0 y1 F) := by
  refine Met.of_wp (Ls := #[.val (.ref v), .val (.int 1), .val (.int 2)]) pn_32 (fun m => (entry_loc m _ _).trans rfl) ?_
  show W35 l Z (rm4 2 1 1 36) ((a, oS (.null)) :: (s, strO v) :: (v, fA .byte [y0, y1]) :: F) 0 0 0 #[.val (.ref v), .val (.int 1), .val (.int 2)] [] (Q_c_cor_2_1_2 a s v y0 y1 F)
  refine wp_iload_n D_jdk_65_m132_0 rfl ?_
  refine wp_if_ne D_jdk_65_m132_1 (pc'' := 10) ⟨by decide, by decide⟩ (fun h1 => ?_) (fun h1 => by exact absurd h1 (by decide))
  refine wp_aload_n D_jdk_65_m132_10 rfl rfl ?_
  refine wp_iload_n D_jdk_65_m132_11 rfl ?_
  refine wp_iload_n D_jdk_65_m132_12 rfl ?_
  refine wp_callS (c_crb_2_1_2 l Z a0 hw a s v y0 y1 cp fm F hs ) D_jdk_65_m132_13 (gw hw 126 rfl) (gw hw 127 rfl) (gw hw 124 rfl) (gw hw 128 rfl) (by decide) pd_16 rfl rfl rfl (lb rfl) (lb rfl) (lb rfl) (lb rfl) ?_
  rintro _ _ ⟨b2, rfl, rfl⟩
  show W35 l Z (rm4 2 1 1 36) ((b2, oA .byte [y1]) :: (a, oS (.null)) :: (s, strO v) :: (v, fA .byte [y0, y1]) :: F) 1 1 16 #[.val (.ref v), .val (.int 1), .val (.int 2)] [(.ref b2)] (Q_c_cor_2_1_2 a s v y0 y1 F)
  refine wp_areturn D_jdk_65_m132_16 rfl rfl rfl rfl (by decide) (by decide) ?_
  exact ⟨_, rfl, rfl⟩
theorem pn_33 : plainFor (⟨"java/lang/String", "<init>", "([BB)V"⟩ : MethodName) = true := by first | exact plainFor_of_name (by first | (simp [plainName, overriddenIn]; done) | decide +kernel) | decide +kernel
def Q_c_sbb (b' a : Addr) (zs : List Int32) (F : OH) : Option Value → OH → Prop := fun w' H' => w' = none ∧ H' = ((b', oA .byte zs) :: (a, oS (.ref b')) :: F)
theorem D_jdk_42_m151_0 : Dc jdk_42_method_151_code 0 (.aload_n 0) 1 1 := ⟨by decide +kernel, rfl⟩
theorem D_jdk_42_m151_1 : Dc jdk_42_method_151_code 1 (.invokespecial 1) 3 4 := ⟨by decide +kernel, rfl⟩
theorem D_jdk_42_m151_4 : Dc jdk_42_method_151_code 4 (.aload_n 0) 1 5 := ⟨by decide +kernel, rfl⟩
theorem D_jdk_42_m151_5 : Dc jdk_42_method_151_code 5 (.aload_n 1) 1 6 := ⟨by decide +kernel, rfl⟩
theorem D_jdk_42_m151_6 : Dc jdk_42_method_151_code 6 (.putfield 9) 3 9 := ⟨by decide +kernel, rfl⟩
theorem D_jdk_42_m151_9 : Dc jdk_42_method_151_code 9 (.aload_n 0) 1 10 := ⟨by decide +kernel, rfl⟩
theorem D_jdk_42_m151_10 : Dc jdk_42_method_151_code 10 (.iload_n 2) 1 11 := ⟨by decide +kernel, rfl⟩
theorem D_jdk_42_m151_11 : Dc jdk_42_method_151_code 11 (.putfield 15) 3 14 := ⟨by decide +kernel, rfl⟩
theorem D_jdk_42_m151_14 : Dc jdk_42_method_151_code 14 (.return_) 1 15 := ⟨by decide +kernel, rfl⟩
abbrev W36 (l : Launch) (Z : State) := Wp none l Z "java/lang/String" "<init>" jdk_42_method_151_code 3 none
set_option maxRecDepth 65536 in
set_option maxHeartbeats 40000000 in
theorem c_sbb (l : Launch) (Z : State) (a0 : Array Value) (hw : HW Z a0) (b' a : Addr) (zs : List Int32) (F : OH) :
    Met l Z (⟨"java/lang/String", "<init>", "([BB)V"⟩ : MethodName) jdk_42_method_151_code 3 none (rm4 1 0 0 12) [(.ref a), (.ref b'), (.int 0)] ((b', oA .byte zs) :: (a, oS (.null)) :: F) (Q_c_sbb b' a zs F) := by
  refine Met.of_wp (Ls := #[.val (.ref a), .val (.ref b'), .val (.int 0)]) pn_33 (fun m => (entry_loc m _ _).trans rfl) ?_
  show W36 l Z (rm4 1 0 0 12) ((b', oA .byte zs) :: (a, oS (.null)) :: F) 0 0 0 #[.val (.ref a), .val (.ref b'), .val (.int 0)] [] (Q_c_sbb b' a zs F)
  refine wp_aload_n D_jdk_42_m151_0 rfl rfl ?_
  refine wp_initO D_jdk_42_m151_1 (gw hw 20 rfl) (gw hw 21 rfl) (gw hw 22 rfl) rfl (Nat.le_of_ble_eq_true rfl) (Nat.le_of_ble_eq_true rfl) ?_
  refine wp_aload_n D_jdk_42_m151_4 rfl rfl ?_
  refine wp_aload_n D_jdk_42_m151_5 rfl rfl ?_
  refine wp_putfield (i := 1) (fi := 0) (ty := (.array .byte)) D_jdk_42_m151_6 (gw hw 29 rfl) rfl rfl rfl (Or.inr ⟨(gw hw 25 rfl), rfl, rfl⟩) (gw hw 11 rfl) (by decide) rfl rfl ?_
  show W36 l Z (rm4 1 0 0 12) ((b', oA .byte zs) :: (a, oS (.ref b')) :: F) 0 0 9 #[.val (.ref a), .val (.ref b'), .val (.int 0)] [] (Q_c_sbb b' a zs F)
  refine wp_aload_n D_jdk_42_m151_9 rfl rfl ?_
  refine wp_iload_n D_jdk_42_m151_10 rfl ?_
  refine wp_putfield (i := 1) (fi := 1) (ty := .byte) D_jdk_42_m151_11 (gw hw 30 rfl) rfl rfl rfl (Or.inr ⟨(gw hw 26 rfl), rfl, rfl⟩) (gw hw 11 rfl) (by decide) rfl rfl ?_
  show W36 l Z (rm4 1 0 0 12) ((b', oA .byte zs) :: (a, oS (.ref b')) :: F) 0 0 14 #[.val (.ref a), .val (.ref b'), .val (.int 0)] [] (Q_c_sbb b' a zs F)
  refine wp_return D_jdk_42_m151_14 rfl (by decide) (by decide) ?_
  exact ⟨rfl, rfl⟩
def Q_c_nst_2_1_2 (s v : Addr) (y0 y1 : Int32) (F : OH) : Option Value → OH → Prop := fun w' H' => ∃ a u, w' = some (.ref a) ∧ H' = ((u, fA .byte [y1]) :: (a, strO u) :: (s, strO v) :: (v, fA .byte [y0, y1]) :: F)
abbrev W37 (l : Launch) (Z : State) := Wp none l Z "java/lang/StringLatin1" "newString" jdk_43_method_47_code 3 (some (.object "java/lang/String"))
set_option maxRecDepth 65536 in
set_option maxHeartbeats 40000000 in
theorem c_nst_2_1_2 (l : Launch) (Z : State) (a0 : Array Value) (hw : HW Z a0) (s v : Addr) (y0 y1 : Int32) (cp : Int32) (fm : Value) (F : OH) (hs : Std Z cp fm) :
    Met l Z (⟨"java/lang/StringLatin1", "newString", "([BII)Ljava/lang/String;"⟩ : MethodName) jdk_43_method_47_code 3 (some (.object "java/lang/String")) (rm4 3 2 5 52) [(.ref v), (.int 1), (.int 1)] ((s, strO v) :: (v, fA .byte [y0, y1]) :: F) (Q_c_nst_2_1_2 s v y0 y1 F) := by
  refine Met.of_wp (Ls := #[.val (.ref v), .val (.int 1), .val (.int 1)]) pn_27 (fun m => (entry_loc m _ _).trans rfl) ?_
  show W37 l Z (rm4 3 2 5 52) ((s, strO v) :: (v, fA .byte [y0, y1]) :: F) 0 0 0 #[.val (.ref v), .val (.int 1), .val (.int 1)] [] (Q_c_nst_2_1_2 s v y0 y1 F)
  refine wp_iload_n D_jdk_43_m47_0 rfl ?_
  refine wp_if_ne D_jdk_43_m47_1 (pc'' := 7) ⟨by decide, by decide⟩ (fun h1 => ?_) (fun h1 => by exact absurd h1 (by decide))
  refine wp_new sgStr [(.null), (.int 0)] D_jdk_43_m47_7 (gw hw 121 rfl) (gw hw 11 rfl) (gw hw 12 rfl) (laid_sgStr l Z a0 hw) (by decide) dfl_sgStr (by decide) (by decide) ?_
  intro a2
  show W37 l Z (rm4 3 2 5 52) ((a2, oS (.null)) :: (s, strO v) :: (v, fA .byte [y0, y1]) :: F) 1 4 10 #[.val (.ref v), .val (.int 1), .val (.int 1)] [(.ref a2)] (Q_c_nst_2_1_2 s v y0 y1 F)
  refine wp_dup D_jdk_43_m47_10 rfl ?_
  refine wp_aload_n D_jdk_43_m47_11 rfl rfl ?_
  refine wp_iload_n D_jdk_43_m47_12 rfl ?_
  refine wp_iload_n D_jdk_43_m47_13 rfl ?_
  refine wp_iload_n D_jdk_43_m47_14 rfl ?_
  refine wp_iadd D_jdk_43_m47_15 ?_
  rw [show ((1 : Int32) + (1 : Int32)) = (2 : Int32) from by decide]
  refine wp_callS (c_cor_2_1_2 l Z a0 hw a2 s v y0 y1 cp fm F hs ) D_jdk_43_m47_16 (gw hw 122 rfl) (gw hw 123 rfl) (gw hw 124 rfl) (gw hw 125 rfl) (by decide) pd_16 rfl rfl rfl (lb rfl) (lb rfl) (lb rfl) (lb rfl) ?_
  rintro _ _ ⟨b3, rfl, rfl⟩
  show W37 l Z (rm4 3 2 5 52) ((b3, oA .byte [y1]) :: (a2, oS (.null)) :: (s, strO v) :: (v, fA .byte [y0, y1]) :: F) 2 5 19 #[.val (.ref v), .val (.int 1), .val (.int 1)] [(.ref b3), (.ref a2), (.ref a2)] (Q_c_nst_2_1_2 s v y0 y1 F)
  refine wp_iconst 0 D_jdk_43_m47_19 (by decide) ?_
  refine wp_init (c_sbb l Z a0 hw b3 a2 [y1] ((s, strO v) :: (v, fA .byte [y0, y1]) :: F) ) D_jdk_43_m47_20 rfl (gw hw 137 rfl) (gw hw 138 rfl) (gw hw 12 rfl) (gw hw 139 rfl) (by decide) pd_17 rfl rfl rfl (lb rfl) (lb rfl) (lb rfl) (lb rfl) ?_
  rintro _ _ ⟨rfl, rfl⟩
  show W37 l Z (rm4 3 2 5 52) ((b3, oA .byte [y1]) :: (a2, oS (.ref b3)) :: (s, strO v) :: (v, fA .byte [y0, y1]) :: F) 2 5 23 #[.val (.ref v), .val (.int 1), .val (.int 1)] [(.ref a2)] (Q_c_nst_2_1_2 s v y0 y1 F)
  refine Wp.frz (i := 0) rfl ?_
  refine Wp.frz (i := 1) rfl ?_
  show W37 l Z (rm4 3 2 5 52) ((b3, fA .byte [y1]) :: (a2, strO b3) :: (s, strO v) :: (v, fA .byte [y0, y1]) :: F) 2 5 23 #[.val (.ref v), .val (.int 1), .val (.int 1)] [(.ref a2)] (Q_c_nst_2_1_2 s v y0 y1 F)
  refine wp_areturn D_jdk_43_m47_23 rfl rfl rfl rfl (by decide) (by decide) ?_
  exact ⟨_, _, rfl, rfl⟩
def Q_c_sub_2_1_2 (s v : Addr) (y0 y1 : Int32) (F : OH) : Option Value → OH → Prop := fun w' H' => ∃ a u, w' = some (.ref a) ∧ H' = ((u, fA .byte [y1]) :: (a, strO u) :: (s, strO v) :: (v, fA .byte [y0, y1]) :: F)
abbrev W38 (l : Launch) (Z : State) := Wp none l Z "java/lang/String" "substring" jdk_42_method_92_code 5 (some (.object "java/lang/String"))
set_option maxRecDepth 65536 in
set_option maxHeartbeats 40000000 in
theorem c_sub_2_1_2 (l : Launch) (Z : State) (a0 : Array Value) (hw : HW Z a0) (s v : Addr) (y0 y1 : Int32) (cp : Int32) (fm : Value) (F : OH) (hs : Std Z cp fm) :
    Met l Z (⟨"java/lang/String", "substring", "(II)Ljava/lang/String;"⟩ : MethodName) jdk_42_method_92_code 5 (some (.object "java/lang/String")) (rm4 4 2 5 66) [(.ref s), (.int 1), (.int 2)] ((s, strO v) :: (v, fA .byte [y0, y1]) :: F) (Q_c_sub_2_1_2 s v y0 y1 F) := by
  refine Met.of_wp (Ls := #[.val (.ref s), .val (.int 1), .val (.int 2), .unset, .unset]) pn_28 (fun m => (entry_loc m _ _).trans rfl) ?_
  show W38 l Z (rm4 4 2 5 66) ((s, strO v) :: (v, fA .byte [y0, y1]) :: F) 0 0 0 #[.val (.ref s), .val (.int 1), .val (.int 2), .unset, .unset] [] (Q_c_sub_2_1_2 s v y0 y1 F)
  refine wp_aload_n D_jdk_42_m92_0 rfl rfl ?_
  refine wp_virtual (c_len_2 l Z a0 hw s v y0 y1 cp fm F hs ) (exa_new (i := 0) rfl) D_jdk_42_m92_1 (gw hw 51 rfl) (gw hw 52 rfl) (gw hw 54 rfl) (gw hw 54 rfl) (gw hw 53 rfl) (gw hw 12 rfl) (gw hw 55 rfl) (by decide) pd_5 rfl rfl rfl (lb rfl) (lb rfl) (lb rfl) (lb rfl) ?_
  rintro _ _ ⟨rfl, rfl⟩
  show W38 l Z (rm4 4 2 5 66) ((s, strO v) :: (v, fA .byte [y0, y1]) :: F) 0 0 4 #[.val (.ref s), .val (.int 1), .val (.int 2), .unset, .unset] [(.int 2)] (Q_c_sub_2_1_2 s v y0 y1 F)
  refine wp_istore_n #[.val (.ref s), .val (.int 1), .val (.int 2), .val (.int 2), .unset] D_jdk_42_m92_4 rfl ?_
  refine wp_iload_n D_jdk_42_m92_5 rfl ?_
  refine wp_iload_n D_jdk_42_m92_6 rfl ?_
  refine wp_iload_n D_jdk_42_m92_7 rfl ?_
  refine wp_callS (c_cbe l Z a0 hw 1 2 2 cp fm ((s, strO v) :: (v, fA .byte [y0, y1]) :: F) hs (by decide) (by decide) (by decide)) D_jdk_42_m92_8 (gw hw 110 rfl) (gw hw 111 rfl) (gw hw 12 rfl) (gw hw 112 rfl) (by decide) pd_11 rfl rfl rfl (lb rfl) (lb rfl) (lb rfl) (lb rfl) ?_
  rintro _ _ ⟨rfl, rfl⟩
  show W38 l Z (rm4 4 2 5 66) ((s, strO v) :: (v, fA .byte [y0, y1]) :: F) 0 0 11 #[.val (.ref s), .val (.int 1), .val (.int 2), .val (.int 2), .unset] [] (Q_c_sub_2_1_2 s v y0 y1 F)
  refine wp_iload_n D_jdk_42_m92_11 rfl ?_
  refine wp_if_ne D_jdk_42_m92_12 (pc'' := 22) ⟨by decide, by decide⟩ (fun h1 => ?_) (fun h1 => by exact absurd h1 (by decide))
  refine wp_iload_n D_jdk_42_m92_22 rfl ?_
  refine wp_iload_n D_jdk_42_m92_23 rfl ?_
  refine wp_isub D_jdk_42_m92_24 ?_
  rw [show ((2 : Int32) - (1 : Int32)) = (1 : Int32) from by decide]
  refine wp_istore #[.val (.ref s), .val (.int 1), .val (.int 2), .val (.int 2), .val (.int 1)] D_jdk_42_m92_25 rfl ?_
  refine wp_aload_n D_jdk_42_m92_27 rfl rfl ?_
  refine wp_virtual (c_lat l Z a0 hw s v cp fm ((v, fA .byte [y0, y1]) :: F) hs ) (exa_new (i := 0) rfl) D_jdk_42_m92_28 (gw hw 45 rfl) (gw hw 46 rfl) (gw hw 48 rfl) (gw hw 48 rfl) (gw hw 47 rfl) (gw hw 12 rfl) (gw hw 49 rfl) (by decide) pd_4 rfl rfl rfl (lb rfl) (lb rfl) (lb rfl) (lb rfl) ?_
  rintro _ _ ⟨rfl, rfl⟩
  show W38 l Z (rm4 4 2 5 66) ((s, strO v) :: (v, fA .byte [y0, y1]) :: F) 0 0 31 #[.val (.ref s), .val (.int 1), .val (.int 2), .val (.int 2), .val (.int 1)] [(.int 1)] (Q_c_sub_2_1_2 s v y0 y1 F)
  refine wp_if_eq D_jdk_42_m92_31 (pc'' := 47) ⟨by decide, by decide⟩ (fun h2 => by exact absurd h2 (by decide)) (fun h2 => ?_)
  refine wp_aload_n D_jdk_42_m92_34 rfl rfl ?_
  refine wp_getfield D_jdk_42_m92_35 (gw hw 29 rfl) (fld_new (i := 0) (fi := 0) rfl rfl rfl) ?_
  refine wp_iload_n D_jdk_42_m92_38 rfl ?_
  refine wp_iload D_jdk_42_m92_39 rfl ?_
  refine wp_callS (c_nst_2_1_2 l Z a0 hw s v y0 y1 cp fm F hs ) D_jdk_42_m92_41 (gw hw 118 rfl) (gw hw 119 rfl) (gw hw 63 rfl) (gw hw 120 rfl) (by decide) pd_13 rfl rfl rfl (lb rfl) (lb rfl) (lb rfl) (lb rfl) ?_
  rintro _ _ ⟨sa3, su4, rfl, rfl⟩
  show W38 l Z (rm4 4 2 5 66) ((su4, fA .byte [y1]) :: (sa3, strO su4) :: (s, strO v) :: (v, fA .byte [y0, y1]) :: F) 2 5 44 #[.val (.ref s), .val (.int 1), .val (.int 2), .val (.int 2), .val (.int 1)] [(.ref sa3)] (Q_c_sub_2_1_2 s v y0 y1 F)
  refine wp_goto D_jdk_42_m92_44 (pc'' := 57) ⟨by decide, by decide⟩ ?_
  refine wp_areturn D_jdk_42_m92_57 rfl rfl rfl rfl (by decide) (by decide) ?_
  exact ⟨_, _, rfl, rfl⟩
def Q_c_sb1_2_1_2 (s v : Addr) (y0 y1 : Int32) (F : OH) : Option Value → OH → Prop := fun w' H' => ∃ a u, w' = some (.ref a) ∧ H' = ((u, fA .byte [y1]) :: (a, strO u) :: (s, strO v) :: (v, fA .byte [y0, y1]) :: F)
abbrev W39 (l : Launch) (Z : State) := Wp none l Z "java/lang/String" "substring" jdk_42_method_91_code 2 (some (.object "java/lang/String"))
set_option maxRecDepth 65536 in
set_option maxHeartbeats 40000000 in
theorem c_sb1_2_1_2 (l : Launch) (Z : State) (a0 : Array Value) (hw : HW Z a0) (s v : Addr) (y0 y1 : Int32) (cp : Int32) (fm : Value) (F : OH) (hs : Std Z cp fm) :
    Met l Z (⟨"java/lang/String", "substring", "(I)Ljava/lang/String;"⟩ : MethodName) jdk_42_method_91_code 2 (some (.object "java/lang/String")) (rm4 5 2 5 82) [(.ref s), (.int 1)] ((s, strO v) :: (v, fA .byte [y0, y1]) :: F) (Q_c_sb1_2_1_2 s v y0 y1 F) := by
  refine Met.of_wp (Ls := #[.val (.ref s), .val (.int 1)]) pn_29 (fun m => (entry_loc m _ _).trans rfl) ?_
  show W39 l Z (rm4 5 2 5 82) ((s, strO v) :: (v, fA .byte [y0, y1]) :: F) 0 0 0 #[.val (.ref s), .val (.int 1)] [] (Q_c_sb1_2_1_2 s v y0 y1 F)
  refine wp_aload_n D_jdk_42_m91_0 rfl rfl ?_
  refine wp_iload_n D_jdk_42_m91_1 rfl ?_
  refine wp_aload_n D_jdk_42_m91_2 rfl rfl ?_
  refine wp_virtual (c_len_2 l Z a0 hw s v y0 y1 cp fm F hs ) (exa_new (i := 0) rfl) D_jdk_42_m91_3 (gw hw 51 rfl) (gw hw 52 rfl) (gw hw 54 rfl) (gw hw 54 rfl) (gw hw 53 rfl) (gw hw 12 rfl) (gw hw 55 rfl) (by decide) pd_5 rfl rfl rfl (lb rfl) (lb rfl) (lb rfl) (lb rfl) ?_
  rintro _ _ ⟨rfl, rfl⟩
  show W39 l Z (rm4 5 2 5 82) ((s, strO v) :: (v, fA .byte [y0, y1]) :: F) 0 0 6 #[.val (.ref s), .val (.int 1)] [(.int 2), (.int 1), (.ref s)] (Q_c_sb1_2_1_2 s v y0 y1 F)
  refine wp_virtual (c_sub_2_1_2 l Z a0 hw s v y0 y1 cp fm F hs ) (exa_new (i := 0) rfl) D_jdk_42_m91_6 (gw hw 105 rfl) (gw hw 106 rfl) (gw hw 108 rfl) (gw hw 108 rfl) (gw hw 107 rfl) (gw hw 12 rfl) (gw hw 109 rfl) (by decide) pd_10 rfl rfl rfl (lb rfl) (lb rfl) (lb rfl) (lb rfl) ?_
  rintro _ _ ⟨sa1, su2, rfl, rfl⟩
  show W39 l Z (rm4 5 2 5 82) ((su2, fA .byte [y1]) :: (sa1, strO su2) :: (s, strO v) :: (v, fA .byte [y0, y1]) :: F) 2 5 9 #[.val (.ref s), .val (.int 1)] [(.ref sa1)] (Q_c_sb1_2_1_2 s v y0 y1 F)
  refine wp_areturn D_jdk_42_m91_9 rfl rfl rfl rfl (by decide) (by decide) ?_
  exact ⟨_, _, rfl, rfl⟩
def Q_c_fr_2_0 (s v : Addr) (y0 y1 : Int32) (F : OH) : Option Value → OH → Prop := fun w' H' => ∃ o a u, w' = some (.ref o) ∧ H' = ((o, fI "java/util/Optional" sg_2 [(.ref a)]) :: (u, fA .byte [y1]) :: (a, strO u) :: (s, strO v) :: (v, fA .byte [y0, y1]) :: F)
set_option maxRecDepth 65536 in
set_option maxHeartbeats 40000000 in
theorem c_fr_2_0 (l : Launch) (Z : State) (a0 : Array Value) (hw : HW Z a0) (s v : Addr) (y0 y1 : Int32) (cp : Int32) (fm : Value) (F : OH) (hs : Std Z cp fm) (hq0 : y0 = 35) :
    Met l Z (⟨"com/example/bylint/bylint/description/UriReferences", "fragment", "(Ljava/lang/String;)Ljava/util/Optional;"⟩ : MethodName) prog_9_method_6_code 2 (some (.object "java/util/Optional")) (rm4 6 3 6 95) [(.ref s)] ((s, strO v) :: (v, fA .byte [y0, y1]) :: F) (Q_c_fr_2_0 s v y0 y1 F) := by
  refine Met.of_wp (Ls := #[.val (.ref s), .unset]) pn_24 (fun m => (entry_loc m _ _).trans rfl) ?_
  show W25 l Z (rm4 6 3 6 95) ((s, strO v) :: (v, fA .byte [y0, y1]) :: F) 0 0 0 #[.val (.ref s), .unset] [] (Q_c_fr_2_0 s v y0 y1 F)
  refine wp_aload_n D_prog_9_m6_0 rfl rfl ?_
  refine wp_bipush 35 D_prog_9_m6_1 (by decide) ?_
  refine wp_virtual (c_si_2 l Z a0 hw s v y0 y1 (0 : Int32) cp fm F hs (c_ioc_2_0 l Z a0 hw s v y0 y1 F hq0)) (exa_new (i := 0) rfl) D_prog_9_m6_3 (gw hw 35 rfl) (gw hw 36 rfl) (gw hw 38 rfl) (gw hw 38 rfl) (gw hw 37 rfl) (gw hw 12 rfl) (gw hw 39 rfl) (by decide) pd_20 rfl rfl rfl (lb rfl) (lb rfl) (lb rfl) (lb rfl) ?_
  rintro _ _ ⟨rfl, rfl⟩
  show W25 l Z (rm4 6 3 6 95) ((s, strO v) :: (v, fA .byte [y0, y1]) :: F) 0 0 6 #[.val (.ref s), .unset] [(.int 0)] (Q_c_fr_2_0 s v y0 y1 F)
  refine wp_istore_n #[.val (.ref s), .val (.int 0)] D_prog_9_m6_6 rfl ?_
  refine wp_iload_n D_prog_9_m6_7 rfl ?_
  refine wp_if_ge D_prog_9_m6_8 (pc'' := 17) ⟨by decide, by decide⟩ (fun h1 => ?_) (fun h1 => by exact absurd h1 (by decide))
  refine wp_aload_n D_prog_9_m6_17 rfl rfl ?_
  refine wp_iload_n D_prog_9_m6_18 rfl ?_
  refine wp_iconst 1 D_prog_9_m6_19 (by decide) ?_
  refine wp_iadd D_prog_9_m6_20 ?_
  rw [show ((0 : Int32) + (1 : Int32)) = (1 : Int32) from by decide]
  refine wp_virtual (c_sb1_2_1_2 l Z a0 hw s v y0 y1 cp fm F hs ) (exa_new (i := 0) rfl) D_prog_9_m6_21 (gw hw 100 rfl) (gw hw 101 rfl) (gw hw 103 rfl) (gw hw 103 rfl) (gw hw 102 rfl) (gw hw 12 rfl) (gw hw 104 rfl) (by decide) pd_22 rfl rfl rfl (lb rfl) (lb rfl) (lb rfl) (lb rfl) ?_
  rintro _ _ ⟨sa2, su3, rfl, rfl⟩
  show W25 l Z (rm4 6 3 6 95) ((su3, fA .byte [y1]) :: (sa2, strO su3) :: (s, strO v) :: (v, fA .byte [y0, y1]) :: F) 2 5 24 #[.val (.ref s), .val (.int 0)] [(.ref sa2)] (Q_c_fr_2_0 s v y0 y1 F)
  refine wp_callS (c_of l Z a0 hw sa2 ((su3, fA .byte [y1]) :: (sa2, strO su3) :: (s, strO v) :: (v, fA .byte [y0, y1]) :: F) ) D_prog_9_m6_24 (gw hw 140 rfl) (gw hw 141 rfl) (gw hw 77 rfl) (gw hw 142 rfl) (by decide) pd_23 rfl rfl rfl (lb rfl) (lb rfl) (lb rfl) (lb rfl) ?_
  rintro _ _ ⟨o4, rfl, rfl⟩
  show W25 l Z (rm4 6 3 6 95) ((o4, fI "java/util/Optional" sg_2 [(.ref sa2)]) :: (su3, fA .byte [y1]) :: (sa2, strO su3) :: (s, strO v) :: (v, fA .byte [y0, y1]) :: F) 3 6 27 #[.val (.ref s), .val (.int 0)] [(.ref o4)] (Q_c_fr_2_0 s v y0 y1 F)
  refine wp_areturn D_prog_9_m6_27 rfl rfl rfl rfl (by decide) (by decide) ?_
  exact ⟨_, _, _, rfl, rfl⟩
set_option maxRecDepth 65536 in
set_option maxHeartbeats 40000000 in
theorem c_ioc_2_1 (l : Launch) (Z : State) (a0 : Array Value) (hw : HW Z a0) (s v : Addr) (y0 y1 : Int32) (F : OH) (hq0 : ¬ y0 = 35) (hq1 : y1 = 35) :
    Met l Z (⟨"java/lang/StringLatin1", "indexOfChar", "([BIII)I"⟩ : MethodName) jdk_43_method_23_code 6 (some .int) (rm4 0 0 0 0) [(.ref v), (.int 35), (.int 0), (.int 2)] ((s, strO v) :: (v, fA .byte [y0, y1]) :: F) (Q_ioc_2 s v y0 y1 (1 : Int32) F) := by
  refine Met.of_wp (Ls := #[.val (.ref v), .val (.int 35), .val (.int 0), .val (.int 2), .unset, .unset]) pn_20 (fun m => (entry_loc m _ _).trans rfl) ?_
  show W26 l Z (rm4 0 0 0 0) ((s, strO v) :: (v, fA .byte [y0, y1]) :: F) 0 0 0 #[.val (.ref v), .val (.int 35), .val (.int 0), .val (.int 2), .unset, .unset] [] (Q_ioc_2 s v y0 y1 (1 : Int32) F)
  refine wp_iload_n D_jdk_43_m23_0 rfl ?_
  refine wp_i2b D_jdk_43_m23_1 ?_
  rw [show (35 : Int32).toInt8.toInt32 = (35 : Int32) from by decide]
  refine wp_istore #[.val (.ref v), .val (.int 35), .val (.int 0), .val (.int 2), .val (.int 35), .unset] D_jdk_43_m23_2 rfl ?_
  refine wp_iload_n D_jdk_43_m23_4 rfl ?_
  refine wp_istore #[.val (.ref v), .val (.int 35), .val (.int 0), .val (.int 2), .val (.int 35), .val (.int 0)] D_jdk_43_m23_5 rfl ?_
  refine wp_iload D_jdk_43_m23_7 rfl ?_
  refine wp_iload_n D_jdk_43_m23_9 rfl ?_
  refine wp_icmp_ge D_jdk_43_m23_10 (pc'' := 31) ⟨by decide, by decide⟩ (fun h1 => by exact absurd h1 (by decide)) (fun h1 => ?_)
  refine wp_aload_n D_jdk_43_m23_13 rfl rfl ?_
  refine wp_iload D_jdk_43_m23_14 rfl ?_
  refine wp_baload (i := 1) (0) D_jdk_43_m23_16 rfl (by decide) (by decide) rfl ?_
  refine wp_iload D_jdk_43_m23_17 rfl ?_
  refine wp_icmp_ne D_jdk_43_m23_19 (pc'' := 25) ⟨by decide, by decide⟩ (fun h2 => ?_) (fun h2 => by exact absurd h2 hq0)
  refine wp_iinc 1 #[.val (.ref v), .val (.int 35), .val (.int 0), .val (.int 2), .val (.int 35), .val (.int 1)] D_jdk_43_m23_25 rfl rfl (by rw [show (0 : Int32) + (1 : Int32) = (1 : Int32) from by decide]; rfl) ?_
  refine wp_goto D_jdk_43_m23_28 (pc'' := 7) ⟨by decide, by decide⟩ ?_
  refine wp_iload D_jdk_43_m23_7 rfl ?_
  refine wp_iload_n D_jdk_43_m23_9 rfl ?_
  refine wp_icmp_ge D_jdk_43_m23_10 (pc'' := 31) ⟨by decide, by decide⟩ (fun h3 => by exact absurd h3 (by decide)) (fun h3 => ?_)
  refine wp_aload_n D_jdk_43_m23_13 rfl rfl ?_
  refine wp_iload D_jdk_43_m23_14 rfl ?_
  refine wp_baload (i := 1) (1) D_jdk_43_m23_16 rfl (by decide) (by decide) rfl ?_
  refine wp_iload D_jdk_43_m23_17 rfl ?_
  refine wp_icmp_ne D_jdk_43_m23_19 (pc'' := 25) ⟨by decide, by decide⟩ (fun h4 => by exact absurd hq1 h4) (fun h4 => ?_)
  refine wp_iload D_jdk_43_m23_22 rfl ?_
  refine wp_ireturn D_jdk_43_m23_24 rfl (by decide) (by decide) ?_
  exact ⟨rfl, rfl⟩
def Q_c_nst_2_2_2 (s v : Addr) (y0 y1 : Int32) (F : OH) : Option Value → OH → Prop := fun w' H' => ∃ a u, w' = some (.ref a) ∧ H' = ((a, strO u) :: (u, fA .byte []) :: (s, strO v) :: (v, fA .byte [y0, y1]) :: F)
set_option maxRecDepth 65536 in
set_option maxHeartbeats 40000000 in
theorem c_nst_2_2_2 (l : Launch) (Z : State) (a0 : Array Value) (hw : HW Z a0) (s v : Addr) (y0 y1 : Int32) (cp : Int32) (fm : Value) (F : OH) (hs : Std Z cp fm) :
    MetI consts_1 l Z (⟨"java/lang/StringLatin1", "newString", "([BII)Ljava/lang/String;"⟩ : MethodName) jdk_43_method_47_code 3 (some (.object "java/lang/String")) (rm4 0 2 4 0) [(.ref v), (.int 2), (.int 0)] ((s, strO v) :: (v, fA .byte [y0, y1]) :: F) (Q_c_nst_2_2_2 s v y0 y1 F) := by
  refine MetI.of_wp (Ls := #[.val (.ref v), .val (.int 2), .val (.int 0)]) pn_27 (fun m => (entry_loc m _ _).trans rfl) (own_EL l Z a0 hw) ?_
  show W29 l Z (rm4 0 2 4 0) ((s, strO v) :: (v, fA .byte [y0, y1]) :: F) 0 0 0 #[.val (.ref v), .val (.int 2), .val (.int 0)] [] (Q_c_nst_2_2_2 s v y0 y1 F)
  refine wp_iload_n D_jdk_43_m47_0 rfl ?_
  refine wp_if_ne D_jdk_43_m47_1 (pc'' := 7) ⟨by decide, by decide⟩ (fun h1 => by exact absurd h1 (by decide)) (fun h1 => ?_)
  refine wp_ldcH (n := 0) [] D_jdk_43_m47_4 (gw hw 171 rfl) (own_wS l Z a0 hw) (own_slo l Z a0 hw) (own_EL l Z a0 hw) (List.mem_of_getElem? (i := 1) rfl) ⟨by decide, by decide⟩ (by decide) (by decide) (by decide) (by decide) (by decide) ?_
  intro s2 v3
  show W29 l Z (rm4 0 2 4 0) ((s2, strO v3) :: (v3, fA .byte []) :: (s, strO v) :: (v, fA .byte [y0, y1]) :: F) 2 4 6 #[.val (.ref v), .val (.int 2), .val (.int 0)] [(.ref s2)] (Q_c_nst_2_2_2 s v y0 y1 F)
  refine wp_areturn D_jdk_43_m47_6 rfl rfl rfl rfl (by decide) (by decide) ?_
  exact ⟨_, _, rfl, rfl⟩
def Q_c_sub_2_2_2 (s v : Addr) (y0 y1 : Int32) (F : OH) : Option Value → OH → Prop := fun w' H' => ∃ a u, w' = some (.ref a) ∧ H' = ((a, strO u) :: (u, fA .byte []) :: (s, strO v) :: (v, fA .byte [y0, y1]) :: F)
set_option maxRecDepth 65536 in
set_option maxHeartbeats 40000000 in
theorem c_sub_2_2_2 (l : Launch) (Z : State) (a0 : Array Value) (hw : HW Z a0) (s v : Addr) (y0 y1 : Int32) (cp : Int32) (fm : Value) (F : OH) (hs : Std Z cp fm) :
    MetI consts_1 l Z (⟨"java/lang/String", "substring", "(II)Ljava/lang/String;"⟩ : MethodName) jdk_42_method_92_code 5 (some (.object "java/lang/String")) (rm4 2 2 4 29) [(.ref s), (.int 2), (.int 2)] ((s, strO v) :: (v, fA .byte [y0, y1]) :: F) (Q_c_sub_2_2_2 s v y0 y1 F) := by
  refine MetI.of_wp (Ls := #[.val (.ref s), .val (.int 2), .val (.int 2), .unset, .unset]) pn_28 (fun m => (entry_loc m _ _).trans rfl) (own_EL l Z a0 hw) ?_
  show W30 l Z (rm4 2 2 4 29) ((s, strO v) :: (v, fA .byte [y0, y1]) :: F) 0 0 0 #[.val (.ref s), .val (.int 2), .val (.int 2), .unset, .unset] [] (Q_c_sub_2_2_2 s v y0 y1 F)
  refine wp_aload_n D_jdk_42_m92_0 rfl rfl ?_
  refine wp_virtual (c_len_2 l Z a0 hw s v y0 y1 cp fm F hs ) (exa_new (i := 0) rfl) D_jdk_42_m92_1 (gw hw 51 rfl) (gw hw 52 rfl) (gw hw 54 rfl) (gw hw 54 rfl) (gw hw 53 rfl) (gw hw 12 rfl) (gw hw 55 rfl) (by decide) pd_5 rfl rfl rfl (lb rfl) (lb rfl) (lb rfl) (lb rfl) ?_
  rintro _ _ ⟨rfl, rfl⟩
  show W30 l Z (rm4 2 2 4 29) ((s, strO v) :: (v, fA .byte [y0, y1]) :: F) 0 0 4 #[.val (.ref s), .val (.int 2), .val (.int 2), .unset, .unset] [(.int 2)] (Q_c_sub_2_2_2 s v y0 y1 F)
  refine wp_istore_n #[.val (.ref s), .val (.int 2), .val (.int 2), .val (.int 2), .unset] D_jdk_42_m92_4 rfl ?_
  refine wp_iload_n D_jdk_42_m92_5 rfl ?_
  refine wp_iload_n D_jdk_42_m92_6 rfl ?_
  refine wp_iload_n D_jdk_42_m92_7 rfl ?_
  refine wp_callS (c_cbe l Z a0 hw 2 2 2 cp fm ((s, strO v) :: (v, fA .byte [y0, y1]) :: F) hs (by decide) (by decide) (by decide)) D_jdk_42_m92_8 (gw hw 110 rfl) (gw hw 111 rfl) (gw hw 12 rfl) (gw hw 112 rfl) (by decide) pd_11 rfl rfl rfl (lb rfl) (lb rfl) (lb rfl) (lb rfl) ?_
  rintro _ _ ⟨rfl, rfl⟩
  show W30 l Z (rm4 2 2 4 29) ((s, strO v) :: (v, fA .byte [y0, y1]) :: F) 0 0 11 #[.val (.ref s), .val (.int 2), .val (.int 2), .val (.int 2), .unset] [] (Q_c_sub_2_2_2 s v y0 y1 F)
  refine wp_iload_n D_jdk_42_m92_11 rfl ?_
  refine wp_if_ne D_jdk_42_m92_12 (pc'' := 22) ⟨by decide, by decide⟩ (fun h1 => ?_) (fun h1 => by exact absurd h1 (by decide))
  refine wp_iload_n D_jdk_42_m92_22 rfl ?_
  refine wp_iload_n D_jdk_42_m92_23 rfl ?_
  refine wp_isub D_jdk_42_m92_24 ?_
  rw [show ((2 : Int32) - (2 : Int32)) = (0 : Int32) from by decide]
  refine wp_istore #[.val (.ref s), .val (.int 2), .val (.int 2), .val (.int 2), .val (.int 0)] D_jdk_42_m92_25 rfl ?_
  refine wp_aload_n D_jdk_42_m92_27 rfl rfl ?_
  refine wp_virtual (c_lat l Z a0 hw s v cp fm ((v, fA .byte [y0, y1]) :: F) hs ) (exa_new (i := 0) rfl) D_jdk_42_m92_28 (gw hw 45 rfl) (gw hw 46 rfl) (gw hw 48 rfl) (gw hw 48 rfl) (gw hw 47 rfl) (gw hw 12 rfl) (gw hw 49 rfl) (by decide) pd_4 rfl rfl rfl (lb rfl) (lb rfl) (lb rfl) (lb rfl) ?_
  rintro _ _ ⟨rfl, rfl⟩
  show W30 l Z (rm4 2 2 4 29) ((s, strO v) :: (v, fA .byte [y0, y1]) :: F) 0 0 31 #[.val (.ref s), .val (.int 2), .val (.int 2), .val (.int 2), .val (.int 0)] [(.int 1)] (Q_c_sub_2_2_2 s v y0 y1 F)
  refine wp_if_eq D_jdk_42_m92_31 (pc'' := 47) ⟨by decide, by decide⟩ (fun h2 => by exact absurd h2 (by decide)) (fun h2 => ?_)
  refine wp_aload_n D_jdk_42_m92_34 rfl rfl ?_
  refine wp_getfield D_jdk_42_m92_35 (gw hw 29 rfl) (fld_new (i := 0) (fi := 0) rfl rfl rfl) ?_
  refine wp_iload_n D_jdk_42_m92_38 rfl ?_
  refine wp_iload D_jdk_42_m92_39 rfl ?_
  refine wp_callSI (c_nst_2_2_2 l Z a0 hw s v y0 y1 cp fm F hs ) (own_EL l Z a0 hw) D_jdk_42_m92_41 (gw hw 118 rfl) (gw hw 119 rfl) (gw hw 63 rfl) (gw hw 120 rfl) (by decide) pd_13 rfl rfl rfl (lb rfl) (lb rfl) (lb rfl) (lb rfl) ?_
  rintro _ _ ⟨sa3, su4, rfl, rfl⟩
  show W30 l Z (rm4 2 2 4 29) ((sa3, strO su4) :: (su4, fA .byte []) :: (s, strO v) :: (v, fA .byte [y0, y1]) :: F) 2 4 44 #[.val (.ref s), .val (.int 2), .val (.int 2), .val (.int 2), .val (.int 0)] [(.ref sa3)] (Q_c_sub_2_2_2 s v y0 y1 F)
  refine wp_goto D_jdk_42_m92_44 (pc'' := 57) ⟨by decide, by decide⟩ ?_
  refine wp_areturn D_jdk_42_m92_57 rfl rfl rfl rfl (by decide) (by decide) ?_
  exact ⟨_, _, rfl, rfl⟩
def Q_c_sb1_2_2_2 (s v : Addr) (y0 y1 : Int32) (F : OH) : Option Value → OH → Prop := fun w' H' => ∃ a u, w' = some (.ref a) ∧ H' = ((a, strO u) :: (u, fA .byte []) :: (s, strO v) :: (v, fA .byte [y0, y1]) :: F)
set_option maxRecDepth 65536 in
set_option maxHeartbeats 40000000 in
theorem c_sb1_2_2_2 (l : Launch) (Z : State) (a0 : Array Value) (hw : HW Z a0) (s v : Addr) (y0 y1 : Int32) (cp : Int32) (fm : Value) (F : OH) (hs : Std Z cp fm) :
    MetI consts_1 l Z (⟨"java/lang/String", "substring", "(I)Ljava/lang/String;"⟩ : MethodName) jdk_42_method_91_code 2 (some (.object "java/lang/String")) (rm4 3 2 4 45) [(.ref s), (.int 2)] ((s, strO v) :: (v, fA .byte [y0, y1]) :: F) (Q_c_sb1_2_2_2 s v y0 y1 F) := by
  refine MetI.of_wp (Ls := #[.val (.ref s), .val (.int 2)]) pn_29 (fun m => (entry_loc m _ _).trans rfl) (own_EL l Z a0 hw) ?_
  show W31 l Z (rm4 3 2 4 45) ((s, strO v) :: (v, fA .byte [y0, y1]) :: F) 0 0 0 #[.val (.ref s), .val (.int 2)] [] (Q_c_sb1_2_2_2 s v y0 y1 F)
  refine wp_aload_n D_jdk_42_m91_0 rfl rfl ?_
  refine wp_iload_n D_jdk_42_m91_1 rfl ?_
  refine wp_aload_n D_jdk_42_m91_2 rfl rfl ?_
  refine wp_virtual (c_len_2 l Z a0 hw s v y0 y1 cp fm F hs ) (exa_new (i := 0) rfl) D_jdk_42_m91_3 (gw hw 51 rfl) (gw hw 52 rfl) (gw hw 54 rfl) (gw hw 54 rfl) (gw hw 53 rfl) (gw hw 12 rfl) (gw hw 55 rfl) (by decide) pd_5 rfl rfl rfl (lb rfl) (lb rfl) (lb rfl) (lb rfl) ?_
  rintro _ _ ⟨rfl, rfl⟩
  show W31 l Z (rm4 3 2 4 45) ((s, strO v) :: (v, fA .byte [y0, y1]) :: F) 0 0 6 #[.val (.ref s), .val (.int 2)] [(.int 2), (.int 2), (.ref s)] (Q_c_sb1_2_2_2 s v y0 y1 F)
  refine wp_virtualI (c_sub_2_2_2 l Z a0 hw s v y0 y1 cp fm F hs ) (exa_new (i := 0) rfl) (own_EL l Z a0 hw) D_jdk_42_m91_6 (gw hw 105 rfl) (gw hw 106 rfl) (gw hw 108 rfl) (gw hw 108 rfl) (gw hw 107 rfl) (gw hw 12 rfl) (gw hw 109 rfl) (by decide) pd_10 rfl rfl rfl (lb rfl) (lb rfl) (lb rfl) (lb rfl) ?_
  rintro _ _ ⟨sa1, su2, rfl, rfl⟩
  show W31 l Z (rm4 3 2 4 45) ((sa1, strO su2) :: (su2, fA .byte []) :: (s, strO v) :: (v, fA .byte [y0, y1]) :: F) 2 4 9 #[.val (.ref s), .val (.int 2)] [(.ref sa1)] (Q_c_sb1_2_2_2 s v y0 y1 F)
  refine wp_areturn D_jdk_42_m91_9 rfl rfl rfl rfl (by decide) (by decide) ?_
  exact ⟨_, _, rfl, rfl⟩
def Q_c_fr_2_1 (s v : Addr) (y0 y1 : Int32) (F : OH) : Option Value → OH → Prop := fun w' H' => ∃ o a u, w' = some (.ref o) ∧ H' = ((o, fI "java/util/Optional" sg_2 [(.ref a)]) :: (a, strO u) :: (u, fA .byte []) :: (s, strO v) :: (v, fA .byte [y0, y1]) :: F)
set_option maxRecDepth 65536 in
set_option maxHeartbeats 40000000 in
theorem c_fr_2_1 (l : Launch) (Z : State) (a0 : Array Value) (hw : HW Z a0) (s v : Addr) (y0 y1 : Int32) (cp : Int32) (fm : Value) (F : OH) (hs : Std Z cp fm) (hq0 : ¬ y0 = 35) (hq1 : y1 = 35) :
    MetI consts_1 l Z (⟨"com/example/bylint/bylint/description/UriReferences", "fragment", "(Ljava/lang/String;)Ljava/util/Optional;"⟩ : MethodName) prog_9_method_6_code 2 (some (.object "java/util/Optional")) (rm4 4 3 5 59) [(.ref s)] ((s, strO v) :: (v, fA .byte [y0, y1]) :: F) (Q_c_fr_2_1 s v y0 y1 F) := by
  refine MetI.of_wp (Ls := #[.val (.ref s), .unset]) pn_24 (fun m => (entry_loc m _ _).trans rfl) (own_EL l Z a0 hw) ?_
  show W32 l Z (rm4 4 3 5 59) ((s, strO v) :: (v, fA .byte [y0, y1]) :: F) 0 0 0 #[.val (.ref s), .unset] [] (Q_c_fr_2_1 s v y0 y1 F)
  refine wp_aload_n D_prog_9_m6_0 rfl rfl ?_
  refine wp_bipush 35 D_prog_9_m6_1 (by decide) ?_
  refine wp_virtual (c_si_2 l Z a0 hw s v y0 y1 (1 : Int32) cp fm F hs (c_ioc_2_1 l Z a0 hw s v y0 y1 F hq0 hq1)) (exa_new (i := 0) rfl) D_prog_9_m6_3 (gw hw 35 rfl) (gw hw 36 rfl) (gw hw 38 rfl) (gw hw 38 rfl) (gw hw 37 rfl) (gw hw 12 rfl) (gw hw 39 rfl) (by decide) pd_20 rfl rfl rfl (lb rfl) (lb rfl) (lb rfl) (lb rfl) ?_
  rintro _ _ ⟨rfl, rfl⟩
  show W32 l Z (rm4 4 3 5 59) ((s, strO v) :: (v, fA .byte [y0, y1]) :: F) 0 0 6 #[.val (.ref s), .unset] [(.int 1)] (Q_c_fr_2_1 s v y0 y1 F)
  refine wp_istore_n #[.val (.ref s), .val (.int 1)] D_prog_9_m6_6 rfl ?_
  refine wp_iload_n D_prog_9_m6_7 rfl ?_
  refine wp_if_ge D_prog_9_m6_8 (pc'' := 17) ⟨by decide, by decide⟩ (fun h1 => ?_) (fun h1 => by exact absurd h1 (by decide))
  refine wp_aload_n D_prog_9_m6_17 rfl rfl ?_
  refine wp_iload_n D_prog_9_m6_18 rfl ?_
  refine wp_iconst 1 D_prog_9_m6_19 (by decide) ?_
  refine wp_iadd D_prog_9_m6_20 ?_
  rw [show ((1 : Int32) + (1 : Int32)) = (2 : Int32) from by decide]
  refine wp_virtualI (c_sb1_2_2_2 l Z a0 hw s v y0 y1 cp fm F hs ) (exa_new (i := 0) rfl) (own_EL l Z a0 hw) D_prog_9_m6_21 (gw hw 100 rfl) (gw hw 101 rfl) (gw hw 103 rfl) (gw hw 103 rfl) (gw hw 102 rfl) (gw hw 12 rfl) (gw hw 104 rfl) (by decide) pd_22 rfl rfl rfl (lb rfl) (lb rfl) (lb rfl) (lb rfl) ?_
  rintro _ _ ⟨sa2, su3, rfl, rfl⟩
  show W32 l Z (rm4 4 3 5 59) ((sa2, strO su3) :: (su3, fA .byte []) :: (s, strO v) :: (v, fA .byte [y0, y1]) :: F) 2 4 24 #[.val (.ref s), .val (.int 1)] [(.ref sa2)] (Q_c_fr_2_1 s v y0 y1 F)
  refine wp_callS (c_of l Z a0 hw sa2 ((sa2, strO su3) :: (su3, fA .byte []) :: (s, strO v) :: (v, fA .byte [y0, y1]) :: F) ) D_prog_9_m6_24 (gw hw 140 rfl) (gw hw 141 rfl) (gw hw 77 rfl) (gw hw 142 rfl) (by decide) pd_23 rfl rfl rfl (lb rfl) (lb rfl) (lb rfl) (lb rfl) ?_
  rintro _ _ ⟨o4, rfl, rfl⟩
  show W32 l Z (rm4 4 3 5 59) ((o4, fI "java/util/Optional" sg_2 [(.ref sa2)]) :: (sa2, strO su3) :: (su3, fA .byte []) :: (s, strO v) :: (v, fA .byte [y0, y1]) :: F) 3 5 27 #[.val (.ref s), .val (.int 1)] [(.ref o4)] (Q_c_fr_2_1 s v y0 y1 F)
  refine wp_areturn D_prog_9_m6_27 rfl rfl rfl rfl (by decide) (by decide) ?_
  exact ⟨_, _, _, rfl, rfl⟩
def Q_c_min_3_3  (F : OH) : Option Value → OH → Prop := fun w' H' => w' = some (.int 3) ∧ H' = F
set_option maxRecDepth 65536 in
set_option maxHeartbeats 40000000 in
theorem c_min_3_3 (l : Launch) (Z : State) (a0 : Array Value) (hw : HW Z a0)  (F : OH) :
    Met l Z (⟨"java/lang/Math", "min", "(II)I"⟩ : MethodName) jdk_29_method_69_code 2 (some .int) (rm4 0 0 0 0) [(.int 3), (.int 3)] F (Q_c_min_3_3 F) := by
  refine Met.of_wp (Ls := #[.val (.int 3), .val (.int 3)]) pn_19 (fun m => (entry_loc m _ _).trans rfl) ?_
  show W21 l Z (rm4 0 0 0 0) F 0 0 0 #[.val (.int 3), .val (.int 3)] [] (Q_c_min_3_3 F)
  refine wp_iload_n D_jdk_29_m69_0 rfl ?_
  refine wp_iload_n D_jdk_29_m69_1 rfl ?_
  refine wp_icmp_gt D_jdk_29_m69_2 (pc'' := 9) ⟨by decide, by decide⟩ (fun h1 => by exact absurd h1 (by decide)) (fun h1 => ?_)
  refine wp_iload_n D_jdk_29_m69_5 rfl ?_
  refine wp_goto D_jdk_29_m69_6 (pc'' := 10) ⟨by decide, by decide⟩ ?_
  refine wp_ireturn D_jdk_29_m69_10 rfl (by decide) (by decide) ?_
  exact ⟨rfl, rfl⟩
def Q_ioc_3 (s v : Addr) (y0 y1 y2 : Int32) (r : Int32) (F : OH) : Option Value → OH → Prop := fun w' H' => w' = some (.int r) ∧ H' = ((s, strO v) :: (v, fA .byte [y0, y1, y2]) :: F)
def Q_c_lix_3 (s v : Addr) (y0 y1 y2 : Int32) (r : Int32) (F : OH) : Option Value → OH → Prop := fun w' H' => w' = some (.int r) ∧ H' = ((s, strO v) :: (v, fA .byte [y0, y1, y2]) :: F)
set_option maxRecDepth 65536 in
set_option maxHeartbeats 40000000 in
theorem c_lix_3 (l : Launch) (Z : State) (a0 : Array Value) (hw : HW Z a0) (s v : Addr) (y0 y1 y2 : Int32) (r : Int32) (cp : Int32) (fm : Value) (F : OH) (hs : Std Z cp fm) (hM : Met l Z (⟨"java/lang/StringLatin1", "indexOfChar", "([BIII)I"⟩ : MethodName) jdk_43_method_23_code 6 (some .int) (rm4 0 0 0 0) [.ref v, .int 35, .int 0, .int 3] ((s, strO v) :: (v, fA .byte [y0, y1, y2]) :: F) (Q_ioc_3 s v y0 y1 y2 r F)) :
    Met l Z (⟨"java/lang/StringLatin1", "indexOf", "([BIII)I"⟩ : MethodName) jdk_43_method_22_code 4 (some .int) (rm4 1 0 0 17) [(.ref v), (.int 35), (.int 0), (.int 3)] ((s, strO v) :: (v, fA .byte [y0, y1, y2]) :: F) (Q_c_lix_3 s v y0 y1 y2 r F) := by
  refine Met.of_wp (Ls := #[.val (.ref v), .val (.int 35), .val (.int 0), .val (.int 3)]) pn_21 (fun m => (entry_loc m _ _).trans rfl) ?_
  show W22 l Z (rm4 1 0 0 17) ((s, strO v) :: (v, fA .byte [y0, y1, y2]) :: F) 0 0 0 #[.val (.ref v), .val (.int 35), .val (.int 0), .val (.int 3)] [] (Q_c_lix_3 s v y0 y1 y2 r F)
  refine wp_iload_n D_jdk_43_m22_0 rfl ?_
  refine wp_callS (c_can l Z a0 hw  ((s, strO v) :: (v, fA .byte [y0, y1, y2]) :: F) ) D_jdk_43_m22_1 (gw hw 65 rfl) (gw hw 66 rfl) (gw hw 63 rfl) (gw hw 67 rfl) (by decide) pd_15 rfl rfl rfl (lb rfl) (lb rfl) (lb rfl) (lb rfl) ?_
  rintro _ _ ⟨rfl, rfl⟩
  show W22 l Z (rm4 1 0 0 17) ((s, strO v) :: (v, fA .byte [y0, y1, y2]) :: F) 0 0 4 #[.val (.ref v), .val (.int 35), .val (.int 0), .val (.int 3)] [(.int 1)] (Q_c_lix_3 s v y0 y1 y2 r F)
  refine wp_if_ne D_jdk_43_m22_4 (pc'' := 9) ⟨by decide, by decide⟩ (fun h1 => ?_) (fun h1 => by exact absurd h1 (by decide))
  refine wp_iload_n D_jdk_43_m22_9 rfl ?_
  refine wp_iconst 0 D_jdk_43_m22_10 (by decide) ?_
  refine wp_callS (c_max_0_0 l Z a0 hw  ((s, strO v) :: (v, fA .byte [y0, y1, y2]) :: F) ) D_jdk_43_m22_11 (gw hw 68 rfl) (gw hw 69 rfl) (gw hw 70 rfl) (gw hw 71 rfl) (by decide) pd_3 rfl rfl rfl (lb rfl) (lb rfl) (lb rfl) (lb rfl) ?_
  rintro _ _ ⟨rfl, rfl⟩
  show W22 l Z (rm4 1 0 0 17) ((s, strO v) :: (v, fA .byte [y0, y1, y2]) :: F) 0 0 14 #[.val (.ref v), .val (.int 35), .val (.int 0), .val (.int 3)] [(.int 0)] (Q_c_lix_3 s v y0 y1 y2 r F)
  refine wp_istore_n #[.val (.ref v), .val (.int 35), .val (.int 0), .val (.int 3)] D_jdk_43_m22_14 rfl ?_
  refine wp_iload_n D_jdk_43_m22_15 rfl ?_
  refine wp_aload_n D_jdk_43_m22_16 rfl rfl ?_
  refine wp_lengthI (i := 1) (3 : Int32) D_jdk_43_m22_17 rfl rfl ?_
  refine wp_callS (c_min_3_3 l Z a0 hw  ((s, strO v) :: (v, fA .byte [y0, y1, y2]) :: F) ) D_jdk_43_m22_18 (gw hw 72 rfl) (gw hw 73 rfl) (gw hw 70 rfl) (gw hw 74 rfl) (by decide) pd_3 rfl rfl rfl (lb rfl) (lb rfl) (lb rfl) (lb rfl) ?_
  rintro _ _ ⟨rfl, rfl⟩
  show W22 l Z (rm4 1 0 0 17) ((s, strO v) :: (v, fA .byte [y0, y1, y2]) :: F) 0 0 21 #[.val (.ref v), .val (.int 35), .val (.int 0), .val (.int 3)] [(.int 3)] (Q_c_lix_3 s v y0 y1 y2 r F)
  refine wp_istore_n #[.val (.ref v), .val (.int 35), .val (.int 0), .val (.int 3)] D_jdk_43_m22_21 rfl ?_
  refine wp_iload_n D_jdk_43_m22_22 rfl ?_
  refine wp_iload_n D_jdk_43_m22_23 rfl ?_
  refine wp_icmp_lt D_jdk_43_m22_24 (pc'' := 29) ⟨by decide, by decide⟩ (fun h2 => ?_) (fun h2 => by exact absurd h2 (by decide))
  refine wp_aload_n D_jdk_43_m22_29 rfl rfl ?_
  refine wp_iload_n D_jdk_43_m22_30 rfl ?_
  refine wp_iload_n D_jdk_43_m22_31 rfl ?_
  refine wp_iload_n D_jdk_43_m22_32 rfl ?_
  refine wp_callS hM D_jdk_43_m22_33 (gw hw 97 rfl) (gw hw 98 rfl) (gw hw 63 rfl) (gw hw 99 rfl) (by decide) pd_7 rfl rfl rfl (lb rfl) (lb rfl) (lb rfl) (lb rfl) ?_
  rintro _ _ ⟨rfl, rfl⟩
  show W22 l Z (rm4 1 0 0 17) ((s, strO v) :: (v, fA .byte [y0, y1, y2]) :: F) 0 0 36 #[.val (.ref v), .val (.int 35), .val (.int 0), .val (.int 3)] [(.int r)] (Q_c_lix_3 s v y0 y1 y2 r F)
  refine wp_ireturn D_jdk_43_m22_36 rfl (by decide) (by decide) ?_
  exact ⟨rfl, rfl⟩
def Q_c_six_3 (s v : Addr) (y0 y1 y2 : Int32) (r : Int32) (F : OH) : Option Value → OH → Prop := fun w' H' => w' = some (.int r) ∧ H' = ((s, strO v) :: (v, fA .byte [y0, y1, y2]) :: F)
set_option maxRecDepth 65536 in
set_option maxHeartbeats 40000000 in
theorem c_six_3 (l : Launch) (Z : State) (a0 : Array Value) (hw : HW Z a0) (s v : Addr) (y0 y1 y2 : Int32) (r : Int32) (cp : Int32) (fm : Value) (F : OH) (hs : Std Z cp fm) (hM : Met l Z (⟨"java/lang/StringLatin1", "indexOfChar", "([BIII)I"⟩ : MethodName) jdk_43_method_23_code 6 (some .int) (rm4 0 0 0 0) [.ref v, .int 35, .int 0, .int 3] ((s, strO v) :: (v, fA .byte [y0, y1, y2]) :: F) (Q_ioc_3 s v y0 y1 y2 r F)) :
    Met l Z (⟨"java/lang/String", "indexOf", "(II)I"⟩ : MethodName) jdk_42_method_80_code 3 (some .int) (rm4 2 0 0 32) [(.ref s), (.int 35), (.int 0)] ((s, strO v) :: (v, fA .byte [y0, y1, y2]) :: F) (Q_c_six_3 s v y0 y1 y2 r F) := by
  refine Met.of_wp (Ls := #[.val (.ref s), .val (.int 35), .val (.int 0)]) pn_22 (fun m => (entry_loc m _ _).trans rfl) ?_
  show W23 l Z (rm4 2 0 0 32) ((s, strO v) :: (v, fA .byte [y0, y1, y2]) :: F) 0 0 0 #[.val (.ref s), .val (.int 35), .val (.int 0)] [] (Q_c_six_3 s v y0 y1 y2 r F)
  refine wp_aload_n D_jdk_42_m80_0 rfl rfl ?_
  refine wp_virtual (c_lat l Z a0 hw s v cp fm ((v, fA .byte [y0, y1, y2]) :: F) hs ) (exa_new (i := 0) rfl) D_jdk_42_m80_1 (gw hw 45 rfl) (gw hw 46 rfl) (gw hw 48 rfl) (gw hw 48 rfl) (gw hw 47 rfl) (gw hw 12 rfl) (gw hw 49 rfl) (by decide) pd_4 rfl rfl rfl (lb rfl) (lb rfl) (lb rfl) (lb rfl) ?_
  rintro _ _ ⟨rfl, rfl⟩
  show W23 l Z (rm4 2 0 0 32) ((s, strO v) :: (v, fA .byte [y0, y1, y2]) :: F) 0 0 4 #[.val (.ref s), .val (.int 35), .val (.int 0)] [(.int 1)] (Q_c_six_3 s v y0 y1 y2 r F)
  refine wp_if_eq D_jdk_42_m80_4 (pc'' := 23) ⟨by decide, by decide⟩ (fun h1 => by exact absurd h1 (by decide)) (fun h1 => ?_)
  refine wp_aload_n D_jdk_42_m80_7 rfl rfl ?_
  refine wp_getfield D_jdk_42_m80_8 (gw hw 29 rfl) (fld_new (i := 0) (fi := 0) rfl rfl rfl) ?_
  refine wp_iload_n D_jdk_42_m80_11 rfl ?_
  refine wp_iload_n D_jdk_42_m80_12 rfl ?_
  refine wp_aload_n D_jdk_42_m80_13 rfl rfl ?_
  refine wp_virtual (c_len_3 l Z a0 hw s v y0 y1 y2 cp fm F hs ) (exa_new (i := 0) rfl) D_jdk_42_m80_14 (gw hw 51 rfl) (gw hw 52 rfl) (gw hw 54 rfl) (gw hw 54 rfl) (gw hw 53 rfl) (gw hw 12 rfl) (gw hw 55 rfl) (by decide) pd_5 rfl rfl rfl (lb rfl) (lb rfl) (lb rfl) (lb rfl) ?_
  rintro _ _ ⟨rfl, rfl⟩
  show W23 l Z (rm4 2 0 0 32) ((s, strO v) :: (v, fA .byte [y0, y1, y2]) :: F) 0 0 17 #[.val (.ref s), .val (.int 35), .val (.int 0)] [(.int 3), (.int 0), (.int 35), (.ref v)] (Q_c_six_3 s v y0 y1 y2 r F)
  refine wp_callS (c_lix_3 l Z a0 hw s v y0 y1 y2 r cp fm F hs hM) D_jdk_42_m80_17 (gw hw 61 rfl) (gw hw 62 rfl) (gw hw 63 rfl) (gw hw 64 rfl) (by decide) pd_7 rfl rfl rfl (lb rfl) (lb rfl) (lb rfl) (lb rfl) ?_
  rintro _ _ ⟨rfl, rfl⟩
  show W23 l Z (rm4 2 0 0 32) ((s, strO v) :: (v, fA .byte [y0, y1, y2]) :: F) 0 0 20 #[.val (.ref s), .val (.int 35), .val (.int 0)] [(.int r)] (Q_c_six_3 s v y0 y1 y2 r F)
  refine wp_goto D_jdk_42_m80_20 (pc'' := 36) ⟨by decide, by decide⟩ ?_
  refine wp_ireturn D_jdk_42_m80_36 rfl (by decide) (by decide) ?_
  exact ⟨rfl, rfl⟩
def Q_c_si_3 (s v : Addr) (y0 y1 y2 : Int32) (r : Int32) (F : OH) : Option Value → OH → Prop := fun w' H' => w' = some (.int r) ∧ H' = ((s, strO v) :: (v, fA .byte [y0, y1, y2]) :: F)
set_option maxRecDepth 65536 in
set_option maxHeartbeats 40000000 in
theorem c_si_3 (l : Launch) (Z : State) (a0 : Array Value) (hw : HW Z a0) (s v : Addr) (y0 y1 y2 : Int32) (r : Int32) (cp : Int32) (fm : Value) (F : OH) (hs : Std Z cp fm) (hM : Met l Z (⟨"java/lang/StringLatin1", "indexOfChar", "([BIII)I"⟩ : MethodName) jdk_43_method_23_code 6 (some .int) (rm4 0 0 0 0) [.ref v, .int 35, .int 0, .int 3] ((s, strO v) :: (v, fA .byte [y0, y1, y2]) :: F) (Q_ioc_3 s v y0 y1 y2 r F)) :
    Met l Z (⟨"java/lang/String", "indexOf", "(I)I"⟩ : MethodName) jdk_42_method_79_code 2 (some .int) (rm4 3 0 0 46) [(.ref s), (.int 35)] ((s, strO v) :: (v, fA .byte [y0, y1, y2]) :: F) (Q_c_si_3 s v y0 y1 y2 r F) := by
  refine Met.of_wp (Ls := #[.val (.ref s), .val (.int 35)]) pn_23 (fun m => (entry_loc m _ _).trans rfl) ?_
  show W24 l Z (rm4 3 0 0 46) ((s, strO v) :: (v, fA .byte [y0, y1, y2]) :: F) 0 0 0 #[.val (.ref s), .val (.int 35)] [] (Q_c_si_3 s v y0 y1 y2 r F)
  refine wp_aload_n D_jdk_42_m79_0 rfl rfl ?_
  refine wp_iload_n D_jdk_42_m79_1 rfl ?_
  refine wp_iconst 0 D_jdk_42_m79_2 (by decide) ?_
  refine wp_virtual (c_six_3 l Z a0 hw s v y0 y1 y2 r cp fm F hs hM) (exa_new (i := 0) rfl) D_jdk_42_m79_3 (gw hw 40 rfl) (gw hw 41 rfl) (gw hw 43 rfl) (gw hw 43 rfl) (gw hw 42 rfl) (gw hw 12 rfl) (gw hw 44 rfl) (by decide) pd_3 rfl rfl rfl (lb rfl) (lb rfl) (lb rfl) (lb rfl) ?_
  rintro _ _ ⟨rfl, rfl⟩
  show W24 l Z (rm4 3 0 0 46) ((s, strO v) :: (v, fA .byte [y0, y1, y2]) :: F) 0 0 6 #[.val (.ref s), .val (.int 35)] [(.int r)] (Q_c_si_3 s v y0 y1 y2 r F)
  refine wp_ireturn D_jdk_42_m79_6 rfl (by decide) (by decide) ?_
  exact ⟨rfl, rfl⟩
set_option maxRecDepth 65536 in
set_option maxHeartbeats 40000000 in
theorem c_ioc_3_m (l : Launch) (Z : State) (a0 : Array Value) (hw : HW Z a0) (s v : Addr) (y0 y1 y2 : Int32) (F : OH) (hq0 : ¬ y0 = 35) (hq1 : ¬ y1 = 35) (hq2 : ¬ y2 = 35) :
    Met l Z (⟨"java/lang/StringLatin1", "indexOfChar", "([BIII)I"⟩ : MethodName) jdk_43_method_23_code 6 (some .int) (rm4 0 0 0 0) [(.ref v), (.int 35), (.int 0), (.int 3)] ((s, strO v) :: (v, fA .byte [y0, y1, y2]) :: F) (Q_ioc_3 s v y0 y1 y2 (-1 : Int32) F) := by
  refine Met.of_wp (Ls := #[.val (.ref v), .val (.int 35), .val (.int 0), .val (.int 3), .unset, .unset]) pn_20 (fun m => (entry_loc m _ _).trans rfl) ?_
  show W26 l Z (rm4 0 0 0 0) ((s, strO v) :: (v, fA .byte [y0, y1, y2]) :: F) 0 0 0 #[.val (.ref v), .val (.int 35), .val (.int 0), .val (.int 3), .unset, .unset] [] (Q_ioc_3 s v y0 y1 y2 (-1 : Int32) F)
  refine wp_iload_n D_jdk_43_m23_0 rfl ?_
  refine wp_i2b D_jdk_43_m23_1 ?_
  rw [show (35 : Int32).toInt8.toInt32 = (35 : Int32) from by decide]
  refine wp_istore #[.val (.ref v), .val (.int 35), .val (.int 0), .val (.int 3), .val (.int 35), .unset] D_jdk_43_m23_2 rfl ?_
  refine wp_iload_n D_jdk_43_m23_4 rfl ?_
  refine wp_istore #[.val (.ref v), .val (.int 35), .val (.int 0), .val (.int 3), .val (.int 35), .val (.int 0)] D_jdk_43_m23_5 rfl ?_
  refine wp_iload D_jdk_43_m23_7 rfl ?_
  refine wp_iload_n D_jdk_43_m23_9 rfl ?_
  refine wp_icmp_ge D_jdk_43_m23_10 (pc'' := 31) ⟨by decide, by decide⟩ (fun h1 => by exact absurd h1 (by decide)) (fun h1 => ?_)
  refine wp_aload_n D_jdk_43_m23_13 rfl rfl ?_
  refine wp_iload D_jdk_43_m23_14 rfl ?_
  refine wp_baload (i := 1) (0) D_jdk_43_m23_16 rfl (by decide) (by decide) rfl ?_
  refine wp_iload D_jdk_43_m23_17 rfl ?_
  refine wp_icmp_ne D_jdk_43_m23_19 (pc'' := 25) ⟨by decide, by decide⟩ (fun h2 => ?_) (fun h2 => by exact absurd h2 hq0)
  refine wp_iinc 1 #[.val (.ref v), .val (.int 35), .val (.int 0), .val (.int 3), .val (.int 35), .val (.int 1)] D_jdk_43_m23_25 rfl rfl (by rw [show (0 : Int32) + (1 : Int32) = (1 : Int32) from by decide]; rfl) ?_
  refine wp_goto D_jdk_43_m23_28 (pc'' := 7) ⟨by decide, by decide⟩ ?_
  refine wp_iload D_jdk_43_m23_7 rfl ?_
  refine wp_iload_n D_jdk_43_m23_9 rfl ?_
  refine wp_icmp_ge D_jdk_43_m23_10 (pc'' := 31) ⟨by decide, by decide⟩ (fun h3 => by exact absurd h3 (by decide)) (fun h3 => ?_)
  refine wp_aload_n D_jdk_43_m23_13 rfl rfl ?_
  refine wp_iload D_jdk_43_m23_14 rfl ?_
  refine wp_baload (i := 1) (1) D_jdk_43_m23_16 rfl (by decide) (by decide) rfl ?_
  refine wp_iload D_jdk_43_m23_17 rfl ?_
  refine wp_icmp_ne D_jdk_43_m23_19 (pc'' := 25) ⟨by decide, by decide⟩ (fun h4 => ?_) (fun h4 => by exact absurd h4 hq1)
  refine wp_iinc 1 #[.val (.ref v), .val (.int 35), .val (.int 0), .val (.int 3), .val (.int 35), .val (.int 2)] D_jdk_43_m23_25 rfl rfl (by rw [show (1 : Int32) + (1 : Int32) = (2 : Int32) from by decide]; rfl) ?_
  refine wp_goto D_jdk_43_m23_28 (pc'' := 7) ⟨by decide, by decide⟩ ?_
  refine wp_iload D_jdk_43_m23_7 rfl ?_
  refine wp_iload_n D_jdk_43_m23_9 rfl ?_
  refine wp_icmp_ge D_jdk_43_m23_10 (pc'' := 31) ⟨by decide, by decide⟩ (fun h5 => by exact absurd h5 (by decide)) (fun h5 => ?_)
  refine wp_aload_n D_jdk_43_m23_13 rfl rfl ?_
  refine wp_iload D_jdk_43_m23_14 rfl ?_
  refine wp_baload (i := 1) (2) D_jdk_43_m23_16 rfl (by decide) (by decide) rfl ?_
  refine wp_iload D_jdk_43_m23_17 rfl ?_
  refine wp_icmp_ne D_jdk_43_m23_19 (pc'' := 25) ⟨by decide, by decide⟩ (fun h6 => ?_) (fun h6 => by exact absurd h6 hq2)
  refine wp_iinc 1 #[.val (.ref v), .val (.int 35), .val (.int 0), .val (.int 3), .val (.int 35), .val (.int 3)] D_jdk_43_m23_25 rfl rfl (by rw [show (2 : Int32) + (1 : Int32) = (3 : Int32) from by decide]; rfl) ?_
  refine wp_goto D_jdk_43_m23_28 (pc'' := 7) ⟨by decide, by decide⟩ ?_
  refine wp_iload D_jdk_43_m23_7 rfl ?_
  refine wp_iload_n D_jdk_43_m23_9 rfl ?_
  refine wp_icmp_ge D_jdk_43_m23_10 (pc'' := 31) ⟨by decide, by decide⟩ (fun h7 => ?_) (fun h7 => by exact absurd h7 (by decide))
  refine wp_iconst (-1) D_jdk_43_m23_31 (by decide) ?_
  refine wp_ireturn D_jdk_43_m23_32 rfl (by decide) (by decide) ?_
  exact ⟨rfl, rfl⟩
def Q_c_fr_3_m (s v : Addr) (y0 y1 y2 : Int32) (aE : Addr) (F : OH) : Option Value → OH → Prop := fun w' H' => w' = some (.ref aE) ∧ H' = ((s, strO v) :: (v, fA .byte [y0, y1, y2]) :: F)
set_option maxRecDepth 65536 in
set_option maxHeartbeats 40000000 in
theorem c_fr_3_m (l : Launch) (Z : State) (a0 : Array Value) (hw : HW Z a0) (s v : Addr) (y0 y1 y2 : Int32) (aE : Addr) (cp : Int32) (fm : Value) (F : OH) (hs : Std Z cp fm) (S_E : Sta Z Z.heap "java/util/Optional" "EMPTY" "Ljava/util/Optional;" (.ref aE)) (hq0 : ¬ y0 = 35) (hq1 : ¬ y1 = 35) (hq2 : ¬ y2 = 35) :
    Met l Z (⟨"com/example/bylint/bylint/description/UriReferences", "fragment", "(Ljava/lang/String;)Ljava/util/Optional;"⟩ : MethodName) prog_9_method_6_code 2 (some (.object "java/util/Optional")) (rm4 4 0 0 59) [(.ref s)] ((s, strO v) :: (v, fA .byte [y0, y1, y2]) :: F) (Q_c_fr_3_m s v y0 y1 y2 aE F) := by
  refine Met.of_wp (Ls := #[.val (.ref s), .unset]) pn_24 (fun m => (entry_loc m _ _).trans rfl) ?_
  show W25 l Z (rm4 4 0 0 59) ((s, strO v) :: (v, fA .byte [y0, y1, y2]) :: F) 0 0 0 #[.val (.ref s), .unset] [] (Q_c_fr_3_m s v y0 y1 y2 aE F)
  refine wp_aload_n D_prog_9_m6_0 rfl rfl ?_
  refine wp_bipush 35 D_prog_9_m6_1 (by decide) ?_
  refine wp_virtual (c_si_3 l Z a0 hw s v y0 y1 y2 (-1 : Int32) cp fm F hs (c_ioc_3_m l Z a0 hw s v y0 y1 y2 F hq0 hq1 hq2)) (exa_new (i := 0) rfl) D_prog_9_m6_3 (gw hw 35 rfl) (gw hw 36 rfl) (gw hw 38 rfl) (gw hw 38 rfl) (gw hw 37 rfl) (gw hw 12 rfl) (gw hw 39 rfl) (by decide) pd_20 rfl rfl rfl (lb rfl) (lb rfl) (lb rfl) (lb rfl) ?_
  rintro _ _ ⟨rfl, rfl⟩
  show W25 l Z (rm4 4 0 0 59) ((s, strO v) :: (v, fA .byte [y0, y1, y2]) :: F) 0 0 6 #[.val (.ref s), .unset] [(.int (-1))] (Q_c_fr_3_m s v y0 y1 y2 aE F)
  refine wp_istore_n #[.val (.ref s), .val (.int (-1))] D_prog_9_m6_6 rfl ?_
  refine wp_iload_n D_prog_9_m6_7 rfl ?_
  refine wp_if_ge D_prog_9_m6_8 (pc'' := 17) ⟨by decide, by decide⟩ (fun h1 => by exact absurd h1 (by decide)) (fun h1 => ?_)
  refine wp_callS (c_emp l Z a0 hw aE ((s, strO v) :: (v, fA .byte [y0, y1, y2]) :: F) S_E) D_prog_9_m6_11 (gw hw 75 rfl) (gw hw 76 rfl) (gw hw 77 rfl) (gw hw 78 rfl) (by decide) pd_21 rfl rfl rfl (lb rfl) (lb rfl) (lb rfl) (lb rfl) ?_
  rintro _ _ ⟨rfl, rfl⟩
  show W25 l Z (rm4 4 0 0 59) ((s, strO v) :: (v, fA .byte [y0, y1, y2]) :: F) 0 0 14 #[.val (.ref s), .val (.int (-1))] [(.ref aE)] (Q_c_fr_3_m s v y0 y1 y2 aE F)
  refine wp_goto D_prog_9_m6_14 (pc'' := 27) ⟨by decide, by decide⟩ ?_
  refine wp_areturn D_prog_9_m6_27 rfl rfl rfl rfl (by decide) (by decide) ?_
  exact ⟨rfl, rfl⟩
set_option maxRecDepth 65536 in
set_option maxHeartbeats 40000000 in
theorem c_ioc_3_0 (l : Launch) (Z : State) (a0 : Array Value) (hw : HW Z a0) (s v : Addr) (y0 y1 y2 : Int32) (F : OH) (hq0 : y0 = 35) :
    Met l Z (⟨"java/lang/StringLatin1", "indexOfChar", "([BIII)I"⟩ : MethodName) jdk_43_method_23_code 6 (some .int) (rm4 0 0 0 0) [(.ref v), (.int 35), (.int 0), (.int 3)] ((s, strO v) :: (v, fA .byte [y0, y1, y2]) :: F) (Q_ioc_3 s v y0 y1 y2 (0 : Int32) F) := by
  refine Met.of_wp (Ls := #[.val (.ref v), .val (.int 35), .val (.int 0), .val (.int 3), .unset, .unset]) pn_20 (fun m => (entry_loc m _ _).trans rfl) ?_
  show W26 l Z (rm4 0 0 0 0) ((s, strO v) :: (v, fA .byte [y0, y1, y2]) :: F) 0 0 0 #[.val (.ref v), .val (.int 35), .val (.int 0), .val (.int 3), .unset, .unset] [] (Q_ioc_3 s v y0 y1 y2 (0 : Int32) F)
  refine wp_iload_n D_jdk_43_m23_0 rfl ?_
  refine wp_i2b D_jdk_43_m23_1 ?_
  rw [show (35 : Int32).toInt8.toInt32 = (35 : Int32) from by decide]
  refine wp_istore #[.val (.ref v), .val (.int 35), .val (.int 0), .val (.int 3), .val (.int 35), .unset] D_jdk_43_m23_2 rfl ?_
  refine wp_iload_n D_jdk_43_m23_4 rfl ?_
  refine wp_istore #[.val (.ref v), .val (.int 35), .val (.int 0), .val (.int 3), .val (.int 35), .val (.int 0)] D_jdk_43_m23_5 rfl ?_
  refine wp_iload D_jdk_43_m23_7 rfl ?_
  refine wp_iload_n D_jdk_43_m23_9 rfl ?_
  refine wp_icmp_ge D_jdk_43_m23_10 (pc'' := 31) ⟨by decide, by decide⟩ (fun h1 => by exact absurd h1 (by decide)) (fun h1 => ?_)
  refine wp_aload_n D_jdk_43_m23_13 rfl rfl ?_
  refine wp_iload D_jdk_43_m23_14 rfl ?_
  refine wp_baload (i := 1) (0) D_jdk_43_m23_16 rfl (by decide) (by decide) rfl ?_
  refine wp_iload D_jdk_43_m23_17 rfl ?_
  refine wp_icmp_ne D_jdk_43_m23_19 (pc'' := 25) ⟨by decide, by decide⟩ (fun h2 => by exact absurd hq0 h2) (fun h2 => ?_)
  refine wp_iload D_jdk_43_m23_22 rfl ?_
  refine wp_ireturn D_jdk_43_m23_24 rfl (by decide) (by decide) ?_
  exact ⟨rfl, rfl⟩
def Q_c_crb_3_1_3 (a s v : Addr) (y0 y1 y2 : Int32) (F : OH) : Option Value → OH → Prop := fun w' H' => ∃ b', w' = some (.ref b') ∧ H' = ((b', oA .byte [y1, y2]) :: (a, oS (.null)) :: (s, strO v) :: (v, fA .byte [y0, y1, y2]) :: F)
set_option maxRecDepth 65536 in
set_option maxHeartbeats 40000000 in
theorem c_crb_3_1_3 (l : Launch) (Z : State) (a0 : Array Value) (hw : HW Z a0) (a s v : Addr) (y0 y1 y2 : Int32) (cp : Int32) (fm : Value) (F : OH) (hs : Std Z cp fm) :
    Met l Z (⟨"java/util/Arrays", "copyOfRangeByte", "([BII)[B"⟩ : MethodName) jdk_65_method_133_code 5 (some (.array .byte)) (rm4 1 1 2 20) [(.ref v), (.int 1), (.int 3)] ((a, oS (.null)) :: (s, strO v) :: (v, fA .byte [y0, y1, y2]) :: F) (Q_c_crb_3_1_3 a s v y0 y1 y2 F) := by
  refine Met.of_wp (Ls := #[.val (.ref v), .val (.int 1), .val (.int 3), .unset, .unset]) pn_31 (fun m => (entry_loc m _ _).trans rfl) ?_
  show W34 l Z (rm4 1 1 2 20) ((a, oS (.null)) :: (s, strO v) :: (v, fA .byte [y0, y1, y2]) :: F) 0 0 0 #[.val (.ref v), .val (.int 1), .val (.int 3), .unset, .unset] [] (Q_c_crb_3_1_3 a s v y0 y1 y2 F)
  refine wp_iload_n D_jdk_65_m133_0 rfl ?_
  refine wp_iload_n D_jdk_65_m133_1 rfl ?_
  refine wp_callS (c_ckl l Z a0 hw 1 3 ((a, oS (.null)) :: (s, strO v) :: (v, fA .byte [y0, y1, y2]) :: F) (by decide)) D_jdk_65_m133_2 (gw hw 129 rfl) (gw hw 130 rfl) (gw hw 124 rfl) (gw hw 131 rfl) (by decide) pd_24 rfl rfl rfl (lb rfl) (lb rfl) (lb rfl) (lb rfl) ?_
  rintro _ _ ⟨rfl, rfl⟩
  show W34 l Z (rm4 1 1 2 20) ((a, oS (.null)) :: (s, strO v) :: (v, fA .byte [y0, y1, y2]) :: F) 0 0 5 #[.val (.ref v), .val (.int 1), .val (.int 3), .unset, .unset] [] (Q_c_crb_3_1_3 a s v y0 y1 y2 F)
  refine wp_iload_n D_jdk_65_m133_5 rfl ?_
  refine wp_iload_n D_jdk_65_m133_6 rfl ?_
  refine wp_isub D_jdk_65_m133_7 ?_
  rw [show ((3 : Int32) - (1 : Int32)) = (2 : Int32) from by decide]
  refine wp_istore_n #[.val (.ref v), .val (.int 1), .val (.int 3), .val (.int 2), .unset] D_jdk_65_m133_8 rfl ?_
  refine wp_iload_n D_jdk_65_m133_9 rfl ?_
  refine wp_newarrayI (n := (2 : Int32)) (2) 2 D_jdk_65_m133_10 rfl rfl rfl (gw hw 24 rfl) (by decide) (by decide) (by decide) (by decide) (by decide) (by decide) ?_
  intro a1
  show W34 l Z (rm4 1 1 2 20) ((a1, oA .byte [(0 : Int32), (0 : Int32)]) :: (a, oS (.null)) :: (s, strO v) :: (v, fA .byte [y0, y1, y2]) :: F) 1 2 12 #[.val (.ref v), .val (.int 1), .val (.int 3), .val (.int 2), .unset] [(.ref a1)] (Q_c_crb_3_1_3 a s v y0 y1 y2 F)
  refine wp_astore #[.val (.ref v), .val (.int 1), .val (.int 3), .val (.int 2), .val (.ref a1)] D_jdk_65_m133_12 rfl rfl ?_
  refine wp_aload_n D_jdk_65_m133_14 rfl rfl ?_
  refine wp_iload_n D_jdk_65_m133_15 rfl ?_
  refine wp_aload D_jdk_65_m133_16 rfl rfl ?_
  refine wp_iconst 0 D_jdk_65_m133_18 (by decide) ?_
  refine wp_aload_n D_jdk_65_m133_19 rfl rfl ?_
  refine wp_lengthI (i := 3) (3 : Int32) D_jdk_65_m133_20 rfl rfl ?_
  refine wp_iload_n D_jdk_65_m133_21 rfl ?_
  refine wp_isub D_jdk_65_m133_22 ?_
  rw [show ((3 : Int32) - (1 : Int32)) = (2 : Int32) from by decide]
  refine wp_iload_n D_jdk_65_m133_23 rfl ?_
  refine wp_callS (c_min_2_2 l Z a0 hw  ((a1, oA .byte [(0 : Int32), (0 : Int32)]) :: (a, oS (.null)) :: (s, strO v) :: (v, fA .byte [y0, y1, y2]) :: F) ) D_jdk_65_m133_24 (gw hw 132 rfl) (gw hw 73 rfl) (gw hw 70 rfl) (gw hw 74 rfl) (by decide) pd_3 rfl rfl rfl (lb rfl) (lb rfl) (lb rfl) (lb rfl) ?_
  rintro _ _ ⟨rfl, rfl⟩
  show W34 l Z (rm4 1 1 2 20) ((a1, oA .byte [(0 : Int32), (0 : Int32)]) :: (a, oS (.null)) :: (s, strO v) :: (v, fA .byte [y0, y1, y2]) :: F) 1 2 27 #[.val (.ref v), .val (.int 1), .val (.int 3), .val (.int 2), .val (.ref a1)] [(.int 2), (.int 0), (.ref a1), (.int 1), (.ref v)] (Q_c_crb_3_1_3 a s v y0 y1 y2 F)
  refine wp_arraycopyI (i := 3) (i' := 0) 1 0 2 D_jdk_65_m133_27 (gw hw 133 rfl) (gw hw 136 rfl) (gw hw 134 rfl) (gw hw 135 rfl) rfl rfl rfl (by decide) (by decide) (by decide) (by decide) (by decide) (by decide) (by first | exact Nat.le_of_ble_eq_true rfl | simp) (by first | exact Nat.le_of_ble_eq_true rfl | simp) (by first | exact Nat.le_of_ble_eq_true rfl | simp) (by first | exact Nat.le_of_ble_eq_true rfl | simp) rfl (by decide) (by decide) ?_
  show W34 l Z (rm4 1 1 2 20) ((a1, oA .byte [y1, y2]) :: (a, oS (.null)) :: (s, strO v) :: (v, fA .byte [y0, y1, y2]) :: F) 1 2 30 #[.val (.ref v), .val (.int 1), .val (.int 3), .val (.int 2), .val (.ref a1)] [] (Q_c_crb_3_1_3 a s v y0 y1 y2 F)
  refine wp_aload D_jdk_65_m133_30 rfl rfl ?_
  refine wp_areturn D_jdk_65_m133_32 rfl rfl rfl rfl (by decide) (by decide) ?_
  exact ⟨_, rfl, rfl⟩
def Q_c_cor_3_1_3 (a s v : Addr) (y0 y1 y2 : Int32) (F : OH) : Option Value → OH → Prop := fun w' H' => ∃ b', w' = some (.ref b') ∧ H' = ((b', oA .byte [y1, y2]) :: (a, oS (.null)) :: (s, strO v) :: (v, fA .byte [y0, y1, y2]) :: F)
set_option maxRecDepth 65536 in
set_option maxHeartbeats 40000000 in
theorem c_cor_3_1_3 (l : Launch) (Z : State) (a0 : Array Value) (hw : HW Z a0) (a s v : Addr) (y0 y1 y2 : Int32) (cp : Int32) (fm : Value) (F : OH) (hs : Std Z cp fm) :
    Met l Z (⟨"java/util/Arrays", "copyOfRange", "([BII)[B"⟩ : MethodName) jdk_65_method_132_code 3 (some (.array .byte)) (rm4 2 1 2 36) [(.ref v), (.int 1), (.int 3)] ((a, oS (.null)) :: (s, strO v) :: (v, fA .byte [y0, y1, y2]) :: F) (Q_c_cor_3_1_3 a s v y0 y1 y2 F) := by
  refine Met.of_wp (Ls := #[.val (.ref v), .val (.int 1), .val (.int 3)]) pn_32 (fun m => (entry_loc m _ _).trans rfl) ?_
  show W35 l Z (rm4 2 1 2 36) ((a, oS (.null)) :: (s, strO v) :: (v, fA .byte [y0, y1, y2]) :: F) 0 0 0 #[.val (.ref v), .val (.int 1), .val (.int 3)] [] (Q_c_cor_3_1_3 a s v y0 y1 y2 F)
  refine wp_iload_n D_jdk_65_m132_0 rfl ?_
  refine wp_if_ne D_jdk_65_m132_1 (pc'' := 10) ⟨by decide, by decide⟩ (fun h1 => ?_) (fun h1 => by exact absurd h1 (by decide))
  refine wp_aload_n D_jdk_65_m132_10 rfl rfl ?_
  refine wp_iload_n D_jdk_65_m132_11 rfl ?_
  refine wp_iload_n D_jdk_65_m132_12 rfl ?_
  refine wp_callS (c_crb_3_1_3 l Z a0 hw a s v y0 y1 y2 cp fm F hs ) D_jdk_65_m132_13 (gw hw 126 rfl) (gw hw 127 rfl) (gw hw 124 rfl) (gw hw 128 rfl) (by decide) pd_16 rfl rfl rfl (lb rfl) (lb rfl) (lb rfl) (lb rfl) ?_
  rintro _ _ ⟨b2, rfl, rfl⟩
  show W35 l Z (rm4 2 1 2 36) ((b2, oA .byte [y1, y2]) :: (a, oS (.null)) :: (s, strO v) :: (v, fA .byte [y0, y1, y2]) :: F) 1 2 16 #[.val (.ref v), .val (.int 1), .val (.int 3)] [(.ref b2)] (Q_c_cor_3_1_3 a s v y0 y1 y2 F)
  refine wp_areturn D_jdk_65_m132_16 rfl rfl rfl rfl (by decide) (by decide) ?_
  exact ⟨_, rfl, rfl⟩
def Q_c_nst_3_1_3 (s v : Addr) (y0 y1 y2 : Int32) (F : OH) : Option Value → OH → Prop := fun w' H' => ∃ a u, w' = some (.ref a) ∧ H' = ((u, fA .byte [y1, y2]) :: (a, strO u) :: (s, strO v) :: (v, fA .byte [y0, y1, y2]) :: F)
set_option maxRecDepth 65536 in
set_option maxHeartbeats 40000000 in
theorem c_nst_3_1_3 (l : Launch) (Z : State) (a0 : Array Value) (hw : HW Z a0) (s v : Addr) (y0 y1 y2 : Int32) (cp : Int32) (fm : Value) (F : OH) (hs : Std Z cp fm) :
    Met l Z (⟨"java/lang/StringLatin1", "newString", "([BII)Ljava/lang/String;"⟩ : MethodName) jdk_43_method_47_code 3 (some (.object "java/lang/String")) (rm4 3 2 6 52) [(.ref v), (.int 1), (.int 2)] ((s, strO v) :: (v, fA .byte [y0, y1, y2]) :: F) (Q_c_nst_3_1_3 s v y0 y1 y2 F) := by
  refine Met.of_wp (Ls := #[.val (.ref v), .val (.int 1), .val (.int 2)]) pn_27 (fun m => (entry_loc m _ _).trans rfl) ?_
  show W37 l Z (rm4 3 2 6 52) ((s, strO v) :: (v, fA .byte [y0, y1, y2]) :: F) 0 0 0 #[.val (.ref v), .val (.int 1), .val (.int 2)] [] (Q_c_nst_3_1_3 s v y0 y1 y2 F)
  refine wp_iload_n D_jdk_43_m47_0 rfl ?_
  refine wp_if_ne D_jdk_43_m47_1 (pc'' := 7) ⟨by decide, by decide⟩ (fun h1 => ?_) (fun h1 => by exact absurd h1 (by decide))
  refine wp_new sgStr [(.null), (.int 0)] D_jdk_43_m47_7 (gw hw 121 rfl) (gw hw 11 rfl) (gw hw 12 rfl) (laid_sgStr l Z a0 hw) (by decide) dfl_sgStr (by decide) (by decide) ?_
  intro a2
  show W37 l Z (rm4 3 2 6 52) ((a2, oS (.null)) :: (s, strO v) :: (v, fA .byte [y0, y1, y2]) :: F) 1 4 10 #[.val (.ref v), .val (.int 1), .val (.int 2)] [(.ref a2)] (Q_c_nst_3_1_3 s v y0 y1 y2 F)
  refine wp_dup D_jdk_43_m47_10 rfl ?_
  refine wp_aload_n D_jdk_43_m47_11 rfl rfl ?_
  refine wp_iload_n D_jdk_43_m47_12 rfl ?_
  refine wp_iload_n D_jdk_43_m47_13 rfl ?_
  refine wp_iload_n D_jdk_43_m47_14 rfl ?_
  refine wp_iadd D_jdk_43_m47_15 ?_
  rw [show ((1 : Int32) + (2 : Int32)) = (3 : Int32) from by decide]
  refine wp_callS (c_cor_3_1_3 l Z a0 hw a2 s v y0 y1 y2 cp fm F hs ) D_jdk_43_m47_16 (gw hw 122 rfl) (gw hw 123 rfl) (gw hw 124 rfl) (gw hw 125 rfl) (by decide) pd_16 rfl rfl rfl (lb rfl) (lb rfl) (lb rfl) (lb rfl) ?_
  rintro _ _ ⟨b3, rfl, rfl⟩
  show W37 l Z (rm4 3 2 6 52) ((b3, oA .byte [y1, y2]) :: (a2, oS (.null)) :: (s, strO v) :: (v, fA .byte [y0, y1, y2]) :: F) 2 6 19 #[.val (.ref v), .val (.int 1), .val (.int 2)] [(.ref b3), (.ref a2), (.ref a2)] (Q_c_nst_3_1_3 s v y0 y1 y2 F)
  refine wp_iconst 0 D_jdk_43_m47_19 (by decide) ?_
  refine wp_init (c_sbb l Z a0 hw b3 a2 [y1, y2] ((s, strO v) :: (v, fA .byte [y0, y1, y2]) :: F) ) D_jdk_43_m47_20 rfl (gw hw 137 rfl) (gw hw 138 rfl) (gw hw 12 rfl) (gw hw 139 rfl) (by decide) pd_17 rfl rfl rfl (lb rfl) (lb rfl) (lb rfl) (lb rfl) ?_
  rintro _ _ ⟨rfl, rfl⟩
  show W37 l Z (rm4 3 2 6 52) ((b3, oA .byte [y1, y2]) :: (a2, oS (.ref b3)) :: (s, strO v) :: (v, fA .byte [y0, y1, y2]) :: F) 2 6 23 #[.val (.ref v), .val (.int 1), .val (.int 2)] [(.ref a2)] (Q_c_nst_3_1_3 s v y0 y1 y2 F)
  refine Wp.frz (i := 0) rfl ?_
  refine Wp.frz (i := 1) rfl ?_
  show W37 l Z (rm4 3 2 6 52) ((b3, fA .byte [y1, y2]) :: (a2, strO b3) :: (s, strO v) :: (v, fA .byte [y0, y1, y2]) :: F) 2 6 23 #[.val (.ref v), .val (.int 1), .val (.int 2)] [(.ref a2)] (Q_c_nst_3_1_3 s v y0 y1 y2 F)
  refine wp_areturn D_jdk_43_m47_23 rfl rfl rfl rfl (by decide) (by decide) ?_
  exact ⟨_, _, rfl, rfl⟩
def Q_c_sub_3_1_3 (s v : Addr) (y0 y1 y2 : Int32) (F : OH) : Option Value → OH → Prop := fun w' H' => ∃ a u, w' = some (.ref a) ∧ H' = ((u, fA .byte [y1, y2]) :: (a, strO u) :: (s, strO v) :: (v, fA .byte [y0, y1, y2]) :: F)
set_option maxRecDepth 65536 in
set_option maxHeartbeats 40000000 in
theorem c_sub_3_1_3 (l : Launch) (Z : State) (a0 : Array Value) (hw : HW Z a0) (s v : Addr) (y0 y1 y2 : Int32) (cp : Int32) (fm : Value) (F : OH) (hs : Std Z cp fm) :
    Met l Z (⟨"java/lang/String", "substring", "(II)Ljava/lang/String;"⟩ : MethodName) jdk_42_method_92_code 5 (some (.object "java/lang/String")) (rm4 4 2 6 66) [(.ref s), (.int 1), (.int 3)] ((s, strO v) :: (v, fA .byte [y0, y1, y2]) :: F) (Q_c_sub_3_1_3 s v y0 y1 y2 F) := by
  refine Met.of_wp (Ls := #[.val (.ref s), .val (.int 1), .val (.int 3), .unset, .unset]) pn_28 (fun m => (entry_loc m _ _).trans rfl) ?_
  show W38 l Z (rm4 4 2 6 66) ((s, strO v) :: (v, fA .byte [y0, y1, y2]) :: F) 0 0 0 #[.val (.ref s), .val (.int 1), .val (.int 3), .unset, .unset] [] (Q_c_sub_3_1_3 s v y0 y1 y2 F)
  refine wp_aload_n D_jdk_42_m92_0 rfl rfl ?_
  refine wp_virtual (c_len_3 l Z a0 hw s v y0 y1 y2 cp fm F hs ) (exa_new (i := 0) rfl) D_jdk_42_m92_1 (gw hw 51 rfl) (gw hw 52 rfl) (gw hw 54 rfl) (gw hw 54 rfl) (gw hw 53 rfl) (gw hw 12 rfl) (gw hw 55 rfl) (by decide) pd_5 rfl rfl rfl (lb rfl) (lb rfl) (lb rfl) (lb rfl) ?_
  rintro _ _ ⟨rfl, rfl⟩
  show W38 l Z (rm4 4 2 6 66) ((s, strO v) :: (v, fA .byte [y0, y1, y2]) :: F) 0 0 4 #[.val (.ref s), .val (.int 1), .val (.int 3), .unset, .unset] [(.int 3)] (Q_c_sub_3_1_3 s v y0 y1 y2 F)
  refine wp_istore_n #[.val (.ref s), .val (.int 1), .val (.int 3), .val (.int 3), .unset] D_jdk_42_m92_4 rfl ?_
  refine wp_iload_n D_jdk_42_m92_5 rfl ?_
  refine wp_iload_n D_jdk_42_m92_6 rfl ?_
  refine wp_iload_n D_jdk_42_m92_7 rfl ?_
  refine wp_callS (c_cbe l Z a0 hw 1 3 3 cp fm ((s, strO v) :: (v, fA .byte [y0, y1, y2]) :: F) hs (by decide) (by decide) (by decide)) D_jdk_42_m92_8 (gw hw 110 rfl) (gw hw 111 rfl) (gw hw 12 rfl) (gw hw 112 rfl) (by decide) pd_11 rfl rfl rfl (lb rfl) (lb rfl) (lb rfl) (lb rfl) ?_
  rintro _ _ ⟨rfl, rfl⟩
  show W38 l Z (rm4 4 2 6 66) ((s, strO v) :: (v, fA .byte [y0, y1, y2]) :: F) 0 0 11 #[.val (.ref s), .val (.int 1), .val (.int 3), .val (.int 3), .unset] [] (Q_c_sub_3_1_3 s v y0 y1 y2 F)
  refine wp_iload_n D_jdk_42_m92_11 rfl ?_
  refine wp_if_ne D_jdk_42_m92_12 (pc'' := 22) ⟨by decide, by decide⟩ (fun h1 => ?_) (fun h1 => by exact absurd h1 (by decide))
  refine wp_iload_n D_jdk_42_m92_22 rfl ?_
  refine wp_iload_n D_jdk_42_m92_23 rfl ?_
  refine wp_isub D_jdk_42_m92_24 ?_
  rw [show ((3 : Int32) - (1 : Int32)) = (2 : Int32) from by decide]
  refine wp_istore #[.val (.ref s), .val (.int 1), .val (.int 3), .val (.int 3), .val (.int 2)] D_jdk_42_m92_25 rfl ?_
  refine wp_aload_n D_jdk_42_m92_27 rfl rfl ?_
  refine wp_virtual (c_lat l Z a0 hw s v cp fm ((v, fA .byte [y0, y1, y2]) :: F) hs ) (exa_new (i := 0) rfl) D_jdk_42_m92_28 (gw hw 45 rfl) (gw hw 46 rfl) (gw hw 48 rfl) (gw hw 48 rfl) (gw hw 47 rfl) (gw hw 12 rfl) (gw hw 49 rfl) (by decide) pd_4 rfl rfl rfl (lb rfl) (lb rfl) (lb rfl) (lb rfl) ?_
  rintro _ _ ⟨rfl, rfl⟩
  show W38 l Z (rm4 4 2 6 66) ((s, strO v) :: (v, fA .byte [y0, y1, y2]) :: F) 0 0 31 #[.val (.ref s), .val (.int 1), .val (.int 3), .val (.int 3), .val (.int 2)] [(.int 1)] (Q_c_sub_3_1_3 s v y0 y1 y2 F)
  refine wp_if_eq D_jdk_42_m92_31 (pc'' := 47) ⟨by decide, by decide⟩ (fun h2 => by exact absurd h2 (by decide)) (fun h2 => ?_)
  refine wp_aload_n D_jdk_42_m92_34 rfl rfl ?_
  refine wp_getfield D_jdk_42_m92_35 (gw hw 29 rfl) (fld_new (i := 0) (fi := 0) rfl rfl rfl) ?_
  refine wp_iload_n D_jdk_42_m92_38 rfl ?_
  refine wp_iload D_jdk_42_m92_39 rfl ?_
  refine wp_callS (c_nst_3_1_3 l Z a0 hw s v y0 y1 y2 cp fm F hs ) D_jdk_42_m92_41 (gw hw 118 rfl) (gw hw 119 rfl) (gw hw 63 rfl) (gw hw 120 rfl) (by decide) pd_13 rfl rfl rfl (lb rfl) (lb rfl) (lb rfl) (lb rfl) ?_
  rintro _ _ ⟨sa3, su4, rfl, rfl⟩
  show W38 l Z (rm4 4 2 6 66) ((su4, fA .byte [y1, y2]) :: (sa3, strO su4) :: (s, strO v) :: (v, fA .byte [y0, y1, y2]) :: F) 2 6 44 #[.val (.ref s), .val (.int 1), .val (.int 3), .val (.int 3), .val (.int 2)] [(.ref sa3)] (Q_c_sub_3_1_3 s v y0 y1 y2 F)
  refine wp_goto D_jdk_42_m92_44 (pc'' := 57) ⟨by decide, by decide⟩ ?_
  refine wp_areturn D_jdk_42_m92_57 rfl rfl rfl rfl (by decide) (by decide) ?_
  exact ⟨_, _, rfl, rfl⟩
def Q_c_sb1_3_1_3 (s v : Addr) (y0 y1 y2 : Int32) (F : OH) : Option Value → OH → Prop := fun w' H' => ∃ a u, w' = some (.ref a) ∧ H' = ((u, fA .byte [y1, y2]) :: (a, strO u) :: (s, strO v) :: (v, fA .byte [y0, y1, y2]) :: F)
set_option maxRecDepth 65536 in
set_option maxHeartbeats 40000000 in
theorem c_sb1_3_1_3 (l : Launch) (Z : State) (a0 : Array Value) (hw : HW Z a0) (s v : Addr) (y0 y1 y2 : Int32) (cp : Int32) (fm : Value) (F : OH) (hs : Std Z cp fm) :
    Met l Z (⟨"java/lang/String", "substring", "(I)Ljava/lang/String;"⟩ : MethodName) jdk_42_method_91_code 2 (some (.object "java/lang/String")) (rm4 5 2 6 82) [(.ref s), (.int 1)] ((s, strO v) :: (v, fA .byte [y0, y1, y2]) :: F) (Q_c_sb1_3_1_3 s v y0 y1 y2 F) := by
  refine Met.of_wp (Ls := #[.val (.ref s), .val (.int 1)]) pn_29 (fun m => (entry_loc m _ _).trans rfl) ?_
  show W39 l Z (rm4 5 2 6 82) ((s, strO v) :: (v, fA .byte [y0, y1, y2]) :: F) 0 0 0 #[.val (.ref s), .val (.int 1)] [] (Q_c_sb1_3_1_3 s v y0 y1 y2 F)
  refine wp_aload_n D_jdk_42_m91_0 rfl rfl ?_
  refine wp_iload_n D_jdk_42_m91_1 rfl ?_
  refine wp_aload_n D_jdk_42_m91_2 rfl rfl ?_
  refine wp_virtual (c_len_3 l Z a0 hw s v y0 y1 y2 cp fm F hs ) (exa_new (i := 0) rfl) D_jdk_42_m91_3 (gw hw 51 rfl) (gw hw 52 rfl) (gw hw 54 rfl) (gw hw 54 rfl) (gw hw 53 rfl) (gw hw 12 rfl) (gw hw 55 rfl) (by decide) pd_5 rfl rfl rfl (lb rfl) (lb rfl) (lb rfl) (lb rfl) ?_
  rintro _ _ ⟨rfl, rfl⟩
  show W39 l Z (rm4 5 2 6 82) ((s, strO v) :: (v, fA .byte [y0, y1, y2]) :: F) 0 0 6 #[.val (.ref s), .val (.int 1)] [(.int 3), (.int 1), (.ref s)] (Q_c_sb1_3_1_3 s v y0 y1 y2 F)
  refine wp_virtual (c_sub_3_1_3 l Z a0 hw s v y0 y1 y2 cp fm F hs ) (exa_new (i := 0) rfl) D_jdk_42_m91_6 (gw hw 105 rfl) (gw hw 106 rfl) (gw hw 108 rfl) (gw hw 108 rfl) (gw hw 107 rfl) (gw hw 12 rfl) (gw hw 109 rfl) (by decide) pd_10 rfl rfl rfl (lb rfl) (lb rfl) (lb rfl) (lb rfl) ?_
  rintro _ _ ⟨sa1, su2, rfl, rfl⟩
  show W39 l Z (rm4 5 2 6 82) ((su2, fA .byte [y1, y2]) :: (sa1, strO su2) :: (s, strO v) :: (v, fA .byte [y0, y1, y2]) :: F) 2 6 9 #[.val (.ref s), .val (.int 1)] [(.ref sa1)] (Q_c_sb1_3_1_3 s v y0 y1 y2 F)
  refine wp_areturn D_jdk_42_m91_9 rfl rfl rfl rfl (by decide) (by decide) ?_
  exact ⟨_, _, rfl, rfl⟩
def Q_c_fr_3_0 (s v : Addr) (y0 y1 y2 : Int32) (F : OH) : Option Value → OH → Prop := fun w' H' => ∃ o a u, w' = some (.ref o) ∧ H' = ((o, fI "java/util/Optional" sg_2 [(.ref a)]) :: (u, fA .byte [y1, y2]) :: (a, strO u) :: (s, strO v) :: (v, fA .byte [y0, y1, y2]) :: F)
set_option maxRecDepth 65536 in
set_option maxHeartbeats 40000000 in
theorem c_fr_3_0 (l : Launch) (Z : State) (a0 : Array Value) (hw : HW Z a0) (s v : Addr) (y0 y1 y2 : Int32) (cp : Int32) (fm : Value) (F : OH) (hs : Std Z cp fm) (hq0 : y0 = 35) :
    Met l Z (⟨"com/example/bylint/bylint/description/UriReferences", "fragment", "(Ljava/lang/String;)Ljava/util/Optional;"⟩ : MethodName) prog_9_method_6_code 2 (some (.object "java/util/Optional")) (rm4 6 3 7 95) [(.ref s)] ((s, strO v) :: (v, fA .byte [y0, y1, y2]) :: F) (Q_c_fr_3_0 s v y0 y1 y2 F) := by
  refine Met.of_wp (Ls := #[.val (.ref s), .unset]) pn_24 (fun m => (entry_loc m _ _).trans rfl) ?_
  show W25 l Z (rm4 6 3 7 95) ((s, strO v) :: (v, fA .byte [y0, y1, y2]) :: F) 0 0 0 #[.val (.ref s), .unset] [] (Q_c_fr_3_0 s v y0 y1 y2 F)
  refine wp_aload_n D_prog_9_m6_0 rfl rfl ?_
  refine wp_bipush 35 D_prog_9_m6_1 (by decide) ?_
  refine wp_virtual (c_si_3 l Z a0 hw s v y0 y1 y2 (0 : Int32) cp fm F hs (c_ioc_3_0 l Z a0 hw s v y0 y1 y2 F hq0)) (exa_new (i := 0) rfl) D_prog_9_m6_3 (gw hw 35 rfl) (gw hw 36 rfl) (gw hw 38 rfl) (gw hw 38 rfl) (gw hw 37 rfl) (gw hw 12 rfl) (gw hw 39 rfl) (by decide) pd_20 rfl rfl rfl (lb rfl) (lb rfl) (lb rfl) (lb rfl) ?_
  rintro _ _ ⟨rfl, rfl⟩
  show W25 l Z (rm4 6 3 7 95) ((s, strO v) :: (v, fA .byte [y0, y1, y2]) :: F) 0 0 6 #[.val (.ref s), .unset] [(.int 0)] (Q_c_fr_3_0 s v y0 y1 y2 F)
  refine wp_istore_n #[.val (.ref s), .val (.int 0)] D_prog_9_m6_6 rfl ?_
  refine wp_iload_n D_prog_9_m6_7 rfl ?_
  refine wp_if_ge D_prog_9_m6_8 (pc'' := 17) ⟨by decide, by decide⟩ (fun h1 => ?_) (fun h1 => by exact absurd h1 (by decide))
  refine wp_aload_n D_prog_9_m6_17 rfl rfl ?_
  refine wp_iload_n D_prog_9_m6_18 rfl ?_
  refine wp_iconst 1 D_prog_9_m6_19 (by decide) ?_
  refine wp_iadd D_prog_9_m6_20 ?_
  rw [show ((0 : Int32) + (1 : Int32)) = (1 : Int32) from by decide]
  refine wp_virtual (c_sb1_3_1_3 l Z a0 hw s v y0 y1 y2 cp fm F hs ) (exa_new (i := 0) rfl) D_prog_9_m6_21 (gw hw 100 rfl) (gw hw 101 rfl) (gw hw 103 rfl) (gw hw 103 rfl) (gw hw 102 rfl) (gw hw 12 rfl) (gw hw 104 rfl) (by decide) pd_22 rfl rfl rfl (lb rfl) (lb rfl) (lb rfl) (lb rfl) ?_
  rintro _ _ ⟨sa2, su3, rfl, rfl⟩
  show W25 l Z (rm4 6 3 7 95) ((su3, fA .byte [y1, y2]) :: (sa2, strO su3) :: (s, strO v) :: (v, fA .byte [y0, y1, y2]) :: F) 2 6 24 #[.val (.ref s), .val (.int 0)] [(.ref sa2)] (Q_c_fr_3_0 s v y0 y1 y2 F)
  refine wp_callS (c_of l Z a0 hw sa2 ((su3, fA .byte [y1, y2]) :: (sa2, strO su3) :: (s, strO v) :: (v, fA .byte [y0, y1, y2]) :: F) ) D_prog_9_m6_24 (gw hw 140 rfl) (gw hw 141 rfl) (gw hw 77 rfl) (gw hw 142 rfl) (by decide) pd_23 rfl rfl rfl (lb rfl) (lb rfl) (lb rfl) (lb rfl) ?_
  rintro _ _ ⟨o4, rfl, rfl⟩
  show W25 l Z (rm4 6 3 7 95) ((o4, fI "java/util/Optional" sg_2 [(.ref sa2)]) :: (su3, fA .byte [y1, y2]) :: (sa2, strO su3) :: (s, strO v) :: (v, fA .byte [y0, y1, y2]) :: F) 3 7 27 #[.val (.ref s), .val (.int 0)] [(.ref o4)] (Q_c_fr_3_0 s v y0 y1 y2 F)
  refine wp_areturn D_prog_9_m6_27 rfl rfl rfl rfl (by decide) (by decide) ?_
  exact ⟨_, _, _, rfl, rfl⟩
set_option maxRecDepth 65536 in
set_option maxHeartbeats 40000000 in
theorem c_ioc_3_1 (l : Launch) (Z : State) (a0 : Array Value) (hw : HW Z a0) (s v : Addr) (y0 y1 y2 : Int32) (F : OH) (hq0 : ¬ y0 = 35) (hq1 : y1 = 35) :
    Met l Z (⟨"java/lang/StringLatin1", "indexOfChar", "([BIII)I"⟩ : MethodName) jdk_43_method_23_code 6 (some .int) (rm4 0 0 0 0) [(.ref v), (.int 35), (.int 0), (.int 3)] ((s, strO v) :: (v, fA .byte [y0, y1, y2]) :: F) (Q_ioc_3 s v y0 y1 y2 (1 : Int32) F) := by
  refine Met.of_wp (Ls := #[.val (.ref v), .val (.int 35), .val (.int 0), .val (.int 3), .unset, .unset]) pn_20 (fun m => (entry_loc m _ _).trans rfl) ?_
  show W26 l Z (rm4 0 0 0 0) ((s, strO v) :: (v, fA .byte [y0, y1, y2]) :: F) 0 0 0 #[.val (.ref v), .val (.int 35), .val (.int 0), .val (.int 3), .unset, .unset] [] (Q_ioc_3 s v y0 y1 y2 (1 : Int32) F)
  refine wp_iload_n D_jdk_43_m23_0 rfl ?_
  refine wp_i2b D_jdk_43_m23_1 ?_
  rw [show (35 : Int32).toInt8.toInt32 = (35 : Int32) from by decide]
  refine wp_istore #[.val (.ref v), .val (.int 35), .val (.int 0), .val (.int 3), .val (.int 35), .unset] D_jdk_43_m23_2 rfl ?_
  refine wp_iload_n D_jdk_43_m23_4 rfl ?_
  refine wp_istore #[.val (.ref v), .val (.int 35), .val (.int 0), .val (.int 3), .val (.int 35), .val (.int 0)] D_jdk_43_m23_5 rfl ?_
  refine wp_iload D_jdk_43_m23_7 rfl ?_
  refine wp_iload_n D_jdk_43_m23_9 rfl ?_
  refine wp_icmp_ge D_jdk_43_m23_10 (pc'' := 31) ⟨by decide, by decide⟩ (fun h1 => by exact absurd h1 (by decide)) (fun h1 => ?_)
  refine wp_aload_n D_jdk_43_m23_13 rfl rfl ?_
  refine wp_iload D_jdk_43_m23_14 rfl ?_
  refine wp_baload (i := 1) (0) D_jdk_43_m23_16 rfl (by decide) (by decide) rfl ?_
  refine wp_iload D_jdk_43_m23_17 rfl ?_
  refine wp_icmp_ne D_jdk_43_m23_19 (pc'' := 25) ⟨by decide, by decide⟩ (fun h2 => ?_) (fun h2 => by exact absurd h2 hq0)
  refine wp_iinc 1 #[.val (.ref v), .val (.int 35), .val (.int 0), .val (.int 3), .val (.int 35), .val (.int 1)] D_jdk_43_m23_25 rfl rfl (by rw [show (0 : Int32) + (1 : Int32) = (1 : Int32) from by decide]; rfl) ?_
  refine wp_goto D_jdk_43_m23_28 (pc'' := 7) ⟨by decide, by decide⟩ ?_
  refine wp_iload D_jdk_43_m23_7 rfl ?_
  refine wp_iload_n D_jdk_43_m23_9 rfl ?_
  refine wp_icmp_ge D_jdk_43_m23_10 (pc'' := 31) ⟨by decide, by decide⟩ (fun h3 => by exact absurd h3 (by decide)) (fun h3 => ?_)
  refine wp_aload_n D_jdk_43_m23_13 rfl rfl ?_
  refine wp_iload D_jdk_43_m23_14 rfl ?_
  refine wp_baload (i := 1) (1) D_jdk_43_m23_16 rfl (by decide) (by decide) rfl ?_
  refine wp_iload D_jdk_43_m23_17 rfl ?_
  refine wp_icmp_ne D_jdk_43_m23_19 (pc'' := 25) ⟨by decide, by decide⟩ (fun h4 => by exact absurd hq1 h4) (fun h4 => ?_)
  refine wp_iload D_jdk_43_m23_22 rfl ?_
  refine wp_ireturn D_jdk_43_m23_24 rfl (by decide) (by decide) ?_
  exact ⟨rfl, rfl⟩
def Q_c_crb_3_2_3 (a s v : Addr) (y0 y1 y2 : Int32) (F : OH) : Option Value → OH → Prop := fun w' H' => ∃ b', w' = some (.ref b') ∧ H' = ((b', oA .byte [y2]) :: (a, oS (.null)) :: (s, strO v) :: (v, fA .byte [y0, y1, y2]) :: F)
set_option maxRecDepth 65536 in
set_option maxHeartbeats 40000000 in
theorem c_crb_3_2_3 (l : Launch) (Z : State) (a0 : Array Value) (hw : HW Z a0) (a s v : Addr) (y0 y1 y2 : Int32) (cp : Int32) (fm : Value) (F : OH) (hs : Std Z cp fm) :
    Met l Z (⟨"java/util/Arrays", "copyOfRangeByte", "([BII)[B"⟩ : MethodName) jdk_65_method_133_code 5 (some (.array .byte)) (rm4 1 1 1 20) [(.ref v), (.int 2), (.int 3)] ((a, oS (.null)) :: (s, strO v) :: (v, fA .byte [y0, y1, y2]) :: F) (Q_c_crb_3_2_3 a s v y0 y1 y2 F) := by
  refine Met.of_wp (Ls := #[.val (.ref v), .val (.int 2), .val (.int 3), .unset, .unset]) pn_31 (fun m => (entry_loc m _ _).trans rfl) ?_
  show W34 l Z (rm4 1 1 1 20) ((a, oS (.null)) :: (s, strO v) :: (v, fA .byte [y0, y1, y2]) :: F) 0 0 0 #[.val (.ref v), .val (.int 2), .val (.int 3), .unset, .unset] [] (Q_c_crb_3_2_3 a s v y0 y1 y2 F)
  refine wp_iload_n D_jdk_65_m133_0 rfl ?_
  refine wp_iload_n D_jdk_65_m133_1 rfl ?_
  refine wp_callS (c_ckl l Z a0 hw 2 3 ((a, oS (.null)) :: (s, strO v) :: (v, fA .byte [y0, y1, y2]) :: F) (by decide)) D_jdk_65_m133_2 (gw hw 129 rfl) (gw hw 130 rfl) (gw hw 124 rfl) (gw hw 131 rfl) (by decide) pd_24 rfl rfl rfl (lb rfl) (lb rfl) (lb rfl) (lb rfl) ?_
  rintro _ _ ⟨rfl, rfl⟩
  show W34 l Z (rm4 1 1 1 20) ((a, oS (.null)) :: (s, strO v) :: (v, fA .byte [y0, y1, y2]) :: F) 0 0 5 #[.val (.ref v), .val (.int 2), .val (.int 3), .unset, .unset] [] (Q_c_crb_3_2_3 a s v y0 y1 y2 F)
  refine wp_iload_n D_jdk_65_m133_5 rfl ?_
  refine wp_iload_n D_jdk_65_m133_6 rfl ?_
  refine wp_isub D_jdk_65_m133_7 ?_
  rw [show ((3 : Int32) - (2 : Int32)) = (1 : Int32) from by decide]
  refine wp_istore_n #[.val (.ref v), .val (.int 2), .val (.int 3), .val (.int 1), .unset] D_jdk_65_m133_8 rfl ?_
  refine wp_iload_n D_jdk_65_m133_9 rfl ?_
  refine wp_newarrayI (n := (1 : Int32)) (1) 1 D_jdk_65_m133_10 rfl rfl rfl (gw hw 24 rfl) (by decide) (by decide) (by decide) (by decide) (by decide) (by decide) ?_
  intro a1
  show W34 l Z (rm4 1 1 1 20) ((a1, oA .byte [(0 : Int32)]) :: (a, oS (.null)) :: (s, strO v) :: (v, fA .byte [y0, y1, y2]) :: F) 1 1 12 #[.val (.ref v), .val (.int 2), .val (.int 3), .val (.int 1), .unset] [(.ref a1)] (Q_c_crb_3_2_3 a s v y0 y1 y2 F)
  refine wp_astore #[.val (.ref v), .val (.int 2), .val (.int 3), .val (.int 1), .val (.ref a1)] D_jdk_65_m133_12 rfl rfl ?_
  refine wp_aload_n D_jdk_65_m133_14 rfl rfl ?_
  refine wp_iload_n D_jdk_65_m133_15 rfl ?_
  refine wp_aload D_jdk_65_m133_16 rfl rfl ?_
  refine wp_iconst 0 D_jdk_65_m133_18 (by decide) ?_
  refine wp_aload_n D_jdk_65_m133_19 rfl rfl ?_
  refine wp_lengthI (i := 3) (3 : Int32) D_jdk_65_m133_20 rfl rfl ?_
  refine wp_iload_n D_jdk_65_m133_21 rfl ?_
  refine wp_isub D_jdk_65_m133_22 ?_
  rw [show ((3 : Int32) - (2 : Int32)) = (1 : Int32) from by decide]
  refine wp_iload_n D_jdk_65_m133_23 rfl ?_
  refine wp_callS (c_min_1_1 l Z a0 hw  ((a1, oA .byte [(0 : Int32)]) :: (a, oS (.null)) :: (s, strO v) :: (v, fA .byte [y0, y1, y2]) :: F) ) D_jdk_65_m133_24 (gw hw 132 rfl) (gw hw 73 rfl) (gw hw 70 rfl) (gw hw 74 rfl) (by decide) pd_3 rfl rfl rfl (lb rfl) (lb rfl) (lb rfl) (lb rfl) ?_
  rintro _ _ ⟨rfl, rfl⟩
  show W34 l Z (rm4 1 1 1 20) ((a1, oA .byte [(0 : Int32)]) :: (a, oS (.null)) :: (s, strO v) :: (v, fA .byte [y0, y1, y2]) :: F) 1 1 27 #[.val (.ref v), .val (.int 2), .val (.int 3), .val (.int 1), .val (.ref a1)] [(.int 1), (.int 0), (.ref a1), (.int 2), (.ref v)] (Q_c_crb_3_2_3 a s v y0 y1 y2 F)
  refine wp_arraycopyI (i := 3) (i' := 0) 2 0 1 D_jdk_65_m133_27 (gw hw 133 rfl) (gw hw 136 rfl) (gw hw 134 rfl) (gw hw 135 rfl) rfl rfl rfl (by decide) (by decide) (by decide) (by decide) (by decide) (by decide) (by first | exact Nat.le_of_ble_eq_true rfl | simp) (by first | exact Nat.le_of_ble_eq_true rfl | simp) (by first | exact Nat.le_of_ble_eq_true rfl | simp) (by first | exact Nat.le_of_ble_eq_true rfl | simp) rfl (by decide) (by decide) ?_
  show W34 l Z (rm4 1 1 1 20) ((a1, oA .byte [y2]) :: (a, oS (.null)) :: (s, strO v) :: (v, fA .byte [y0, y1, y2]) :: F) 1 1 30 #[.val (.ref v), .val (.int 2), .val (.int 3), .val (.int 1), .val (.ref a1)] [] (Q_c_crb_3_2_3 a s v y0 y1 y2 F)
  refine wp_aload D_jdk_65_m133_30 rfl rfl ?_
  refine wp_areturn D_jdk_65_m133_32 rfl rfl rfl rfl (by decide) (by decide) ?_
  exact ⟨_, rfl, rfl⟩
def Q_c_cor_3_2_3 (a s v : Addr) (y0 y1 y2 : Int32) (F : OH) : Option Value → OH → Prop := fun w' H' => ∃ b', w' = some (.ref b') ∧ H' = ((b', oA .byte [y2]) :: (a, oS (.null)) :: (s, strO v) :: (v, fA .byte [y0, y1, y2]) :: F)
set_option maxRecDepth 65536 in
set_option maxHeartbeats 40000000 in
theorem c_cor_3_2_3 (l : Launch) (Z : State) (a0 : Array Value) (hw : HW Z a0) (a s v : Addr) (y0 y1 y2 : Int32) (cp : Int32) (fm : Value) (F : OH) (hs : Std Z cp fm) :
    Met l Z (⟨"java/util/Arrays", "copyOfRange", "([BII)[B"⟩ : MethodName) jdk_65_method_132_code 3 (some (.array .byte)) (rm4 2 1 1 36) [(.ref v), (.int 2), (.int 3)] ((a, oS (.null)) :: (s, strO v) :: (v, fA .byte [y0, y1, y2]) :: F) (Q_c_cor_3_2_3 a s v y0 y1 y2 F) := by
  refine Met.of_wp (Ls := #[.val (.ref v), .val (.int 2), .val (.int 3)]) pn_32 (fun m => (entry_loc m _ _).trans rfl) ?_
  show W35 l Z (rm4 2 1 1 36) ((a, oS (.null)) :: (s, strO v) :: (v, fA .byte [y0, y1, y2]) :: F) 0 0 0 #[.val (.ref v), .val (.int 2), .val (.int 3)] [] (Q_c_cor_3_2_3 a s v y0 y1 y2 F)
  refine wp_iload_n D_jdk_65_m132_0 rfl ?_
  refine wp_if_ne D_jdk_65_m132_1 (pc'' := 10) ⟨by decide, by decide⟩ (fun h1 => ?_) (fun h1 => by exact absurd h1 (by decide))
  refine wp_aload_n D_jdk_65_m132_10 rfl rfl ?_
  refine wp_iload_n D_jdk_65_m132_11 rfl ?_
  refine wp_iload_n D_jdk_65_m132_12 rfl ?_
  refine wp_callS (c_crb_3_2_3 l Z a0 hw a s v y0 y1 y2 cp fm F hs ) D_jdk_65_m132_13 (gw hw 126 rfl) (gw hw 127 rfl) (gw hw 124 rfl) (gw hw 128 rfl) (by decide) pd_16 rfl rfl rfl (lb rfl) (lb rfl) (lb rfl) (lb rfl) ?_
  rintro _ _ ⟨b2, rfl, rfl⟩
  show W35 l Z (rm4 2 1 1 36) ((b2, oA .byte [y2]) :: (a, oS (.null)) :: (s, strO v) :: (v, fA .byte [y0, y1, y2]) :: F) 1 1 16 #[.val (.ref v), .val (.int 2), .val (.int 3)] [(.ref b2)] (Q_c_cor_3_2_3 a s v y0 y1 y2 F)
  refine wp_areturn D_jdk_65_m132_16 rfl rfl rfl rfl (by decide) (by decide) ?_
  exact ⟨_, rfl, rfl⟩
def Q_c_nst_3_2_3 (s v : Addr) (y0 y1 y2 : Int32) (F : OH) : Option Value → OH → Prop := fun w' H' => ∃ a u, w' = some (.ref a) ∧ H' = ((u, fA .byte [y2]) :: (a, strO u) :: (s, strO v) :: (v, fA .byte [y0, y1, y2]) :: F)
set_option maxRecDepth 65536 in
set_option maxHeartbeats 40000000 in
theorem c_nst_3_2_3 (l : Launch) (Z : State) (a0 : Array Value) (hw : HW Z a0) (s v : Addr) (y0 y1 y2 : Int32) (cp : Int32) (fm : Value) (F : OH) (hs : Std Z cp fm) :
    Met l Z (⟨"java/lang/StringLatin1", "newString", "([BII)Ljava/lang/String;"⟩ : MethodName) jdk_43_method_47_code 3 (some (.object "java/lang/String")) (rm4 3 2 5 52) [(.ref v), (.int 2), (.int 1)] ((s, strO v) :: (v, fA .byte [y0, y1, y2]) :: F) (Q_c_nst_3_2_3 s v y0 y1 y2 F) := by
  refine Met.of_wp (Ls := #[.val (.ref v), .val (.int 2), .val (.int 1)]) pn_27 (fun m => (entry_loc m _ _).trans rfl) ?_
  show W37 l Z (rm4 3 2 5 52) ((s, strO v) :: (v, fA .byte [y0, y1, y2]) :: F) 0 0 0 #[.val (.ref v), .val (.int 2), .val (.int 1)] [] (Q_c_nst_3_2_3 s v y0 y1 y2 F)
  refine wp_iload_n D_jdk_43_m47_0 rfl ?_
  refine wp_if_ne D_jdk_43_m47_1 (pc'' := 7) ⟨by decide, by decide⟩ (fun h1 => ?_) (fun h1 => by exact absurd h1 (by decide))
  refine wp_new sgStr [(.null), (.int 0)] D_jdk_43_m47_7 (gw hw 121 rfl) (gw hw 11 rfl) (gw hw 12 rfl) (laid_sgStr l Z a0 hw) (by decide) dfl_sgStr (by decide) (by decide) ?_
  intro a2
  show W37 l Z (rm4 3 2 5 52) ((a2, oS (.null)) :: (s, strO v) :: (v, fA .byte [y0, y1, y2]) :: F) 1 4 10 #[.val (.ref v), .val (.int 2), .val (.int 1)] [(.ref a2)] (Q_c_nst_3_2_3 s v y0 y1 y2 F)
  refine wp_dup D_jdk_43_m47_10 rfl ?_
  refine wp_aload_n D_jdk_43_m47_11 rfl rfl ?_
  refine wp_iload_n D_jdk_43_m47_12 rfl ?_
  refine wp_iload_n D_jdk_43_m47_13 rfl ?_
  refine wp_iload_n D_jdk_43_m47_14 rfl ?_
  refine wp_iadd D_jdk_43_m47_15 ?_
  rw [show ((2 : Int32) + (1 : Int32)) = (3 : Int32) from by decide]
  refine wp_callS (c_cor_3_2_3 l Z a0 hw a2 s v y0 y1 y2 cp fm F hs ) D_jdk_43_m47_16 (gw hw 122 rfl) (gw hw 123 rfl) (gw hw 124 rfl) (gw hw 125 rfl) (by decide) pd_16 rfl rfl rfl (lb rfl) (lb rfl) (lb rfl) (lb rfl) ?_
  rintro _ _ ⟨b3, rfl, rfl⟩
  show W37 l Z (rm4 3 2 5 52) ((b3, oA .byte [y2]) :: (a2, oS (.null)) :: (s, strO v) :: (v, fA .byte [y0, y1, y2]) :: F) 2 5 19 #[.val (.ref v), .val (.int 2), .val (.int 1)] [(.ref b3), (.ref a2), (.ref a2)] (Q_c_nst_3_2_3 s v y0 y1 y2 F)
  refine wp_iconst 0 D_jdk_43_m47_19 (by decide) ?_
  refine wp_init (c_sbb l Z a0 hw b3 a2 [y2] ((s, strO v) :: (v, fA .byte [y0, y1, y2]) :: F) ) D_jdk_43_m47_20 rfl (gw hw 137 rfl) (gw hw 138 rfl) (gw hw 12 rfl) (gw hw 139 rfl) (by decide) pd_17 rfl rfl rfl (lb rfl) (lb rfl) (lb rfl) (lb rfl) ?_
  rintro _ _ ⟨rfl, rfl⟩
  show W37 l Z (rm4 3 2 5 52) ((b3, oA .byte [y2]) :: (a2, oS (.ref b3)) :: (s, strO v) :: (v, fA .byte [y0, y1, y2]) :: F) 2 5 23 #[.val (.ref v), .val (.int 2), .val (.int 1)] [(.ref a2)] (Q_c_nst_3_2_3 s v y0 y1 y2 F)
  refine Wp.frz (i := 0) rfl ?_
  refine Wp.frz (i := 1) rfl ?_
  show W37 l Z (rm4 3 2 5 52) ((b3, fA .byte [y2]) :: (a2, strO b3) :: (s, strO v) :: (v, fA .byte [y0, y1, y2]) :: F) 2 5 23 #[.val (.ref v), .val (.int 2), .val (.int 1)] [(.ref a2)] (Q_c_nst_3_2_3 s v y0 y1 y2 F)
  refine wp_areturn D_jdk_43_m47_23 rfl rfl rfl rfl (by decide) (by decide) ?_
  exact ⟨_, _, rfl, rfl⟩
def Q_c_sub_3_2_3 (s v : Addr) (y0 y1 y2 : Int32) (F : OH) : Option Value → OH → Prop := fun w' H' => ∃ a u, w' = some (.ref a) ∧ H' = ((u, fA .byte [y2]) :: (a, strO u) :: (s, strO v) :: (v, fA .byte [y0, y1, y2]) :: F)
set_option maxRecDepth 65536 in
set_option maxHeartbeats 40000000 in
theorem c_sub_3_2_3 (l : Launch) (Z : State) (a0 : Array Value) (hw : HW Z a0) (s v : Addr) (y0 y1 y2 : Int32) (cp : Int32) (fm : Value) (F : OH) (hs : Std Z cp fm) :
    Met l Z (⟨"java/lang/String", "substring", "(II)Ljava/lang/String;"⟩ : MethodName) jdk_42_method_92_code 5 (some (.object "java/lang/String")) (rm4 4 2 5 66) [(.ref s), (.int 2), (.int 3)] ((s, strO v) :: (v, fA .byte [y0, y1, y2]) :: F) (Q_c_sub_3_2_3 s v y0 y1 y2 F) := by
  refine Met.of_wp (Ls := #[.val (.ref s), .val (.int 2), .val (.int 3), .unset, .unset]) pn_28 (fun m => (entry_loc m _ _).trans rfl) ?_
  show W38 l Z (rm4 4 2 5 66) ((s, strO v) :: (v, fA .byte [y0, y1, y2]) :: F) 0 0 0 #[.val (.ref s), .val (.int 2), .val (.int 3), .unset, .unset] [] (Q_c_sub_3_2_3 s v y0 y1 y2 F)
  refine wp_aload_n D_jdk_42_m92_0 rfl rfl ?_
  refine wp_virtual (c_len_3 l Z a0 hw s v y0 y1 y2 cp fm F hs ) (exa_new (i := 0) rfl) D_jdk_42_m92_1 (gw hw 51 rfl) (gw hw 52 rfl) (gw hw 54 rfl) (gw hw 54 rfl) (gw hw 53 rfl) (gw hw 12 rfl) (gw hw 55 rfl) (by decide) pd_5 rfl rfl rfl (lb rfl) (lb rfl) (lb rfl) (lb rfl) ?_
  rintro _ _ ⟨rfl, rfl⟩
  show W38 l Z (rm4 4 2 5 66) ((s, strO v) :: (v, fA .byte [y0, y1, y2]) :: F) 0 0 4 #[.val (.ref s), .val (.int 2), .val (.int 3), .unset, .unset] [(.int 3)] (Q_c_sub_3_2_3 s v y0 y1 y2 F)
  refine wp_istore_n #[.val (.ref s), .val (.int 2), .val (.int 3), .val (.int 3), .unset] D_jdk_42_m92_4 rfl ?_
  refine wp_iload_n D_jdk_42_m92_5 rfl ?_
  refine wp_iload_n D_jdk_42_m92_6 rfl ?_
  refine wp_iload_n D_jdk_42_m92_7 rfl ?_
  refine wp_callS (c_cbe l Z a0 hw 2 3 3 cp fm ((s, strO v) :: (v, fA .byte [y0, y1, y2]) :: F) hs (by decide) (by decide) (by decide)) D_jdk_42_m92_8 (gw hw 110 rfl) (gw hw 111 rfl) (gw hw 12 rfl) (gw hw 112 rfl) (by decide) pd_11 rfl rfl rfl (lb rfl) (lb rfl) (lb rfl) (lb rfl) ?_
  rintro _ _ ⟨rfl, rfl⟩
  show W38 l Z (rm4 4 2 5 66) ((s, strO v) :: (v, fA .byte [y0, y1, y2]) :: F) 0 0 11 #[.val (.ref s), .val (.int 2), .val (.int 3), .val (.int 3), .unset] [] (Q_c_sub_3_2_3 s v y0 y1 y2 F)
  refine wp_iload_n D_jdk_42_m92_11 rfl ?_
  refine wp_if_ne D_jdk_42_m92_12 (pc'' := 22) ⟨by decide, by decide⟩ (fun h1 => ?_) (fun h1 => by exact absurd h1 (by decide))
  refine wp_iload_n D_jdk_42_m92_22 rfl ?_
  refine wp_iload_n D_jdk_42_m92_23 rfl ?_
  refine wp_isub D_jdk_42_m92_24 ?_
  rw [show ((3 : Int32) - (2 : Int32)) = (1 : Int32) from by decide]
  refine wp_istore #[.val (.ref s), .val (.int 2), .val (.int 3), .val (.int 3), .val (.int 1)] D_jdk_42_m92_25 rfl ?_
  refine wp_aload_n D_jdk_42_m92_27 rfl rfl ?_
  refine wp_virtual (c_lat l Z a0 hw s v cp fm ((v, fA .byte [y0, y1, y2]) :: F) hs ) (exa_new (i := 0) rfl) D_jdk_42_m92_28 (gw hw 45 rfl) (gw hw 46 rfl) (gw hw 48 rfl) (gw hw 48 rfl) (gw hw 47 rfl) (gw hw 12 rfl) (gw hw 49 rfl) (by decide) pd_4 rfl rfl rfl (lb rfl) (lb rfl) (lb rfl) (lb rfl) ?_
  rintro _ _ ⟨rfl, rfl⟩
  show W38 l Z (rm4 4 2 5 66) ((s, strO v) :: (v, fA .byte [y0, y1, y2]) :: F) 0 0 31 #[.val (.ref s), .val (.int 2), .val (.int 3), .val (.int 3), .val (.int 1)] [(.int 1)] (Q_c_sub_3_2_3 s v y0 y1 y2 F)
  refine wp_if_eq D_jdk_42_m92_31 (pc'' := 47) ⟨by decide, by decide⟩ (fun h2 => by exact absurd h2 (by decide)) (fun h2 => ?_)
  refine wp_aload_n D_jdk_42_m92_34 rfl rfl ?_
  refine wp_getfield D_jdk_42_m92_35 (gw hw 29 rfl) (fld_new (i := 0) (fi := 0) rfl rfl rfl) ?_
  refine wp_iload_n D_jdk_42_m92_38 rfl ?_
  refine wp_iload D_jdk_42_m92_39 rfl ?_
  refine wp_callS (c_nst_3_2_3 l Z a0 hw s v y0 y1 y2 cp fm F hs ) D_jdk_42_m92_41 (gw hw 118 rfl) (gw hw 119 rfl) (gw hw 63 rfl) (gw hw 120 rfl) (by decide) pd_13 rfl rfl rfl (lb rfl) (lb rfl) (lb rfl) (lb rfl) ?_
  rintro _ _ ⟨sa3, su4, rfl, rfl⟩
  show W38 l Z (rm4 4 2 5 66) ((su4, fA .byte [y2]) :: (sa3, strO su4) :: (s, strO v) :: (v, fA .byte [y0, y1, y2]) :: F) 2 5 44 #[.val (.ref s), .val (.int 2), .val (.int 3), .val (.int 3), .val (.int 1)] [(.ref sa3)] (Q_c_sub_3_2_3 s v y0 y1 y2 F)
  refine wp_goto D_jdk_42_m92_44 (pc'' := 57) ⟨by decide, by decide⟩ ?_
  refine wp_areturn D_jdk_42_m92_57 rfl rfl rfl rfl (by decide) (by decide) ?_
  exact ⟨_, _, rfl, rfl⟩
def Q_c_sb1_3_2_3 (s v : Addr) (y0 y1 y2 : Int32) (F : OH) : Option Value → OH → Prop := fun w' H' => ∃ a u, w' = some (.ref a) ∧ H' = ((u, fA .byte [y2]) :: (a, strO u) :: (s, strO v) :: (v, fA .byte [y0, y1, y2]) :: F)
set_option maxRecDepth 65536 in
set_option maxHeartbeats 40000000 in
theorem c_sb1_3_2_3 (l : Launch) (Z : State) (a0 : Array Value) (hw : HW Z a0) (s v : Addr) (y0 y1 y2 : Int32) (cp : Int32) (fm : Value) (F : OH) (hs : Std Z cp fm) :
    Met l Z (⟨"java/lang/String", "substring", "(I)Ljava/lang/String;"⟩ : MethodName) jdk_42_method_91_code 2 (some (.object "java/lang/String")) (rm4 5 2 5 82) [(.ref s), (.int 2)] ((s, strO v) :: (v, fA .byte [y0, y1, y2]) :: F) (Q_c_sb1_3_2_3 s v y0 y1 y2 F) := by
  refine Met.of_wp (Ls := #[.val (.ref s), .val (.int 2)]) pn_29 (fun m => (entry_loc m _ _).trans rfl) ?_
  show W39 l Z (rm4 5 2 5 82) ((s, strO v) :: (v, fA .byte [y0, y1, y2]) :: F) 0 0 0 #[.val (.ref s), .val (.int 2)] [] (Q_c_sb1_3_2_3 s v y0 y1 y2 F)
  refine wp_aload_n D_jdk_42_m91_0 rfl rfl ?_
  refine wp_iload_n D_jdk_42_m91_1 rfl ?_
  refine wp_aload_n D_jdk_42_m91_2 rfl rfl ?_
  refine wp_virtual (c_len_3 l Z a0 hw s v y0 y1 y2 cp fm F hs ) (exa_new (i := 0) rfl) D_jdk_42_m91_3 (gw hw 51 rfl) (gw hw 52 rfl) (gw hw 54 rfl) (gw hw 54 rfl) (gw hw 53 rfl) (gw hw 12 rfl) (gw hw 55 rfl) (by decide) pd_5 rfl rfl rfl (lb rfl) (lb rfl) (lb rfl) (lb rfl) ?_
  rintro _ _ ⟨rfl, rfl⟩
  show W39 l Z (rm4 5 2 5 82) ((s, strO v) :: (v, fA .byte [y0, y1, y2]) :: F) 0 0 6 #[.val (.ref s), .val (.int 2)] [(.int 3), (.int 2), (.ref s)] (Q_c_sb1_3_2_3 s v y0 y1 y2 F)
  refine wp_virtual (c_sub_3_2_3 l Z a0 hw s v y0 y1 y2 cp fm F hs ) (exa_new (i := 0) rfl) D_jdk_42_m91_6 (gw hw 105 rfl) (gw hw 106 rfl) (gw hw 108 rfl) (gw hw 108 rfl) (gw hw 107 rfl) (gw hw 12 rfl) (gw hw 109 rfl) (by decide) pd_10 rfl rfl rfl (lb rfl) (lb rfl) (lb rfl) (lb rfl) ?_
  rintro _ _ ⟨sa1, su2, rfl, rfl⟩
  show W39 l Z (rm4 5 2 5 82) ((su2, fA .byte [y2]) :: (sa1, strO su2) :: (s, strO v) :: (v, fA .byte [y0, y1, y2]) :: F) 2 5 9 #[.val (.ref s), .val (.int 2)] [(.ref sa1)] (Q_c_sb1_3_2_3 s v y0 y1 y2 F)
  refine wp_areturn D_jdk_42_m91_9 rfl rfl rfl rfl (by decide) (by decide) ?_
  exact ⟨_, _, rfl, rfl⟩
def Q_c_fr_3_1 (s v : Addr) (y0 y1 y2 : Int32) (F : OH) : Option Value → OH → Prop := fun w' H' => ∃ o a u, w' = some (.ref o) ∧ H' = ((o, fI "java/util/Optional" sg_2 [(.ref a)]) :: (u, fA .byte [y2]) :: (a, strO u) :: (s, strO v) :: (v, fA .byte [y0, y1, y2]) :: F)
set_option maxRecDepth 65536 in
set_option maxHeartbeats 40000000 in
theorem c_fr_3_1 (l : Launch) (Z : State) (a0 : Array Value) (hw : HW Z a0) (s v : Addr) (y0 y1 y2 : Int32) (cp : Int32) (fm : Value) (F : OH) (hs : Std Z cp fm) (hq0 : ¬ y0 = 35) (hq1 : y1 = 35) :
    Met l Z (⟨"com/example/bylint/bylint/description/UriReferences", "fragment", "(Ljava/lang/String;)Ljava/util/Optional;"⟩ : MethodName) prog_9_method_6_code 2 (some (.object "java/util/Optional")) (rm4 6 3 6 95) [(.ref s)] ((s, strO v) :: (v, fA .byte [y0, y1, y2]) :: F) (Q_c_fr_3_1 s v y0 y1 y2 F) := by
  refine Met.of_wp (Ls := #[.val (.ref s), .unset]) pn_24 (fun m => (entry_loc m _ _).trans rfl) ?_
  show W25 l Z (rm4 6 3 6 95) ((s, strO v) :: (v, fA .byte [y0, y1, y2]) :: F) 0 0 0 #[.val (.ref s), .unset] [] (Q_c_fr_3_1 s v y0 y1 y2 F)
  refine wp_aload_n D_prog_9_m6_0 rfl rfl ?_
  refine wp_bipush 35 D_prog_9_m6_1 (by decide) ?_
  refine wp_virtual (c_si_3 l Z a0 hw s v y0 y1 y2 (1 : Int32) cp fm F hs (c_ioc_3_1 l Z a0 hw s v y0 y1 y2 F hq0 hq1)) (exa_new (i := 0) rfl) D_prog_9_m6_3 (gw hw 35 rfl) (gw hw 36 rfl) (gw hw 38 rfl) (gw hw 38 rfl) (gw hw 37 rfl) (gw hw 12 rfl) (gw hw 39 rfl) (by decide) pd_20 rfl rfl rfl (lb rfl) (lb rfl) (lb rfl) (lb rfl) ?_
  rintro _ _ ⟨rfl, rfl⟩
  show W25 l Z (rm4 6 3 6 95) ((s, strO v) :: (v, fA .byte [y0, y1, y2]) :: F) 0 0 6 #[.val (.ref s), .unset] [(.int 1)] (Q_c_fr_3_1 s v y0 y1 y2 F)
  refine wp_istore_n #[.val (.ref s), .val (.int 1)] D_prog_9_m6_6 rfl ?_
  refine wp_iload_n D_prog_9_m6_7 rfl ?_
  refine wp_if_ge D_prog_9_m6_8 (pc'' := 17) ⟨by decide, by decide⟩ (fun h1 => ?_) (fun h1 => by exact absurd h1 (by decide))
  refine wp_aload_n D_prog_9_m6_17 rfl rfl ?_
  refine wp_iload_n D_prog_9_m6_18 rfl ?_
  refine wp_iconst 1 D_prog_9_m6_19 (by decide) ?_
  refine wp_iadd D_prog_9_m6_20 ?_
  rw [show ((1 : Int32) + (1 : Int32)) = (2 : Int32) from by decide]
  refine wp_virtual (c_sb1_3_2_3 l Z a0 hw s v y0 y1 y2 cp fm F hs ) (exa_new (i := 0) rfl) D_prog_9_m6_21 (gw hw 100 rfl) (gw hw 101 rfl) (gw hw 103 rfl) (gw hw 103 rfl) (gw hw 102 rfl) (gw hw 12 rfl) (gw hw 104 rfl) (by decide) pd_22 rfl rfl rfl (lb rfl) (lb rfl) (lb rfl) (lb rfl) ?_
  rintro _ _ ⟨sa2, su3, rfl, rfl⟩
  show W25 l Z (rm4 6 3 6 95) ((su3, fA .byte [y2]) :: (sa2, strO su3) :: (s, strO v) :: (v, fA .byte [y0, y1, y2]) :: F) 2 5 24 #[.val (.ref s), .val (.int 1)] [(.ref sa2)] (Q_c_fr_3_1 s v y0 y1 y2 F)
  refine wp_callS (c_of l Z a0 hw sa2 ((su3, fA .byte [y2]) :: (sa2, strO su3) :: (s, strO v) :: (v, fA .byte [y0, y1, y2]) :: F) ) D_prog_9_m6_24 (gw hw 140 rfl) (gw hw 141 rfl) (gw hw 77 rfl) (gw hw 142 rfl) (by decide) pd_23 rfl rfl rfl (lb rfl) (lb rfl) (lb rfl) (lb rfl) ?_
  rintro _ _ ⟨o4, rfl, rfl⟩
  show W25 l Z (rm4 6 3 6 95) ((o4, fI "java/util/Optional" sg_2 [(.ref sa2)]) :: (su3, fA .byte [y2]) :: (sa2, strO su3) :: (s, strO v) :: (v, fA .byte [y0, y1, y2]) :: F) 3 6 27 #[.val (.ref s), .val (.int 1)] [(.ref o4)] (Q_c_fr_3_1 s v y0 y1 y2 F)
  refine wp_areturn D_prog_9_m6_27 rfl rfl rfl rfl (by decide) (by decide) ?_
  exact ⟨_, _, _, rfl, rfl⟩
set_option maxRecDepth 65536 in
set_option maxHeartbeats 40000000 in
theorem c_ioc_3_2 (l : Launch) (Z : State) (a0 : Array Value) (hw : HW Z a0) (s v : Addr) (y0 y1 y2 : Int32) (F : OH) (hq0 : ¬ y0 = 35) (hq1 : ¬ y1 = 35) (hq2 : y2 = 35) :
    Met l Z (⟨"java/lang/StringLatin1", "indexOfChar", "([BIII)I"⟩ : MethodName) jdk_43_method_23_code 6 (some .int) (rm4 0 0 0 0) [(.ref v), (.int 35), (.int 0), (.int 3)] ((s, strO v) :: (v, fA .byte [y0, y1, y2]) :: F) (Q_ioc_3 s v y0 y1 y2 (2 : Int32) F) := by
  refine Met.of_wp (Ls := #[.val (.ref v), .val (.int 35), .val (.int 0), .val (.int 3), .unset, .unset]) pn_20 (fun m => (entry_loc m _ _).trans rfl) ?_
  show W26 l Z (rm4 0 0 0 0) ((s, strO v) :: (v, fA .byte [y0, y1, y2]) :: F) 0 0 0 #[.val (.ref v), .val (.int 35), .val (.int 0), .val (.int 3), .unset, .unset] [] (Q_ioc_3 s v y0 y1 y2 (2 : Int32) F)
  refine wp_iload_n D_jdk_43_m23_0 rfl ?_
  refine wp_i2b D_jdk_43_m23_1 ?_
  rw [show (35 : Int32).toInt8.toInt32 = (35 : Int32) from by decide]
  refine wp_istore #[.val (.ref v), .val (.int 35), .val (.int 0), .val (.int 3), .val (.int 35), .unset] D_jdk_43_m23_2 rfl ?_
  refine wp_iload_n D_jdk_43_m23_4 rfl ?_
  refine wp_istore #[.val (.ref v), .val (.int 35), .val (.int 0), .val (.int 3), .val (.int 35), .val (.int 0)] D_jdk_43_m23_5 rfl ?_
  refine wp_iload D_jdk_43_m23_7 rfl ?_
  refine wp_iload_n D_jdk_43_m23_9 rfl ?_
  refine wp_icmp_ge D_jdk_43_m23_10 (pc'' := 31) ⟨by decide, by decide⟩ (fun h1 => by exact absurd h1 (by decide)) (fun h1 => ?_)
  refine wp_aload_n D_jdk_43_m23_13 rfl rfl ?_
  refine wp_iload D_jdk_43_m23_14 rfl ?_
  refine wp_baload (i := 1) (0) D_jdk_43_m23_16 rfl (by decide) (by decide) rfl ?_
  refine wp_iload D_jdk_43_m23_17 rfl ?_
  refine wp_icmp_ne D_jdk_43_m23_19 (pc'' := 25) ⟨by decide, by decide⟩ (fun h2 => ?_) (fun h2 => by exact absurd h2 hq0)
  refine wp_iinc 1 #[.val (.ref v), .val (.int 35), .val (.int 0), .val (.int 3), .val (.int 35), .val (.int 1)] D_jdk_43_m23_25 rfl rfl (by rw [show (0 : Int32) + (1 : Int32) = (1 : Int32) from by decide]; rfl) ?_
  refine wp_goto D_jdk_43_m23_28 (pc'' := 7) ⟨by decide, by decide⟩ ?_
  refine wp_iload D_jdk_43_m23_7 rfl ?_
  refine wp_iload_n D_jdk_43_m23_9 rfl ?_
  refine wp_icmp_ge D_jdk_43_m23_10 (pc'' := 31) ⟨by decide, by decide⟩ (fun h3 => by exact absurd h3 (by decide)) (fun h3 => ?_)
  refine wp_aload_n D_jdk_43_m23_13 rfl rfl ?_
  refine wp_iload D_jdk_43_m23_14 rfl ?_
  refine wp_baload (i := 1) (1) D_jdk_43_m23_16 rfl (by decide) (by decide) rfl ?_
  refine wp_iload D_jdk_43_m23_17 rfl ?_
  refine wp_icmp_ne D_jdk_43_m23_19 (pc'' := 25) ⟨by decide, by decide⟩ (fun h4 => ?_) (fun h4 => by exact absurd h4 hq1)
  refine wp_iinc 1 #[.val (.ref v), .val (.int 35), .val (.int 0), .val (.int 3), .val (.int 35), .val (.int 2)] D_jdk_43_m23_25 rfl rfl (by rw [show (1 : Int32) + (1 : Int32) = (2 : Int32) from by decide]; rfl) ?_
  refine wp_goto D_jdk_43_m23_28 (pc'' := 7) ⟨by decide, by decide⟩ ?_
  refine wp_iload D_jdk_43_m23_7 rfl ?_
  refine wp_iload_n D_jdk_43_m23_9 rfl ?_
  refine wp_icmp_ge D_jdk_43_m23_10 (pc'' := 31) ⟨by decide, by decide⟩ (fun h5 => by exact absurd h5 (by decide)) (fun h5 => ?_)
  refine wp_aload_n D_jdk_43_m23_13 rfl rfl ?_
  refine wp_iload D_jdk_43_m23_14 rfl ?_
  refine wp_baload (i := 1) (2) D_jdk_43_m23_16 rfl (by decide) (by decide) rfl ?_
  refine wp_iload D_jdk_43_m23_17 rfl ?_
  refine wp_icmp_ne D_jdk_43_m23_19 (pc'' := 25) ⟨by decide, by decide⟩ (fun h6 => by exact absurd hq2 h6) (fun h6 => ?_)
  refine wp_iload D_jdk_43_m23_22 rfl ?_
  refine wp_ireturn D_jdk_43_m23_24 rfl (by decide) (by decide) ?_
  exact ⟨rfl, rfl⟩
def Q_c_nst_3_3_3 (s v : Addr) (y0 y1 y2 : Int32) (F : OH) : Option Value → OH → Prop := fun w' H' => ∃ a u, w' = some (.ref a) ∧ H' = ((a, strO u) :: (u, fA .byte []) :: (s, strO v) :: (v, fA .byte [y0, y1, y2]) :: F)
set_option maxRecDepth 65536 in
set_option maxHeartbeats 40000000 in
theorem c_nst_3_3_3 (l : Launch) (Z : State) (a0 : Array Value) (hw : HW Z a0) (s v : Addr) (y0 y1 y2 : Int32) (cp : Int32) (fm : Value) (F : OH) (hs : Std Z cp fm) :
    MetI consts_1 l Z (⟨"java/lang/StringLatin1", "newString", "([BII)Ljava/lang/String;"⟩ : MethodName) jdk_43_method_47_code 3 (some (.object "java/lang/String")) (rm4 0 2 4 0) [(.ref v), (.int 3), (.int 0)] ((s, strO v) :: (v, fA .byte [y0, y1, y2]) :: F) (Q_c_nst_3_3_3 s v y0 y1 y2 F) := by
  refine MetI.of_wp (Ls := #[.val (.ref v), .val (.int 3), .val (.int 0)]) pn_27 (fun m => (entry_loc m _ _).trans rfl) (own_EL l Z a0 hw) ?_
  show W29 l Z (rm4 0 2 4 0) ((s, strO v) :: (v, fA .byte [y0, y1, y2]) :: F) 0 0 0 #[.val (.ref v), .val (.int 3), .val (.int 0)] [] (Q_c_nst_3_3_3 s v y0 y1 y2 F)
  refine wp_iload_n D_jdk_43_m47_0 rfl ?_
  refine wp_if_ne D_jdk_43_m47_1 (pc'' := 7) ⟨by decide, by decide⟩ (fun h1 => by exact absurd h1 (by decide)) (fun h1 => ?_)
  refine wp_ldcH (n := 0) [] D_jdk_43_m47_4 (gw hw 171 rfl) (own_wS l Z a0 hw) (own_slo l Z a0 hw) (own_EL l Z a0 hw) (List.mem_of_getElem? (i := 1) rfl) ⟨by decide, by decide⟩ (by decide) (by decide) (by decide) (by decide) (by decide) ?_
  intro s2 v3
  show W29 l Z (rm4 0 2 4 0) ((s2, strO v3) :: (v3, fA .byte []) :: (s, strO v) :: (v, fA .byte [y0, y1, y2]) :: F) 2 4 6 #[.val (.ref v), .val (.int 3), .val (.int 0)] [(.ref s2)] (Q_c_nst_3_3_3 s v y0 y1 y2 F)
  refine wp_areturn D_jdk_43_m47_6 rfl rfl rfl rfl (by decide) (by decide) ?_
  exact ⟨_, _, rfl, rfl⟩
def Q_c_sub_3_3_3 (s v : Addr) (y0 y1 y2 : Int32) (F : OH) : Option Value → OH → Prop := fun w' H' => ∃ a u, w' = some (.ref a) ∧ H' = ((a, strO u) :: (u, fA .byte []) :: (s, strO v) :: (v, fA .byte [y0, y1, y2]) :: F)
set_option maxRecDepth 65536 in
set_option maxHeartbeats 40000000 in
theorem c_sub_3_3_3 (l : Launch) (Z : State) (a0 : Array Value) (hw : HW Z a0) (s v : Addr) (y0 y1 y2 : Int32) (cp : Int32) (fm : Value) (F : OH) (hs : Std Z cp fm) :
    MetI consts_1 l Z (⟨"java/lang/String", "substring", "(II)Ljava/lang/String;"⟩ : MethodName) jdk_42_method_92_code 5 (some (.object "java/lang/String")) (rm4 2 2 4 29) [(.ref s), (.int 3), (.int 3)] ((s, strO v) :: (v, fA .byte [y0, y1, y2]) :: F) (Q_c_sub_3_3_3 s v y0 y1 y2 F) := by
  refine MetI.of_wp (Ls := #[.val (.ref s), .val (.int 3), .val (.int 3), .unset, .unset]) pn_28 (fun m => (entry_loc m _ _).trans rfl) (own_EL l Z a0 hw) ?_
  show W30 l Z (rm4 2 2 4 29) ((s, strO v) :: (v, fA .byte [y0, y1, y2]) :: F) 0 0 0 #[.val (.ref s), .val (.int 3), .val (.int 3), .unset, .unset] [] (Q_c_sub_3_3_3 s v y0 y1 y2 F)
  refine wp_aload_n D_jdk_42_m92_0 rfl rfl ?_
  refine wp_virtual (c_len_3 l Z a0 hw s v y0 y1 y2 cp fm F hs ) (exa_new (i := 0) rfl) D_jdk_42_m92_1 (gw hw 51 rfl) (gw hw 52 rfl) (gw hw 54 rfl) (gw hw 54 rfl) (gw hw 53 rfl) (gw hw 12 rfl) (gw hw 55 rfl) (by decide) pd_5 rfl rfl rfl (lb rfl) (lb rfl) (lb rfl) (lb rfl) ?_
  rintro _ _ ⟨rfl, rfl⟩
  show W30 l Z (rm4 2 2 4 29) ((s, strO v) :: (v, fA .byte [y0, y1, y2]) :: F) 0 0 4 #[.val (.ref s), .val (.int 3), .val (.int 3), .unset, .unset] [(.int 3)] (Q_c_sub_3_3_3 s v y0 y1 y2 F)
  refine wp_istore_n #[.val (.ref s), .val (.int 3), .val (.int 3), .val (.int 3), .unset] D_jdk_42_m92_4 rfl ?_
  refine wp_iload_n D_jdk_42_m92_5 rfl ?_
  refine wp_iload_n D_jdk_42_m92_6 rfl ?_
  refine wp_iload_n D_jdk_42_m92_7 rfl ?_
  refine wp_callS (c_cbe l Z a0 hw 3 3 3 cp fm ((s, strO v) :: (v, fA .byte [y0, y1, y2]) :: F) hs (by decide) (by decide) (by decide)) D_jdk_42_m92_8 (gw hw 110 rfl) (gw hw 111 rfl) (gw hw 12 rfl) (gw hw 112 rfl) (by decide) pd_11 rfl rfl rfl (lb rfl) (lb rfl) (lb rfl) (lb rfl) ?_
  rintro _ _ ⟨rfl, rfl⟩
  show W30 l Z (rm4 2 2 4 29) ((s, strO v) :: (v, fA .byte [y0, y1, y2]) :: F) 0 0 11 #[.val (.ref s), .val (.int 3), .val (.int 3), .val (.int 3), .unset] [] (Q_c_sub_3_3_3 s v y0 y1 y2 F)
  refine wp_iload_n D_jdk_42_m92_11 rfl ?_
  refine wp_if_ne D_jdk_42_m92_12 (pc'' := 22) ⟨by decide, by decide⟩ (fun h1 => ?_) (fun h1 => by exact absurd h1 (by decide))
  refine wp_iload_n D_jdk_42_m92_22 rfl ?_
  refine wp_iload_n D_jdk_42_m92_23 rfl ?_
  refine wp_isub D_jdk_42_m92_24 ?_
  rw [show ((3 : Int32) - (3 : Int32)) = (0 : Int32) from by decide]
  refine wp_istore #[.val (.ref s), .val (.int 3), .val (.int 3), .val (.int 3), .val (.int 0)] D_jdk_42_m92_25 rfl ?_
  refine wp_aload_n D_jdk_42_m92_27 rfl rfl ?_
  refine wp_virtual (c_lat l Z a0 hw s v cp fm ((v, fA .byte [y0, y1, y2]) :: F) hs ) (exa_new (i := 0) rfl) D_jdk_42_m92_28 (gw hw 45 rfl) (gw hw 46 rfl) (gw hw 48 rfl) (gw hw 48 rfl) (gw hw 47 rfl) (gw hw 12 rfl) (gw hw 49 rfl) (by decide) pd_4 rfl rfl rfl (lb rfl) (lb rfl) (lb rfl) (lb rfl) ?_
  rintro _ _ ⟨rfl, rfl⟩
  show W30 l Z (rm4 2 2 4 29) ((s, strO v) :: (v, fA .byte [y0, y1, y2]) :: F) 0 0 31 #[.val (.ref s), .val (.int 3), .val (.int 3), .val (.int 3), .val (.int 0)] [(.int 1)] (Q_c_sub_3_3_3 s v y0 y1 y2 F)
  refine wp_if_eq D_jdk_42_m92_31 (pc'' := 47) ⟨by decide, by decide⟩ (fun h2 => by exact absurd h2 (by decide)) (fun h2 => ?_)
  refine wp_aload_n D_jdk_42_m92_34 rfl rfl ?_
  refine wp_getfield D_jdk_42_m92_35 (gw hw 29 rfl) (fld_new (i := 0) (fi := 0) rfl rfl rfl) ?_
  refine wp_iload_n D_jdk_42_m92_38 rfl ?_
  refine wp_iload D_jdk_42_m92_39 rfl ?_
  refine wp_callSI (c_nst_3_3_3 l Z a0 hw s v y0 y1 y2 cp fm F hs ) (own_EL l Z a0 hw) D_jdk_42_m92_41 (gw hw 118 rfl) (gw hw 119 rfl) (gw hw 63 rfl) (gw hw 120 rfl) (by decide) pd_13 rfl rfl rfl (lb rfl) (lb rfl) (lb rfl) (lb rfl) ?_
  rintro _ _ ⟨sa3, su4, rfl, rfl⟩
  show W30 l Z (rm4 2 2 4 29) ((sa3, strO su4) :: (su4, fA .byte []) :: (s, strO v) :: (v, fA .byte [y0, y1, y2]) :: F) 2 4 44 #[.val (.ref s), .val (.int 3), .val (.int 3), .val (.int 3), .val (.int 0)] [(.ref sa3)] (Q_c_sub_3_3_3 s v y0 y1 y2 F)
  refine wp_goto D_jdk_42_m92_44 (pc'' := 57) ⟨by decide, by decide⟩ ?_
  refine wp_areturn D_jdk_42_m92_57 rfl rfl rfl rfl (by decide) (by decide) ?_
  exact ⟨_, _, rfl, rfl⟩
def Q_c_sb1_3_3_3 (s v : Addr) (y0 y1 y2 : Int32) (F : OH) : Option Value → OH → Prop := fun w' H' => ∃ a u, w' = some (.ref a) ∧ H' = ((a, strO u) :: (u, fA .byte []) :: (s, strO v) :: (v, fA .byte [y0, y1, y2]) :: F)
set_option maxRecDepth 65536 in
set_option maxHeartbeats 40000000 in
theorem c_sb1_3_3_3 (l : Launch) (Z : State) (a0 : Array Value) (hw : HW Z a0) (s v : Addr) (y0 y1 y2 : Int32) (cp : Int32) (fm : Value) (F : OH) (hs : Std Z cp fm) :
    MetI consts_1 l Z (⟨"java/lang/String", "substring", "(I)Ljava/lang/String;"⟩ : MethodName) jdk_42_method_91_code 2 (some (.object "java/lang/String")) (rm4 3 2 4 45) [(.ref s), (.int 3)] ((s, strO v) :: (v, fA .byte [y0, y1, y2]) :: F) (Q_c_sb1_3_3_3 s v y0 y1 y2 F) := by
  refine MetI.of_wp (Ls := #[.val (.ref s), .val (.int 3)]) pn_29 (fun m => (entry_loc m _ _).trans rfl) (own_EL l Z a0 hw) ?_
  show W31 l Z (rm4 3 2 4 45) ((s, strO v) :: (v, fA .byte [y0, y1, y2]) :: F) 0 0 0 #[.val (.ref s), .val (.int 3)] [] (Q_c_sb1_3_3_3 s v y0 y1 y2 F)
  refine wp_aload_n D_jdk_42_m91_0 rfl rfl ?_
  refine wp_iload_n D_jdk_42_m91_1 rfl ?_
  refine wp_aload_n D_jdk_42_m91_2 rfl rfl ?_
  refine wp_virtual (c_len_3 l Z a0 hw s v y0 y1 y2 cp fm F hs ) (exa_new (i := 0) rfl) D_jdk_42_m91_3 (gw hw 51 rfl) (gw hw 52 rfl) (gw hw 54 rfl) (gw hw 54 rfl) (gw hw 53 rfl) (gw hw 12 rfl) (gw hw 55 rfl) (by decide) pd_5 rfl rfl rfl (lb rfl) (lb rfl) (lb rfl) (lb rfl) ?_
  rintro _ _ ⟨rfl, rfl⟩
  show W31 l Z (rm4 3 2 4 45) ((s, strO v) :: (v, fA .byte [y0, y1, y2]) :: F) 0 0 6 #[.val (.ref s), .val (.int 3)] [(.int 3), (.int 3), (.ref s)] (Q_c_sb1_3_3_3 s v y0 y1 y2 F)
  refine wp_virtualI (c_sub_3_3_3 l Z a0 hw s v y0 y1 y2 cp fm F hs ) (exa_new (i := 0) rfl) (own_EL l Z a0 hw) D_jdk_42_m91_6 (gw hw 105 rfl) (gw hw 106 rfl) (gw hw 108 rfl) (gw hw 108 rfl) (gw hw 107 rfl) (gw hw 12 rfl) (gw hw 109 rfl) (by decide) pd_10 rfl rfl rfl (lb rfl) (lb rfl) (lb rfl) (lb rfl) ?_
  rintro _ _ ⟨sa1, su2, rfl, rfl⟩
  show W31 l Z (rm4 3 2 4 45) ((sa1, strO su2) :: (su2, fA .byte []) :: (s, strO v) :: (v, fA .byte [y0, y1, y2]) :: F) 2 4 9 #[.val (.ref s), .val (.int 3)] [(.ref sa1)] (Q_c_sb1_3_3_3 s v y0 y1 y2 F)
  refine wp_areturn D_jdk_42_m91_9 rfl rfl rfl rfl (by decide) (by decide) ?_
  exact ⟨_, _, rfl, rfl⟩
def Q_c_fr_3_2 (s v : Addr) (y0 y1 y2 : Int32) (F : OH) : Option Value → OH → Prop := fun w' H' => ∃ o a u, w' = some (.ref o) ∧ H' = ((o, fI "java/util/Optional" sg_2 [(.ref a)]) :: (a, strO u) :: (u, fA .byte []) :: (s, strO v) :: (v, fA .byte [y0, y1, y2]) :: F)
set_option maxRecDepth 65536 in
set_option maxHeartbeats 40000000 in
theorem c_fr_3_2 (l : Launch) (Z : State) (a0 : Array Value) (hw : HW Z a0) (s v : Addr) (y0 y1 y2 : Int32) (cp : Int32) (fm : Value) (F : OH) (hs : Std Z cp fm) (hq0 : ¬ y0 = 35) (hq1 : ¬ y1 = 35) (hq2 : y2 = 35) :
    MetI consts_1 l Z (⟨"com/example/bylint/bylint/description/UriReferences", "fragment", "(Ljava/lang/String;)Ljava/util/Optional;"⟩ : MethodName) prog_9_method_6_code 2 (some (.object "java/util/Optional")) (rm4 4 3 5 59) [(.ref s)] ((s, strO v) :: (v, fA .byte [y0, y1, y2]) :: F) (Q_c_fr_3_2 s v y0 y1 y2 F) := by
  refine MetI.of_wp (Ls := #[.val (.ref s), .unset]) pn_24 (fun m => (entry_loc m _ _).trans rfl) (own_EL l Z a0 hw) ?_
  show W32 l Z (rm4 4 3 5 59) ((s, strO v) :: (v, fA .byte [y0, y1, y2]) :: F) 0 0 0 #[.val (.ref s), .unset] [] (Q_c_fr_3_2 s v y0 y1 y2 F)
  refine wp_aload_n D_prog_9_m6_0 rfl rfl ?_
  refine wp_bipush 35 D_prog_9_m6_1 (by decide) ?_
  refine wp_virtual (c_si_3 l Z a0 hw s v y0 y1 y2 (2 : Int32) cp fm F hs (c_ioc_3_2 l Z a0 hw s v y0 y1 y2 F hq0 hq1 hq2)) (exa_new (i := 0) rfl) D_prog_9_m6_3 (gw hw 35 rfl) (gw hw 36 rfl) (gw hw 38 rfl) (gw hw 38 rfl) (gw hw 37 rfl) (gw hw 12 rfl) (gw hw 39 rfl) (by decide) pd_20 rfl rfl rfl (lb rfl) (lb rfl) (lb rfl) (lb rfl) ?_
  rintro _ _ ⟨rfl, rfl⟩
  show W32 l Z (rm4 4 3 5 59) ((s, strO v) :: (v, fA .byte [y0, y1, y2]) :: F) 0 0 6 #[.val (.ref s), .unset] [(.int 2)] (Q_c_fr_3_2 s v y0 y1 y2 F)
  refine wp_istore_n #[.val (.ref s), .val (.int 2)] D_prog_9_m6_6 rfl ?_
  refine wp_iload_n D_prog_9_m6_7 rfl ?_
  refine wp_if_ge D_prog_9_m6_8 (pc'' := 17) ⟨by decide, by decide⟩ (fun h1 => ?_) (fun h1 => by exact absurd h1 (by decide))
  refine wp_aload_n D_prog_9_m6_17 rfl rfl ?_
  refine wp_iload_n D_prog_9_m6_18 rfl ?_
  refine wp_iconst 1 D_prog_9_m6_19 (by decide) ?_
  refine wp_iadd D_prog_9_m6_20 ?_
  rw [show ((2 : Int32) + (1 : Int32)) = (3 : Int32) from by decide]
  refine wp_virtualI (c_sb1_3_3_3 l Z a0 hw s v y0 y1 y2 cp fm F hs ) (exa_new (i := 0) rfl) (own_EL l Z a0 hw) D_prog_9_m6_21 (gw hw 100 rfl) (gw hw 101 rfl) (gw hw 103 rfl) (gw hw 103 rfl) (gw hw 102 rfl) (gw hw 12 rfl) (gw hw 104 rfl) (by decide) pd_22 rfl rfl rfl (lb rfl) (lb rfl) (lb rfl) (lb rfl) ?_
  rintro _ _ ⟨sa2, su3, rfl, rfl⟩
  show W32 l Z (rm4 4 3 5 59) ((sa2, strO su3) :: (su3, fA .byte []) :: (s, strO v) :: (v, fA .byte [y0, y1, y2]) :: F) 2 4 24 #[.val (.ref s), .val (.int 2)] [(.ref sa2)] (Q_c_fr_3_2 s v y0 y1 y2 F)
  refine wp_callS (c_of l Z a0 hw sa2 ((sa2, strO su3) :: (su3, fA .byte []) :: (s, strO v) :: (v, fA .byte [y0, y1, y2]) :: F) ) D_prog_9_m6_24 (gw hw 140 rfl) (gw hw 141 rfl) (gw hw 77 rfl) (gw hw 142 rfl) (by decide) pd_23 rfl rfl rfl (lb rfl) (lb rfl) (lb rfl) (lb rfl) ?_
  rintro _ _ ⟨o4, rfl, rfl⟩
  show W32 l Z (rm4 4 3 5 59) ((o4, fI "java/util/Optional" sg_2 [(.ref sa2)]) :: (sa2, strO su3) :: (su3, fA .byte []) :: (s, strO v) :: (v, fA .byte [y0, y1, y2]) :: F) 3 5 27 #[.val (.ref s), .val (.int 2)] [(.ref o4)] (Q_c_fr_3_2 s v y0 y1 y2 F)
  refine wp_areturn D_prog_9_m6_27 rfl rfl rfl rfl (by decide) (by decide) ?_
  exact ⟨_, _, _, rfl, rfl⟩
def Q_c_min_4_4  (F : OH) : Option Value → OH → Prop := fun w' H' => w' = some (.int 4) ∧ H' = F
set_option maxRecDepth 65536 in
set_option maxHeartbeats 40000000 in
theorem c_min_4_4 (l : Launch) (Z : State) (a0 : Array Value) (hw : HW Z a0)  (F : OH) :
    Met l Z (⟨"java/lang/Math", "min", "(II)I"⟩ : MethodName) jdk_29_method_69_code 2 (some .int) (rm4 0 0 0 0) [(.int 4), (.int 4)] F (Q_c_min_4_4 F) := by
  refine Met.of_wp (Ls := #[.val (.int 4), .val (.int 4)]) pn_19 (fun m => (entry_loc m _ _).trans rfl) ?_
  show W21 l Z (rm4 0 0 0 0) F 0 0 0 #[.val (.int 4), .val (.int 4)] [] (Q_c_min_4_4 F)
  refine wp_iload_n D_jdk_29_m69_0 rfl ?_
  refine wp_iload_n D_jdk_29_m69_1 rfl ?_
  refine wp_icmp_gt D_jdk_29_m69_2 (pc'' := 9) ⟨by decide, by decide⟩ (fun h1 => by exact absurd h1 (by decide)) (fun h1 => ?_)
  refine wp_iload_n D_jdk_29_m69_5 rfl ?_
  refine wp_goto D_jdk_29_m69_6 (pc'' := 10) ⟨by decide, by decide⟩ ?_
  refine wp_ireturn D_jdk_29_m69_10 rfl (by decide) (by decide) ?_
  exact ⟨rfl, rfl⟩
def Q_ioc_4 (s v : Addr) (y0 y1 y2 y3 : Int32) (r : Int32) (F : OH) : Option Value → OH → Prop := fun w' H' => w' = some (.int r) ∧ H' = ((s, strO v) :: (v, fA .byte [y0, y1, y2, y3]) :: F)
def Q_c_lix_4 (s v : Addr) (y0 y1 y2 y3 : Int32) (r : Int32) (F : OH) : Option Value → OH → Prop := fun w' H' => w' = some (.int r) ∧ H' = ((s, strO v) :: (v, fA .byte [y0, y1, y2, y3]) :: F)
set_option maxRecDepth 65536 in
set_option maxHeartbeats 40000000 in
theorem c_lix_4 (l : Launch) (Z : State) (a0 : Array Value) (hw : HW Z a0) (s v : Addr) (y0 y1 y2 y3 : Int32) (r : Int32) (cp : Int32) (fm : Value) (F : OH) (hs : Std Z cp fm) (hM : Met l Z (⟨"java/lang/StringLatin1", "indexOfChar", "([BIII)I"⟩ : MethodName) jdk_43_method_23_code 6 (some .int) (rm4 0 0 0 0) [.ref v, .int 35, .int 0, .int 4] ((s, strO v) :: (v, fA .byte [y0, y1, y2, y3]) :: F) (Q_ioc_4 s v y0 y1 y2 y3 r F)) :
    Met l Z (⟨"java/lang/StringLatin1", "indexOf", "([BIII)I"⟩ : MethodName) jdk_43_method_22_code 4 (some .int) (rm4 1 0 0 17) [(.ref v), (.int 35), (.int 0), (.int 4)] ((s, strO v) :: (v, fA .byte [y0, y1, y2, y3]) :: F) (Q_c_lix_4 s v y0 y1 y2 y3 r F) := by
  refine Met.of_wp (Ls := #[.val (.ref v), .val (.int 35), .val (.int 0), .val (.int 4)]) pn_21 (fun m => (entry_loc m _ _).trans rfl) ?_
  show W22 l Z (rm4 1 0 0 17) ((s, strO v) :: (v, fA .byte [y0, y1, y2, y3]) :: F) 0 0 0 #[.val (.ref v), .val (.int 35), .val (.int 0), .val (.int 4)] [] (Q_c_lix_4 s v y0 y1 y2 y3 r F)
  refine wp_iload_n D_jdk_43_m22_0 rfl ?_
  refine wp_callS (c_can l Z a0 hw  ((s, strO v) :: (v, fA .byte [y0, y1, y2, y3]) :: F) ) D_jdk_43_m22_1 (gw hw 65 rfl) (gw hw 66 rfl) (gw hw 63 rfl) (gw hw 67 rfl) (by decide) pd_15 rfl rfl rfl (lb rfl) (lb rfl) (lb rfl) (lb rfl) ?_
  rintro _ _ ⟨rfl, rfl⟩
  show W22 l Z (rm4 1 0 0 17) ((s, strO v) :: (v, fA .byte [y0, y1, y2, y3]) :: F) 0 0 4 #[.val (.ref v), .val (.int 35), .val (.int 0), .val (.int 4)] [(.int 1)] (Q_c_lix_4 s v y0 y1 y2 y3 r F)
  refine wp_if_ne D_jdk_43_m22_4 (pc'' := 9) ⟨by decide, by decide⟩ (fun h1 => ?_) (fun h1 => by exact absurd h1 (by decide))
  refine wp_iload_n D_jdk_43_m22_9 rfl ?_
  refine wp_iconst 0 D_jdk_43_m22_10 (by decide) ?_
  refine wp_callS (c_max_0_0 l Z a0 hw  ((s, strO v) :: (v, fA .byte [y0, y1, y2, y3]) :: F) ) D_jdk_43_m22_11 (gw hw 68 rfl) (gw hw 69 rfl) (gw hw 70 rfl) (gw hw 71 rfl) (by decide) pd_3 rfl rfl rfl (lb rfl) (lb rfl) (lb rfl) (lb rfl) ?_
  rintro _ _ ⟨rfl, rfl⟩
  show W22 l Z (rm4 1 0 0 17) ((s, strO v) :: (v, fA .byte [y0, y1, y2, y3]) :: F) 0 0 14 #[.val (.ref v), .val (.int 35), .val (.int 0), .val (.int 4)] [(.int 0)] (Q_c_lix_4 s v y0 y1 y2 y3 r F)
  refine wp_istore_n #[.val (.ref v), .val (.int 35), .val (.int 0), .val (.int 4)] D_jdk_43_m22_14 rfl ?_
  refine wp_iload_n D_jdk_43_m22_15 rfl ?_
  refine wp_aload_n D_jdk_43_m22_16 rfl rfl ?_
  refine wp_lengthI (i := 1) (4 : Int32) D_jdk_43_m22_17 rfl rfl ?_
  refine wp_callS (c_min_4_4 l Z a0 hw  ((s, strO v) :: (v, fA .byte [y0, y1, y2, y3]) :: F) ) D_jdk_43_m22_18 (gw hw 72 rfl) (gw hw 73 rfl) (gw hw 70 rfl) (gw hw 74 rfl) (by decide) pd_3 rfl rfl rfl (lb rfl) (lb rfl) (lb rfl) (lb rfl) ?_
  rintro _ _ ⟨rfl, rfl⟩
  show W22 l Z (rm4 1 0 0 17) ((s, strO v) :: (v, fA .byte [y0, y1, y2, y3]) :: F) 0 0 21 #[.val (.ref v), .val (.int 35), .val (.int 0), .val (.int 4)] [(.int 4)] (Q_c_lix_4 s v y0 y1 y2 y3 r F)
  refine wp_istore_n #[.val (.ref v), .val (.int 35), .val (.int 0), .val (.int 4)] D_jdk_43_m22_21 rfl ?_
  refine wp_iload_n D_jdk_43_m22_22 rfl ?_
  refine wp_iload_n D_jdk_43_m22_23 rfl ?_
  refine wp_icmp_lt D_jdk_43_m22_24 (pc'' := 29) ⟨by decide, by decide⟩ (fun h2 => ?_) (fun h2 => by exact absurd h2 (by decide))
  refine wp_aload_n D_jdk_43_m22_29 rfl rfl ?_
  refine wp_iload_n D_jdk_43_m22_30 rfl ?_
  refine wp_iload_n D_jdk_43_m22_31 rfl ?_
  refine wp_iload_n D_jdk_43_m22_32 rfl ?_
  refine wp_callS hM D_jdk_43_m22_33 (gw hw 97 rfl) (gw hw 98 rfl) (gw hw 63 rfl) (gw hw 99 rfl) (by decide) pd_7 rfl rfl rfl (lb rfl) (lb rfl) (lb rfl) (lb rfl) ?_
  rintro _ _ ⟨rfl, rfl⟩
  show W22 l Z (rm4 1 0 0 17) ((s, strO v) :: (v, fA .byte [y0, y1, y2, y3]) :: F) 0 0 36 #[.val (.ref v), .val (.int 35), .val (.int 0), .val (.int 4)] [(.int r)] (Q_c_lix_4 s v y0 y1 y2 y3 r F)
  refine wp_ireturn D_jdk_43_m22_36 rfl (by decide) (by decide) ?_
  exact ⟨rfl, rfl⟩
def Q_c_six_4 (s v : Addr) (y0 y1 y2 y3 : Int32) (r : Int32) (F : OH) : Option Value → OH → Prop := fun w' H' => w' = some (.int r) ∧ H' = ((s, strO v) :: (v, fA .byte [y0, y1, y2, y3]) :: F)
set_option maxRecDepth 65536 in
set_option maxHeartbeats 40000000 in
theorem c_six_4 (l : Launch) (Z : State) (a0 : Array Value) (hw : HW Z a0) (s v : Addr) (y0 y1 y2 y3 : Int32) (r : Int32) (cp : Int32) (fm : Value) (F : OH) (hs : Std Z cp fm) (hM : Met l Z (⟨"java/lang/StringLatin1", "indexOfChar", "([BIII)I"⟩ : MethodName) jdk_43_method_23_code 6 (some .int) (rm4 0 0 0 0) [.ref v, .int 35, .int 0, .int 4] ((s, strO v) :: (v, fA .byte [y0, y1, y2, y3]) :: F) (Q_ioc_4 s v y0 y1 y2 y3 r F)) :
    Met l Z (⟨"java/lang/String", "indexOf", "(II)I"⟩ : MethodName) jdk_42_method_80_code 3 (some .int) (rm4 2 0 0 32) [(.ref s), (.int 35), (.int 0)] ((s, strO v) :: (v, fA .byte [y0, y1, y2, y3]) :: F) (Q_c_six_4 s v y0 y1 y2 y3 r F) := by
  refine Met.of_wp (Ls := #[.val (.ref s), .val (.int 35), .val (.int 0)]) pn_22 (fun m => (entry_loc m _ _).trans rfl) ?_
  show W23 l Z (rm4 2 0 0 32) ((s, strO v) :: (v, fA .byte [y0, y1, y2, y3]) :: F) 0 0 0 #[.val (.ref s), .val (.int 35), .val (.int 0)] [] (Q_c_six_4 s v y0 y1 y2 y3 r F)
  refine wp_aload_n D_jdk_42_m80_0 rfl rfl ?_
  refine wp_virtual (c_lat l Z a0 hw s v cp fm ((v, fA .byte [y0, y1, y2, y3]) :: F) hs ) (exa_new (i := 0) rfl) D_jdk_42_m80_1 (gw hw 45 rfl) (gw hw 46 rfl) (gw hw 48 rfl) (gw hw 48 rfl) (gw hw 47 rfl) (gw hw 12 rfl) (gw hw 49 rfl) (by decide) pd_4 rfl rfl rfl (lb rfl) (lb rfl) (lb rfl) (lb rfl) ?_
  rintro _ _ ⟨rfl, rfl⟩
  show W23 l Z (rm4 2 0 0 32) ((s, strO v) :: (v, fA .byte [y0, y1, y2, y3]) :: F) 0 0 4 #[.val (.ref s), .val (.int 35), .val (.int 0)] [(.int 1)] (Q_c_six_4 s v y0 y1 y2 y3 r F)
  refine wp_if_eq D_jdk_42_m80_4 (pc'' := 23) ⟨by decide, by decide⟩ (fun h1 => by exact absurd h1 (by decide)) (fun h1 => ?_)
  refine wp_aload_n D_jdk_42_m80_7 rfl rfl ?_
  refine wp_getfield D_jdk_42_m80_8 (gw hw 29 rfl) (fld_new (i := 0) (fi := 0) rfl rfl rfl) ?_
  refine wp_iload_n D_jdk_42_m80_11 rfl ?_
  refine wp_iload_n D_jdk_42_m80_12 rfl ?_
  refine wp_aload_n D_jdk_42_m80_13 rfl rfl ?_
  refine wp_virtual (c_len_4 l Z a0 hw s v y0 y1 y2 y3 cp fm F hs ) (exa_new (i := 0) rfl) D_jdk_42_m80_14 (gw hw 51 rfl) (gw hw 52 rfl) (gw hw 54 rfl) (gw hw 54 rfl) (gw hw 53 rfl) (gw hw 12 rfl) (gw hw 55 rfl) (by decide) pd_5 rfl rfl rfl (lb rfl) (lb rfl) (lb rfl) (lb rfl) ?_
  rintro _ _ ⟨rfl, rfl⟩
  show W23 l Z (rm4 2 0 0 32) ((s, strO v) :: (v, fA .byte [y0, y1, y2, y3]) :: F) 0 0 17 #[.val (.ref s), .val (.int 35), .val (.int 0)] [(.int 4), (.int 0), (.int 35), (.ref v)] (Q_c_six_4 s v y0 y1 y2 y3 r F)
  refine wp_callS (c_lix_4 l Z a0 hw s v y0 y1 y2 y3 r cp fm F hs hM) D_jdk_42_m80_17 (gw hw 61 rfl) (gw hw 62 rfl) (gw hw 63 rfl) (gw hw 64 rfl) (by decide) pd_7 rfl rfl rfl (lb rfl) (lb rfl) (lb rfl) (lb rfl) ?_
  rintro _ _ ⟨rfl, rfl⟩
  show W23 l Z (rm4 2 0 0 32) ((s, strO v) :: (v, fA .byte [y0, y1, y2, y3]) :: F) 0 0 20 #[.val (.ref s), .val (.int 35), .val (.int 0)] [(.int r)] (Q_c_six_4 s v y0 y1 y2 y3 r F)
  refine wp_goto D_jdk_42_m80_20 (pc'' := 36) ⟨by decide, by decide⟩ ?_
  refine wp_ireturn D_jdk_42_m80_36 rfl (by decide) (by decide) ?_
  exact ⟨rfl, rfl⟩
def Q_c_si_4 (s v : Addr) (y0 y1 y2 y3 : Int32) (r : Int32) (F : OH) : Option Value → OH → Prop := fun w' H' => w' = some (.int r) ∧ H' = ((s, strO v) :: (v, fA .byte [y0, y1, y2, y3]) :: F)
set_option maxRecDepth 65536 in
set_option maxHeartbeats 40000000 in
theorem c_si_4 (l : Launch) (Z : State) (a0 : Array Value) (hw : HW Z a0) (s v : Addr) (y0 y1 y2 y3 : Int32) (r : Int32) (cp : Int32) (fm : Value) (F : OH) (hs : Std Z cp fm) (hM : Met l Z (⟨"java/lang/StringLatin1", "indexOfChar", "([BIII)I"⟩ : MethodName) jdk_43_method_23_code 6 (some .int) (rm4 0 0 0 0) [.ref v, .int 35, .int 0, .int 4] ((s, strO v) :: (v, fA .byte [y0, y1, y2, y3]) :: F) (Q_ioc_4 s v y0 y1 y2 y3 r F)) :
    Met l Z (⟨"java/lang/String", "indexOf", "(I)I"⟩ : MethodName) jdk_42_method_79_code 2 (some .int) (rm4 3 0 0 46) [(.ref s), (.int 35)] ((s, strO v) :: (v, fA .byte [y0, y1, y2, y3]) :: F) (Q_c_si_4 s v y0 y1 y2 y3 r F) := by
  refine Met.of_wp (Ls := #[.val (.ref s), .val (.int 35)]) pn_23 (fun m => (entry_loc m _ _).trans rfl) ?_
  show W24 l Z (rm4 3 0 0 46) ((s, strO v) :: (v, fA .byte [y0, y1, y2, y3]) :: F) 0 0 0 #[.val (.ref s), .val (.int 35)] [] (Q_c_si_4 s v y0 y1 y2 y3 r F)
  refine wp_aload_n D_jdk_42_m79_0 rfl rfl ?_
  refine wp_iload_n D_jdk_42_m79_1 rfl ?_
  refine wp_iconst 0 D_jdk_42_m79_2 (by decide) ?_
  refine wp_virtual (c_six_4 l Z a0 hw s v y0 y1 y2 y3 r cp fm F hs hM) (exa_new (i := 0) rfl) D_jdk_42_m79_3 (gw hw 40 rfl) (gw hw 41 rfl) (gw hw 43 rfl) (gw hw 43 rfl) (gw hw 42 rfl) (gw hw 12 rfl) (gw hw 44 rfl) (by decide) pd_3 rfl rfl rfl (lb rfl) (lb rfl) (lb rfl) (lb rfl) ?_
  rintro _ _ ⟨rfl, rfl⟩
  show W24 l Z (rm4 3 0 0 46) ((s, strO v) :: (v, fA .byte [y0, y1, y2, y3]) :: F) 0 0 6 #[.val (.ref s), .val (.int 35)] [(.int r)] (Q_c_si_4 s v y0 y1 y2 y3 r F)
  refine wp_ireturn D_jdk_42_m79_6 rfl (by decide) (by decide) ?_
  exact ⟨rfl, rfl⟩
set_option maxRecDepth 65536 in
set_option maxHeartbeats 40000000 in
theorem c_ioc_4_m (l : Launch) (Z : State) (a0 : Array Value) (hw : HW Z a0) (s v : Addr) (y0 y1 y2 y3 : Int32) (F : OH) (hq0 : ¬ y0 = 35) (hq1 : ¬ y1 = 35) (hq2 : ¬ y2 = 35) (hq3 : ¬ y3 = 35) :
    Met l Z (⟨"java/lang/StringLatin1", "indexOfChar", "([BIII)I"⟩ : MethodName) jdk_43_method_23_code 6 (some .int) (rm4 0 0 0 0) [(.ref v), (.int 35), (.int 0), (.int 4)] ((s, strO v) :: (v, fA .byte [y0, y1, y2, y3]) :: F) (Q_ioc_4 s v y0 y1 y2 y3 (-1 : Int32) F) := by
  refine Met.of_wp (Ls := #[.val (.ref v), .val (.int 35), .val (.int 0), .val (.int 4), .unset, .unset]) pn_20 (fun m => (entry_loc m _ _).trans rfl) ?_
  show W26 l Z (rm4 0 0 0 0) ((s, strO v) :: (v, fA .byte [y0, y1, y2, y3]) :: F) 0 0 0 #[.val (.ref v), .val (.int 35), .val (.int 0), .val (.int 4), .unset, .unset] [] (Q_ioc_4 s v y0 y1 y2 y3 (-1 : Int32) F)
  refine wp_iload_n D_jdk_43_m23_0 rfl ?_
  refine wp_i2b D_jdk_43_m23_1 ?_
  rw [show (35 : Int32).toInt8.toInt32 = (35 : Int32) from by decide]
  refine wp_istore #[.val (.ref v), .val (.int 35), .val (.int 0), .val (.int 4), .val (.int 35), .unset] D_jdk_43_m23_2 rfl ?_
  refine wp_iload_n D_jdk_43_m23_4 rfl ?_
  refine wp_istore #[.val (.ref v), .val (.int 35), .val (.int 0), .val (.int 4), .val (.int 35), .val (.int 0)] D_jdk_43_m23_5 rfl ?_
  refine wp_iload D_jdk_43_m23_7 rfl ?_
  refine wp_iload_n D_jdk_43_m23_9 rfl ?_
  refine wp_icmp_ge D_jdk_43_m23_10 (pc'' := 31) ⟨by decide, by decide⟩ (fun h1 => by exact absurd h1 (by decide)) (fun h1 => ?_)
  refine wp_aload_n D_jdk_43_m23_13 rfl rfl ?_
  refine wp_iload D_jdk_43_m23_14 rfl ?_
  refine wp_baload (i := 1) (0) D_jdk_43_m23_16 rfl (by decide) (by decide) rfl ?_
  refine wp_iload D_jdk_43_m23_17 rfl ?_
  refine wp_icmp_ne D_jdk_43_m23_19 (pc'' := 25) ⟨by decide, by decide⟩ (fun h2 => ?_) (fun h2 => by exact absurd h2 hq0)
  refine wp_iinc 1 #[.val (.ref v), .val (.int 35), .val (.int 0), .val (.int 4), .val (.int 35), .val (.int 1)] D_jdk_43_m23_25 rfl rfl (by rw [show (0 : Int32) + (1 : Int32) = (1 : Int32) from by decide]; rfl) ?_
  refine wp_goto D_jdk_43_m23_28 (pc'' := 7) ⟨by decide, by decide⟩ ?_
  refine wp_iload D_jdk_43_m23_7 rfl ?_
  refine wp_iload_n D_jdk_43_m23_9 rfl ?_
  refine wp_icmp_ge D_jdk_43_m23_10 (pc'' := 31) ⟨by decide, by decide⟩ (fun h3 => by exact absurd h3 (by decide)) (fun h3 => ?_)
  refine wp_aload_n D_jdk_43_m23_13 rfl rfl ?_
  refine wp_iload D_jdk_43_m23_14 rfl ?_
  refine wp_baload (i := 1) (1) D_jdk_43_m23_16 rfl (by decide) (by decide) rfl ?_
  refine wp_iload D_jdk_43_m23_17 rfl ?_
  refine wp_icmp_ne D_jdk_43_m23_19 (pc'' := 25) ⟨by decide, by decide⟩ (fun h4 => ?_) (fun h4 => by exact absurd h4 hq1)
  refine wp_iinc 1 #[.val (.ref v), .val (.int 35), .val (.int 0), .val (.int 4), .val (.int 35), .val (.int 2)] D_jdk_43_m23_25 rfl rfl (by rw [show (1 : Int32) + (1 : Int32) = (2 : Int32) from by decide]; rfl) ?_
  refine wp_goto D_jdk_43_m23_28 (pc'' := 7) ⟨by decide, by decide⟩ ?_
  refine wp_iload D_jdk_43_m23_7 rfl ?_
  refine wp_iload_n D_jdk_43_m23_9 rfl ?_
  refine wp_icmp_ge D_jdk_43_m23_10 (pc'' := 31) ⟨by decide, by decide⟩ (fun h5 => by exact absurd h5 (by decide)) (fun h5 => ?_)
  refine wp_aload_n D_jdk_43_m23_13 rfl rfl ?_
  refine wp_iload D_jdk_43_m23_14 rfl ?_
  refine wp_baload (i := 1) (2) D_jdk_43_m23_16 rfl (by decide) (by decide) rfl ?_
  refine wp_iload D_jdk_43_m23_17 rfl ?_
  refine wp_icmp_ne D_jdk_43_m23_19 (pc'' := 25) ⟨by decide, by decide⟩ (fun h6 => ?_) (fun h6 => by exact absurd h6 hq2)
  refine wp_iinc 1 #[.val (.ref v), .val (.int 35), .val (.int 0), .val (.int 4), .val (.int 35), .val (.int 3)] D_jdk_43_m23_25 rfl rfl (by rw [show (2 : Int32) + (1 : Int32) = (3 : Int32) from by decide]; rfl) ?_
  refine wp_goto D_jdk_43_m23_28 (pc'' := 7) ⟨by decide, by decide⟩ ?_
  refine wp_iload D_jdk_43_m23_7 rfl ?_
  refine wp_iload_n D_jdk_43_m23_9 rfl ?_
  refine wp_icmp_ge D_jdk_43_m23_10 (pc'' := 31) ⟨by decide, by decide⟩ (fun h7 => by exact absurd h7 (by decide)) (fun h7 => ?_)
  refine wp_aload_n D_jdk_43_m23_13 rfl rfl ?_
  refine wp_iload D_jdk_43_m23_14 rfl ?_
  refine wp_baload (i := 1) (3) D_jdk_43_m23_16 rfl (by decide) (by decide) rfl ?_
  refine wp_iload D_jdk_43_m23_17 rfl ?_
  refine wp_icmp_ne D_jdk_43_m23_19 (pc'' := 25) ⟨by decide, by decide⟩ (fun h8 => ?_) (fun h8 => by exact absurd h8 hq3)
  refine wp_iinc 1 #[.val (.ref v), .val (.int 35), .val (.int 0), .val (.int 4), .val (.int 35), .val (.int 4)] D_jdk_43_m23_25 rfl rfl (by rw [show (3 : Int32) + (1 : Int32) = (4 : Int32) from by decide]; rfl) ?_
  refine wp_goto D_jdk_43_m23_28 (pc'' := 7) ⟨by decide, by decide⟩ ?_
  refine wp_iload D_jdk_43_m23_7 rfl ?_
  refine wp_iload_n D_jdk_43_m23_9 rfl ?_
  refine wp_icmp_ge D_jdk_43_m23_10 (pc'' := 31) ⟨by decide, by decide⟩ (fun h9 => ?_) (fun h9 => by exact absurd h9 (by decide))
  refine wp_iconst (-1) D_jdk_43_m23_31 (by decide) ?_
  refine wp_ireturn D_jdk_43_m23_32 rfl (by decide) (by decide) ?_
  exact ⟨rfl, rfl⟩
def Q_c_fr_4_m (s v : Addr) (y0 y1 y2 y3 : Int32) (aE : Addr) (F : OH) : Option Value → OH → Prop := fun w' H' => w' = some (.ref aE) ∧ H' = ((s, strO v) :: (v, fA .byte [y0, y1, y2, y3]) :: F)
set_option maxRecDepth 65536 in
set_option maxHeartbeats 40000000 in
theorem c_fr_4_m (l : Launch) (Z : State) (a0 : Array Value) (hw : HW Z a0) (s v : Addr) (y0 y1 y2 y3 : Int32) (aE : Addr) (cp : Int32) (fm : Value) (F : OH) (hs : Std Z cp fm) (S_E : Sta Z Z.heap "java/util/Optional" "EMPTY" "Ljava/util/Optional;" (.ref aE)) (hq0 : ¬ y0 = 35) (hq1 : ¬ y1 = 35) (hq2 : ¬ y2 = 35) (hq3 : ¬ y3 = 35) :
    Met l Z (⟨"com/example/bylint/bylint/description/UriReferences", "fragment", "(Ljava/lang/String;)Ljava/util/Optional;"⟩ : MethodName) prog_9_method_6_code 2 (some (.object "java/util/Optional")) (rm4 4 0 0 59) [(.ref s)] ((s, strO v) :: (v, fA .byte [y0, y1, y2, y3]) :: F) (Q_c_fr_4_m s v y0 y1 y2 y3 aE F) := by
  refine Met.of_wp (Ls := #[.val (.ref s), .unset]) pn_24 (fun m => (entry_loc m _ _).trans rfl) ?_
  show W25 l Z (rm4 4 0 0 59) ((s, strO v) :: (v, fA .byte [y0, y1, y2, y3]) :: F) 0 0 0 #[.val (.ref s), .unset] [] (Q_c_fr_4_m s v y0 y1 y2 y3 aE F)
  refine wp_aload_n D_prog_9_m6_0 rfl rfl ?_
  refine wp_bipush 35 D_prog_9_m6_1 (by decide) ?_
  refine wp_virtual (c_si_4 l Z a0 hw s v y0 y1 y2 y3 (-1 : Int32) cp fm F hs (c_ioc_4_m l Z a0 hw s v y0 y1 y2 y3 F hq0 hq1 hq2 hq3)) (exa_new (i := 0) rfl) D_prog_9_m6_3 (gw hw 35 rfl) (gw hw 36 rfl) (gw hw 38 rfl) (gw hw 38 rfl) (gw hw 37 rfl) (gw hw 12 rfl) (gw hw 39 rfl) (by decide) pd_20 rfl rfl rfl (lb rfl) (lb rfl) (lb rfl) (lb rfl) ?_
  rintro _ _ ⟨rfl, rfl⟩
  show W25 l Z (rm4 4 0 0 59) ((s, strO v) :: (v, fA .byte [y0, y1, y2, y3]) :: F) 0 0 6 #[.val (.ref s), .unset] [(.int (-1))] (Q_c_fr_4_m s v y0 y1 y2 y3 aE F)
  refine wp_istore_n #[.val (.ref s), .val (.int (-1))] D_prog_9_m6_6 rfl ?_
  refine wp_iload_n D_prog_9_m6_7 rfl ?_
  refine wp_if_ge D_prog_9_m6_8 (pc'' := 17) ⟨by decide, by decide⟩ (fun h1 => by exact absurd h1 (by decide)) (fun h1 => ?_)
  refine wp_callS (c_emp l Z a0 hw aE ((s, strO v) :: (v, fA .byte [y0, y1, y2, y3]) :: F) S_E) D_prog_9_m6_11 (gw hw 75 rfl) (gw hw 76 rfl) (gw hw 77 rfl) (gw hw 78 rfl) (by decide) pd_21 rfl rfl rfl (lb rfl) (lb rfl) (lb rfl) (lb rfl) ?_
  rintro _ _ ⟨rfl, rfl⟩
  show W25 l Z (rm4 4 0 0 59) ((s, strO v) :: (v, fA .byte [y0, y1, y2, y3]) :: F) 0 0 14 #[.val (.ref s), .val (.int (-1))] [(.ref aE)] (Q_c_fr_4_m s v y0 y1 y2 y3 aE F)
  refine wp_goto D_prog_9_m6_14 (pc'' := 27) ⟨by decide, by decide⟩ ?_
  refine wp_areturn D_prog_9_m6_27 rfl rfl rfl rfl (by decide) (by decide) ?_
  exact ⟨rfl, rfl⟩
set_option maxRecDepth 65536 in
set_option maxHeartbeats 40000000 in
theorem c_ioc_4_0 (l : Launch) (Z : State) (a0 : Array Value) (hw : HW Z a0) (s v : Addr) (y0 y1 y2 y3 : Int32) (F : OH) (hq0 : y0 = 35) :
    Met l Z (⟨"java/lang/StringLatin1", "indexOfChar", "([BIII)I"⟩ : MethodName) jdk_43_method_23_code 6 (some .int) (rm4 0 0 0 0) [(.ref v), (.int 35), (.int 0), (.int 4)] ((s, strO v) :: (v, fA .byte [y0, y1, y2, y3]) :: F) (Q_ioc_4 s v y0 y1 y2 y3 (0 : Int32) F) := by
  refine Met.of_wp (Ls := #[.val (.ref v), .val (.int 35), .val (.int 0), .val (.int 4), .unset, .unset]) pn_20 (fun m => (entry_loc m _ _).trans rfl) ?_
  show W26 l Z (rm4 0 0 0 0) ((s, strO v) :: (v, fA .byte [y0, y1, y2, y3]) :: F) 0 0 0 #[.val (.ref v), .val (.int 35), .val (.int 0), .val (.int 4), .unset, .unset] [] (Q_ioc_4 s v y0 y1 y2 y3 (0 : Int32) F)
  refine wp_iload_n D_jdk_43_m23_0 rfl ?_
  refine wp_i2b D_jdk_43_m23_1 ?_
  rw [show (35 : Int32).toInt8.toInt32 = (35 : Int32) from by decide]
  refine wp_istore #[.val (.ref v), .val (.int 35), .val (.int 0), .val (.int 4), .val (.int 35), .unset] D_jdk_43_m23_2 rfl ?_
  refine wp_iload_n D_jdk_43_m23_4 rfl ?_
  refine wp_istore #[.val (.ref v), .val (.int 35), .val (.int 0), .val (.int 4), .val (.int 35), .val (.int 0)] D_jdk_43_m23_5 rfl ?_
  refine wp_iload D_jdk_43_m23_7 rfl ?_
  refine wp_iload_n D_jdk_43_m23_9 rfl ?_
  refine wp_icmp_ge D_jdk_43_m23_10 (pc'' := 31) ⟨by decide, by decide⟩ (fun h1 => by exact absurd h1 (by decide)) (fun h1 => ?_)
  refine wp_aload_n D_jdk_43_m23_13 rfl rfl ?_
  refine wp_iload D_jdk_43_m23_14 rfl ?_
  refine wp_baload (i := 1) (0) D_jdk_43_m23_16 rfl (by decide) (by decide) rfl ?_
  refine wp_iload D_jdk_43_m23_17 rfl ?_
  refine wp_icmp_ne D_jdk_43_m23_19 (pc'' := 25) ⟨by decide, by decide⟩ (fun h2 => by exact absurd hq0 h2) (fun h2 => ?_)
  refine wp_iload D_jdk_43_m23_22 rfl ?_
  refine wp_ireturn D_jdk_43_m23_24 rfl (by decide) (by decide) ?_
  exact ⟨rfl, rfl⟩
def Q_c_crb_4_1_4 (a s v : Addr) (y0 y1 y2 y3 : Int32) (F : OH) : Option Value → OH → Prop := fun w' H' => ∃ b', w' = some (.ref b') ∧ H' = ((b', oA .byte [y1, y2, y3]) :: (a, oS (.null)) :: (s, strO v) :: (v, fA .byte [y0, y1, y2, y3]) :: F)
set_option maxRecDepth 65536 in
set_option maxHeartbeats 40000000 in
theorem c_crb_4_1_4 (l : Launch) (Z : State) (a0 : Array Value) (hw : HW Z a0) (a s v : Addr) (y0 y1 y2 y3 : Int32) (cp : Int32) (fm : Value) (F : OH) (hs : Std Z cp fm) :
    Met l Z (⟨"java/util/Arrays", "copyOfRangeByte", "([BII)[B"⟩ : MethodName) jdk_65_method_133_code 5 (some (.array .byte)) (rm4 1 1 3 20) [(.ref v), (.int 1), (.int 4)] ((a, oS (.null)) :: (s, strO v) :: (v, fA .byte [y0, y1, y2, y3]) :: F) (Q_c_crb_4_1_4 a s v y0 y1 y2 y3 F) := by
  refine Met.of_wp (Ls := #[.val (.ref v), .val (.int 1), .val (.int 4), .unset, .unset]) pn_31 (fun m => (entry_loc m _ _).trans rfl) ?_
  show W34 l Z (rm4 1 1 3 20) ((a, oS (.null)) :: (s, strO v) :: (v, fA .byte [y0, y1, y2, y3]) :: F) 0 0 0 #[.val (.ref v), .val (.int 1), .val (.int 4), .unset, .unset] [] (Q_c_crb_4_1_4 a s v y0 y1 y2 y3 F)
  refine wp_iload_n D_jdk_65_m133_0 rfl ?_
  refine wp_iload_n D_jdk_65_m133_1 rfl ?_
  refine wp_callS (c_ckl l Z a0 hw 1 4 ((a, oS (.null)) :: (s, strO v) :: (v, fA .byte [y0, y1, y2, y3]) :: F) (by decide)) D_jdk_65_m133_2 (gw hw 129 rfl) (gw hw 130 rfl) (gw hw 124 rfl) (gw hw 131 rfl) (by decide) pd_24 rfl rfl rfl (lb rfl) (lb rfl) (lb rfl) (lb rfl) ?_
  rintro _ _ ⟨rfl, rfl⟩
  show W34 l Z (rm4 1 1 3 20) ((a, oS (.null)) :: (s, strO v) :: (v, fA .byte [y0, y1, y2, y3]) :: F) 0 0 5 #[.val (.ref v), .val (.int 1), .val (.int 4), .unset, .unset] [] (Q_c_crb_4_1_4 a s v y0 y1 y2 y3 F)
  refine wp_iload_n D_jdk_65_m133_5 rfl ?_
  refine wp_iload_n D_jdk_65_m133_6 rfl ?_
  refine wp_isub D_jdk_65_m133_7 ?_
  rw [show ((4 : Int32) - (1 : Int32)) = (3 : Int32) from by decide]
  refine wp_istore_n #[.val (.ref v), .val (.int 1), .val (.int 4), .val (.int 3), .unset] D_jdk_65_m133_8 rfl ?_
  refine wp_iload_n D_jdk_65_m133_9 rfl ?_
  refine wp_newarrayI (n := (3 : Int32)) (3) 3 D_jdk_65_m133_10 rfl rfl rfl (gw hw 24 rfl) (by decide) (by decide) (by decide) (by decide) (by decide) (by decide) ?_
  intro a1
  show W34 l Z (rm4 1 1 3 20) ((a1, oA .byte [(0 : Int32), (0 : Int32), (0 : Int32)]) :: (a, oS (.null)) :: (s, strO v) :: (v, fA .byte [y0, y1, y2, y3]) :: F) 1 3 12 #[.val (.ref v), .val (.int 1), .val (.int 4), .val (.int 3), .unset] [(.ref a1)] (Q_c_crb_4_1_4 a s v y0 y1 y2 y3 F)
  refine wp_astore #[.val (.ref v), .val (.int 1), .val (.int 4), .val (.int 3), .val (.ref a1)] D_jdk_65_m133_12 rfl rfl ?_
  refine wp_aload_n D_jdk_65_m133_14 rfl rfl ?_
  refine wp_iload_n D_jdk_65_m133_15 rfl ?_
  refine wp_aload D_jdk_65_m133_16 rfl rfl ?_
  refine wp_iconst 0 D_jdk_65_m133_18 (by decide) ?_
  refine wp_aload_n D_jdk_65_m133_19 rfl rfl ?_
  refine wp_lengthI (i := 3) (4 : Int32) D_jdk_65_m133_20 rfl rfl ?_
  refine wp_iload_n D_jdk_65_m133_21 rfl ?_
  refine wp_isub D_jdk_65_m133_22 ?_
  rw [show ((4 : Int32) - (1 : Int32)) = (3 : Int32) from by decide]
  refine wp_iload_n D_jdk_65_m133_23 rfl ?_
  refine wp_callS (c_min_3_3 l Z a0 hw  ((a1, oA .byte [(0 : Int32), (0 : Int32), (0 : Int32)]) :: (a, oS (.null)) :: (s, strO v) :: (v, fA .byte [y0, y1, y2, y3]) :: F) ) D_jdk_65_m133_24 (gw hw 132 rfl) (gw hw 73 rfl) (gw hw 70 rfl) (gw hw 74 rfl) (by decide) pd_3 rfl rfl rfl (lb rfl) (lb rfl) (lb rfl) (lb rfl) ?_
  rintro _ _ ⟨rfl, rfl⟩
  show W34 l Z (rm4 1 1 3 20) ((a1, oA .byte [(0 : Int32), (0 : Int32), (0 : Int32)]) :: (a, oS (.null)) :: (s, strO v) :: (v, fA .byte [y0, y1, y2, y3]) :: F) 1 3 27 #[.val (.ref v), .val (.int 1), .val (.int 4), .val (.int 3), .val (.ref a1)] [(.int 3), (.int 0), (.ref a1), (.int 1), (.ref v)] (Q_c_crb_4_1_4 a s v y0 y1 y2 y3 F)
  refine wp_arraycopyI (i := 3) (i' := 0) 1 0 3 D_jdk_65_m133_27 (gw hw 133 rfl) (gw hw 136 rfl) (gw hw 134 rfl) (gw hw 135 rfl) rfl rfl rfl (by decide) (by decide) (by decide) (by decide) (by decide) (by decide) (by first | exact Nat.le_of_ble_eq_true rfl | simp) (by first | exact Nat.le_of_ble_eq_true rfl | simp) (by first | exact Nat.le_of_ble_eq_true rfl | simp) (by first | exact Nat.le_of_ble_eq_true rfl | simp) rfl (by decide) (by decide) ?_
  show W34 l Z (rm4 1 1 3 20) ((a1, oA .byte [y1, y2, y3]) :: (a, oS (.null)) :: (s, strO v) :: (v, fA .byte [y0, y1, y2, y3]) :: F) 1 3 30 #[.val (.ref v), .val (.int 1), .val (.int 4), .val (.int 3), .val (.ref a1)] [] (Q_c_crb_4_1_4 a s v y0 y1 y2 y3 F)
  refine wp_aload D_jdk_65_m133_30 rfl rfl ?_
  refine wp_areturn D_jdk_65_m133_32 rfl rfl rfl rfl (by decide) (by decide) ?_
  exact ⟨_, rfl, rfl⟩
def Q_c_cor_4_1_4 (a s v : Addr) (y0 y1 y2 y3 : Int32) (F : OH) : Option Value → OH → Prop := fun w' H' => ∃ b', w' = some (.ref b') ∧ H' = ((b', oA .byte [y1, y2, y3]) :: (a, oS (.null)) :: (s, strO v) :: (v, fA .byte [y0, y1, y2, y3]) :: F)
set_option maxRecDepth 65536 in
set_option maxHeartbeats 40000000 in
theorem c_cor_4_1_4 (l : Launch) (Z : State) (a0 : Array Value) (hw : HW Z a0) (a s v : Addr) (y0 y1 y2 y3 : Int32) (cp : Int32) (fm : Value) (F : OH) (hs : Std Z cp fm) :
    Met l Z (⟨"java/util/Arrays", "copyOfRange", "([BII)[B"⟩ : MethodName) jdk_65_method_132_code 3 (some (.array .byte)) (rm4 2 1 3 36) [(.ref v), (.int 1), (.int 4)] ((a, oS (.null)) :: (s, strO v) :: (v, fA .byte [y0, y1, y2, y3]) :: F) (Q_c_cor_4_1_4 a s v y0 y1 y2 y3 F) := by
  refine Met.of_wp (Ls := #[.val (.ref v), .val (.int 1), .val (.int 4)]) pn_32 (fun m => (entry_loc m _ _).trans rfl) ?_
  show W35 l Z (rm4 2 1 3 36) ((a, oS (.null)) :: (s, strO v) :: (v, fA .byte [y0, y1, y2, y3]) :: F) 0 0 0 #[.val (.ref v), .val (.int 1), .val (.int 4)] [] (Q_c_cor_4_1_4 a s v y0 y1 y2 y3 F)
  refine wp_iload_n D_jdk_65_m132_0 rfl ?_
  refine wp_if_ne D_jdk_65_m132_1 (pc'' := 10) ⟨by decide, by decide⟩ (fun h1 => ?_) (fun h1 => by exact absurd h1 (by decide))
  refine wp_aload_n D_jdk_65_m132_10 rfl rfl ?_
  refine wp_iload_n D_jdk_65_m132_11 rfl ?_
  refine wp_iload_n D_jdk_65_m132_12 rfl ?_
  refine wp_callS (c_crb_4_1_4 l Z a0 hw a s v y0 y1 y2 y3 cp fm F hs ) D_jdk_65_m132_13 (gw hw 126 rfl) (gw hw 127 rfl) (gw hw 124 rfl) (gw hw 128 rfl) (by decide) pd_16 rfl rfl rfl (lb rfl) (lb rfl) (lb rfl) (lb rfl) ?_
  rintro _ _ ⟨b2, rfl, rfl⟩
  show W35 l Z (rm4 2 1 3 36) ((b2, oA .byte [y1, y2, y3]) :: (a, oS (.null)) :: (s, strO v) :: (v, fA .byte [y0, y1, y2, y3]) :: F) 1 3 16 #[.val (.ref v), .val (.int 1), .val (.int 4)] [(.ref b2)] (Q_c_cor_4_1_4 a s v y0 y1 y2 y3 F)
  refine wp_areturn D_jdk_65_m132_16 rfl rfl rfl rfl (by decide) (by decide) ?_
  exact ⟨_, rfl, rfl⟩
def Q_c_nst_4_1_4 (s v : Addr) (y0 y1 y2 y3 : Int32) (F : OH) : Option Value → OH → Prop := fun w' H' => ∃ a u, w' = some (.ref a) ∧ H' = ((u, fA .byte [y1, y2, y3]) :: (a, strO u) :: (s, strO v) :: (v, fA .byte [y0, y1, y2, y3]) :: F)
set_option maxRecDepth 65536 in
set_option maxHeartbeats 40000000 in
theorem c_nst_4_1_4 (l : Launch) (Z : State) (a0 : Array Value) (hw : HW Z a0) (s v : Addr) (y0 y1 y2 y3 : Int32) (cp : Int32) (fm : Value) (F : OH) (hs : Std Z cp fm) :
    Met l Z (⟨"java/lang/StringLatin1", "newString", "([BII)Ljava/lang/String;"⟩ : MethodName) jdk_43_method_47_code 3 (some (.object "java/lang/String")) (rm4 3 2 7 52) [(.ref v), (.int 1), (.int 3)] ((s, strO v) :: (v, fA .byte [y0, y1, y2, y3]) :: F) (Q_c_nst_4_1_4 s v y0 y1 y2 y3 F) := by
  refine Met.of_wp (Ls := #[.val (.ref v), .val (.int 1), .val (.int 3)]) pn_27 (fun m => (entry_loc m _ _).trans rfl) ?_
  show W37 l Z (rm4 3 2 7 52) ((s, strO v) :: (v, fA .byte [y0, y1, y2, y3]) :: F) 0 0 0 #[.val (.ref v), .val (.int 1), .val (.int 3)] [] (Q_c_nst_4_1_4 s v y0 y1 y2 y3 F)
  refine wp_iload_n D_jdk_43_m47_0 rfl ?_
  refine wp_if_ne D_jdk_43_m47_1 (pc'' := 7) ⟨by decide, by decide⟩ (fun h1 => ?_) (fun h1 => by exact absurd h1 (by decide))
  refine wp_new sgStr [(.null), (.int 0)] D_jdk_43_m47_7 (gw hw 121 rfl) (gw hw 11 rfl) (gw hw 12 rfl) (laid_sgStr l Z a0 hw) (by decide) dfl_sgStr (by decide) (by decide) ?_
  intro a2
  show W37 l Z (rm4 3 2 7 52) ((a2, oS (.null)) :: (s, strO v) :: (v, fA .byte [y0, y1, y2, y3]) :: F) 1 4 10 #[.val (.ref v), .val (.int 1), .val (.int 3)] [(.ref a2)] (Q_c_nst_4_1_4 s v y0 y1 y2 y3 F)
  refine wp_dup D_jdk_43_m47_10 rfl ?_
  refine wp_aload_n D_jdk_43_m47_11 rfl rfl ?_
  refine wp_iload_n D_jdk_43_m47_12 rfl ?_
  refine wp_iload_n D_jdk_43_m47_13 rfl ?_
  refine wp_iload_n D_jdk_43_m47_14 rfl ?_
  refine wp_iadd D_jdk_43_m47_15 ?_
  rw [show ((1 : Int32) + (3 : Int32)) = (4 : Int32) from by decide]
  refine wp_callS (c_cor_4_1_4 l Z a0 hw a2 s v y0 y1 y2 y3 cp fm F hs ) D_jdk_43_m47_16 (gw hw 122 rfl) (gw hw 123 rfl) (gw hw 124 rfl) (gw hw 125 rfl) (by decide) pd_16 rfl rfl rfl (lb rfl) (lb rfl) (lb rfl) (lb rfl) ?_
  rintro _ _ ⟨b3, rfl, rfl⟩
  show W37 l Z (rm4 3 2 7 52) ((b3, oA .byte [y1, y2, y3]) :: (a2, oS (.null)) :: (s, strO v) :: (v, fA .byte [y0, y1, y2, y3]) :: F) 2 7 19 #[.val (.ref v), .val (.int 1), .val (.int 3)] [(.ref b3), (.ref a2), (.ref a2)] (Q_c_nst_4_1_4 s v y0 y1 y2 y3 F)
  refine wp_iconst 0 D_jdk_43_m47_19 (by decide) ?_
  refine wp_init (c_sbb l Z a0 hw b3 a2 [y1, y2, y3] ((s, strO v) :: (v, fA .byte [y0, y1, y2, y3]) :: F) ) D_jdk_43_m47_20 rfl (gw hw 137 rfl) (gw hw 138 rfl) (gw hw 12 rfl) (gw hw 139 rfl) (by decide) pd_17 rfl rfl rfl (lb rfl) (lb rfl) (lb rfl) (lb rfl) ?_
  rintro _ _ ⟨rfl, rfl⟩
  show W37 l Z (rm4 3 2 7 52) ((b3, oA .byte [y1, y2, y3]) :: (a2, oS (.ref b3)) :: (s, strO v) :: (v, fA .byte [y0, y1, y2, y3]) :: F) 2 7 23 #[.val (.ref v), .val (.int 1), .val (.int 3)] [(.ref a2)] (Q_c_nst_4_1_4 s v y0 y1 y2 y3 F)
  refine Wp.frz (i := 0) rfl ?_
  refine Wp.frz (i := 1) rfl ?_
  show W37 l Z (rm4 3 2 7 52) ((b3, fA .byte [y1, y2, y3]) :: (a2, strO b3) :: (s, strO v) :: (v, fA .byte [y0, y1, y2, y3]) :: F) 2 7 23 #[.val (.ref v), .val (.int 1), .val (.int 3)] [(.ref a2)] (Q_c_nst_4_1_4 s v y0 y1 y2 y3 F)
  refine wp_areturn D_jdk_43_m47_23 rfl rfl rfl rfl (by decide) (by decide) ?_
  exact ⟨_, _, rfl, rfl⟩
def Q_c_sub_4_1_4 (s v : Addr) (y0 y1 y2 y3 : Int32) (F : OH) : Option Value → OH → Prop := fun w' H' => ∃ a u, w' = some (.ref a) ∧ H' = ((u, fA .byte [y1, y2, y3]) :: (a, strO u) :: (s, strO v) :: (v, fA .byte [y0, y1, y2, y3]) :: F)
set_option maxRecDepth 65536 in
set_option maxHeartbeats 40000000 in
theorem c_sub_4_1_4 (l : Launch) (Z : State) (a0 : Array Value) (hw : HW Z a0) (s v : Addr) (y0 y1 y2 y3 : Int32) (cp : Int32) (fm : Value) (F : OH) (hs : Std Z cp fm) :
    Met l Z (⟨"java/lang/String", "substring", "(II)Ljava/lang/String;"⟩ : MethodName) jdk_42_method_92_code 5 (some (.object "java/lang/String")) (rm4 4 2 7 66) [(.ref s), (.int 1), (.int 4)] ((s, strO v) :: (v, fA .byte [y0, y1, y2, y3]) :: F) (Q_c_sub_4_1_4 s v y0 y1 y2 y3 F) := by
  refine Met.of_wp (Ls := #[.val (.ref s), .val (.int 1), .val (.int 4), .unset, .unset]) pn_28 (fun m => (entry_loc m _ _).trans rfl) ?_
  show W38 l Z (rm4 4 2 7 66) ((s, strO v) :: (v, fA .byte [y0, y1, y2, y3]) :: F) 0 0 0 #[.val (.ref s), .val (.int 1), .val (.int 4), .unset, .unset] [] (Q_c_sub_4_1_4 s v y0 y1 y2 y3 F)
  refine wp_aload_n D_jdk_42_m92_0 rfl rfl ?_
  refine wp_virtual (c_len_4 l Z a0 hw s v y0 y1 y2 y3 cp fm F hs ) (exa_new (i := 0) rfl) D_jdk_42_m92_1 (gw hw 51 rfl) (gw hw 52 rfl) (gw hw 54 rfl) (gw hw 54 rfl) (gw hw 53 rfl) (gw hw 12 rfl) (gw hw 55 rfl) (by decide) pd_5 rfl rfl rfl (lb rfl) (lb rfl) (lb rfl) (lb rfl) ?_
  rintro _ _ ⟨rfl, rfl⟩
  show W38 l Z (rm4 4 2 7 66) ((s, strO v) :: (v, fA .byte [y0, y1, y2, y3]) :: F) 0 0 4 #[.val (.ref s), .val (.int 1), .val (.int 4), .unset, .unset] [(.int 4)] (Q_c_sub_4_1_4 s v y0 y1 y2 y3 F)
  refine wp_istore_n #[.val (.ref s), .val (.int 1), .val (.int 4), .val (.int 4), .unset] D_jdk_42_m92_4 rfl ?_
  refine wp_iload_n D_jdk_42_m92_5 rfl ?_
  refine wp_iload_n D_jdk_42_m92_6 rfl ?_
  refine wp_iload_n D_jdk_42_m92_7 rfl ?_
  refine wp_callS (c_cbe l Z a0 hw 1 4 4 cp fm ((s, strO v) :: (v, fA .byte [y0, y1, y2, y3]) :: F) hs (by decide) (by decide) (by decide)) D_jdk_42_m92_8 (gw hw 110 rfl) (gw hw 111 rfl) (gw hw 12 rfl) (gw hw 112 rfl) (by decide) pd_11 rfl rfl rfl (lb rfl) (lb rfl) (lb rfl) (lb rfl) ?_
  rintro _ _ ⟨rfl, rfl⟩
  show W38 l Z (rm4 4 2 7 66) ((s, strO v) :: (v, fA .byte [y0, y1, y2, y3]) :: F) 0 0 11 #[.val (.ref s), .val (.int 1), .val (.int 4), .val (.int 4), .unset] [] (Q_c_sub_4_1_4 s v y0 y1 y2 y3 F)
  refine wp_iload_n D_jdk_42_m92_11 rfl ?_
  refine wp_if_ne D_jdk_42_m92_12 (pc'' := 22) ⟨by decide, by decide⟩ (fun h1 => ?_) (fun h1 => by exact absurd h1 (by decide))
  refine wp_iload_n D_jdk_42_m92_22 rfl ?_
  refine wp_iload_n D_jdk_42_m92_23 rfl ?_
  refine wp_isub D_jdk_42_m92_24 ?_
  rw [show ((4 : Int32) - (1 : Int32)) = (3 : Int32) from by decide]
  refine wp_istore #[.val (.ref s), .val (.int 1), .val (.int 4), .val (.int 4), .val (.int 3)] D_jdk_42_m92_25 rfl ?_
  refine wp_aload_n D_jdk_42_m92_27 rfl rfl ?_
  refine wp_virtual (c_lat l Z a0 hw s v cp fm ((v, fA .byte [y0, y1, y2, y3]) :: F) hs ) (exa_new (i := 0) rfl) D_jdk_42_m92_28 (gw hw 45 rfl) (gw hw 46 rfl) (gw hw 48 rfl) (gw hw 48 rfl) (gw hw 47 rfl) (gw hw 12 rfl) (gw hw 49 rfl) (by decide) pd_4 rfl rfl rfl (lb rfl) (lb rfl) (lb rfl) (lb rfl) ?_
  rintro _ _ ⟨rfl, rfl⟩
  show W38 l Z (rm4 4 2 7 66) ((s, strO v) :: (v, fA .byte [y0, y1, y2, y3]) :: F) 0 0 31 #[.val (.ref s), .val (.int 1), .val (.int 4), .val (.int 4), .val (.int 3)] [(.int 1)] (Q_c_sub_4_1_4 s v y0 y1 y2 y3 F)
  refine wp_if_eq D_jdk_42_m92_31 (pc'' := 47) ⟨by decide, by decide⟩ (fun h2 => by exact absurd h2 (by decide)) (fun h2 => ?_)
  refine wp_aload_n D_jdk_42_m92_34 rfl rfl ?_
  refine wp_getfield D_jdk_42_m92_35 (gw hw 29 rfl) (fld_new (i := 0) (fi := 0) rfl rfl rfl) ?_
  refine wp_iload_n D_jdk_42_m92_38 rfl ?_
  refine wp_iload D_jdk_42_m92_39 rfl ?_
  refine wp_callS (c_nst_4_1_4 l Z a0 hw s v y0 y1 y2 y3 cp fm F hs ) D_jdk_42_m92_41 (gw hw 118 rfl) (gw hw 119 rfl) (gw hw 63 rfl) (gw hw 120 rfl) (by decide) pd_13 rfl rfl rfl (lb rfl) (lb rfl) (lb rfl) (lb rfl) ?_
  rintro _ _ ⟨sa3, su4, rfl, rfl⟩
  show W38 l Z (rm4 4 2 7 66) ((su4, fA .byte [y1, y2, y3]) :: (sa3, strO su4) :: (s, strO v) :: (v, fA .byte [y0, y1, y2, y3]) :: F) 2 7 44 #[.val (.ref s), .val (.int 1), .val (.int 4), .val (.int 4), .val (.int 3)] [(.ref sa3)] (Q_c_sub_4_1_4 s v y0 y1 y2 y3 F)
  refine wp_goto D_jdk_42_m92_44 (pc'' := 57) ⟨by decide, by decide⟩ ?_
  refine wp_areturn D_jdk_42_m92_57 rfl rfl rfl rfl (by decide) (by decide) ?_
  exact ⟨_, _, rfl, rfl⟩
def Q_c_sb1_4_1_4 (s v : Addr) (y0 y1 y2 y3 : Int32) (F : OH) : Option Value → OH → Prop := fun w' H' => ∃ a u, w' = some (.ref a) ∧ H' = ((u, fA .byte [y1, y2, y3]) :: (a, strO u) :: (s, strO v) :: (v, fA .byte [y0, y1, y2, y3]) :: F)
set_option maxRecDepth 65536 in
set_option maxHeartbeats 40000000 in
theorem c_sb1_4_1_4 (l : Launch) (Z : State) (a0 : Array Value) (hw : HW Z a0) (s v : Addr) (y0 y1 y2 y3 : Int32) (cp : Int32) (fm : Value) (F : OH) (hs : Std Z cp fm) :
    Met l Z (⟨"java/lang/String", "substring", "(I)Ljava/lang/String;"⟩ : MethodName) jdk_42_method_91_code 2 (some (.object "java/lang/String")) (rm4 5 2 7 82) [(.ref s), (.int 1)] ((s, strO v) :: (v, fA .byte [y0, y1, y2, y3]) :: F) (Q_c_sb1_4_1_4 s v y0 y1 y2 y3 F) := by
  refine Met.of_wp (Ls := #[.val (.ref s), .val (.int 1)]) pn_29 (fun m => (entry_loc m _ _).trans rfl) ?_
  show W39 l Z (rm4 5 2 7 82) ((s, strO v) :: (v, fA .byte [y0, y1, y2, y3]) :: F) 0 0 0 #[.val (.ref s), .val (.int 1)] [] (Q_c_sb1_4_1_4 s v y0 y1 y2 y3 F)
  refine wp_aload_n D_jdk_42_m91_0 rfl rfl ?_
  refine wp_iload_n D_jdk_42_m91_1 rfl ?_
  refine wp_aload_n D_jdk_42_m91_2 rfl rfl ?_
  refine wp_virtual (c_len_4 l Z a0 hw s v y0 y1 y2 y3 cp fm F hs ) (exa_new (i := 0) rfl) D_jdk_42_m91_3 (gw hw 51 rfl) (gw hw 52 rfl) (gw hw 54 rfl) (gw hw 54 rfl) (gw hw 53 rfl) (gw hw 12 rfl) (gw hw 55 rfl) (by decide) pd_5 rfl rfl rfl (lb rfl) (lb rfl) (lb rfl) (lb rfl) ?_
  rintro _ _ ⟨rfl, rfl⟩
  show W39 l Z (rm4 5 2 7 82) ((s, strO v) :: (v, fA .byte [y0, y1, y2, y3]) :: F) 0 0 6 #[.val (.ref s), .val (.int 1)] [(.int 4), (.int 1), (.ref s)] (Q_c_sb1_4_1_4 s v y0 y1 y2 y3 F)
  refine wp_virtual (c_sub_4_1_4 l Z a0 hw s v y0 y1 y2 y3 cp fm F hs ) (exa_new (i := 0) rfl) D_jdk_42_m91_6 (gw hw 105 rfl) (gw hw 106 rfl) (gw hw 108 rfl) (gw hw 108 rfl) (gw hw 107 rfl) (gw hw 12 rfl) (gw hw 109 rfl) (by decide) pd_10 rfl rfl rfl (lb rfl) (lb rfl) (lb rfl) (lb rfl) ?_
  rintro _ _ ⟨sa1, su2, rfl, rfl⟩
  show W39 l Z (rm4 5 2 7 82) ((su2, fA .byte [y1, y2, y3]) :: (sa1, strO su2) :: (s, strO v) :: (v, fA .byte [y0, y1, y2, y3]) :: F) 2 7 9 #[.val (.ref s), .val (.int 1)] [(.ref sa1)] (Q_c_sb1_4_1_4 s v y0 y1 y2 y3 F)
  refine wp_areturn D_jdk_42_m91_9 rfl rfl rfl rfl (by decide) (by decide) ?_
  exact ⟨_, _, rfl, rfl⟩
def Q_c_fr_4_0 (s v : Addr) (y0 y1 y2 y3 : Int32) (F : OH) : Option Value → OH → Prop := fun w' H' => ∃ o a u, w' = some (.ref o) ∧ H' = ((o, fI "java/util/Optional" sg_2 [(.ref a)]) :: (u, fA .byte [y1, y2, y3]) :: (a, strO u) :: (s, strO v) :: (v, fA .byte [y0, y1, y2, y3]) :: F)
set_option maxRecDepth 65536 in
set_option maxHeartbeats 40000000 in
theorem c_fr_4_0 (l : Launch) (Z : State) (a0 : Array Value) (hw : HW Z a0) (s v : Addr) (y0 y1 y2 y3 : Int32) (cp : Int32) (fm : Value) (F : OH) (hs : Std Z cp fm) (hq0 : y0 = 35) :
    Met l Z (⟨"com/example/bylint/bylint/description/UriReferences", "fragment", "(Ljava/lang/String;)Ljava/util/Optional;"⟩ : MethodName) prog_9_method_6_code 2 (some (.object "java/util/Optional")) (rm4 6 3 8 95) [(.ref s)] ((s, strO v) :: (v, fA .byte [y0, y1, y2, y3]) :: F) (Q_c_fr_4_0 s v y0 y1 y2 y3 F) := by
  refine Met.of_wp (Ls := #[.val (.ref s), .unset]) pn_24 (fun m => (entry_loc m _ _).trans rfl) ?_
  show W25 l Z (rm4 6 3 8 95) ((s, strO v) :: (v, fA .byte [y0, y1, y2, y3]) :: F) 0 0 0 #[.val (.ref s), .unset] [] (Q_c_fr_4_0 s v y0 y1 y2 y3 F)
  refine wp_aload_n D_prog_9_m6_0 rfl rfl ?_
  refine wp_bipush 35 D_prog_9_m6_1 (by decide) ?_
  refine wp_virtual (c_si_4 l Z a0 hw s v y0 y1 y2 y3 (0 : Int32) cp fm F hs (c_ioc_4_0 l Z a0 hw s v y0 y1 y2 y3 F hq0)) (exa_new (i := 0) rfl) D_prog_9_m6_3 (gw hw 35 rfl) (gw hw 36 rfl) (gw hw 38 rfl) (gw hw 38 rfl) (gw hw 37 rfl) (gw hw 12 rfl) (gw hw 39 rfl) (by decide) pd_20 rfl rfl rfl (lb rfl) (lb rfl) (lb rfl) (lb rfl) ?_
  rintro _ _ ⟨rfl, rfl⟩
  show W25 l Z (rm4 6 3 8 95) ((s, strO v) :: (v, fA .byte [y0, y1, y2, y3]) :: F) 0 0 6 #[.val (.ref s), .unset] [(.int 0)] (Q_c_fr_4_0 s v y0 y1 y2 y3 F)
  refine wp_istore_n #[.val (.ref s), .val (.int 0)] D_prog_9_m6_6 rfl ?_
  refine wp_iload_n D_prog_9_m6_7 rfl ?_
  refine wp_if_ge D_prog_9_m6_8 (pc'' := 17) ⟨by decide, by decide⟩ (fun h1 => ?_) (fun h1 => by exact absurd h1 (by decide))
  refine wp_aload_n D_prog_9_m6_17 rfl rfl ?_
  refine wp_iload_n D_prog_9_m6_18 rfl ?_
  refine wp_iconst 1 D_prog_9_m6_19 (by decide) ?_
  refine wp_iadd D_prog_9_m6_20 ?_
  rw [show ((0 : Int32) + (1 : Int32)) = (1 : Int32) from by decide]
  refine wp_virtual (c_sb1_4_1_4 l Z a0 hw s v y0 y1 y2 y3 cp fm F hs ) (exa_new (i := 0) rfl) D_prog_9_m6_21 (gw hw 100 rfl) (gw hw 101 rfl) (gw hw 103 rfl) (gw hw 103 rfl) (gw hw 102 rfl) (gw hw 12 rfl) (gw hw 104 rfl) (by decide) pd_22 rfl rfl rfl (lb rfl) (lb rfl) (lb rfl) (lb rfl) ?_
  rintro _ _ ⟨sa2, su3, rfl, rfl⟩
  show W25 l Z (rm4 6 3 8 95) ((su3, fA .byte [y1, y2, y3]) :: (sa2, strO su3) :: (s, strO v) :: (v, fA .byte [y0, y1, y2, y3]) :: F) 2 7 24 #[.val (.ref s), .val (.int 0)] [(.ref sa2)] (Q_c_fr_4_0 s v y0 y1 y2 y3 F)
  refine wp_callS (c_of l Z a0 hw sa2 ((su3, fA .byte [y1, y2, y3]) :: (sa2, strO su3) :: (s, strO v) :: (v, fA .byte [y0, y1, y2, y3]) :: F) ) D_prog_9_m6_24 (gw hw 140 rfl) (gw hw 141 rfl) (gw hw 77 rfl) (gw hw 142 rfl) (by decide) pd_23 rfl rfl rfl (lb rfl) (lb rfl) (lb rfl) (lb rfl) ?_
  rintro _ _ ⟨o4, rfl, rfl⟩
  show W25 l Z (rm4 6 3 8 95) ((o4, fI "java/util/Optional" sg_2 [(.ref sa2)]) :: (su3, fA .byte [y1, y2, y3]) :: (sa2, strO su3) :: (s, strO v) :: (v, fA .byte [y0, y1, y2, y3]) :: F) 3 8 27 #[.val (.ref s), .val (.int 0)] [(.ref o4)] (Q_c_fr_4_0 s v y0 y1 y2 y3 F)
  refine wp_areturn D_prog_9_m6_27 rfl rfl rfl rfl (by decide) (by decide) ?_
  exact ⟨_, _, _, rfl, rfl⟩
set_option maxRecDepth 65536 in
set_option maxHeartbeats 40000000 in
theorem c_ioc_4_1 (l : Launch) (Z : State) (a0 : Array Value) (hw : HW Z a0) (s v : Addr) (y0 y1 y2 y3 : Int32) (F : OH) (hq0 : ¬ y0 = 35) (hq1 : y1 = 35) :
    Met l Z (⟨"java/lang/StringLatin1", "indexOfChar", "([BIII)I"⟩ : MethodName) jdk_43_method_23_code 6 (some .int) (rm4 0 0 0 0) [(.ref v), (.int 35), (.int 0), (.int 4)] ((s, strO v) :: (v, fA .byte [y0, y1, y2, y3]) :: F) (Q_ioc_4 s v y0 y1 y2 y3 (1 : Int32) F) := by
  refine Met.of_wp (Ls := #[.val (.ref v), .val (.int 35), .val (.int 0), .val (.int 4), .unset, .unset]) pn_20 (fun m => (entry_loc m _ _).trans rfl) ?_
  show W26 l Z (rm4 0 0 0 0) ((s, strO v) :: (v, fA .byte [y0, y1, y2, y3]) :: F) 0 0 0 #[.val (.ref v), .val (.int 35), .val (.int 0), .val (.int 4), .unset, .unset] [] (Q_ioc_4 s v y0 y1 y2 y3 (1 : Int32) F)
  refine wp_iload_n D_jdk_43_m23_0 rfl ?_
  refine wp_i2b D_jdk_43_m23_1 ?_
  rw [show (35 : Int32).toInt8.toInt32 = (35 : Int32) from by decide]
  refine wp_istore #[.val (.ref v), .val (.int 35), .val (.int 0), .val (.int 4), .val (.int 35), .unset] D_jdk_43_m23_2 rfl ?_
  refine wp_iload_n D_jdk_43_m23_4 rfl ?_
  refine wp_istore #[.val (.ref v), .val (.int 35), .val (.int 0), .val (.int 4), .val (.int 35), .val (.int 0)] D_jdk_43_m23_5 rfl ?_
  refine wp_iload D_jdk_43_m23_7 rfl ?_
  refine wp_iload_n D_jdk_43_m23_9 rfl ?_
  refine wp_icmp_ge D_jdk_43_m23_10 (pc'' := 31) ⟨by decide, by decide⟩ (fun h1 => by exact absurd h1 (by decide)) (fun h1 => ?_)
  refine wp_aload_n D_jdk_43_m23_13 rfl rfl ?_
  refine wp_iload D_jdk_43_m23_14 rfl ?_
  refine wp_baload (i := 1) (0) D_jdk_43_m23_16 rfl (by decide) (by decide) rfl ?_
  refine wp_iload D_jdk_43_m23_17 rfl ?_
  refine wp_icmp_ne D_jdk_43_m23_19 (pc'' := 25) ⟨by decide, by decide⟩ (fun h2 => ?_) (fun h2 => by exact absurd h2 hq0)
  refine wp_iinc 1 #[.val (.ref v), .val (.int 35), .val (.int 0), .val (.int 4), .val (.int 35), .val (.int 1)] D_jdk_43_m23_25 rfl rfl (by rw [show (0 : Int32) + (1 : Int32) = (1 : Int32) from by decide]; rfl) ?_
  refine wp_goto D_jdk_43_m23_28 (pc'' := 7) ⟨by decide, by decide⟩ ?_
  refine wp_iload D_jdk_43_m23_7 rfl ?_
  refine wp_iload_n D_jdk_43_m23_9 rfl ?_
  refine wp_icmp_ge D_jdk_43_m23_10 (pc'' := 31) ⟨by decide, by decide⟩ (fun h3 => by exact absurd h3 (by decide)) (fun h3 => ?_)
  refine wp_aload_n D_jdk_43_m23_13 rfl rfl ?_
  refine wp_iload D_jdk_43_m23_14 rfl ?_
  refine wp_baload (i := 1) (1) D_jdk_43_m23_16 rfl (by decide) (by decide) rfl ?_
  refine wp_iload D_jdk_43_m23_17 rfl ?_
  refine wp_icmp_ne D_jdk_43_m23_19 (pc'' := 25) ⟨by decide, by decide⟩ (fun h4 => by exact absurd hq1 h4) (fun h4 => ?_)
  refine wp_iload D_jdk_43_m23_22 rfl ?_
  refine wp_ireturn D_jdk_43_m23_24 rfl (by decide) (by decide) ?_
  exact ⟨rfl, rfl⟩
def Q_c_crb_4_2_4 (a s v : Addr) (y0 y1 y2 y3 : Int32) (F : OH) : Option Value → OH → Prop := fun w' H' => ∃ b', w' = some (.ref b') ∧ H' = ((b', oA .byte [y2, y3]) :: (a, oS (.null)) :: (s, strO v) :: (v, fA .byte [y0, y1, y2, y3]) :: F)
set_option maxRecDepth 65536 in
set_option maxHeartbeats 40000000 in
theorem c_crb_4_2_4 (l : Launch) (Z : State) (a0 : Array Value) (hw : HW Z a0) (a s v : Addr) (y0 y1 y2 y3 : Int32) (cp : Int32) (fm : Value) (F : OH) (hs : Std Z cp fm) :
    Met l Z (⟨"java/util/Arrays", "copyOfRangeByte", "([BII)[B"⟩ : MethodName) jdk_65_method_133_code 5 (some (.array .byte)) (rm4 1 1 2 20) [(.ref v), (.int 2), (.int 4)] ((a, oS (.null)) :: (s, strO v) :: (v, fA .byte [y0, y1, y2, y3]) :: F) (Q_c_crb_4_2_4 a s v y0 y1 y2 y3 F) := by
  refine Met.of_wp (Ls := #[.val (.ref v), .val (.int 2), .val (.int 4), .unset, .unset]) pn_31 (fun m => (entry_loc m _ _).trans rfl) ?_
  show W34 l Z (rm4 1 1 2 20) ((a, oS (.null)) :: (s, strO v) :: (v, fA .byte [y0, y1, y2, y3]) :: F) 0 0 0 #[.val (.ref v), .val (.int 2), .val (.int 4), .unset, .unset] [] (Q_c_crb_4_2_4 a s v y0 y1 y2 y3 F)
  refine wp_iload_n D_jdk_65_m133_0 rfl ?_
  refine wp_iload_n D_jdk_65_m133_1 rfl ?_
  refine wp_callS (c_ckl l Z a0 hw 2 4 ((a, oS (.null)) :: (s, strO v) :: (v, fA .byte [y0, y1, y2, y3]) :: F) (by decide)) D_jdk_65_m133_2 (gw hw 129 rfl) (gw hw 130 rfl) (gw hw 124 rfl) (gw hw 131 rfl) (by decide) pd_24 rfl rfl rfl (lb rfl) (lb rfl) (lb rfl) (lb rfl) ?_
  rintro _ _ ⟨rfl, rfl⟩
  show W34 l Z (rm4 1 1 2 20) ((a, oS (.null)) :: (s, strO v) :: (v, fA .byte [y0, y1, y2, y3]) :: F) 0 0 5 #[.val (.ref v), .val (.int 2), .val (.int 4), .unset, .unset] [] (Q_c_crb_4_2_4 a s v y0 y1 y2 y3 F)
  refine wp_iload_n D_jdk_65_m133_5 rfl ?_
  refine wp_iload_n D_jdk_65_m133_6 rfl ?_
  refine wp_isub D_jdk_65_m133_7 ?_
  rw [show ((4 : Int32) - (2 : Int32)) = (2 : Int32) from by decide]
  refine wp_istore_n #[.val (.ref v), .val (.int 2), .val (.int 4), .val (.int 2), .unset] D_jdk_65_m133_8 rfl ?_
  refine wp_iload_n D_jdk_65_m133_9 rfl ?_
  refine wp_newarrayI (n := (2 : Int32)) (2) 2 D_jdk_65_m133_10 rfl rfl rfl (gw hw 24 rfl) (by decide) (by decide) (by decide) (by decide) (by decide) (by decide) ?_
  intro a1
  show W34 l Z (rm4 1 1 2 20) ((a1, oA .byte [(0 : Int32), (0 : Int32)]) :: (a, oS (.null)) :: (s, strO v) :: (v, fA .byte [y0, y1, y2, y3]) :: F) 1 2 12 #[.val (.ref v), .val (.int 2), .val (.int 4), .val (.int 2), .unset] [(.ref a1)] (Q_c_crb_4_2_4 a s v y0 y1 y2 y3 F)
  refine wp_astore #[.val (.ref v), .val (.int 2), .val (.int 4), .val (.int 2), .val (.ref a1)] D_jdk_65_m133_12 rfl rfl ?_
  refine wp_aload_n D_jdk_65_m133_14 rfl rfl ?_
  refine wp_iload_n D_jdk_65_m133_15 rfl ?_
  refine wp_aload D_jdk_65_m133_16 rfl rfl ?_
  refine wp_iconst 0 D_jdk_65_m133_18 (by decide) ?_
  refine wp_aload_n D_jdk_65_m133_19 rfl rfl ?_
  refine wp_lengthI (i := 3) (4 : Int32) D_jdk_65_m133_20 rfl rfl ?_
  refine wp_iload_n D_jdk_65_m133_21 rfl ?_
  refine wp_isub D_jdk_65_m133_22 ?_
  rw [show ((4 : Int32) - (2 : Int32)) = (2 : Int32) from by decide]
  refine wp_iload_n D_jdk_65_m133_23 rfl ?_
  refine wp_callS (c_min_2_2 l Z a0 hw  ((a1, oA .byte [(0 : Int32), (0 : Int32)]) :: (a, oS (.null)) :: (s, strO v) :: (v, fA .byte [y0, y1, y2, y3]) :: F) ) D_jdk_65_m133_24 (gw hw 132 rfl) (gw hw 73 rfl) (gw hw 70 rfl) (gw hw 74 rfl) (by decide) pd_3 rfl rfl rfl (lb rfl) (lb rfl) (lb rfl) (lb rfl) ?_
  rintro _ _ ⟨rfl, rfl⟩
  show W34 l Z (rm4 1 1 2 20) ((a1, oA .byte [(0 : Int32), (0 : Int32)]) :: (a, oS (.null)) :: (s, strO v) :: (v, fA .byte [y0, y1, y2, y3]) :: F) 1 2 27 #[.val (.ref v), .val (.int 2), .val (.int 4), .val (.int 2), .val (.ref a1)] [(.int 2), (.int 0), (.ref a1), (.int 2), (.ref v)] (Q_c_crb_4_2_4 a s v y0 y1 y2 y3 F)
  refine wp_arraycopyI (i := 3) (i' := 0) 2 0 2 D_jdk_65_m133_27 (gw hw 133 rfl) (gw hw 136 rfl) (gw hw 134 rfl) (gw hw 135 rfl) rfl rfl rfl (by decide) (by decide) (by decide) (by decide) (by decide) (by decide) (by first | exact Nat.le_of_ble_eq_true rfl | simp) (by first | exact Nat.le_of_ble_eq_true rfl | simp) (by first | exact Nat.le_of_ble_eq_true rfl | simp) (by first | exact Nat.le_of_ble_eq_true rfl | simp) rfl (by decide) (by decide) ?_
  show W34 l Z (rm4 1 1 2 20) ((a1, oA .byte [y2, y3]) :: (a, oS (.null)) :: (s, strO v) :: (v, fA .byte [y0, y1, y2, y3]) :: F) 1 2 30 #[.val (.ref v), .val (.int 2), .val (.int 4), .val (.int 2), .val (.ref a1)] [] (Q_c_crb_4_2_4 a s v y0 y1 y2 y3 F)
  refine wp_aload D_jdk_65_m133_30 rfl rfl ?_
  refine wp_areturn D_jdk_65_m133_32 rfl rfl rfl rfl (by decide) (by decide) ?_
  exact ⟨_, rfl, rfl⟩
def Q_c_cor_4_2_4 (a s v : Addr) (y0 y1 y2 y3 : Int32) (F : OH) : Option Value → OH → Prop := fun w' H' => ∃ b', w' = some (.ref b') ∧ H' = ((b', oA .byte [y2, y3]) :: (a, oS (.null)) :: (s, strO v) :: (v, fA .byte [y0, y1, y2, y3]) :: F)
set_option maxRecDepth 65536 in
set_option maxHeartbeats 40000000 in
theorem c_cor_4_2_4 (l : Launch) (Z : State) (a0 : Array Value) (hw : HW Z a0) (a s v : Addr) (y0 y1 y2 y3 : Int32) (cp : Int32) (fm : Value) (F : OH) (hs : Std Z cp fm) :
    Met l Z (⟨"java/util/Arrays", "copyOfRange", "([BII)[B"⟩ : MethodName) jdk_65_method_132_code 3 (some (.array .byte)) (rm4 2 1 2 36) [(.ref v), (.int 2), (.int 4)] ((a, oS (.null)) :: (s, strO v) :: (v, fA .byte [y0, y1, y2, y3]) :: F) (Q_c_cor_4_2_4 a s v y0 y1 y2 y3 F) := by
  refine Met.of_wp (Ls := #[.val (.ref v), .val (.int 2), .val (.int 4)]) pn_32 (fun m => (entry_loc m _ _).trans rfl) ?_
  show W35 l Z (rm4 2 1 2 36) ((a, oS (.null)) :: (s, strO v) :: (v, fA .byte [y0, y1, y2, y3]) :: F) 0 0 0 #[.val (.ref v), .val (.int 2), .val (.int 4)] [] (Q_c_cor_4_2_4 a s v y0 y1 y2 y3 F)
  refine wp_iload_n D_jdk_65_m132_0 rfl ?_
  refine wp_if_ne D_jdk_65_m132_1 (pc'' := 10) ⟨by decide, by decide⟩ (fun h1 => ?_) (fun h1 => by exact absurd h1 (by decide))
  refine wp_aload_n D_jdk_65_m132_10 rfl rfl ?_
  refine wp_iload_n D_jdk_65_m132_11 rfl ?_
  refine wp_iload_n D_jdk_65_m132_12 rfl ?_
  refine wp_callS (c_crb_4_2_4 l Z a0 hw a s v y0 y1 y2 y3 cp fm F hs ) D_jdk_65_m132_13 (gw hw 126 rfl) (gw hw 127 rfl) (gw hw 124 rfl) (gw hw 128 rfl) (by decide) pd_16 rfl rfl rfl (lb rfl) (lb rfl) (lb rfl) (lb rfl) ?_
  rintro _ _ ⟨b2, rfl, rfl⟩
  show W35 l Z (rm4 2 1 2 36) ((b2, oA .byte [y2, y3]) :: (a, oS (.null)) :: (s, strO v) :: (v, fA .byte [y0, y1, y2, y3]) :: F) 1 2 16 #[.val (.ref v), .val (.int 2), .val (.int 4)] [(.ref b2)] (Q_c_cor_4_2_4 a s v y0 y1 y2 y3 F)
  refine wp_areturn D_jdk_65_m132_16 rfl rfl rfl rfl (by decide) (by decide) ?_
  exact ⟨_, rfl, rfl⟩
def Q_c_nst_4_2_4 (s v : Addr) (y0 y1 y2 y3 : Int32) (F : OH) : Option Value → OH → Prop := fun w' H' => ∃ a u, w' = some (.ref a) ∧ H' = ((u, fA .byte [y2, y3]) :: (a, strO u) :: (s, strO v) :: (v, fA .byte [y0, y1, y2, y3]) :: F)
set_option maxRecDepth 65536 in
set_option maxHeartbeats 40000000 in
theorem c_nst_4_2_4 (l : Launch) (Z : State) (a0 : Array Value) (hw : HW Z a0) (s v : Addr) (y0 y1 y2 y3 : Int32) (cp : Int32) (fm : Value) (F : OH) (hs : Std Z cp fm) :
    Met l Z (⟨"java/lang/StringLatin1", "newString", "([BII)Ljava/lang/String;"⟩ : MethodName) jdk_43_method_47_code 3 (some (.object "java/lang/String")) (rm4 3 2 6 52) [(.ref v), (.int 2), (.int 2)] ((s, strO v) :: (v, fA .byte [y0, y1, y2, y3]) :: F) (Q_c_nst_4_2_4 s v y0 y1 y2 y3 F) := by
  refine Met.of_wp (Ls := #[.val (.ref v), .val (.int 2), .val (.int 2)]) pn_27 (fun m => (entry_loc m _ _).trans rfl) ?_
  show W37 l Z (rm4 3 2 6 52) ((s, strO v) :: (v, fA .byte [y0, y1, y2, y3]) :: F) 0 0 0 #[.val (.ref v), .val (.int 2), .val (.int 2)] [] (Q_c_nst_4_2_4 s v y0 y1 y2 y3 F)
  refine wp_iload_n D_jdk_43_m47_0 rfl ?_
  refine wp_if_ne D_jdk_43_m47_1 (pc'' := 7) ⟨by decide, by decide⟩ (fun h1 => ?_) (fun h1 => by exact absurd h1 (by decide))
  refine wp_new sgStr [(.null), (.int 0)] D_jdk_43_m47_7 (gw hw 121 rfl) (gw hw 11 rfl) (gw hw 12 rfl) (laid_sgStr l Z a0 hw) (by decide) dfl_sgStr (by decide) (by decide) ?_
  intro a2
  show W37 l Z (rm4 3 2 6 52) ((a2, oS (.null)) :: (s, strO v) :: (v, fA .byte [y0, y1, y2, y3]) :: F) 1 4 10 #[.val (.ref v), .val (.int 2), .val (.int 2)] [(.ref a2)] (Q_c_nst_4_2_4 s v y0 y1 y2 y3 F)
  refine wp_dup D_jdk_43_m47_10 rfl ?_
  refine wp_aload_n D_jdk_43_m47_11 rfl rfl ?_
  refine wp_iload_n D_jdk_43_m47_12 rfl ?_
  refine wp_iload_n D_jdk_43_m47_13 rfl ?_
  refine wp_iload_n D_jdk_43_m47_14 rfl ?_
  refine wp_iadd D_jdk_43_m47_15 ?_
  rw [show ((2 : Int32) + (2 : Int32)) = (4 : Int32) from by decide]
  refine wp_callS (c_cor_4_2_4 l Z a0 hw a2 s v y0 y1 y2 y3 cp fm F hs ) D_jdk_43_m47_16 (gw hw 122 rfl) (gw hw 123 rfl) (gw hw 124 rfl) (gw hw 125 rfl) (by decide) pd_16 rfl rfl rfl (lb rfl) (lb rfl) (lb rfl) (lb rfl) ?_
  rintro _ _ ⟨b3, rfl, rfl⟩
  show W37 l Z (rm4 3 2 6 52) ((b3, oA .byte [y2, y3]) :: (a2, oS (.null)) :: (s, strO v) :: (v, fA .byte [y0, y1, y2, y3]) :: F) 2 6 19 #[.val (.ref v), .val (.int 2), .val (.int 2)] [(.ref b3), (.ref a2), (.ref a2)] (Q_c_nst_4_2_4 s v y0 y1 y2 y3 F)
  refine wp_iconst 0 D_jdk_43_m47_19 (by decide) ?_
  refine wp_init (c_sbb l Z a0 hw b3 a2 [y2, y3] ((s, strO v) :: (v, fA .byte [y0, y1, y2, y3]) :: F) ) D_jdk_43_m47_20 rfl (gw hw 137 rfl) (gw hw 138 rfl) (gw hw 12 rfl) (gw hw 139 rfl) (by decide) pd_17 rfl rfl rfl (lb rfl) (lb rfl) (lb rfl) (lb rfl) ?_
  rintro _ _ ⟨rfl, rfl⟩
  show W37 l Z (rm4 3 2 6 52) ((b3, oA .byte [y2, y3]) :: (a2, oS (.ref b3)) :: (s, strO v) :: (v, fA .byte [y0, y1, y2, y3]) :: F) 2 6 23 #[.val (.ref v), .val (.int 2), .val (.int 2)] [(.ref a2)] (Q_c_nst_4_2_4 s v y0 y1 y2 y3 F)
  refine Wp.frz (i := 0) rfl ?_
  refine Wp.frz (i := 1) rfl ?_
  show W37 l Z (rm4 3 2 6 52) ((b3, fA .byte [y2, y3]) :: (a2, strO b3) :: (s, strO v) :: (v, fA .byte [y0, y1, y2, y3]) :: F) 2 6 23 #[.val (.ref v), .val (.int 2), .val (.int 2)] [(.ref a2)] (Q_c_nst_4_2_4 s v y0 y1 y2 y3 F)
  refine wp_areturn D_jdk_43_m47_23 rfl rfl rfl rfl (by decide) (by decide) ?_
  exact ⟨_, _, rfl, rfl⟩
def Q_c_sub_4_2_4 (s v : Addr) (y0 y1 y2 y3 : Int32) (F : OH) : Option Value → OH → Prop := fun w' H' => ∃ a u, w' = some (.ref a) ∧ H' = ((u, fA .byte [y2, y3]) :: (a, strO u) :: (s, strO v) :: (v, fA .byte [y0, y1, y2, y3]) :: F)
set_option maxRecDepth 65536 in
set_option maxHeartbeats 40000000 in
theorem c_sub_4_2_4 (l : Launch) (Z : State) (a0 : Array Value) (hw : HW Z a0) (s v : Addr) (y0 y1 y2 y3 : Int32) (cp : Int32) (fm : Value) (F : OH) (hs : Std Z cp fm) :
    Met l Z (⟨"java/lang/String", "substring", "(II)Ljava/lang/String;"⟩ : MethodName) jdk_42_method_92_code 5 (some (.object "java/lang/String")) (rm4 4 2 6 66) [(.ref s), (.int 2), (.int 4)] ((s, strO v) :: (v, fA .byte [y0, y1, y2, y3]) :: F) (Q_c_sub_4_2_4 s v y0 y1 y2 y3 F) := by
  refine Met.of_wp (Ls := #[.val (.ref s), .val (.int 2), .val (.int 4), .unset, .unset]) pn_28 (fun m => (entry_loc m _ _).trans rfl) ?_
  show W38 l Z (rm4 4 2 6 66) ((s, strO v) :: (v, fA .byte [y0, y1, y2, y3]) :: F) 0 0 0 #[.val (.ref s), .val (.int 2), .val (.int 4), .unset, .unset] [] (Q_c_sub_4_2_4 s v y0 y1 y2 y3 F)
  refine wp_aload_n D_jdk_42_m92_0 rfl rfl ?_
  refine wp_virtual (c_len_4 l Z a0 hw s v y0 y1 y2 y3 cp fm F hs ) (exa_new (i := 0) rfl) D_jdk_42_m92_1 (gw hw 51 rfl) (gw hw 52 rfl) (gw hw 54 rfl) (gw hw 54 rfl) (gw hw 53 rfl) (gw hw 12 rfl) (gw hw 55 rfl) (by decide) pd_5 rfl rfl rfl (lb rfl) (lb rfl) (lb rfl) (lb rfl) ?_
  rintro _ _ ⟨rfl, rfl⟩
  show W38 l Z (rm4 4 2 6 66) ((s, strO v) :: (v, fA .byte [y0, y1, y2, y3]) :: F) 0 0 4 #[.val (.ref s), .val (.int 2), .val (.int 4), .unset, .unset] [(.int 4)] (Q_c_sub_4_2_4 s v y0 y1 y2 y3 F)
  refine wp_istore_n #[.val (.ref s), .val (.int 2), .val (.int 4), .val (.int 4), .unset] D_jdk_42_m92_4 rfl ?_
  refine wp_iload_n D_jdk_42_m92_5 rfl ?_
  refine wp_iload_n D_jdk_42_m92_6 rfl ?_
  refine wp_iload_n D_jdk_42_m92_7 rfl ?_
  refine wp_callS (c_cbe l Z a0 hw 2 4 4 cp fm ((s, strO v) :: (v, fA .byte [y0, y1, y2, y3]) :: F) hs (by decide) (by decide) (by decide)) D_jdk_42_m92_8 (gw hw 110 rfl) (gw hw 111 rfl) (gw hw 12 rfl) (gw hw 112 rfl) (by decide) pd_11 rfl rfl rfl (lb rfl) (lb rfl) (lb rfl) (lb rfl) ?_
  rintro _ _ ⟨rfl, rfl⟩
  show W38 l Z (rm4 4 2 6 66) ((s, strO v) :: (v, fA .byte [y0, y1, y2, y3]) :: F) 0 0 11 #[.val (.ref s), .val (.int 2), .val (.int 4), .val (.int 4), .unset] [] (Q_c_sub_4_2_4 s v y0 y1 y2 y3 F)
  refine wp_iload_n D_jdk_42_m92_11 rfl ?_
  refine wp_if_ne D_jdk_42_m92_12 (pc'' := 22) ⟨by decide, by decide⟩ (fun h1 => ?_) (fun h1 => by exact absurd h1 (by decide))
  refine wp_iload_n D_jdk_42_m92_22 rfl ?_
  refine wp_iload_n D_jdk_42_m92_23 rfl ?_
  refine wp_isub D_jdk_42_m92_24 ?_
  rw [show ((4 : Int32) - (2 : Int32)) = (2 : Int32) from by decide]
  refine wp_istore #[.val (.ref s), .val (.int 2), .val (.int 4), .val (.int 4), .val (.int 2)] D_jdk_42_m92_25 rfl ?_
  refine wp_aload_n D_jdk_42_m92_27 rfl rfl ?_
  refine wp_virtual (c_lat l Z a0 hw s v cp fm ((v, fA .byte [y0, y1, y2, y3]) :: F) hs ) (exa_new (i := 0) rfl) D_jdk_42_m92_28 (gw hw 45 rfl) (gw hw 46 rfl) (gw hw 48 rfl) (gw hw 48 rfl) (gw hw 47 rfl) (gw hw 12 rfl) (gw hw 49 rfl) (by decide) pd_4 rfl rfl rfl (lb rfl) (lb rfl) (lb rfl) (lb rfl) ?_
  rintro _ _ ⟨rfl, rfl⟩
  show W38 l Z (rm4 4 2 6 66) ((s, strO v) :: (v, fA .byte [y0, y1, y2, y3]) :: F) 0 0 31 #[.val (.ref s), .val (.int 2), .val (.int 4), .val (.int 4), .val (.int 2)] [(.int 1)] (Q_c_sub_4_2_4 s v y0 y1 y2 y3 F)
  refine wp_if_eq D_jdk_42_m92_31 (pc'' := 47) ⟨by decide, by decide⟩ (fun h2 => by exact absurd h2 (by decide)) (fun h2 => ?_)
  refine wp_aload_n D_jdk_42_m92_34 rfl rfl ?_
  refine wp_getfield D_jdk_42_m92_35 (gw hw 29 rfl) (fld_new (i := 0) (fi := 0) rfl rfl rfl) ?_
  refine wp_iload_n D_jdk_42_m92_38 rfl ?_
  refine wp_iload D_jdk_42_m92_39 rfl ?_
  refine wp_callS (c_nst_4_2_4 l Z a0 hw s v y0 y1 y2 y3 cp fm F hs ) D_jdk_42_m92_41 (gw hw 118 rfl) (gw hw 119 rfl) (gw hw 63 rfl) (gw hw 120 rfl) (by decide) pd_13 rfl rfl rfl (lb rfl) (lb rfl) (lb rfl) (lb rfl) ?_
  rintro _ _ ⟨sa3, su4, rfl, rfl⟩
  show W38 l Z (rm4 4 2 6 66) ((su4, fA .byte [y2, y3]) :: (sa3, strO su4) :: (s, strO v) :: (v, fA .byte [y0, y1, y2, y3]) :: F) 2 6 44 #[.val (.ref s), .val (.int 2), .val (.int 4), .val (.int 4), .val (.int 2)] [(.ref sa3)] (Q_c_sub_4_2_4 s v y0 y1 y2 y3 F)
  refine wp_goto D_jdk_42_m92_44 (pc'' := 57) ⟨by decide, by decide⟩ ?_
  refine wp_areturn D_jdk_42_m92_57 rfl rfl rfl rfl (by decide) (by decide) ?_
  exact ⟨_, _, rfl, rfl⟩
def Q_c_sb1_4_2_4 (s v : Addr) (y0 y1 y2 y3 : Int32) (F : OH) : Option Value → OH → Prop := fun w' H' => ∃ a u, w' = some (.ref a) ∧ H' = ((u, fA .byte [y2, y3]) :: (a, strO u) :: (s, strO v) :: (v, fA .byte [y0, y1, y2, y3]) :: F)
set_option maxRecDepth 65536 in
set_option maxHeartbeats 40000000 in
theorem c_sb1_4_2_4 (l : Launch) (Z : State) (a0 : Array Value) (hw : HW Z a0) (s v : Addr) (y0 y1 y2 y3 : Int32) (cp : Int32) (fm : Value) (F : OH) (hs : Std Z cp fm) :
    Met l Z (⟨"java/lang/String", "substring", "(I)Ljava/lang/String;"⟩ : MethodName) jdk_42_method_91_code 2 (some (.object "java/lang/String")) (rm4 5 2 6 82) [(.ref s), (.int 2)] ((s, strO v) :: (v, fA .byte [y0, y1, y2, y3]) :: F) (Q_c_sb1_4_2_4 s v y0 y1 y2 y3 F) := by
  refine Met.of_wp (Ls := #[.val (.ref s), .val (.int 2)]) pn_29 (fun m => (entry_loc m _ _).trans rfl) ?_
  show W39 l Z (rm4 5 2 6 82) ((s, strO v) :: (v, fA .byte [y0, y1, y2, y3]) :: F) 0 0 0 #[.val (.ref s), .val (.int 2)] [] (Q_c_sb1_4_2_4 s v y0 y1 y2 y3 F)
  refine wp_aload_n D_jdk_42_m91_0 rfl rfl ?_
  refine wp_iload_n D_jdk_42_m91_1 rfl ?_
  refine wp_aload_n D_jdk_42_m91_2 rfl rfl ?_
  refine wp_virtual (c_len_4 l Z a0 hw s v y0 y1 y2 y3 cp fm F hs ) (exa_new (i := 0) rfl) D_jdk_42_m91_3 (gw hw 51 rfl) (gw hw 52 rfl) (gw hw 54 rfl) (gw hw 54 rfl) (gw hw 53 rfl) (gw hw 12 rfl) (gw hw 55 rfl) (by decide) pd_5 rfl rfl rfl (lb rfl) (lb rfl) (lb rfl) (lb rfl) ?_
  rintro _ _ ⟨rfl, rfl⟩
  show W39 l Z (rm4 5 2 6 82) ((s, strO v) :: (v, fA .byte [y0, y1, y2, y3]) :: F) 0 0 6 #[.val (.ref s), .val (.int 2)] [(.int 4), (.int 2), (.ref s)] (Q_c_sb1_4_2_4 s v y0 y1 y2 y3 F)
  refine wp_virtual (c_sub_4_2_4 l Z a0 hw s v y0 y1 y2 y3 cp fm F hs ) (exa_new (i := 0) rfl) D_jdk_42_m91_6 (gw hw 105 rfl) (gw hw 106 rfl) (gw hw 108 rfl) (gw hw 108 rfl) (gw hw 107 rfl) (gw hw 12 rfl) (gw hw 109 rfl) (by decide) pd_10 rfl rfl rfl (lb rfl) (lb rfl) (lb rfl) (lb rfl) ?_
  rintro _ _ ⟨sa1, su2, rfl, rfl⟩
  show W39 l Z (rm4 5 2 6 82) ((su2, fA .byte [y2, y3]) :: (sa1, strO su2) :: (s, strO v) :: (v, fA .byte [y0, y1, y2, y3]) :: F) 2 6 9 #[.val (.ref s), .val (.int 2)] [(.ref sa1)] (Q_c_sb1_4_2_4 s v y0 y1 y2 y3 F)
  refine wp_areturn D_jdk_42_m91_9 rfl rfl rfl rfl (by decide) (by decide) ?_
  exact ⟨_, _, rfl, rfl⟩
def Q_c_fr_4_1 (s v : Addr) (y0 y1 y2 y3 : Int32) (F : OH) : Option Value → OH → Prop := fun w' H' => ∃ o a u, w' = some (.ref o) ∧ H' = ((o, fI "java/util/Optional" sg_2 [(.ref a)]) :: (u, fA .byte [y2, y3]) :: (a, strO u) :: (s, strO v) :: (v, fA .byte [y0, y1, y2, y3]) :: F)
set_option maxRecDepth 65536 in
set_option maxHeartbeats 40000000 in
theorem c_fr_4_1 (l : Launch) (Z : State) (a0 : Array Value) (hw : HW Z a0) (s v : Addr) (y0 y1 y2 y3 : Int32) (cp : Int32) (fm : Value) (F : OH) (hs : Std Z cp fm) (hq0 : ¬ y0 = 35) (hq1 : y1 = 35) :
    Met l Z (⟨"com/example/bylint/bylint/description/UriReferences", "fragment", "(Ljava/lang/String;)Ljava/util/Optional;"⟩ : MethodName) prog_9_method_6_code 2 (some (.object "java/util/Optional")) (rm4 6 3 7 95) [(.ref s)] ((s, strO v) :: (v, fA .byte [y0, y1, y2, y3]) :: F) (Q_c_fr_4_1 s v y0 y1 y2 y3 F) := by
  refine Met.of_wp (Ls := #[.val (.ref s), .unset]) pn_24 (fun m => (entry_loc m _ _).trans rfl) ?_
  show W25 l Z (rm4 6 3 7 95) ((s, strO v) :: (v, fA .byte [y0, y1, y2, y3]) :: F) 0 0 0 #[.val (.ref s), .unset] [] (Q_c_fr_4_1 s v y0 y1 y2 y3 F)
  refine wp_aload_n D_prog_9_m6_0 rfl rfl ?_
  refine wp_bipush 35 D_prog_9_m6_1 (by decide) ?_
  refine wp_virtual (c_si_4 l Z a0 hw s v y0 y1 y2 y3 (1 : Int32) cp fm F hs (c_ioc_4_1 l Z a0 hw s v y0 y1 y2 y3 F hq0 hq1)) (exa_new (i := 0) rfl) D_prog_9_m6_3 (gw hw 35 rfl) (gw hw 36 rfl) (gw hw 38 rfl) (gw hw 38 rfl) (gw hw 37 rfl) (gw hw 12 rfl) (gw hw 39 rfl) (by decide) pd_20 rfl rfl rfl (lb rfl) (lb rfl) (lb rfl) (lb rfl) ?_
  rintro _ _ ⟨rfl, rfl⟩
  show W25 l Z (rm4 6 3 7 95) ((s, strO v) :: (v, fA .byte [y0, y1, y2, y3]) :: F) 0 0 6 #[.val (.ref s), .unset] [(.int 1)] (Q_c_fr_4_1 s v y0 y1 y2 y3 F)
  refine wp_istore_n #[.val (.ref s), .val (.int 1)] D_prog_9_m6_6 rfl ?_
  refine wp_iload_n D_prog_9_m6_7 rfl ?_
  refine wp_if_ge D_prog_9_m6_8 (pc'' := 17) ⟨by decide, by decide⟩ (fun h1 => ?_) (fun h1 => by exact absurd h1 (by decide))
  refine wp_aload_n D_prog_9_m6_17 rfl rfl ?_
  refine wp_iload_n D_prog_9_m6_18 rfl ?_
  refine wp_iconst 1 D_prog_9_m6_19 (by decide) ?_
  refine wp_iadd D_prog_9_m6_20 ?_
  rw [show ((1 : Int32) + (1 : Int32)) = (2 : Int32) from by decide]
  refine wp_virtual (c_sb1_4_2_4 l Z a0 hw s v y0 y1 y2 y3 cp fm F hs ) (exa_new (i := 0) rfl) D_prog_9_m6_21 (gw hw 100 rfl) (gw hw 101 rfl) (gw hw 103 rfl) (gw hw 103 rfl) (gw hw 102 rfl) (gw hw 12 rfl) (gw hw 104 rfl) (by decide) pd_22 rfl rfl rfl (lb rfl) (lb rfl) (lb rfl) (lb rfl) ?_
  rintro _ _ ⟨sa2, su3, rfl, rfl⟩
  show W25 l Z (rm4 6 3 7 95) ((su3, fA .byte [y2, y3]) :: (sa2, strO su3) :: (s, strO v) :: (v, fA .byte [y0, y1, y2, y3]) :: F) 2 6 24 #[.val (.ref s), .val (.int 1)] [(.ref sa2)] (Q_c_fr_4_1 s v y0 y1 y2 y3 F)
  refine wp_callS (c_of l Z a0 hw sa2 ((su3, fA .byte [y2, y3]) :: (sa2, strO su3) :: (s, strO v) :: (v, fA .byte [y0, y1, y2, y3]) :: F) ) D_prog_9_m6_24 (gw hw 140 rfl) (gw hw 141 rfl) (gw hw 77 rfl) (gw hw 142 rfl) (by decide) pd_23 rfl rfl rfl (lb rfl) (lb rfl) (lb rfl) (lb rfl) ?_
  rintro _ _ ⟨o4, rfl, rfl⟩
  show W25 l Z (rm4 6 3 7 95) ((o4, fI "java/util/Optional" sg_2 [(.ref sa2)]) :: (su3, fA .byte [y2, y3]) :: (sa2, strO su3) :: (s, strO v) :: (v, fA .byte [y0, y1, y2, y3]) :: F) 3 7 27 #[.val (.ref s), .val (.int 1)] [(.ref o4)] (Q_c_fr_4_1 s v y0 y1 y2 y3 F)
  refine wp_areturn D_prog_9_m6_27 rfl rfl rfl rfl (by decide) (by decide) ?_
  exact ⟨_, _, _, rfl, rfl⟩
set_option maxRecDepth 65536 in
set_option maxHeartbeats 40000000 in
theorem c_ioc_4_2 (l : Launch) (Z : State) (a0 : Array Value) (hw : HW Z a0) (s v : Addr) (y0 y1 y2 y3 : Int32) (F : OH) (hq0 : ¬ y0 = 35) (hq1 : ¬ y1 = 35) (hq2 : y2 = 35) :
    Met l Z (⟨"java/lang/StringLatin1", "indexOfChar", "([BIII)I"⟩ : MethodName) jdk_43_method_23_code 6 (some .int) (rm4 0 0 0 0) [(.ref v), (.int 35), (.int 0), (.int 4)] ((s, strO v) :: (v, fA .byte [y0, y1, y2, y3]) :: F) (Q_ioc_4 s v y0 y1 y2 y3 (2 : Int32) F) := by
  refine Met.of_wp (Ls := #[.val (.ref v), .val (.int 35), .val (.int 0), .val (.int 4), .unset, .unset]) pn_20 (fun m => (entry_loc m _ _).trans rfl) ?_
  show W26 l Z (rm4 0 0 0 0) ((s, strO v) :: (v, fA .byte [y0, y1, y2, y3]) :: F) 0 0 0 #[.val (.ref v), .val (.int 35), .val (.int 0), .val (.int 4), .unset, .unset] [] (Q_ioc_4 s v y0 y1 y2 y3 (2 : Int32) F)
  refine wp_iload_n D_jdk_43_m23_0 rfl ?_
  refine wp_i2b D_jdk_43_m23_1 ?_
  rw [show (35 : Int32).toInt8.toInt32 = (35 : Int32) from by decide]
  refine wp_istore #[.val (.ref v), .val (.int 35), .val (.int 0), .val (.int 4), .val (.int 35), .unset] D_jdk_43_m23_2 rfl ?_
  refine wp_iload_n D_jdk_43_m23_4 rfl ?_
  refine wp_istore #[.val (.ref v), .val (.int 35), .val (.int 0), .val (.int 4), .val (.int 35), .val (.int 0)] D_jdk_43_m23_5 rfl ?_
  refine wp_iload D_jdk_43_m23_7 rfl ?_
  refine wp_iload_n D_jdk_43_m23_9 rfl ?_
  refine wp_icmp_ge D_jdk_43_m23_10 (pc'' := 31) ⟨by decide, by decide⟩ (fun h1 => by exact absurd h1 (by decide)) (fun h1 => ?_)
  refine wp_aload_n D_jdk_43_m23_13 rfl rfl ?_
  refine wp_iload D_jdk_43_m23_14 rfl ?_
  refine wp_baload (i := 1) (0) D_jdk_43_m23_16 rfl (by decide) (by decide) rfl ?_
  refine wp_iload D_jdk_43_m23_17 rfl ?_
  refine wp_icmp_ne D_jdk_43_m23_19 (pc'' := 25) ⟨by decide, by decide⟩ (fun h2 => ?_) (fun h2 => by exact absurd h2 hq0)
  refine wp_iinc 1 #[.val (.ref v), .val (.int 35), .val (.int 0), .val (.int 4), .val (.int 35), .val (.int 1)] D_jdk_43_m23_25 rfl rfl (by rw [show (0 : Int32) + (1 : Int32) = (1 : Int32) from by decide]; rfl) ?_
  refine wp_goto D_jdk_43_m23_28 (pc'' := 7) ⟨by decide, by decide⟩ ?_
  refine wp_iload D_jdk_43_m23_7 rfl ?_
  refine wp_iload_n D_jdk_43_m23_9 rfl ?_
  refine wp_icmp_ge D_jdk_43_m23_10 (pc'' := 31) ⟨by decide, by decide⟩ (fun h3 => by exact absurd h3 (by decide)) (fun h3 => ?_)
  refine wp_aload_n D_jdk_43_m23_13 rfl rfl ?_
  refine wp_iload D_jdk_43_m23_14 rfl ?_
  refine wp_baload (i := 1) (1) D_jdk_43_m23_16 rfl (by decide) (by decide) rfl ?_
  refine wp_iload D_jdk_43_m23_17 rfl ?_
  refine wp_icmp_ne D_jdk_43_m23_19 (pc'' := 25) ⟨by decide, by decide⟩ (fun h4 => ?_) (fun h4 => by exact absurd h4 hq1)
  refine wp_iinc 1 #[.val (.ref v), .val (.int 35), .val (.int 0), .val (.int 4), .val (.int 35), .val (.int 2)] D_jdk_43_m23_25 rfl rfl (by rw [show (1 : Int32) + (1 : Int32) = (2 : Int32) from by decide]; rfl) ?_
  refine wp_goto D_jdk_43_m23_28 (pc'' := 7) ⟨by decide, by decide⟩ ?_
  refine wp_iload D_jdk_43_m23_7 rfl ?_
  refine wp_iload_n D_jdk_43_m23_9 rfl ?_
  refine wp_icmp_ge D_jdk_43_m23_10 (pc'' := 31) ⟨by decide, by decide⟩ (fun h5 => by exact absurd h5 (by decide)) (fun h5 => ?_)
  refine wp_aload_n D_jdk_43_m23_13 rfl rfl ?_
  refine wp_iload D_jdk_43_m23_14 rfl ?_
  refine wp_baload (i := 1) (2) D_jdk_43_m23_16 rfl (by decide) (by decide) rfl ?_
  refine wp_iload D_jdk_43_m23_17 rfl ?_
  refine wp_icmp_ne D_jdk_43_m23_19 (pc'' := 25) ⟨by decide, by decide⟩ (fun h6 => by exact absurd hq2 h6) (fun h6 => ?_)
  refine wp_iload D_jdk_43_m23_22 rfl ?_
  refine wp_ireturn D_jdk_43_m23_24 rfl (by decide) (by decide) ?_
  exact ⟨rfl, rfl⟩
def Q_c_crb_4_3_4 (a s v : Addr) (y0 y1 y2 y3 : Int32) (F : OH) : Option Value → OH → Prop := fun w' H' => ∃ b', w' = some (.ref b') ∧ H' = ((b', oA .byte [y3]) :: (a, oS (.null)) :: (s, strO v) :: (v, fA .byte [y0, y1, y2, y3]) :: F)
set_option maxRecDepth 65536 in
set_option maxHeartbeats 40000000 in
theorem c_crb_4_3_4 (l : Launch) (Z : State) (a0 : Array Value) (hw : HW Z a0) (a s v : Addr) (y0 y1 y2 y3 : Int32) (cp : Int32) (fm : Value) (F : OH) (hs : Std Z cp fm) :
    Met l Z (⟨"java/util/Arrays", "copyOfRangeByte", "([BII)[B"⟩ : MethodName) jdk_65_method_133_code 5 (some (.array .byte)) (rm4 1 1 1 20) [(.ref v), (.int 3), (.int 4)] ((a, oS (.null)) :: (s, strO v) :: (v, fA .byte [y0, y1, y2, y3]) :: F) (Q_c_crb_4_3_4 a s v y0 y1 y2 y3 F) := by
  refine Met.of_wp (Ls := #[.val (.ref v), .val (.int 3), .val (.int 4), .unset, .unset]) pn_31 (fun m => (entry_loc m _ _).trans rfl) ?_
  show W34 l Z (rm4 1 1 1 20) ((a, oS (.null)) :: (s, strO v) :: (v, fA .byte [y0, y1, y2, y3]) :: F) 0 0 0 #[.val (.ref v), .val (.int 3), .val (.int 4), .unset, .unset] [] (Q_c_crb_4_3_4 a s v y0 y1 y2 y3 F)
  refine wp_iload_n D_jdk_65_m133_0 rfl ?_
  refine wp_iload_n D_jdk_65_m133_1 rfl ?_
  refine wp_callS (c_ckl l Z a0 hw 3 4 ((a, oS (.null)) :: (s, strO v) :: (v, fA .byte [y0, y1, y2, y3]) :: F) (by decide)) D_jdk_65_m133_2 (gw hw 129 rfl) (gw hw 130 rfl) (gw hw 124 rfl) (gw hw 131 rfl) (by decide) pd_24 rfl rfl rfl (lb rfl) (lb rfl) (lb rfl) (lb rfl) ?_
  rintro _ _ ⟨rfl, rfl⟩
  show W34 l Z (rm4 1 1 1 20) ((a, oS (.null)) :: (s, strO v) :: (v, fA .byte [y0, y1, y2, y3]) :: F) 0 0 5 #[.val (.ref v), .val (.int 3), .val (.int 4), .unset, .unset] [] (Q_c_crb_4_3_4 a s v y0 y1 y2 y3 F)
  refine wp_iload_n D_jdk_65_m133_5 rfl ?_
  refine wp_iload_n D_jdk_65_m133_6 rfl ?_
  refine wp_isub D_jdk_65_m133_7 ?_
  rw [show ((4 : Int32) - (3 : Int32)) = (1 : Int32) from by decide]
  refine wp_istore_n #[.val (.ref v), .val (.int 3), .val (.int 4), .val (.int 1), .unset] D_jdk_65_m133_8 rfl ?_
  refine wp_iload_n D_jdk_65_m133_9 rfl ?_
  refine wp_newarrayI (n := (1 : Int32)) (1) 1 D_jdk_65_m133_10 rfl rfl rfl (gw hw 24 rfl) (by decide) (by decide) (by decide) (by decide) (by decide) (by decide) ?_
  intro a1
  show W34 l Z (rm4 1 1 1 20) ((a1, oA .byte [(0 : Int32)]) :: (a, oS (.null)) :: (s, strO v) :: (v, fA .byte [y0, y1, y2, y3]) :: F) 1 1 12 #[.val (.ref v), .val (.int 3), .val (.int 4), .val (.int 1), .unset] [(.ref a1)] (Q_c_crb_4_3_4 a s v y0 y1 y2 y3 F)
  refine wp_astore #[.val (.ref v), .val (.int 3), .val (.int 4), .val (.int 1), .val (.ref a1)] D_jdk_65_m133_12 rfl rfl ?_
  refine wp_aload_n D_jdk_65_m133_14 rfl rfl ?_
  refine wp_iload_n D_jdk_65_m133_15 rfl ?_
  refine wp_aload D_jdk_65_m133_16 rfl rfl ?_
  refine wp_iconst 0 D_jdk_65_m133_18 (by decide) ?_
  refine wp_aload_n D_jdk_65_m133_19 rfl rfl ?_
  refine wp_lengthI (i := 3) (4 : Int32) D_jdk_65_m133_20 rfl rfl ?_
  refine wp_iload_n D_jdk_65_m133_21 rfl ?_
  refine wp_isub D_jdk_65_m133_22 ?_
  rw [show ((4 : Int32) - (3 : Int32)) = (1 : Int32) from by decide]
  refine wp_iload_n D_jdk_65_m133_23 rfl ?_
  refine wp_callS (c_min_1_1 l Z a0 hw  ((a1, oA .byte [(0 : Int32)]) :: (a, oS (.null)) :: (s, strO v) :: (v, fA .byte [y0, y1, y2, y3]) :: F) ) D_jdk_65_m133_24 (gw hw 132 rfl) (gw hw 73 rfl) (gw hw 70 rfl) (gw hw 74 rfl) (by decide) pd_3 rfl rfl rfl (lb rfl) (lb rfl) (lb rfl) (lb rfl) ?_
  rintro _ _ ⟨rfl, rfl⟩
  show W34 l Z (rm4 1 1 1 20) ((a1, oA .byte [(0 : Int32)]) :: (a, oS (.null)) :: (s, strO v) :: (v, fA .byte [y0, y1, y2, y3]) :: F) 1 1 27 #[.val (.ref v), .val (.int 3), .val (.int 4), .val (.int 1), .val (.ref a1)] [(.int 1), (.int 0), (.ref a1), (.int 3), (.ref v)] (Q_c_crb_4_3_4 a s v y0 y1 y2 y3 F)
  refine wp_arraycopyI (i := 3) (i' := 0) 3 0 1 D_jdk_65_m133_27 (gw hw 133 rfl) (gw hw 136 rfl) (gw hw 134 rfl) (gw hw 135 rfl) rfl rfl rfl (by decide) (by decide) (by decide) (by decide) (by decide) (by decide) (by first | exact Nat.le_of_ble_eq_true rfl | simp) (by first | exact Nat.le_of_ble_eq_true rfl | simp) (by first | exact Nat.le_of_ble_eq_true rfl | simp) (by first | exact Nat.le_of_ble_eq_true rfl | simp) rfl (by decide) (by decide) ?_
  show W34 l Z (rm4 1 1 1 20) ((a1, oA .byte [y3]) :: (a, oS (.null)) :: (s, strO v) :: (v, fA .byte [y0, y1, y2, y3]) :: F) 1 1 30 #[.val (.ref v), .val (.int 3), .val (.int 4), .val (.int 1), .val (.ref a1)] [] (Q_c_crb_4_3_4 a s v y0 y1 y2 y3 F)
  refine wp_aload D_jdk_65_m133_30 rfl rfl ?_
  refine wp_areturn D_jdk_65_m133_32 rfl rfl rfl rfl (by decide) (by decide) ?_
  exact ⟨_, rfl, rfl⟩
def Q_c_cor_4_3_4 (a s v : Addr) (y0 y1 y2 y3 : Int32) (F : OH) : Option Value → OH → Prop := fun w' H' => ∃ b', w' = some (.ref b') ∧ H' = ((b', oA .byte [y3]) :: (a, oS (.null)) :: (s, strO v) :: (v, fA .byte [y0, y1, y2, y3]) :: F)
set_option maxRecDepth 65536 in
set_option maxHeartbeats 40000000 in
theorem c_cor_4_3_4 (l : Launch) (Z : State) (a0 : Array Value) (hw : HW Z a0) (a s v : Addr) (y0 y1 y2 y3 : Int32) (cp : Int32) (fm : Value) (F : OH) (hs : Std Z cp fm) :
    Met l Z (⟨"java/util/Arrays", "copyOfRange", "([BII)[B"⟩ : MethodName) jdk_65_method_132_code 3 (some (.array .byte)) (rm4 2 1 1 36) [(.ref v), (.int 3), (.int 4)] ((a, oS (.null)) :: (s, strO v) :: (v, fA .byte [y0, y1, y2, y3]) :: F) (Q_c_cor_4_3_4 a s v y0 y1 y2 y3 F) := by
  refine Met.of_wp (Ls := #[.val (.ref v), .val (.int 3), .val (.int 4)]) pn_32 (fun m => (entry_loc m _ _).trans rfl) ?_
  show W35 l Z (rm4 2 1 1 36) ((a, oS (.null)) :: (s, strO v) :: (v, fA .byte [y0, y1, y2, y3]) :: F) 0 0 0 #[.val (.ref v), .val (.int 3), .val (.int 4)] [] (Q_c_cor_4_3_4 a s v y0 y1 y2 y3 F)
  refine wp_iload_n D_jdk_65_m132_0 rfl ?_
  refine wp_if_ne D_jdk_65_m132_1 (pc'' := 10) ⟨by decide, by decide⟩ (fun h1 => ?_) (fun h1 => by exact absurd h1 (by decide))
  refine wp_aload_n D_jdk_65_m132_10 rfl rfl ?_
  refine wp_iload_n D_jdk_65_m132_11 rfl ?_
  refine wp_iload_n D_jdk_65_m132_12 rfl ?_
  refine wp_callS (c_crb_4_3_4 l Z a0 hw a s v y0 y1 y2 y3 cp fm F hs ) D_jdk_65_m132_13 (gw hw 126 rfl) (gw hw 127 rfl) (gw hw 124 rfl) (gw hw 128 rfl) (by decide) pd_16 rfl rfl rfl (lb rfl) (lb rfl) (lb rfl) (lb rfl) ?_
  rintro _ _ ⟨b2, rfl, rfl⟩
  show W35 l Z (rm4 2 1 1 36) ((b2, oA .byte [y3]) :: (a, oS (.null)) :: (s, strO v) :: (v, fA .byte [y0, y1, y2, y3]) :: F) 1 1 16 #[.val (.ref v), .val (.int 3), .val (.int 4)] [(.ref b2)] (Q_c_cor_4_3_4 a s v y0 y1 y2 y3 F)
  refine wp_areturn D_jdk_65_m132_16 rfl rfl rfl rfl (by decide) (by decide) ?_
  exact ⟨_, rfl, rfl⟩
def Q_c_nst_4_3_4 (s v : Addr) (y0 y1 y2 y3 : Int32) (F : OH) : Option Value → OH → Prop := fun w' H' => ∃ a u, w' = some (.ref a) ∧ H' = ((u, fA .byte [y3]) :: (a, strO u) :: (s, strO v) :: (v, fA .byte [y0, y1, y2, y3]) :: F)
set_option maxRecDepth 65536 in
set_option maxHeartbeats 40000000 in
theorem c_nst_4_3_4 (l : Launch) (Z : State) (a0 : Array Value) (hw : HW Z a0) (s v : Addr) (y0 y1 y2 y3 : Int32) (cp : Int32) (fm : Value) (F : OH) (hs : Std Z cp fm) :
    Met l Z (⟨"java/lang/StringLatin1", "newString", "([BII)Ljava/lang/String;"⟩ : MethodName) jdk_43_method_47_code 3 (some (.object "java/lang/String")) (rm4 3 2 5 52) [(.ref v), (.int 3), (.int 1)] ((s, strO v) :: (v, fA .byte [y0, y1, y2, y3]) :: F) (Q_c_nst_4_3_4 s v y0 y1 y2 y3 F) := by
  refine Met.of_wp (Ls := #[.val (.ref v), .val (.int 3), .val (.int 1)]) pn_27 (fun m => (entry_loc m _ _).trans rfl) ?_
  show W37 l Z (rm4 3 2 5 52) ((s, strO v) :: (v, fA .byte [y0, y1, y2, y3]) :: F) 0 0 0 #[.val (.ref v), .val (.int 3), .val (.int 1)] [] (Q_c_nst_4_3_4 s v y0 y1 y2 y3 F)
  refine wp_iload_n D_jdk_43_m47_0 rfl ?_
  refine wp_if_ne D_jdk_43_m47_1 (pc'' := 7) ⟨by decide, by decide⟩ (fun h1 => ?_) (fun h1 => by exact absurd h1 (by decide))
  refine wp_new sgStr [(.null), (.int 0)] D_jdk_43_m47_7 (gw hw 121 rfl) (gw hw 11 rfl) (gw hw 12 rfl) (laid_sgStr l Z a0 hw) (by decide) dfl_sgStr (by decide) (by decide) ?_
  intro a2
  show W37 l Z (rm4 3 2 5 52) ((a2, oS (.null)) :: (s, strO v) :: (v, fA .byte [y0, y1, y2, y3]) :: F) 1 4 10 #[.val (.ref v), .val (.int 3), .val (.int 1)] [(.ref a2)] (Q_c_nst_4_3_4 s v y0 y1 y2 y3 F)
  refine wp_dup D_jdk_43_m47_10 rfl ?_
  refine wp_aload_n D_jdk_43_m47_11 rfl rfl ?_
  refine wp_iload_n D_jdk_43_m47_12 rfl ?_
  refine wp_iload_n D_jdk_43_m47_13 rfl ?_
  refine wp_iload_n D_jdk_43_m47_14 rfl ?_
  refine wp_iadd D_jdk_43_m47_15 ?_
  rw [show ((3 : Int32) + (1 : Int32)) = (4 : Int32) from by decide]
  refine wp_callS (c_cor_4_3_4 l Z a0 hw a2 s v y0 y1 y2 y3 cp fm F hs ) D_jdk_43_m47_16 (gw hw 122 rfl) (gw hw 123 rfl) (gw hw 124 rfl) (gw hw 125 rfl) (by decide) pd_16 rfl rfl rfl (lb rfl) (lb rfl) (lb rfl) (lb rfl) ?_
  rintro _ _ ⟨b3, rfl, rfl⟩
  show W37 l Z (rm4 3 2 5 52) ((b3, oA .byte [y3]) :: (a2, oS (.null)) :: (s, strO v) :: (v, fA .byte [y0, y1, y2, y3]) :: F) 2 5 19 #[.val (.ref v), .val (.int 3), .val (.int 1)] [(.ref b3), (.ref a2), (.ref a2)] (Q_c_nst_4_3_4 s v y0 y1 y2 y3 F)
  refine wp_iconst 0 D_jdk_43_m47_19 (by decide) ?_
  refine wp_init (c_sbb l Z a0 hw b3 a2 [y3] ((s, strO v) :: (v, fA .byte [y0, y1, y2, y3]) :: F) ) D_jdk_43_m47_20 rfl (gw hw 137 rfl) (gw hw 138 rfl) (gw hw 12 rfl) (gw hw 139 rfl) (by decide) pd_17 rfl rfl rfl (lb rfl) (lb rfl) (lb rfl) (lb rfl) ?_
  rintro _ _ ⟨rfl, rfl⟩
  show W37 l Z (rm4 3 2 5 52) ((b3, oA .byte [y3]) :: (a2, oS (.ref b3)) :: (s, strO v) :: (v, fA .byte [y0, y1, y2, y3]) :: F) 2 5 23 #[.val (.ref v), .val (.int 3), .val (.int 1)] [(.ref a2)] (Q_c_nst_4_3_4 s v y0 y1 y2 y3 F)
  refine Wp.frz (i := 0) rfl ?_
  refine Wp.frz (i := 1) rfl ?_
  show W37 l Z (rm4 3 2 5 52) ((b3, fA .byte [y3]) :: (a2, strO b3) :: (s, strO v) :: (v, fA .byte [y0, y1, y2, y3]) :: F) 2 5 23 #[.val (.ref v), .val (.int 3), .val (.int 1)] [(.ref a2)] (Q_c_nst_4_3_4 s v y0 y1 y2 y3 F)
  refine wp_areturn D_jdk_43_m47_23 rfl rfl rfl rfl (by decide) (by decide) ?_
  exact ⟨_, _, rfl, rfl⟩
def Q_c_sub_4_3_4 (s v : Addr) (y0 y1 y2 y3 : Int32) (F : OH) : Option Value → OH → Prop := fun w' H' => ∃ a u, w' = some (.ref a) ∧ H' = ((u, fA .byte [y3]) :: (a, strO u) :: (s, strO v) :: (v, fA .byte [y0, y1, y2, y3]) :: F)
set_option maxRecDepth 65536 in
set_option maxHeartbeats 40000000 in
theorem c_sub_4_3_4 (l : Launch) (Z : State) (a0 : Array Value) (hw : HW Z a0) (s v : Addr) (y0 y1 y2 y3 : Int32) (cp : Int32) (fm : Value) (F : OH) (hs : Std Z cp fm) :
    Met l Z (⟨"java/lang/String", "substring", "(II)Ljava/lang/String;"⟩ : MethodName) jdk_42_method_92_code 5 (some (.object "java/lang/String")) (rm4 4 2 5 66) [(.ref s), (.int 3), (.int 4)] ((s, strO v) :: (v, fA .byte [y0, y1, y2, y3]) :: F) (Q_c_sub_4_3_4 s v y0 y1 y2 y3 F) := by
  refine Met.of_wp (Ls := #[.val (.ref s), .val (.int 3), .val (.int 4), .unset, .unset]) pn_28 (fun m => (entry_loc m _ _).trans rfl) ?_
  show W38 l Z (rm4 4 2 5 66) ((s, strO v) :: (v, fA .byte [y0, y1, y2, y3]) :: F) 0 0 0 #[.val (.ref s), .val (.int 3), .val (.int 4), .unset, .unset] [] (Q_c_sub_4_3_4 s v y0 y1 y2 y3 F)
  refine wp_aload_n D_jdk_42_m92_0 rfl rfl ?_
  refine wp_virtual (c_len_4 l Z a0 hw s v y0 y1 y2 y3 cp fm F hs ) (exa_new (i := 0) rfl) D_jdk_42_m92_1 (gw hw 51 rfl) (gw hw 52 rfl) (gw hw 54 rfl) (gw hw 54 rfl) (gw hw 53 rfl) (gw hw 12 rfl) (gw hw 55 rfl) (by decide) pd_5 rfl rfl rfl (lb rfl) (lb rfl) (lb rfl) (lb rfl) ?_
  rintro _ _ ⟨rfl, rfl⟩
  show W38 l Z (rm4 4 2 5 66) ((s, strO v) :: (v, fA .byte [y0, y1, y2, y3]) :: F) 0 0 4 #[.val (.ref s), .val (.int 3), .val (.int 4), .unset, .unset] [(.int 4)] (Q_c_sub_4_3_4 s v y0 y1 y2 y3 F)
  refine wp_istore_n #[.val (.ref s), .val (.int 3), .val (.int 4), .val (.int 4), .unset] D_jdk_42_m92_4 rfl ?_
  refine wp_iload_n D_jdk_42_m92_5 rfl ?_
  refine wp_iload_n D_jdk_42_m92_6 rfl ?_
  refine wp_iload_n D_jdk_42_m92_7 rfl ?_
  refine wp_callS (c_cbe l Z a0 hw 3 4 4 cp fm ((s, strO v) :: (v, fA .byte [y0, y1, y2, y3]) :: F) hs (by decide) (by decide) (by decide)) D_jdk_42_m92_8 (gw hw 110 rfl) (gw hw 111 rfl) (gw hw 12 rfl) (gw hw 112 rfl) (by decide) pd_11 rfl rfl rfl (lb rfl) (lb rfl) (lb rfl) (lb rfl) ?_
  rintro _ _ ⟨rfl, rfl⟩
  show W38 l Z (rm4 4 2 5 66) ((s, strO v) :: (v, fA .byte [y0, y1, y2, y3]) :: F) 0 0 11 #[.val (.ref s), .val (.int 3), .val (.int 4), .val (.int 4), .unset] [] (Q_c_sub_4_3_4 s v y0 y1 y2 y3 F)
  refine wp_iload_n D_jdk_42_m92_11 rfl ?_
  refine wp_if_ne D_jdk_42_m92_12 (pc'' := 22) ⟨by decide, by decide⟩ (fun h1 => ?_) (fun h1 => by exact absurd h1 (by decide))
  refine wp_iload_n D_jdk_42_m92_22 rfl ?_
  refine wp_iload_n D_jdk_42_m92_23 rfl ?_
  refine wp_isub D_jdk_42_m92_24 ?_
  rw [show ((4 : Int32) - (3 : Int32)) = (1 : Int32) from by decide]
  refine wp_istore #[.val (.ref s), .val (.int 3), .val (.int 4), .val (.int 4), .val (.int 1)] D_jdk_42_m92_25 rfl ?_
  refine wp_aload_n D_jdk_42_m92_27 rfl rfl ?_
  refine wp_virtual (c_lat l Z a0 hw s v cp fm ((v, fA .byte [y0, y1, y2, y3]) :: F) hs ) (exa_new (i := 0) rfl) D_jdk_42_m92_28 (gw hw 45 rfl) (gw hw 46 rfl) (gw hw 48 rfl) (gw hw 48 rfl) (gw hw 47 rfl) (gw hw 12 rfl) (gw hw 49 rfl) (by decide) pd_4 rfl rfl rfl (lb rfl) (lb rfl) (lb rfl) (lb rfl) ?_
  rintro _ _ ⟨rfl, rfl⟩
  show W38 l Z (rm4 4 2 5 66) ((s, strO v) :: (v, fA .byte [y0, y1, y2, y3]) :: F) 0 0 31 #[.val (.ref s), .val (.int 3), .val (.int 4), .val (.int 4), .val (.int 1)] [(.int 1)] (Q_c_sub_4_3_4 s v y0 y1 y2 y3 F)
  refine wp_if_eq D_jdk_42_m92_31 (pc'' := 47) ⟨by decide, by decide⟩ (fun h2 => by exact absurd h2 (by decide)) (fun h2 => ?_)
  refine wp_aload_n D_jdk_42_m92_34 rfl rfl ?_
  refine wp_getfield D_jdk_42_m92_35 (gw hw 29 rfl) (fld_new (i := 0) (fi := 0) rfl rfl rfl) ?_
  refine wp_iload_n D_jdk_42_m92_38 rfl ?_
  refine wp_iload D_jdk_42_m92_39 rfl ?_
  refine wp_callS (c_nst_4_3_4 l Z a0 hw s v y0 y1 y2 y3 cp fm F hs ) D_jdk_42_m92_41 (gw hw 118 rfl) (gw hw 119 rfl) (gw hw 63 rfl) (gw hw 120 rfl) (by decide) pd_13 rfl rfl rfl (lb rfl) (lb rfl) (lb rfl) (lb rfl) ?_
  rintro _ _ ⟨sa3, su4, rfl, rfl⟩
  show W38 l Z (rm4 4 2 5 66) ((su4, fA .byte [y3]) :: (sa3, strO su4) :: (s, strO v) :: (v, fA .byte [y0, y1, y2, y3]) :: F) 2 5 44 #[.val (.ref s), .val (.int 3), .val (.int 4), .val (.int 4), .val (.int 1)] [(.ref sa3)] (Q_c_sub_4_3_4 s v y0 y1 y2 y3 F)
  refine wp_goto D_jdk_42_m92_44 (pc'' := 57) ⟨by decide, by decide⟩ ?_
  refine wp_areturn D_jdk_42_m92_57 rfl rfl rfl rfl (by decide) (by decide) ?_
  exact ⟨_, _, rfl, rfl⟩
def Q_c_sb1_4_3_4 (s v : Addr) (y0 y1 y2 y3 : Int32) (F : OH) : Option Value → OH → Prop := fun w' H' => ∃ a u, w' = some (.ref a) ∧ H' = ((u, fA .byte [y3]) :: (a, strO u) :: (s, strO v) :: (v, fA .byte [y0, y1, y2, y3]) :: F)
set_option maxRecDepth 65536 in
set_option maxHeartbeats 40000000 in
theorem c_sb1_4_3_4 (l : Launch) (Z : State) (a0 : Array Value) (hw : HW Z a0) (s v : Addr) (y0 y1 y2 y3 : Int32) (cp : Int32) (fm : Value) (F : OH) (hs : Std Z cp fm) :
    Met l Z (⟨"java/lang/String", "substring", "(I)Ljava/lang/String;"⟩ : MethodName) jdk_42_method_91_code 2 (some (.object "java/lang/String")) (rm4 5 2 5 82) [(.ref s), (.int 3)] ((s, strO v) :: (v, fA .byte [y0, y1, y2, y3]) :: F) (Q_c_sb1_4_3_4 s v y0 y1 y2 y3 F) := by
  refine Met.of_wp (Ls := #[.val (.ref s), .val (.int 3)]) pn_29 (fun m => (entry_loc m _ _).trans rfl) ?_
  show W39 l Z (rm4 5 2 5 82) ((s, strO v) :: (v, fA .byte [y0, y1, y2, y3]) :: F) 0 0 0 #[.val (.ref s), .val (.int 3)] [] (Q_c_sb1_4_3_4 s v y0 y1 y2 y3 F)
  refine wp_aload_n D_jdk_42_m91_0 rfl rfl ?_
  refine wp_iload_n D_jdk_42_m91_1 rfl ?_
  refine wp_aload_n D_jdk_42_m91_2 rfl rfl ?_
  refine wp_virtual (c_len_4 l Z a0 hw s v y0 y1 y2 y3 cp fm F hs ) (exa_new (i := 0) rfl) D_jdk_42_m91_3 (gw hw 51 rfl) (gw hw 52 rfl) (gw hw 54 rfl) (gw hw 54 rfl) (gw hw 53 rfl) (gw hw 12 rfl) (gw hw 55 rfl) (by decide) pd_5 rfl rfl rfl (lb rfl) (lb rfl) (lb rfl) (lb rfl) ?_
  rintro _ _ ⟨rfl, rfl⟩
  show W39 l Z (rm4 5 2 5 82) ((s, strO v) :: (v, fA .byte [y0, y1, y2, y3]) :: F) 0 0 6 #[.val (.ref s), .val (.int 3)] [(.int 4), (.int 3), (.ref s)] (Q_c_sb1_4_3_4 s v y0 y1 y2 y3 F)
  refine wp_virtual (c_sub_4_3_4 l Z a0 hw s v y0 y1 y2 y3 cp fm F hs ) (exa_new (i := 0) rfl) D_jdk_42_m91_6 (gw hw 105 rfl) (gw hw 106 rfl) (gw hw 108 rfl) (gw hw 108 rfl) (gw hw 107 rfl) (gw hw 12 rfl) (gw hw 109 rfl) (by decide) pd_10 rfl rfl rfl (lb rfl) (lb rfl) (lb rfl) (lb rfl) ?_
  rintro _ _ ⟨sa1, su2, rfl, rfl⟩
  show W39 l Z (rm4 5 2 5 82) ((su2, fA .byte [y3]) :: (sa1, strO su2) :: (s, strO v) :: (v, fA .byte [y0, y1, y2, y3]) :: F) 2 5 9 #[.val (.ref s), .val (.int 3)] [(.ref sa1)] (Q_c_sb1_4_3_4 s v y0 y1 y2 y3 F)
  refine wp_areturn D_jdk_42_m91_9 rfl rfl rfl rfl (by decide) (by decide) ?_
  exact ⟨_, _, rfl, rfl⟩
def Q_c_fr_4_2 (s v : Addr) (y0 y1 y2 y3 : Int32) (F : OH) : Option Value → OH → Prop := fun w' H' => ∃ o a u, w' = some (.ref o) ∧ H' = ((o, fI "java/util/Optional" sg_2 [(.ref a)]) :: (u, fA .byte [y3]) :: (a, strO u) :: (s, strO v) :: (v, fA .byte [y0, y1, y2, y3]) :: F)
set_option maxRecDepth 65536 in
set_option maxHeartbeats 40000000 in
theorem c_fr_4_2 (l : Launch) (Z : State) (a0 : Array Value) (hw : HW Z a0) (s v : Addr) (y0 y1 y2 y3 : Int32) (cp : Int32) (fm : Value) (F : OH) (hs : Std Z cp fm) (hq0 : ¬ y0 = 35) (hq1 : ¬ y1 = 35) (hq2 : y2 = 35) :
    Met l Z (⟨"com/example/bylint/bylint/description/UriReferences", "fragment", "(Ljava/lang/String;)Ljava/util/Optional;"⟩ : MethodName) prog_9_method_6_code 2 (some (.object "java/util/Optional")) (rm4 6 3 6 95) [(.ref s)] ((s, strO v) :: (v, fA .byte [y0, y1, y2, y3]) :: F) (Q_c_fr_4_2 s v y0 y1 y2 y3 F) := by
  refine Met.of_wp (Ls := #[.val (.ref s), .unset]) pn_24 (fun m => (entry_loc m _ _).trans rfl) ?_
  show W25 l Z (rm4 6 3 6 95) ((s, strO v) :: (v, fA .byte [y0, y1, y2, y3]) :: F) 0 0 0 #[.val (.ref s), .unset] [] (Q_c_fr_4_2 s v y0 y1 y2 y3 F)
  refine wp_aload_n D_prog_9_m6_0 rfl rfl ?_
  refine wp_bipush 35 D_prog_9_m6_1 (by decide) ?_
  refine wp_virtual (c_si_4 l Z a0 hw s v y0 y1 y2 y3 (2 : Int32) cp fm F hs (c_ioc_4_2 l Z a0 hw s v y0 y1 y2 y3 F hq0 hq1 hq2)) (exa_new (i := 0) rfl) D_prog_9_m6_3 (gw hw 35 rfl) (gw hw 36 rfl) (gw hw 38 rfl) (gw hw 38 rfl) (gw hw 37 rfl) (gw hw 12 rfl) (gw hw 39 rfl) (by decide) pd_20 rfl rfl rfl (lb rfl) (lb rfl) (lb rfl) (lb rfl) ?_
  rintro _ _ ⟨rfl, rfl⟩
  show W25 l Z (rm4 6 3 6 95) ((s, strO v) :: (v, fA .byte [y0, y1, y2, y3]) :: F) 0 0 6 #[.val (.ref s), .unset] [(.int 2)] (Q_c_fr_4_2 s v y0 y1 y2 y3 F)
  refine wp_istore_n #[.val (.ref s), .val (.int 2)] D_prog_9_m6_6 rfl ?_
  refine wp_iload_n D_prog_9_m6_7 rfl ?_
  refine wp_if_ge D_prog_9_m6_8 (pc'' := 17) ⟨by decide, by decide⟩ (fun h1 => ?_) (fun h1 => by exact absurd h1 (by decide))
  refine wp_aload_n D_prog_9_m6_17 rfl rfl ?_
  refine wp_iload_n D_prog_9_m6_18 rfl ?_
  refine wp_iconst 1 D_prog_9_m6_19 (by decide) ?_
  refine wp_iadd D_prog_9_m6_20 ?_
  rw [show ((2 : Int32) + (1 : Int32)) = (3 : Int32) from by decide]
  refine wp_virtual (c_sb1_4_3_4 l Z a0 hw s v y0 y1 y2 y3 cp fm F hs ) (exa_new (i := 0) rfl) D_prog_9_m6_21 (gw hw 100 rfl) (gw hw 101 rfl) (gw hw 103 rfl) (gw hw 103 rfl) (gw hw 102 rfl) (gw hw 12 rfl) (gw hw 104 rfl) (by decide) pd_22 rfl rfl rfl (lb rfl) (lb rfl) (lb rfl) (lb rfl) ?_
  rintro _ _ ⟨sa2, su3, rfl, rfl⟩
  show W25 l Z (rm4 6 3 6 95) ((su3, fA .byte [y3]) :: (sa2, strO su3) :: (s, strO v) :: (v, fA .byte [y0, y1, y2, y3]) :: F) 2 5 24 #[.val (.ref s), .val (.int 2)] [(.ref sa2)] (Q_c_fr_4_2 s v y0 y1 y2 y3 F)
  refine wp_callS (c_of l Z a0 hw sa2 ((su3, fA .byte [y3]) :: (sa2, strO su3) :: (s, strO v) :: (v, fA .byte [y0, y1, y2, y3]) :: F) ) D_prog_9_m6_24 (gw hw 140 rfl) (gw hw 141 rfl) (gw hw 77 rfl) (gw hw 142 rfl) (by decide) pd_23 rfl rfl rfl (lb rfl) (lb rfl) (lb rfl) (lb rfl) ?_
  rintro _ _ ⟨o4, rfl, rfl⟩
  show W25 l Z (rm4 6 3 6 95) ((o4, fI "java/util/Optional" sg_2 [(.ref sa2)]) :: (su3, fA .byte [y3]) :: (sa2, strO su3) :: (s, strO v) :: (v, fA .byte [y0, y1, y2, y3]) :: F) 3 6 27 #[.val (.ref s), .val (.int 2)] [(.ref o4)] (Q_c_fr_4_2 s v y0 y1 y2 y3 F)
  refine wp_areturn D_prog_9_m6_27 rfl rfl rfl rfl (by decide) (by decide) ?_
  exact ⟨_, _, _, rfl, rfl⟩
set_option maxRecDepth 65536 in
set_option maxHeartbeats 40000000 in
theorem c_ioc_4_3 (l : Launch) (Z : State) (a0 : Array Value) (hw : HW Z a0) (s v : Addr) (y0 y1 y2 y3 : Int32) (F : OH) (hq0 : ¬ y0 = 35) (hq1 : ¬ y1 = 35) (hq2 : ¬ y2 = 35) (hq3 : y3 = 35) :
    Met l Z (⟨"java/lang/StringLatin1", "indexOfChar", "([BIII)I"⟩ : MethodName) jdk_43_method_23_code 6 (some .int) (rm4 0 0 0 0) [(.ref v), (.int 35), (.int 0), (.int 4)] ((s, strO v) :: (v, fA .byte [y0, y1, y2, y3]) :: F) (Q_ioc_4 s v y0 y1 y2 y3 (3 : Int32) F) := by
  refine Met.of_wp (Ls := #[.val (.ref v), .val (.int 35), .val (.int 0), .val (.int 4), .unset, .unset]) pn_20 (fun m => (entry_loc m _ _).trans rfl) ?_
  show W26 l Z (rm4 0 0 0 0) ((s, strO v) :: (v, fA .byte [y0, y1, y2, y3]) :: F) 0 0 0 #[.val (.ref v), .val (.int 35), .val (.int 0), .val (.int 4), .unset, .unset] [] (Q_ioc_4 s v y0 y1 y2 y3 (3 : Int32) F)
  refine wp_iload_n D_jdk_43_m23_0 rfl ?_
  refine wp_i2b D_jdk_43_m23_1 ?_
  rw [show (35 : Int32).toInt8.toInt32 = (35 : Int32) from by decide]
  refine wp_istore #[.val (.ref v), .val (.int 35), .val (.int 0), .val (.int 4), .val (.int 35), .unset] D_jdk_43_m23_2 rfl ?_
  refine wp_iload_n D_jdk_43_m23_4 rfl ?_
  refine wp_istore #[.val (.ref v), .val (.int 35), .val (.int 0), .val (.int 4), .val (.int 35), .val (.int 0)] D_jdk_43_m23_5 rfl ?_
  refine wp_iload D_jdk_43_m23_7 rfl ?_
  refine wp_iload_n D_jdk_43_m23_9 rfl ?_
  refine wp_icmp_ge D_jdk_43_m23_10 (pc'' := 31) ⟨by decide, by decide⟩ (fun h1 => by exact absurd h1 (by decide)) (fun h1 => ?_)
  refine wp_aload_n D_jdk_43_m23_13 rfl rfl ?_
  refine wp_iload D_jdk_43_m23_14 rfl ?_
  refine wp_baload (i := 1) (0) D_jdk_43_m23_16 rfl (by decide) (by decide) rfl ?_
  refine wp_iload D_jdk_43_m23_17 rfl ?_
  refine wp_icmp_ne D_jdk_43_m23_19 (pc'' := 25) ⟨by decide, by decide⟩ (fun h2 => ?_) (fun h2 => by exact absurd h2 hq0)
  refine wp_iinc 1 #[.val (.ref v), .val (.int 35), .val (.int 0), .val (.int 4), .val (.int 35), .val (.int 1)] D_jdk_43_m23_25 rfl rfl (by rw [show (0 : Int32) + (1 : Int32) = (1 : Int32) from by decide]; rfl) ?_
  refine wp_goto D_jdk_43_m23_28 (pc'' := 7) ⟨by decide, by decide⟩ ?_
  refine wp_iload D_jdk_43_m23_7 rfl ?_
  refine wp_iload_n D_jdk_43_m23_9 rfl ?_
  refine wp_icmp_ge D_jdk_43_m23_10 (pc'' := 31) ⟨by decide, by decide⟩ (fun h3 => by exact absurd h3 (by decide)) (fun h3 => ?_)
  refine wp_aload_n D_jdk_43_m23_13 rfl rfl ?_
  refine wp_iload D_jdk_43_m23_14 rfl ?_
  refine wp_baload (i := 1) (1) D_jdk_43_m23_16 rfl (by decide) (by decide) rfl ?_
  refine wp_iload D_jdk_43_m23_17 rfl ?_
  refine wp_icmp_ne D_jdk_43_m23_19 (pc'' := 25) ⟨by decide, by decide⟩ (fun h4 => ?_) (fun h4 => by exact absurd h4 hq1)
  refine wp_iinc 1 #[.val (.ref v), .val (.int 35), .val (.int 0), .val (.int 4), .val (.int 35), .val (.int 2)] D_jdk_43_m23_25 rfl rfl (by rw [show (1 : Int32) + (1 : Int32) = (2 : Int32) from by decide]; rfl) ?_
  refine wp_goto D_jdk_43_m23_28 (pc'' := 7) ⟨by decide, by decide⟩ ?_
  refine wp_iload D_jdk_43_m23_7 rfl ?_
  refine wp_iload_n D_jdk_43_m23_9 rfl ?_
  refine wp_icmp_ge D_jdk_43_m23_10 (pc'' := 31) ⟨by decide, by decide⟩ (fun h5 => by exact absurd h5 (by decide)) (fun h5 => ?_)
  refine wp_aload_n D_jdk_43_m23_13 rfl rfl ?_
  refine wp_iload D_jdk_43_m23_14 rfl ?_
  refine wp_baload (i := 1) (2) D_jdk_43_m23_16 rfl (by decide) (by decide) rfl ?_
  refine wp_iload D_jdk_43_m23_17 rfl ?_
  refine wp_icmp_ne D_jdk_43_m23_19 (pc'' := 25) ⟨by decide, by decide⟩ (fun h6 => ?_) (fun h6 => by exact absurd h6 hq2)
  refine wp_iinc 1 #[.val (.ref v), .val (.int 35), .val (.int 0), .val (.int 4), .val (.int 35), .val (.int 3)] D_jdk_43_m23_25 rfl rfl (by rw [show (2 : Int32) + (1 : Int32) = (3 : Int32) from by decide]; rfl) ?_
  refine wp_goto D_jdk_43_m23_28 (pc'' := 7) ⟨by decide, by decide⟩ ?_
  refine wp_iload D_jdk_43_m23_7 rfl ?_
  refine wp_iload_n D_jdk_43_m23_9 rfl ?_
  refine wp_icmp_ge D_jdk_43_m23_10 (pc'' := 31) ⟨by decide, by decide⟩ (fun h7 => by exact absurd h7 (by decide)) (fun h7 => ?_)
  refine wp_aload_n D_jdk_43_m23_13 rfl rfl ?_
  refine wp_iload D_jdk_43_m23_14 rfl ?_
  refine wp_baload (i := 1) (3) D_jdk_43_m23_16 rfl (by decide) (by decide) rfl ?_
  refine wp_iload D_jdk_43_m23_17 rfl ?_
  refine wp_icmp_ne D_jdk_43_m23_19 (pc'' := 25) ⟨by decide, by decide⟩ (fun h8 => by exact absurd hq3 h8) (fun h8 => ?_)
  refine wp_iload D_jdk_43_m23_22 rfl ?_
  refine wp_ireturn D_jdk_43_m23_24 rfl (by decide) (by decide) ?_
  exact ⟨rfl, rfl⟩
def Q_c_nst_4_4_4 (s v : Addr) (y0 y1 y2 y3 : Int32) (F : OH) : Option Value → OH → Prop := fun w' H' => ∃ a u, w' = some (.ref a) ∧ H' = ((a, strO u) :: (u, fA .byte []) :: (s, strO v) :: (v, fA .byte [y0, y1, y2, y3]) :: F)
set_option maxRecDepth 65536 in
set_option maxHeartbeats 40000000 in
theorem c_nst_4_4_4 (l : Launch) (Z : State) (a0 : Array Value) (hw : HW Z a0) (s v : Addr) (y0 y1 y2 y3 : Int32) (cp : Int32) (fm : Value) (F : OH) (hs : Std Z cp fm) :
    MetI consts_1 l Z (⟨"java/lang/StringLatin1", "newString", "([BII)Ljava/lang/String;"⟩ : MethodName) jdk_43_method_47_code 3 (some (.object "java/lang/String")) (rm4 0 2 4 0) [(.ref v), (.int 4), (.int 0)] ((s, strO v) :: (v, fA .byte [y0, y1, y2, y3]) :: F) (Q_c_nst_4_4_4 s v y0 y1 y2 y3 F) := by
  refine MetI.of_wp (Ls := #[.val (.ref v), .val (.int 4), .val (.int 0)]) pn_27 (fun m => (entry_loc m _ _).trans rfl) (own_EL l Z a0 hw) ?_
  show W29 l Z (rm4 0 2 4 0) ((s, strO v) :: (v, fA .byte [y0, y1, y2, y3]) :: F) 0 0 0 #[.val (.ref v), .val (.int 4), .val (.int 0)] [] (Q_c_nst_4_4_4 s v y0 y1 y2 y3 F)
  refine wp_iload_n D_jdk_43_m47_0 rfl ?_
  refine wp_if_ne D_jdk_43_m47_1 (pc'' := 7) ⟨by decide, by decide⟩ (fun h1 => by exact absurd h1 (by decide)) (fun h1 => ?_)
  refine wp_ldcH (n := 0) [] D_jdk_43_m47_4 (gw hw 171 rfl) (own_wS l Z a0 hw) (own_slo l Z a0 hw) (own_EL l Z a0 hw) (List.mem_of_getElem? (i := 1) rfl) ⟨by decide, by decide⟩ (by decide) (by decide) (by decide) (by decide) (by decide) ?_
  intro s2 v3
  show W29 l Z (rm4 0 2 4 0) ((s2, strO v3) :: (v3, fA .byte []) :: (s, strO v) :: (v, fA .byte [y0, y1, y2, y3]) :: F) 2 4 6 #[.val (.ref v), .val (.int 4), .val (.int 0)] [(.ref s2)] (Q_c_nst_4_4_4 s v y0 y1 y2 y3 F)
  refine wp_areturn D_jdk_43_m47_6 rfl rfl rfl rfl (by decide) (by decide) ?_
  exact ⟨_, _, rfl, rfl⟩
def Q_c_sub_4_4_4 (s v : Addr) (y0 y1 y2 y3 : Int32) (F : OH) : Option Value → OH → Prop := fun w' H' => ∃ a u, w' = some (.ref a) ∧ H' = ((a, strO u) :: (u, fA .byte []) :: (s, strO v) :: (v, fA .byte [y0, y1, y2, y3]) :: F)
set_option maxRecDepth 65536 in
set_option maxHeartbeats 40000000 in
theorem c_sub_4_4_4 (l : Launch) (Z : State) (a0 : Array Value) (hw : HW Z a0) (s v : Addr) (y0 y1 y2 y3 : Int32) (cp : Int32) (fm : Value) (F : OH) (hs : Std Z cp fm) :
    MetI consts_1 l Z (⟨"java/lang/String", "substring", "(II)Ljava/lang/String;"⟩ : MethodName) jdk_42_method_92_code 5 (some (.object "java/lang/String")) (rm4 2 2 4 29) [(.ref s), (.int 4), (.int 4)] ((s, strO v) :: (v, fA .byte [y0, y1, y2, y3]) :: F) (Q_c_sub_4_4_4 s v y0 y1 y2 y3 F) := by
  refine MetI.of_wp (Ls := #[.val (.ref s), .val (.int 4), .val (.int 4), .unset, .unset]) pn_28 (fun m => (entry_loc m _ _).trans rfl) (own_EL l Z a0 hw) ?_
  show W30 l Z (rm4 2 2 4 29) ((s, strO v) :: (v, fA .byte [y0, y1, y2, y3]) :: F) 0 0 0 #[.val (.ref s), .val (.int 4), .val (.int 4), .unset, .unset] [] (Q_c_sub_4_4_4 s v y0 y1 y2 y3 F)
  refine wp_aload_n D_jdk_42_m92_0 rfl rfl ?_
  refine wp_virtual (c_len_4 l Z a0 hw s v y0 y1 y2 y3 cp fm F hs ) (exa_new (i := 0) rfl) D_jdk_42_m92_1 (gw hw 51 rfl) (gw hw 52 rfl) (gw hw 54 rfl) (gw hw 54 rfl) (gw hw 53 rfl) (gw hw 12 rfl) (gw hw 55 rfl) (by decide) pd_5 rfl rfl rfl (lb rfl) (lb rfl) (lb rfl) (lb rfl) ?_
  rintro _ _ ⟨rfl, rfl⟩
  show W30 l Z (rm4 2 2 4 29) ((s, strO v) :: (v, fA .byte [y0, y1, y2, y3]) :: F) 0 0 4 #[.val (.ref s), .val (.int 4), .val (.int 4), .unset, .unset] [(.int 4)] (Q_c_sub_4_4_4 s v y0 y1 y2 y3 F)
  refine wp_istore_n #[.val (.ref s), .val (.int 4), .val (.int 4), .val (.int 4), .unset] D_jdk_42_m92_4 rfl ?_
  refine wp_iload_n D_jdk_42_m92_5 rfl ?_
  refine wp_iload_n D_jdk_42_m92_6 rfl ?_
  refine wp_iload_n D_jdk_42_m92_7 rfl ?_
  refine wp_callS (c_cbe l Z a0 hw 4 4 4 cp fm ((s, strO v) :: (v, fA .byte [y0, y1, y2, y3]) :: F) hs (by decide) (by decide) (by decide)) D_jdk_42_m92_8 (gw hw 110 rfl) (gw hw 111 rfl) (gw hw 12 rfl) (gw hw 112 rfl) (by decide) pd_11 rfl rfl rfl (lb rfl) (lb rfl) (lb rfl) (lb rfl) ?_
  rintro _ _ ⟨rfl, rfl⟩
  show W30 l Z (rm4 2 2 4 29) ((s, strO v) :: (v, fA .byte [y0, y1, y2, y3]) :: F) 0 0 11 #[.val (.ref s), .val (.int 4), .val (.int 4), .val (.int 4), .unset] [] (Q_c_sub_4_4_4 s v y0 y1 y2 y3 F)
  refine wp_iload_n D_jdk_42_m92_11 rfl ?_
  refine wp_if_ne D_jdk_42_m92_12 (pc'' := 22) ⟨by decide, by decide⟩ (fun h1 => ?_) (fun h1 => by exact absurd h1 (by decide))
  refine wp_iload_n D_jdk_42_m92_22 rfl ?_
  refine wp_iload_n D_jdk_42_m92_23 rfl ?_
  refine wp_isub D_jdk_42_m92_24 ?_
  rw [show ((4 : Int32) - (4 : Int32)) = (0 : Int32) from by decide]
  refine wp_istore #[.val (.ref s), .val (.int 4), .val (.int 4), .val (.int 4), .val (.int 0)] D_jdk_42_m92_25 rfl ?_
  refine wp_aload_n D_jdk_42_m92_27 rfl rfl ?_
  refine wp_virtual (c_lat l Z a0 hw s v cp fm ((v, fA .byte [y0, y1, y2, y3]) :: F) hs ) (exa_new (i := 0) rfl) D_jdk_42_m92_28 (gw hw 45 rfl) (gw hw 46 rfl) (gw hw 48 rfl) (gw hw 48 rfl) (gw hw 47 rfl) (gw hw 12 rfl) (gw hw 49 rfl) (by decide) pd_4 rfl rfl rfl (lb rfl) (lb rfl) (lb rfl) (lb rfl) ?_
  rintro _ _ ⟨rfl, rfl⟩
  show W30 l Z (rm4 2 2 4 29) ((s, strO v) :: (v, fA .byte [y0, y1, y2, y3]) :: F) 0 0 31 #[.val (.ref s), .val (.int 4), .val (.int 4), .val (.int 4), .val (.int 0)] [(.int 1)] (Q_c_sub_4_4_4 s v y0 y1 y2 y3 F)
  refine wp_if_eq D_jdk_42_m92_31 (pc'' := 47) ⟨by decide, by decide⟩ (fun h2 => by exact absurd h2 (by decide)) (fun h2 => ?_)
  refine wp_aload_n D_jdk_42_m92_34 rfl rfl ?_
  refine wp_getfield D_jdk_42_m92_35 (gw hw 29 rfl) (fld_new (i := 0) (fi := 0) rfl rfl rfl) ?_
  refine wp_iload_n D_jdk_42_m92_38 rfl ?_
  refine wp_iload D_jdk_42_m92_39 rfl ?_
  refine wp_callSI (c_nst_4_4_4 l Z a0 hw s v y0 y1 y2 y3 cp fm F hs ) (own_EL l Z a0 hw) D_jdk_42_m92_41 (gw hw 118 rfl) (gw hw 119 rfl) (gw hw 63 rfl) (gw hw 120 rfl) (by decide) pd_13 rfl rfl rfl (lb rfl) (lb rfl) (lb rfl) (lb rfl) ?_
  rintro _ _ ⟨sa3, su4, rfl, rfl⟩
  show W30 l Z (rm4 2 2 4 29) ((sa3, strO su4) :: (su4, fA .byte []) :: (s, strO v) :: (v, fA .byte [y0, y1, y2, y3]) :: F) 2 4 44 #[.val (.ref s), .val (.int 4), .val (.int 4), .val (.int 4), .val (.int 0)] [(.ref sa3)] (Q_c_sub_4_4_4 s v y0 y1 y2 y3 F)
  refine wp_goto D_jdk_42_m92_44 (pc'' := 57) ⟨by decide, by decide⟩ ?_
  refine wp_areturn D_jdk_42_m92_57 rfl rfl rfl rfl (by decide) (by decide) ?_
  exact ⟨_, _, rfl, rfl⟩
def Q_c_sb1_4_4_4 (s v : Addr) (y0 y1 y2 y3 : Int32) (F : OH) : Option Value → OH → Prop := fun w' H' => ∃ a u, w' = some (.ref a) ∧ H' = ((a, strO u) :: (u, fA .byte []) :: (s, strO v) :: (v, fA .byte [y0, y1, y2, y3]) :: F)
set_option maxRecDepth 65536 in
set_option maxHeartbeats 40000000 in
theorem c_sb1_4_4_4 (l : Launch) (Z : State) (a0 : Array Value) (hw : HW Z a0) (s v : Addr) (y0 y1 y2 y3 : Int32) (cp : Int32) (fm : Value) (F : OH) (hs : Std Z cp fm) :
    MetI consts_1 l Z (⟨"java/lang/String", "substring", "(I)Ljava/lang/String;"⟩ : MethodName) jdk_42_method_91_code 2 (some (.object "java/lang/String")) (rm4 3 2 4 45) [(.ref s), (.int 4)] ((s, strO v) :: (v, fA .byte [y0, y1, y2, y3]) :: F) (Q_c_sb1_4_4_4 s v y0 y1 y2 y3 F) := by
  refine MetI.of_wp (Ls := #[.val (.ref s), .val (.int 4)]) pn_29 (fun m => (entry_loc m _ _).trans rfl) (own_EL l Z a0 hw) ?_
  show W31 l Z (rm4 3 2 4 45) ((s, strO v) :: (v, fA .byte [y0, y1, y2, y3]) :: F) 0 0 0 #[.val (.ref s), .val (.int 4)] [] (Q_c_sb1_4_4_4 s v y0 y1 y2 y3 F)
  refine wp_aload_n D_jdk_42_m91_0 rfl rfl ?_
  refine wp_iload_n D_jdk_42_m91_1 rfl ?_
  refine wp_aload_n D_jdk_42_m91_2 rfl rfl ?_
  refine wp_virtual (c_len_4 l Z a0 hw s v y0 y1 y2 y3 cp fm F hs ) (exa_new (i := 0) rfl) D_jdk_42_m91_3 (gw hw 51 rfl) (gw hw 52 rfl) (gw hw 54 rfl) (gw hw 54 rfl) (gw hw 53 rfl) (gw hw 12 rfl) (gw hw 55 rfl) (by decide) pd_5 rfl rfl rfl (lb rfl) (lb rfl) (lb rfl) (lb rfl) ?_
  rintro _ _ ⟨rfl, rfl⟩
  show W31 l Z (rm4 3 2 4 45) ((s, strO v) :: (v, fA .byte [y0, y1, y2, y3]) :: F) 0 0 6 #[.val (.ref s), .val (.int 4)] [(.int 4), (.int 4), (.ref s)] (Q_c_sb1_4_4_4 s v y0 y1 y2 y3 F)
  refine wp_virtualI (c_sub_4_4_4 l Z a0 hw s v y0 y1 y2 y3 cp fm F hs ) (exa_new (i := 0) rfl) (own_EL l Z a0 hw) D_jdk_42_m91_6 (gw hw 105 rfl) (gw hw 106 rfl) (gw hw 108 rfl) (gw hw 108 rfl) (gw hw 107 rfl) (gw hw 12 rfl) (gw hw 109 rfl) (by decide) pd_10 rfl rfl rfl (lb rfl) (lb rfl) (lb rfl) (lb rfl) ?_
  rintro _ _ ⟨sa1, su2, rfl, rfl⟩
  show W31 l Z (rm4 3 2 4 45) ((sa1, strO su2) :: (su2, fA .byte []) :: (s, strO v) :: (v, fA .byte [y0, y1, y2, y3]) :: F) 2 4 9 #[.val (.ref s), .val (.int 4)] [(.ref sa1)] (Q_c_sb1_4_4_4 s v y0 y1 y2 y3 F)
  refine wp_areturn D_jdk_42_m91_9 rfl rfl rfl rfl (by decide) (by decide) ?_
  exact ⟨_, _, rfl, rfl⟩
def Q_c_fr_4_3 (s v : Addr) (y0 y1 y2 y3 : Int32) (F : OH) : Option Value → OH → Prop := fun w' H' => ∃ o a u, w' = some (.ref o) ∧ H' = ((o, fI "java/util/Optional" sg_2 [(.ref a)]) :: (a, strO u) :: (u, fA .byte []) :: (s, strO v) :: (v, fA .byte [y0, y1, y2, y3]) :: F)
set_option maxRecDepth 65536 in
set_option maxHeartbeats 40000000 in
theorem c_fr_4_3 (l : Launch) (Z : State) (a0 : Array Value) (hw : HW Z a0) (s v : Addr) (y0 y1 y2 y3 : Int32) (cp : Int32) (fm : Value) (F : OH) (hs : Std Z cp fm) (hq0 : ¬ y0 = 35) (hq1 : ¬ y1 = 35) (hq2 : ¬ y2 = 35) (hq3 : y3 = 35) :
    MetI consts_1 l Z (⟨"com/example/bylint/bylint/description/UriReferences", "fragment", "(Ljava/lang/String;)Ljava/util/Optional;"⟩ : MethodName) prog_9_method_6_code 2 (some (.object "java/util/Optional")) (rm4 4 3 5 59) [(.ref s)] ((s, strO v) :: (v, fA .byte [y0, y1, y2, y3]) :: F) (Q_c_fr_4_3 s v y0 y1 y2 y3 F) := by
  refine MetI.of_wp (Ls := #[.val (.ref s), .unset]) pn_24 (fun m => (entry_loc m _ _).trans rfl) (own_EL l Z a0 hw) ?_
  show W32 l Z (rm4 4 3 5 59) ((s, strO v) :: (v, fA .byte [y0, y1, y2, y3]) :: F) 0 0 0 #[.val (.ref s), .unset] [] (Q_c_fr_4_3 s v y0 y1 y2 y3 F)
  refine wp_aload_n D_prog_9_m6_0 rfl rfl ?_
  refine wp_bipush 35 D_prog_9_m6_1 (by decide) ?_
  refine wp_virtual (c_si_4 l Z a0 hw s v y0 y1 y2 y3 (3 : Int32) cp fm F hs (c_ioc_4_3 l Z a0 hw s v y0 y1 y2 y3 F hq0 hq1 hq2 hq3)) (exa_new (i := 0) rfl) D_prog_9_m6_3 (gw hw 35 rfl) (gw hw 36 rfl) (gw hw 38 rfl) (gw hw 38 rfl) (gw hw 37 rfl) (gw hw 12 rfl) (gw hw 39 rfl) (by decide) pd_20 rfl rfl rfl (lb rfl) (lb rfl) (lb rfl) (lb rfl) ?_
  rintro _ _ ⟨rfl, rfl⟩
  show W32 l Z (rm4 4 3 5 59) ((s, strO v) :: (v, fA .byte [y0, y1, y2, y3]) :: F) 0 0 6 #[.val (.ref s), .unset] [(.int 3)] (Q_c_fr_4_3 s v y0 y1 y2 y3 F)
  refine wp_istore_n #[.val (.ref s), .val (.int 3)] D_prog_9_m6_6 rfl ?_
  refine wp_iload_n D_prog_9_m6_7 rfl ?_
  refine wp_if_ge D_prog_9_m6_8 (pc'' := 17) ⟨by decide, by decide⟩ (fun h1 => ?_) (fun h1 => by exact absurd h1 (by decide))
  refine wp_aload_n D_prog_9_m6_17 rfl rfl ?_
  refine wp_iload_n D_prog_9_m6_18 rfl ?_
  refine wp_iconst 1 D_prog_9_m6_19 (by decide) ?_
  refine wp_iadd D_prog_9_m6_20 ?_
  rw [show ((3 : Int32) + (1 : Int32)) = (4 : Int32) from by decide]
  refine wp_virtualI (c_sb1_4_4_4 l Z a0 hw s v y0 y1 y2 y3 cp fm F hs ) (exa_new (i := 0) rfl) (own_EL l Z a0 hw) D_prog_9_m6_21 (gw hw 100 rfl) (gw hw 101 rfl) (gw hw 103 rfl) (gw hw 103 rfl) (gw hw 102 rfl) (gw hw 12 rfl) (gw hw 104 rfl) (by decide) pd_22 rfl rfl rfl (lb rfl) (lb rfl) (lb rfl) (lb rfl) ?_
  rintro _ _ ⟨sa2, su3, rfl, rfl⟩
  show W32 l Z (rm4 4 3 5 59) ((sa2, strO su3) :: (su3, fA .byte []) :: (s, strO v) :: (v, fA .byte [y0, y1, y2, y3]) :: F) 2 4 24 #[.val (.ref s), .val (.int 3)] [(.ref sa2)] (Q_c_fr_4_3 s v y0 y1 y2 y3 F)
  refine wp_callS (c_of l Z a0 hw sa2 ((sa2, strO su3) :: (su3, fA .byte []) :: (s, strO v) :: (v, fA .byte [y0, y1, y2, y3]) :: F) ) D_prog_9_m6_24 (gw hw 140 rfl) (gw hw 141 rfl) (gw hw 77 rfl) (gw hw 142 rfl) (by decide) pd_23 rfl rfl rfl (lb rfl) (lb rfl) (lb rfl) (lb rfl) ?_
  rintro _ _ ⟨o4, rfl, rfl⟩
  show W32 l Z (rm4 4 3 5 59) ((o4, fI "java/util/Optional" sg_2 [(.ref sa2)]) :: (sa2, strO su3) :: (su3, fA .byte []) :: (s, strO v) :: (v, fA .byte [y0, y1, y2, y3]) :: F) 3 5 27 #[.val (.ref s), .val (.int 3)] [(.ref o4)] (Q_c_fr_4_3 s v y0 y1 y2 y3 F)
  refine wp_areturn D_prog_9_m6_27 rfl rfl rfl rfl (by decide) (by decide) ?_
  exact ⟨_, _, _, rfl, rfl⟩
theorem pd_26 : parseMethodDescriptor "(I)C" = some ⟨[.int], (some .char)⟩ := by decide +kernel
theorem pd_27 : parseMethodDescriptor "(ICCCC)Ljava/lang/String;" = some ⟨[.int, .char, .char, .char, .char], (some (.object "java/lang/String"))⟩ := by decide +kernel
theorem pd_28 : parseMethodDescriptor "([C)V" = some ⟨[(.array .char)], none⟩ := by decide +kernel
theorem pd_29 : parseMethodDescriptor "(Ljava/lang/String;)Ljava/util/Optional;" = some ⟨[(.object "java/lang/String")], (some (.object "java/util/Optional"))⟩ := by decide +kernel
theorem pd_30 : parseMethodDescriptor "([CI)C" = some ⟨[(.array .char), .int], (some .char)⟩ := by decide +kernel
theorem pd_31 : parseMethodDescriptor "()Ljava/lang/Object;" = some ⟨[], (some (.object "java/lang/Object"))⟩ := by decide +kernel
theorem pd_32 : parseMethodDescriptor "(Ljava/lang/Object;)Z" = some ⟨[(.object "java/lang/Object")], (some .boolean)⟩ := by decide +kernel
theorem pn_34 : plainFor (⟨"com/example/bylint/bylint/description/UriReferencesFragmentPinLaw", "ch", "(I)C"⟩ : MethodName) = true := by first | exact plainFor_of_name (by first | (simp [plainName, overriddenIn]; done) | decide +kernel) | decide +kernel
def Q_c_ch (x : Int32) (F : OH) : Option Value → OH → Prop := fun w' H' => ∃ c, w' = some (.int c) ∧ (0 ≤ c.toInt ∧ c.toInt ≤ 255) ∧ H' = F
theorem D_m3_0 : Dc method_3_code 0 (.iload_n 0) 1 1 := ⟨by decide +kernel, rfl⟩
theorem D_m3_1 : Dc method_3_code 1 (.ldc 44) 2 3 := ⟨by decide +kernel, rfl⟩
theorem D_m3_3 : Dc method_3_code 3 (.iand) 1 4 := ⟨by decide +kernel, rfl⟩
theorem D_m3_4 : Dc method_3_code 4 (.ifCond .eq 8) 3 7 := ⟨by decide +kernel, rfl⟩
theorem D_m3_7 : Dc method_3_code 7 (.bipush 35) 2 9 := ⟨by decide +kernel, rfl⟩
theorem D_m3_9 : Dc method_3_code 9 (.goto 9) 3 12 := ⟨by decide +kernel, rfl⟩
theorem D_m3_12 : Dc method_3_code 12 (.iload_n 0) 1 13 := ⟨by decide +kernel, rfl⟩
theorem D_m3_13 : Dc method_3_code 13 (.sipush 255) 3 16 := ⟨by decide +kernel, rfl⟩
theorem D_m3_16 : Dc method_3_code 16 (.iand) 1 17 := ⟨by decide +kernel, rfl⟩
theorem D_m3_17 : Dc method_3_code 17 (.i2c) 1 18 := ⟨by decide +kernel, rfl⟩
theorem D_m3_18 : Dc method_3_code 18 (.ireturn) 1 19 := ⟨by decide +kernel, rfl⟩
abbrev W40 (l : Launch) (Z : State) := Wp none l Z "com/example/bylint/bylint/description/UriReferencesFragmentPinLaw" "ch" method_3_code 1 (some .char)
set_option maxRecDepth 65536 in
set_option maxHeartbeats 40000000 in
theorem c_ch (l : Launch) (Z : State) (a0 : Array Value) (hw : HW Z a0) (x : Int32) (F : OH) :
    Met l Z (⟨"com/example/bylint/bylint/description/UriReferencesFragmentPinLaw", "ch", "(I)C"⟩ : MethodName) method_3_code 1 (some .char) (rm4 0 0 0 0) [(.int x)] F (Q_c_ch x F) := by
  refine Met.of_wp (Ls := #[.val (.int x)]) pn_34 (fun m => (entry_loc m _ _).trans rfl) ?_
  show W40 l Z (rm4 0 0 0 0) F 0 0 0 #[.val (.int x)] [] (Q_c_ch x F)
  refine wp_iload_n D_m3_0 rfl ?_
  refine wp_ldcI D_m3_1 (gw hw 6 rfl) ?_
  refine wp_iand D_m3_3 ?_
  refine wp_if_eq D_m3_4 (pc'' := 12) ⟨by decide, by decide⟩ (fun h1 => ?_) (fun h1 => ?_)
  · skip
    refine wp_iload_n D_m3_12 rfl ?_
    refine wp_sipush 255 D_m3_13 (by decide) ?_
    refine wp_iand D_m3_16 ?_
    refine wp_i2c D_m3_17 ?_
    refine wp_ireturnN D_m3_18 rfl (by simp) (by decide) (by decide) ?_
    exact ⟨_, rfl, own_ch _, rfl⟩
  · skip
    refine wp_bipush 35 D_m3_7 (by decide) ?_
    refine wp_goto D_m3_9 (pc'' := 18) ⟨by decide, by decide⟩ ?_
    refine wp_ireturnN D_m3_18 rfl (by simp) (by decide) (by decide) ?_
    exact ⟨_, rfl, by decide, rfl⟩
theorem pn_35 : plainFor (⟨"com/example/bylint/bylint/description/UriReferencesFragmentPinLaw", "str", "(ICCCC)Ljava/lang/String;"⟩ : MethodName) = true := by first | exact plainFor_of_name (by first | (simp [plainName, overriddenIn]; done) | decide +kernel) | decide +kernel
def Q_c_str_0 (d0 d1 d2 d3 : Int32) (F : OH) : Option Value → OH → Prop := fun w' H' => ∃ z1 z2 z3 z4 a q, w' = some (.ref a) ∧ H' = ((z1, strO z2) :: (z2, fA .byte []) :: (z3, strO z4) :: (z4, fA .byte []) :: (a, strO z4) :: (q, oA .char []) :: F)
theorem D_m5_0 : Dc method_5_code 0 (.iload_n 0) 1 1 := ⟨by decide +kernel, rfl⟩
theorem D_m5_1 : Dc method_5_code 1 (.ifCond .gt 14) 3 4 := ⟨by decide +kernel, rfl⟩
theorem D_m5_4 : Dc method_5_code 4 (.new 38) 3 7 := ⟨by decide +kernel, rfl⟩
theorem D_m5_7 : Dc method_5_code 7 (.dup) 1 8 := ⟨by decide +kernel, rfl⟩
theorem D_m5_8 : Dc method_5_code 8 (.iconst 0) 1 9 := ⟨by decide +kernel, rfl⟩
theorem D_m5_9 : Dc method_5_code 9 (.newarray .char) 2 11 := ⟨by decide +kernel, rfl⟩
theorem D_m5_11 : Dc method_5_code 11 (.invokespecial 45) 3 14 := ⟨by decide +kernel, rfl⟩
theorem D_m5_14 : Dc method_5_code 14 (.areturn) 1 15 := ⟨by decide +kernel, rfl⟩
theorem D_m5_15 : Dc method_5_code 15 (.iload_n 0) 1 16 := ⟨by decide +kernel, rfl⟩
theorem D_m5_16 : Dc method_5_code 16 (.iconst 1) 1 17 := ⟨by decide +kernel, rfl⟩
theorem D_m5_17 : Dc method_5_code 17 (.if_icmp .ne 18) 3 20 := ⟨by decide +kernel, rfl⟩
theorem D_m5_20 : Dc method_5_code 20 (.new 38) 3 23 := ⟨by decide +kernel, rfl⟩
theorem D_m5_23 : Dc method_5_code 23 (.dup) 1 24 := ⟨by decide +kernel, rfl⟩
theorem D_m5_24 : Dc method_5_code 24 (.iconst 1) 1 25 := ⟨by decide +kernel, rfl⟩
theorem D_m5_25 : Dc method_5_code 25 (.newarray .char) 2 27 := ⟨by decide +kernel, rfl⟩
theorem D_m5_27 : Dc method_5_code 27 (.dup) 1 28 := ⟨by decide +kernel, rfl⟩
theorem D_m5_28 : Dc method_5_code 28 (.iconst 0) 1 29 := ⟨by decide +kernel, rfl⟩
theorem D_m5_29 : Dc method_5_code 29 (.iload_n 1) 1 30 := ⟨by decide +kernel, rfl⟩
theorem D_m5_30 : Dc method_5_code 30 (.castore) 1 31 := ⟨by decide +kernel, rfl⟩
theorem D_m5_31 : Dc method_5_code 31 (.invokespecial 45) 3 34 := ⟨by decide +kernel, rfl⟩
theorem D_m5_34 : Dc method_5_code 34 (.areturn) 1 35 := ⟨by decide +kernel, rfl⟩
theorem D_m5_35 : Dc method_5_code 35 (.iload_n 0) 1 36 := ⟨by decide +kernel, rfl⟩
theorem D_m5_36 : Dc method_5_code 36 (.iconst 2) 1 37 := ⟨by decide +kernel, rfl⟩
theorem D_m5_37 : Dc method_5_code 37 (.if_icmp .ne 22) 3 40 := ⟨by decide +kernel, rfl⟩
theorem D_m5_40 : Dc method_5_code 40 (.new 38) 3 43 := ⟨by decide +kernel, rfl⟩
theorem D_m5_43 : Dc method_5_code 43 (.dup) 1 44 := ⟨by decide +kernel, rfl⟩
theorem D_m5_44 : Dc method_5_code 44 (.iconst 2) 1 45 := ⟨by decide +kernel, rfl⟩
theorem D_m5_45 : Dc method_5_code 45 (.newarray .char) 2 47 := ⟨by decide +kernel, rfl⟩
theorem D_m5_47 : Dc method_5_code 47 (.dup) 1 48 := ⟨by decide +kernel, rfl⟩
theorem D_m5_48 : Dc method_5_code 48 (.iconst 0) 1 49 := ⟨by decide +kernel, rfl⟩
theorem D_m5_49 : Dc method_5_code 49 (.iload_n 1) 1 50 := ⟨by decide +kernel, rfl⟩
theorem D_m5_50 : Dc method_5_code 50 (.castore) 1 51 := ⟨by decide +kernel, rfl⟩
theorem D_m5_51 : Dc method_5_code 51 (.dup) 1 52 := ⟨by decide +kernel, rfl⟩
theorem D_m5_52 : Dc method_5_code 52 (.iconst 1) 1 53 := ⟨by decide +kernel, rfl⟩
theorem D_m5_53 : Dc method_5_code 53 (.iload_n 2) 1 54 := ⟨by decide +kernel, rfl⟩
theorem D_m5_54 : Dc method_5_code 54 (.castore) 1 55 := ⟨by decide +kernel, rfl⟩
theorem D_m5_55 : Dc method_5_code 55 (.invokespecial 45) 3 58 := ⟨by decide +kernel, rfl⟩
theorem D_m5_58 : Dc method_5_code 58 (.areturn) 1 59 := ⟨by decide +kernel, rfl⟩
theorem D_m5_59 : Dc method_5_code 59 (.iload_n 0) 1 60 := ⟨by decide +kernel, rfl⟩
theorem D_m5_60 : Dc method_5_code 60 (.iconst 3) 1 61 := ⟨by decide +kernel, rfl⟩
theorem D_m5_61 : Dc method_5_code 61 (.if_icmp .ne 26) 3 64 := ⟨by decide +kernel, rfl⟩
theorem D_m5_64 : Dc method_5_code 64 (.new 38) 3 67 := ⟨by decide +kernel, rfl⟩
theorem D_m5_67 : Dc method_5_code 67 (.dup) 1 68 := ⟨by decide +kernel, rfl⟩
theorem D_m5_68 : Dc method_5_code 68 (.iconst 3) 1 69 := ⟨by decide +kernel, rfl⟩
theorem D_m5_69 : Dc method_5_code 69 (.newarray .char) 2 71 := ⟨by decide +kernel, rfl⟩
theorem D_m5_71 : Dc method_5_code 71 (.dup) 1 72 := ⟨by decide +kernel, rfl⟩
theorem D_m5_72 : Dc method_5_code 72 (.iconst 0) 1 73 := ⟨by decide +kernel, rfl⟩
theorem D_m5_73 : Dc method_5_code 73 (.iload_n 1) 1 74 := ⟨by decide +kernel, rfl⟩
theorem D_m5_74 : Dc method_5_code 74 (.castore) 1 75 := ⟨by decide +kernel, rfl⟩
theorem D_m5_75 : Dc method_5_code 75 (.dup) 1 76 := ⟨by decide +kernel, rfl⟩
theorem D_m5_76 : Dc method_5_code 76 (.iconst 1) 1 77 := ⟨by decide +kernel, rfl⟩
theorem D_m5_77 : Dc method_5_code 77 (.iload_n 2) 1 78 := ⟨by decide +kernel, rfl⟩
theorem D_m5_78 : Dc method_5_code 78 (.castore) 1 79 := ⟨by decide +kernel, rfl⟩
theorem D_m5_79 : Dc method_5_code 79 (.dup) 1 80 := ⟨by decide +kernel, rfl⟩
theorem D_m5_80 : Dc method_5_code 80 (.iconst 2) 1 81 := ⟨by decide +kernel, rfl⟩
theorem D_m5_81 : Dc method_5_code 81 (.iload_n 3) 1 82 := ⟨by decide +kernel, rfl⟩
theorem D_m5_82 : Dc method_5_code 82 (.castore) 1 83 := ⟨by decide +kernel, rfl⟩
theorem D_m5_83 : Dc method_5_code 83 (.invokespecial 45) 3 86 := ⟨by decide +kernel, rfl⟩
theorem D_m5_86 : Dc method_5_code 86 (.areturn) 1 87 := ⟨by decide +kernel, rfl⟩
theorem D_m5_87 : Dc method_5_code 87 (.new 38) 3 90 := ⟨by decide +kernel, rfl⟩
theorem D_m5_90 : Dc method_5_code 90 (.dup) 1 91 := ⟨by decide +kernel, rfl⟩
theorem D_m5_91 : Dc method_5_code 91 (.iconst 4) 1 92 := ⟨by decide +kernel, rfl⟩
theorem D_m5_92 : Dc method_5_code 92 (.newarray .char) 2 94 := ⟨by decide +kernel, rfl⟩
theorem D_m5_94 : Dc method_5_code 94 (.dup) 1 95 := ⟨by decide +kernel, rfl⟩
theorem D_m5_95 : Dc method_5_code 95 (.iconst 0) 1 96 := ⟨by decide +kernel, rfl⟩
theorem D_m5_96 : Dc method_5_code 96 (.iload_n 1) 1 97 := ⟨by decide +kernel, rfl⟩
theorem D_m5_97 : Dc method_5_code 97 (.castore) 1 98 := ⟨by decide +kernel, rfl⟩
theorem D_m5_98 : Dc method_5_code 98 (.dup) 1 99 := ⟨by decide +kernel, rfl⟩
theorem D_m5_99 : Dc method_5_code 99 (.iconst 1) 1 100 := ⟨by decide +kernel, rfl⟩
theorem D_m5_100 : Dc method_5_code 100 (.iload_n 2) 1 101 := ⟨by decide +kernel, rfl⟩
theorem D_m5_101 : Dc method_5_code 101 (.castore) 1 102 := ⟨by decide +kernel, rfl⟩
theorem D_m5_102 : Dc method_5_code 102 (.dup) 1 103 := ⟨by decide +kernel, rfl⟩
theorem D_m5_103 : Dc method_5_code 103 (.iconst 2) 1 104 := ⟨by decide +kernel, rfl⟩
theorem D_m5_104 : Dc method_5_code 104 (.iload_n 3) 1 105 := ⟨by decide +kernel, rfl⟩
theorem D_m5_105 : Dc method_5_code 105 (.castore) 1 106 := ⟨by decide +kernel, rfl⟩
theorem D_m5_106 : Dc method_5_code 106 (.dup) 1 107 := ⟨by decide +kernel, rfl⟩
theorem D_m5_107 : Dc method_5_code 107 (.iconst 3) 1 108 := ⟨by decide +kernel, rfl⟩
theorem D_m5_108 : Dc method_5_code 108 (.iload 4) 2 110 := ⟨by decide +kernel, rfl⟩
theorem D_m5_110 : Dc method_5_code 110 (.castore) 1 111 := ⟨by decide +kernel, rfl⟩
theorem D_m5_111 : Dc method_5_code 111 (.invokespecial 45) 3 114 := ⟨by decide +kernel, rfl⟩
theorem D_m5_114 : Dc method_5_code 114 (.areturn) 1 115 := ⟨by decide +kernel, rfl⟩
abbrev W41 (l : Launch) (Z : State) := Wp (some consts_1) l Z "com/example/bylint/bylint/description/UriReferencesFragmentPinLaw" "str" method_5_code 5 (some (.object "java/lang/String"))
set_option maxRecDepth 65536 in
set_option maxHeartbeats 40000000 in
theorem c_str_0 (l : Launch) (Z : State) (a0 : Array Value) (hw : HW Z a0) (d0 d1 d2 d3 : Int32) (cp : Int32) (fm : Value) (F : OH) (hs : Std Z cp fm) :
    MetI consts_1 l Z (⟨"com/example/bylint/bylint/description/UriReferencesFragmentPinLaw", "str", "(ICCCC)Ljava/lang/String;"⟩ : MethodName) method_5_code 5 (some (.object "java/lang/String")) (rm4 3 6 12 43) [(.int 0), (.int d0), (.int d1), (.int d2), (.int d3)] F (Q_c_str_0 d0 d1 d2 d3 F) := by
  refine MetI.of_wp (Ls := #[.val (.int 0), .val (.int d0), .val (.int d1), .val (.int d2), .val (.int d3)]) pn_35 (fun m => (entry_loc m _ _).trans rfl) (own_EL l Z a0 hw) ?_
  show W41 l Z (rm4 3 6 12 43) F 0 0 0 #[.val (.int 0), .val (.int d0), .val (.int d1), .val (.int d2), .val (.int d3)] [] (Q_c_str_0 d0 d1 d2 d3 F)
  have S_cp := hs.1
  have hcp := hs.2.1
  refine wp_iload_n D_m5_0 rfl ?_
  refine wp_if_gt D_m5_1 (pc'' := 15) ⟨by decide, by decide⟩ (fun h1 => by exact absurd h1 (by decide)) (fun h1 => ?_)
  refine wp_new sgStr [(.null), (.int 0)] D_m5_4 (gw hw 10 rfl) (gw hw 11 rfl) (gw hw 12 rfl) (laid_sgStr l Z a0 hw) (by decide) dfl_sgStr (by decide) (by decide) ?_
  intro a2
  show W41 l Z (rm4 3 6 12 43) ((a2, oS (.null)) :: F) 1 4 7 #[.val (.int 0), .val (.int d0), .val (.int d1), .val (.int d2), .val (.int d3)] [(.ref a2)] (Q_c_str_0 d0 d1 d2 d3 F)
  refine wp_dup D_m5_7 rfl ?_
  refine wp_iconst 0 D_m5_8 (by decide) ?_
  refine wp_newarrayI (n := (0 : Int32)) (0) 0 D_m5_9 rfl rfl rfl (gw hw 1 rfl) (by decide) (by decide) (by decide) (by decide) (by decide) (by decide) ?_
  intro a3
  show W41 l Z (rm4 3 6 12 43) ((a3, oA .char []) :: (a2, oS (.null)) :: F) 2 4 11 #[.val (.int 0), .val (.int d0), .val (.int d1), .val (.int d2), .val (.int d3)] [(.ref a3), (.ref a2), (.ref a2)] (Q_c_str_0 d0 d1 d2 d3 F)
  refine Wp.swap ?_
  show W41 l Z (rm4 3 6 12 43) ((a2, oS (.null)) :: (a3, oA .char []) :: F) 2 4 11 #[.val (.int 0), .val (.int d0), .val (.int d1), .val (.int d2), .val (.int d3)] [(.ref a3), (.ref a2), (.ref a2)] (Q_c_str_0 d0 d1 d2 d3 F)
  refine wp_initI (c_si1_0 l Z a0 hw a2 a3 cp fm F hs ) (own_EL l Z a0 hw) D_m5_11 rfl (gw hw 13 rfl) (gw hw 14 rfl) (gw hw 12 rfl) (gw hw 15 rfl) (by decide) pd_28 rfl rfl rfl (lb rfl) (lb rfl) (lb rfl) (lb rfl) ?_
  rintro _ _ ⟨rfl, z4, z5, z6, z7, rfl⟩
  show W41 l Z (rm4 3 6 12 43) ((z4, strO z5) :: (z5, fA .byte []) :: (z6, strO z7) :: (z7, fA .byte []) :: (a2, oS (.ref z7)) :: (a3, oA .char []) :: F) 6 12 14 #[.val (.int 0), .val (.int d0), .val (.int d1), .val (.int d2), .val (.int d3)] [(.ref a2)] (Q_c_str_0 d0 d1 d2 d3 F)
  refine Wp.frz (i := 4) rfl ?_
  show W41 l Z (rm4 3 6 12 43) ((z4, strO z5) :: (z5, fA .byte []) :: (z6, strO z7) :: (z7, fA .byte []) :: (a2, strO z7) :: (a3, oA .char []) :: F) 6 12 14 #[.val (.int 0), .val (.int d0), .val (.int d1), .val (.int d2), .val (.int d3)] [(.ref a2)] (Q_c_str_0 d0 d1 d2 d3 F)
  refine wp_areturn D_m5_14 rfl rfl rfl rfl (by decide) (by decide) ?_
  exact ⟨_, _, _, _, _, _, rfl, rfl⟩
def Q_c_str_1 (d0 d1 d2 d3 : Int32) (F : OH) : Option Value → OH → Prop := fun w' H' => ∃ b a q, w' = some (.ref a) ∧ H' = ((b, fA .byte [(nar .byte d0.toInt8.toInt32)]) :: (a, strO b) :: (q, oA .char [d0]) :: F)
abbrev W42 (l : Launch) (Z : State) := Wp none l Z "com/example/bylint/bylint/description/UriReferencesFragmentPinLaw" "str" method_5_code 5 (some (.object "java/lang/String"))
set_option maxRecDepth 65536 in
set_option maxHeartbeats 40000000 in
theorem c_str_1 (l : Launch) (Z : State) (a0 : Array Value) (hw : HW Z a0) (d0 d1 d2 d3 : Int32) (cp : Int32) (fm : Value) (F : OH) (hs : Std Z cp fm) (hd0 : 0 ≤ d0.toInt ∧ d0.toInt ≤ 255) :
    Met l Z (⟨"com/example/bylint/bylint/description/UriReferencesFragmentPinLaw", "str", "(ICCCC)Ljava/lang/String;"⟩ : MethodName) method_5_code 5 (some (.object "java/lang/String")) (rm4 4 3 6 66) [(.int 1), (.int d0), (.int d1), (.int d2), (.int d3)] F (Q_c_str_1 d0 d1 d2 d3 F) := by
  refine Met.of_wp (Ls := #[.val (.int 1), .val (.int d0), .val (.int d1), .val (.int d2), .val (.int d3)]) pn_35 (fun m => (entry_loc m _ _).trans rfl) ?_
  show W42 l Z (rm4 4 3 6 66) F 0 0 0 #[.val (.int 1), .val (.int d0), .val (.int d1), .val (.int d2), .val (.int d3)] [] (Q_c_str_1 d0 d1 d2 d3 F)
  have S_cp := hs.1
  have hcp := hs.2.1
  refine wp_iload_n D_m5_0 rfl ?_
  refine wp_if_gt D_m5_1 (pc'' := 15) ⟨by decide, by decide⟩ (fun h1 => ?_) (fun h1 => by exact absurd h1 (by decide))
  refine wp_iload_n D_m5_15 rfl ?_
  refine wp_iconst 1 D_m5_16 (by decide) ?_
  refine wp_icmp_ne D_m5_17 (pc'' := 35) ⟨by decide, by decide⟩ (fun h2 => by exact absurd h2 (by decide)) (fun h2 => ?_)
  refine wp_new sgStr [(.null), (.int 0)] D_m5_20 (gw hw 10 rfl) (gw hw 11 rfl) (gw hw 12 rfl) (laid_sgStr l Z a0 hw) (by decide) dfl_sgStr (by decide) (by decide) ?_
  intro a3
  show W42 l Z (rm4 4 3 6 66) ((a3, oS (.null)) :: F) 1 4 23 #[.val (.int 1), .val (.int d0), .val (.int d1), .val (.int d2), .val (.int d3)] [(.ref a3)] (Q_c_str_1 d0 d1 d2 d3 F)
  refine wp_dup D_m5_23 rfl ?_
  refine wp_iconst 1 D_m5_24 (by decide) ?_
  refine wp_newarrayI (n := (1 : Int32)) (1) 1 D_m5_25 rfl rfl rfl (gw hw 1 rfl) (by decide) (by decide) (by decide) (by decide) (by decide) (by decide) ?_
  intro a4
  show W42 l Z (rm4 4 3 6 66) ((a4, oA .char [(0 : Int32)]) :: (a3, oS (.null)) :: F) 2 5 27 #[.val (.int 1), .val (.int d0), .val (.int d1), .val (.int d2), .val (.int d3)] [(.ref a4), (.ref a3), (.ref a3)] (Q_c_str_1 d0 d1 d2 d3 F)
  refine wp_dup D_m5_27 rfl ?_
  refine wp_iconst 0 D_m5_28 (by decide) ?_
  refine wp_iload_n D_m5_29 rfl ?_
  refine wp_castore (i := 0) (0) D_m5_30 rfl (by decide) (by decide) (by first | decide | exact Nat.le_of_ble_eq_true rfl | simp) ?_
  rw [own_nc d0 hd0]
  show W42 l Z (rm4 4 3 6 66) ((a4, oA .char [d0]) :: (a3, oS (.null)) :: F) 2 5 31 #[.val (.int 1), .val (.int d0), .val (.int d1), .val (.int d2), .val (.int d3)] [(.ref a4), (.ref a3), (.ref a3)] (Q_c_str_1 d0 d1 d2 d3 F)
  refine Wp.swap ?_
  show W42 l Z (rm4 4 3 6 66) ((a3, oS (.null)) :: (a4, oA .char [d0]) :: F) 2 5 31 #[.val (.int 1), .val (.int d0), .val (.int d1), .val (.int d2), .val (.int d3)] [(.ref a4), (.ref a3), (.ref a3)] (Q_c_str_1 d0 d1 d2 d3 F)
  refine wp_init (c_si1_1 l Z a0 hw a3 a4 cp d0 F S_cp hcp hd0) D_m5_31 rfl (gw hw 13 rfl) (gw hw 14 rfl) (gw hw 12 rfl) (gw hw 15 rfl) (by decide) pd_28 rfl rfl rfl (lb rfl) (lb rfl) (lb rfl) (lb rfl) ?_
  rintro _ _ ⟨rfl, b5, rfl⟩
  show W42 l Z (rm4 4 3 6 66) ((b5, oA .byte [(nar .byte d0.toInt8.toInt32)]) :: (a3, oS (.ref b5)) :: (a4, oA .char [d0]) :: F) 3 6 34 #[.val (.int 1), .val (.int d0), .val (.int d1), .val (.int d2), .val (.int d3)] [(.ref a3)] (Q_c_str_1 d0 d1 d2 d3 F)
  refine Wp.frz (i := 0) rfl ?_
  refine Wp.frz (i := 1) rfl ?_
  show W42 l Z (rm4 4 3 6 66) ((b5, fA .byte [(nar .byte d0.toInt8.toInt32)]) :: (a3, strO b5) :: (a4, oA .char [d0]) :: F) 3 6 34 #[.val (.int 1), .val (.int d0), .val (.int d1), .val (.int d2), .val (.int d3)] [(.ref a3)] (Q_c_str_1 d0 d1 d2 d3 F)
  refine wp_areturn D_m5_34 rfl rfl rfl rfl (by decide) (by decide) ?_
  exact ⟨_, _, _, rfl, rfl⟩
def Q_c_str_2 (d0 d1 d2 d3 : Int32) (F : OH) : Option Value → OH → Prop := fun w' H' => ∃ b a q, w' = some (.ref a) ∧ H' = ((b, fA .byte [(nar .byte d0.toInt8.toInt32), (nar .byte d1.toInt8.toInt32)]) :: (a, strO b) :: (q, oA .char [d0, d1]) :: F)
set_option maxRecDepth 65536 in
set_option maxHeartbeats 40000000 in
theorem c_str_2 (l : Launch) (Z : State) (a0 : Array Value) (hw : HW Z a0) (d0 d1 d2 d3 : Int32) (cp : Int32) (fm : Value) (F : OH) (hs : Std Z cp fm) (hd0 : 0 ≤ d0.toInt ∧ d0.toInt ≤ 255) (hd1 : 0 ≤ d1.toInt ∧ d1.toInt ≤ 255) :
    Met l Z (⟨"com/example/bylint/bylint/description/UriReferencesFragmentPinLaw", "str", "(ICCCC)Ljava/lang/String;"⟩ : MethodName) method_5_code 5 (some (.object "java/lang/String")) (rm4 4 3 8 66) [(.int 2), (.int d0), (.int d1), (.int d2), (.int d3)] F (Q_c_str_2 d0 d1 d2 d3 F) := by
  refine Met.of_wp (Ls := #[.val (.int 2), .val (.int d0), .val (.int d1), .val (.int d2), .val (.int d3)]) pn_35 (fun m => (entry_loc m _ _).trans rfl) ?_
  show W42 l Z (rm4 4 3 8 66) F 0 0 0 #[.val (.int 2), .val (.int d0), .val (.int d1), .val (.int d2), .val (.int d3)] [] (Q_c_str_2 d0 d1 d2 d3 F)
  have S_cp := hs.1
  have hcp := hs.2.1
  refine wp_iload_n D_m5_0 rfl ?_
  refine wp_if_gt D_m5_1 (pc'' := 15) ⟨by decide, by decide⟩ (fun h1 => ?_) (fun h1 => by exact absurd h1 (by decide))
  refine wp_iload_n D_m5_15 rfl ?_
  refine wp_iconst 1 D_m5_16 (by decide) ?_
  refine wp_icmp_ne D_m5_17 (pc'' := 35) ⟨by decide, by decide⟩ (fun h2 => ?_) (fun h2 => by exact absurd h2 (by decide))
  refine wp_iload_n D_m5_35 rfl ?_
  refine wp_iconst 2 D_m5_36 (by decide) ?_
  refine wp_icmp_ne D_m5_37 (pc'' := 59) ⟨by decide, by decide⟩ (fun h3 => by exact absurd h3 (by decide)) (fun h3 => ?_)
  refine wp_new sgStr [(.null), (.int 0)] D_m5_40 (gw hw 10 rfl) (gw hw 11 rfl) (gw hw 12 rfl) (laid_sgStr l Z a0 hw) (by decide) dfl_sgStr (by decide) (by decide) ?_
  intro a4
  show W42 l Z (rm4 4 3 8 66) ((a4, oS (.null)) :: F) 1 4 43 #[.val (.int 2), .val (.int d0), .val (.int d1), .val (.int d2), .val (.int d3)] [(.ref a4)] (Q_c_str_2 d0 d1 d2 d3 F)
  refine wp_dup D_m5_43 rfl ?_
  refine wp_iconst 2 D_m5_44 (by decide) ?_
  refine wp_newarrayI (n := (2 : Int32)) (2) 2 D_m5_45 rfl rfl rfl (gw hw 1 rfl) (by decide) (by decide) (by decide) (by decide) (by decide) (by decide) ?_
  intro a5
  show W42 l Z (rm4 4 3 8 66) ((a5, oA .char [(0 : Int32), (0 : Int32)]) :: (a4, oS (.null)) :: F) 2 6 47 #[.val (.int 2), .val (.int d0), .val (.int d1), .val (.int d2), .val (.int d3)] [(.ref a5), (.ref a4), (.ref a4)] (Q_c_str_2 d0 d1 d2 d3 F)
  refine wp_dup D_m5_47 rfl ?_
  refine wp_iconst 0 D_m5_48 (by decide) ?_
  refine wp_iload_n D_m5_49 rfl ?_
  refine wp_castore (i := 0) (0) D_m5_50 rfl (by decide) (by decide) (by first | decide | exact Nat.le_of_ble_eq_true rfl | simp) ?_
  rw [own_nc d0 hd0]
  show W42 l Z (rm4 4 3 8 66) ((a5, oA .char [d0, (0 : Int32)]) :: (a4, oS (.null)) :: F) 2 6 51 #[.val (.int 2), .val (.int d0), .val (.int d1), .val (.int d2), .val (.int d3)] [(.ref a5), (.ref a4), (.ref a4)] (Q_c_str_2 d0 d1 d2 d3 F)
  refine wp_dup D_m5_51 rfl ?_
  refine wp_iconst 1 D_m5_52 (by decide) ?_
  refine wp_iload_n D_m5_53 rfl ?_
  refine wp_castore (i := 0) (1) D_m5_54 rfl (by decide) (by decide) (by first | decide | exact Nat.le_of_ble_eq_true rfl | simp) ?_
  rw [own_nc d1 hd1]
  show W42 l Z (rm4 4 3 8 66) ((a5, oA .char [d0, d1]) :: (a4, oS (.null)) :: F) 2 6 55 #[.val (.int 2), .val (.int d0), .val (.int d1), .val (.int d2), .val (.int d3)] [(.ref a5), (.ref a4), (.ref a4)] (Q_c_str_2 d0 d1 d2 d3 F)
  refine Wp.swap ?_
  show W42 l Z (rm4 4 3 8 66) ((a4, oS (.null)) :: (a5, oA .char [d0, d1]) :: F) 2 6 55 #[.val (.int 2), .val (.int d0), .val (.int d1), .val (.int d2), .val (.int d3)] [(.ref a5), (.ref a4), (.ref a4)] (Q_c_str_2 d0 d1 d2 d3 F)
  refine wp_init (c_si1_2 l Z a0 hw a4 a5 cp d0 d1 F S_cp hcp hd0 hd1) D_m5_55 rfl (gw hw 13 rfl) (gw hw 14 rfl) (gw hw 12 rfl) (gw hw 15 rfl) (by decide) pd_28 rfl rfl rfl (lb rfl) (lb rfl) (lb rfl) (lb rfl) ?_
  rintro _ _ ⟨rfl, b6, rfl⟩
  show W42 l Z (rm4 4 3 8 66) ((b6, oA .byte [(nar .byte d0.toInt8.toInt32), (nar .byte d1.toInt8.toInt32)]) :: (a4, oS (.ref b6)) :: (a5, oA .char [d0, d1]) :: F) 3 8 58 #[.val (.int 2), .val (.int d0), .val (.int d1), .val (.int d2), .val (.int d3)] [(.ref a4)] (Q_c_str_2 d0 d1 d2 d3 F)
  refine Wp.frz (i := 0) rfl ?_
  refine Wp.frz (i := 1) rfl ?_
  show W42 l Z (rm4 4 3 8 66) ((b6, fA .byte [(nar .byte d0.toInt8.toInt32), (nar .byte d1.toInt8.toInt32)]) :: (a4, strO b6) :: (a5, oA .char [d0, d1]) :: F) 3 8 58 #[.val (.int 2), .val (.int d0), .val (.int d1), .val (.int d2), .val (.int d3)] [(.ref a4)] (Q_c_str_2 d0 d1 d2 d3 F)
  refine wp_areturn D_m5_58 rfl rfl rfl rfl (by decide) (by decide) ?_
  exact ⟨_, _, _, rfl, rfl⟩
def Q_c_str_3 (d0 d1 d2 d3 : Int32) (F : OH) : Option Value → OH → Prop := fun w' H' => ∃ b a q, w' = some (.ref a) ∧ H' = ((b, fA .byte [(nar .byte d0.toInt8.toInt32), (nar .byte d1.toInt8.toInt32), (nar .byte d2.toInt8.toInt32)]) :: (a, strO b) :: (q, oA .char [d0, d1, d2]) :: F)
set_option maxRecDepth 65536 in
set_option maxHeartbeats 40000000 in
theorem c_str_3 (l : Launch) (Z : State) (a0 : Array Value) (hw : HW Z a0) (d0 d1 d2 d3 : Int32) (cp : Int32) (fm : Value) (F : OH) (hs : Std Z cp fm) (hd0 : 0 ≤ d0.toInt ∧ d0.toInt ≤ 255) (hd1 : 0 ≤ d1.toInt ∧ d1.toInt ≤ 255) (hd2 : 0 ≤ d2.toInt ∧ d2.toInt ≤ 255) :
    Met l Z (⟨"com/example/bylint/bylint/description/UriReferencesFragmentPinLaw", "str", "(ICCCC)Ljava/lang/String;"⟩ : MethodName) method_5_code 5 (some (.object "java/lang/String")) (rm4 4 3 10 66) [(.int 3), (.int d0), (.int d1), (.int d2), (.int d3)] F (Q_c_str_3 d0 d1 d2 d3 F) := by
  refine Met.of_wp (Ls := #[.val (.int 3), .val (.int d0), .val (.int d1), .val (.int d2), .val (.int d3)]) pn_35 (fun m => (entry_loc m _ _).trans rfl) ?_
  show W42 l Z (rm4 4 3 10 66) F 0 0 0 #[.val (.int 3), .val (.int d0), .val (.int d1), .val (.int d2), .val (.int d3)] [] (Q_c_str_3 d0 d1 d2 d3 F)
  have S_cp := hs.1
  have hcp := hs.2.1
  refine wp_iload_n D_m5_0 rfl ?_
  refine wp_if_gt D_m5_1 (pc'' := 15) ⟨by decide, by decide⟩ (fun h1 => ?_) (fun h1 => by exact absurd h1 (by decide))
  refine wp_iload_n D_m5_15 rfl ?_
  refine wp_iconst 1 D_m5_16 (by decide) ?_
  refine wp_icmp_ne D_m5_17 (pc'' := 35) ⟨by decide, by decide⟩ (fun h2 => ?_) (fun h2 => by exact absurd h2 (by decide))
  refine wp_iload_n D_m5_35 rfl ?_
  refine wp_iconst 2 D_m5_36 (by decide) ?_
  refine wp_icmp_ne D_m5_37 (pc'' := 59) ⟨by decide, by decide⟩ (fun h3 => ?_) (fun h3 => by exact absurd h3 (by decide))
  refine wp_iload_n D_m5_59 rfl ?_
  refine wp_iconst 3 D_m5_60 (by decide) ?_
  refine wp_icmp_ne D_m5_61 (pc'' := 87) ⟨by decide, by decide⟩ (fun h4 => by exact absurd h4 (by decide)) (fun h4 => ?_)
  refine wp_new sgStr [(.null), (.int 0)] D_m5_64 (gw hw 10 rfl) (gw hw 11 rfl) (gw hw 12 rfl) (laid_sgStr l Z a0 hw) (by decide) dfl_sgStr (by decide) (by decide) ?_
  intro a5
  show W42 l Z (rm4 4 3 10 66) ((a5, oS (.null)) :: F) 1 4 67 #[.val (.int 3), .val (.int d0), .val (.int d1), .val (.int d2), .val (.int d3)] [(.ref a5)] (Q_c_str_3 d0 d1 d2 d3 F)
  refine wp_dup D_m5_67 rfl ?_
  refine wp_iconst 3 D_m5_68 (by decide) ?_
  refine wp_newarrayI (n := (3 : Int32)) (3) 3 D_m5_69 rfl rfl rfl (gw hw 1 rfl) (by decide) (by decide) (by decide) (by decide) (by decide) (by decide) ?_
  intro a6
  show W42 l Z (rm4 4 3 10 66) ((a6, oA .char [(0 : Int32), (0 : Int32), (0 : Int32)]) :: (a5, oS (.null)) :: F) 2 7 71 #[.val (.int 3), .val (.int d0), .val (.int d1), .val (.int d2), .val (.int d3)] [(.ref a6), (.ref a5), (.ref a5)] (Q_c_str_3 d0 d1 d2 d3 F)
  refine wp_dup D_m5_71 rfl ?_
  refine wp_iconst 0 D_m5_72 (by decide) ?_
  refine wp_iload_n D_m5_73 rfl ?_
  refine wp_castore (i := 0) (0) D_m5_74 rfl (by decide) (by decide) (by first | decide | exact Nat.le_of_ble_eq_true rfl | simp) ?_
  rw [own_nc d0 hd0]
  show W42 l Z (rm4 4 3 10 66) ((a6, oA .char [d0, (0 : Int32), (0 : Int32)]) :: (a5, oS (.null)) :: F) 2 7 75 #[.val (.int 3), .val (.int d0), .val (.int d1), .val (.int d2), .val (.int d3)] [(.ref a6), (.ref a5), (.ref a5)] (Q_c_str_3 d0 d1 d2 d3 F)
  refine wp_dup D_m5_75 rfl ?_
  refine wp_iconst 1 D_m5_76 (by decide) ?_
  refine wp_iload_n D_m5_77 rfl ?_
  refine wp_castore (i := 0) (1) D_m5_78 rfl (by decide) (by decide) (by first | decide | exact Nat.le_of_ble_eq_true rfl | simp) ?_
  rw [own_nc d1 hd1]
  show W42 l Z (rm4 4 3 10 66) ((a6, oA .char [d0, d1, (0 : Int32)]) :: (a5, oS (.null)) :: F) 2 7 79 #[.val (.int 3), .val (.int d0), .val (.int d1), .val (.int d2), .val (.int d3)] [(.ref a6), (.ref a5), (.ref a5)] (Q_c_str_3 d0 d1 d2 d3 F)
  refine wp_dup D_m5_79 rfl ?_
  refine wp_iconst 2 D_m5_80 (by decide) ?_
  refine wp_iload_n D_m5_81 rfl ?_
  refine wp_castore (i := 0) (2) D_m5_82 rfl (by decide) (by decide) (by first | decide | exact Nat.le_of_ble_eq_true rfl | simp) ?_
  rw [own_nc d2 hd2]
  show W42 l Z (rm4 4 3 10 66) ((a6, oA .char [d0, d1, d2]) :: (a5, oS (.null)) :: F) 2 7 83 #[.val (.int 3), .val (.int d0), .val (.int d1), .val (.int d2), .val (.int d3)] [(.ref a6), (.ref a5), (.ref a5)] (Q_c_str_3 d0 d1 d2 d3 F)
  refine Wp.swap ?_
  show W42 l Z (rm4 4 3 10 66) ((a5, oS (.null)) :: (a6, oA .char [d0, d1, d2]) :: F) 2 7 83 #[.val (.int 3), .val (.int d0), .val (.int d1), .val (.int d2), .val (.int d3)] [(.ref a6), (.ref a5), (.ref a5)] (Q_c_str_3 d0 d1 d2 d3 F)
  refine wp_init (c_si1_3 l Z a0 hw a5 a6 cp d0 d1 d2 F S_cp hcp hd0 hd1 hd2) D_m5_83 rfl (gw hw 13 rfl) (gw hw 14 rfl) (gw hw 12 rfl) (gw hw 15 rfl) (by decide) pd_28 rfl rfl rfl (lb rfl) (lb rfl) (lb rfl) (lb rfl) ?_
  rintro _ _ ⟨rfl, b7, rfl⟩
  show W42 l Z (rm4 4 3 10 66) ((b7, oA .byte [(nar .byte d0.toInt8.toInt32), (nar .byte d1.toInt8.toInt32), (nar .byte d2.toInt8.toInt32)]) :: (a5, oS (.ref b7)) :: (a6, oA .char [d0, d1, d2]) :: F) 3 10 86 #[.val (.int 3), .val (.int d0), .val (.int d1), .val (.int d2), .val (.int d3)] [(.ref a5)] (Q_c_str_3 d0 d1 d2 d3 F)
  refine Wp.frz (i := 0) rfl ?_
  refine Wp.frz (i := 1) rfl ?_
  show W42 l Z (rm4 4 3 10 66) ((b7, fA .byte [(nar .byte d0.toInt8.toInt32), (nar .byte d1.toInt8.toInt32), (nar .byte d2.toInt8.toInt32)]) :: (a5, strO b7) :: (a6, oA .char [d0, d1, d2]) :: F) 3 10 86 #[.val (.int 3), .val (.int d0), .val (.int d1), .val (.int d2), .val (.int d3)] [(.ref a5)] (Q_c_str_3 d0 d1 d2 d3 F)
  refine wp_areturn D_m5_86 rfl rfl rfl rfl (by decide) (by decide) ?_
  exact ⟨_, _, _, rfl, rfl⟩
def Q_c_str_4 (d0 d1 d2 d3 : Int32) (F : OH) : Option Value → OH → Prop := fun w' H' => ∃ b a q, w' = some (.ref a) ∧ H' = ((b, fA .byte [(nar .byte d0.toInt8.toInt32), (nar .byte d1.toInt8.toInt32), (nar .byte d2.toInt8.toInt32), (nar .byte d3.toInt8.toInt32)]) :: (a, strO b) :: (q, oA .char [d0, d1, d2, d3]) :: F)
set_option maxRecDepth 65536 in
set_option maxHeartbeats 40000000 in
theorem c_str_4 (l : Launch) (Z : State) (a0 : Array Value) (hw : HW Z a0) (d0 d1 d2 d3 : Int32) (cp : Int32) (fm : Value) (F : OH) (hs : Std Z cp fm) (hd0 : 0 ≤ d0.toInt ∧ d0.toInt ≤ 255) (hd1 : 0 ≤ d1.toInt ∧ d1.toInt ≤ 255) (hd2 : 0 ≤ d2.toInt ∧ d2.toInt ≤ 255) (hd3 : 0 ≤ d3.toInt ∧ d3.toInt ≤ 255) :
    Met l Z (⟨"com/example/bylint/bylint/description/UriReferencesFragmentPinLaw", "str", "(ICCCC)Ljava/lang/String;"⟩ : MethodName) method_5_code 5 (some (.object "java/lang/String")) (rm4 4 3 12 66) [(.int 4), (.int d0), (.int d1), (.int d2), (.int d3)] F (Q_c_str_4 d0 d1 d2 d3 F) := by
  refine Met.of_wp (Ls := #[.val (.int 4), .val (.int d0), .val (.int d1), .val (.int d2), .val (.int d3)]) pn_35 (fun m => (entry_loc m _ _).trans rfl) ?_
  show W42 l Z (rm4 4 3 12 66) F 0 0 0 #[.val (.int 4), .val (.int d0), .val (.int d1), .val (.int d2), .val (.int d3)] [] (Q_c_str_4 d0 d1 d2 d3 F)
  have S_cp := hs.1
  have hcp := hs.2.1
  refine wp_iload_n D_m5_0 rfl ?_
  refine wp_if_gt D_m5_1 (pc'' := 15) ⟨by decide, by decide⟩ (fun h1 => ?_) (fun h1 => by exact absurd h1 (by decide))
  refine wp_iload_n D_m5_15 rfl ?_
  refine wp_iconst 1 D_m5_16 (by decide) ?_
  refine wp_icmp_ne D_m5_17 (pc'' := 35) ⟨by decide, by decide⟩ (fun h2 => ?_) (fun h2 => by exact absurd h2 (by decide))
  refine wp_iload_n D_m5_35 rfl ?_
  refine wp_iconst 2 D_m5_36 (by decide) ?_
  refine wp_icmp_ne D_m5_37 (pc'' := 59) ⟨by decide, by decide⟩ (fun h3 => ?_) (fun h3 => by exact absurd h3 (by decide))
  refine wp_iload_n D_m5_59 rfl ?_
  refine wp_iconst 3 D_m5_60 (by decide) ?_
  refine wp_icmp_ne D_m5_61 (pc'' := 87) ⟨by decide, by decide⟩ (fun h4 => ?_) (fun h4 => by exact absurd h4 (by decide))
  refine wp_new sgStr [(.null), (.int 0)] D_m5_87 (gw hw 10 rfl) (gw hw 11 rfl) (gw hw 12 rfl) (laid_sgStr l Z a0 hw) (by decide) dfl_sgStr (by decide) (by decide) ?_
  intro a5
  show W42 l Z (rm4 4 3 12 66) ((a5, oS (.null)) :: F) 1 4 90 #[.val (.int 4), .val (.int d0), .val (.int d1), .val (.int d2), .val (.int d3)] [(.ref a5)] (Q_c_str_4 d0 d1 d2 d3 F)
  refine wp_dup D_m5_90 rfl ?_
  refine wp_iconst 4 D_m5_91 (by decide) ?_
  refine wp_newarrayI (n := (4 : Int32)) (4) 4 D_m5_92 rfl rfl rfl (gw hw 1 rfl) (by decide) (by decide) (by decide) (by decide) (by decide) (by decide) ?_
  intro a6
  show W42 l Z (rm4 4 3 12 66) ((a6, oA .char [(0 : Int32), (0 : Int32), (0 : Int32), (0 : Int32)]) :: (a5, oS (.null)) :: F) 2 8 94 #[.val (.int 4), .val (.int d0), .val (.int d1), .val (.int d2), .val (.int d3)] [(.ref a6), (.ref a5), (.ref a5)] (Q_c_str_4 d0 d1 d2 d3 F)
  refine wp_dup D_m5_94 rfl ?_
  refine wp_iconst 0 D_m5_95 (by decide) ?_
  refine wp_iload_n D_m5_96 rfl ?_
  refine wp_castore (i := 0) (0) D_m5_97 rfl (by decide) (by decide) (by first | decide | exact Nat.le_of_ble_eq_true rfl | simp) ?_
  rw [own_nc d0 hd0]
  show W42 l Z (rm4 4 3 12 66) ((a6, oA .char [d0, (0 : Int32), (0 : Int32), (0 : Int32)]) :: (a5, oS (.null)) :: F) 2 8 98 #[.val (.int 4), .val (.int d0), .val (.int d1), .val (.int d2), .val (.int d3)] [(.ref a6), (.ref a5), (.ref a5)] (Q_c_str_4 d0 d1 d2 d3 F)
  refine wp_dup D_m5_98 rfl ?_
  refine wp_iconst 1 D_m5_99 (by decide) ?_
  refine wp_iload_n D_m5_100 rfl ?_
  refine wp_castore (i := 0) (1) D_m5_101 rfl (by decide) (by decide) (by first | decide | exact Nat.le_of_ble_eq_true rfl | simp) ?_
  rw [own_nc d1 hd1]
  show W42 l Z (rm4 4 3 12 66) ((a6, oA .char [d0, d1, (0 : Int32), (0 : Int32)]) :: (a5, oS (.null)) :: F) 2 8 102 #[.val (.int 4), .val (.int d0), .val (.int d1), .val (.int d2), .val (.int d3)] [(.ref a6), (.ref a5), (.ref a5)] (Q_c_str_4 d0 d1 d2 d3 F)
  refine wp_dup D_m5_102 rfl ?_
  refine wp_iconst 2 D_m5_103 (by decide) ?_
  refine wp_iload_n D_m5_104 rfl ?_
  refine wp_castore (i := 0) (2) D_m5_105 rfl (by decide) (by decide) (by first | decide | exact Nat.le_of_ble_eq_true rfl | simp) ?_
  rw [own_nc d2 hd2]
  show W42 l Z (rm4 4 3 12 66) ((a6, oA .char [d0, d1, d2, (0 : Int32)]) :: (a5, oS (.null)) :: F) 2 8 106 #[.val (.int 4), .val (.int d0), .val (.int d1), .val (.int d2), .val (.int d3)] [(.ref a6), (.ref a5), (.ref a5)] (Q_c_str_4 d0 d1 d2 d3 F)
  refine wp_dup D_m5_106 rfl ?_
  refine wp_iconst 3 D_m5_107 (by decide) ?_
  refine wp_iload D_m5_108 rfl ?_
  refine wp_castore (i := 0) (3) D_m5_110 rfl (by decide) (by decide) (by first | decide | exact Nat.le_of_ble_eq_true rfl | simp) ?_
  rw [own_nc d3 hd3]
  show W42 l Z (rm4 4 3 12 66) ((a6, oA .char [d0, d1, d2, d3]) :: (a5, oS (.null)) :: F) 2 8 111 #[.val (.int 4), .val (.int d0), .val (.int d1), .val (.int d2), .val (.int d3)] [(.ref a6), (.ref a5), (.ref a5)] (Q_c_str_4 d0 d1 d2 d3 F)
  refine Wp.swap ?_
  show W42 l Z (rm4 4 3 12 66) ((a5, oS (.null)) :: (a6, oA .char [d0, d1, d2, d3]) :: F) 2 8 111 #[.val (.int 4), .val (.int d0), .val (.int d1), .val (.int d2), .val (.int d3)] [(.ref a6), (.ref a5), (.ref a5)] (Q_c_str_4 d0 d1 d2 d3 F)
  refine wp_init (c_si1_4 l Z a0 hw a5 a6 cp d0 d1 d2 d3 F S_cp hcp hd0 hd1 hd2 hd3) D_m5_111 rfl (gw hw 13 rfl) (gw hw 14 rfl) (gw hw 12 rfl) (gw hw 15 rfl) (by decide) pd_28 rfl rfl rfl (lb rfl) (lb rfl) (lb rfl) (lb rfl) ?_
  rintro _ _ ⟨rfl, b7, rfl⟩
  show W42 l Z (rm4 4 3 12 66) ((b7, oA .byte [(nar .byte d0.toInt8.toInt32), (nar .byte d1.toInt8.toInt32), (nar .byte d2.toInt8.toInt32), (nar .byte d3.toInt8.toInt32)]) :: (a5, oS (.ref b7)) :: (a6, oA .char [d0, d1, d2, d3]) :: F) 3 12 114 #[.val (.int 4), .val (.int d0), .val (.int d1), .val (.int d2), .val (.int d3)] [(.ref a5)] (Q_c_str_4 d0 d1 d2 d3 F)
  refine Wp.frz (i := 0) rfl ?_
  refine Wp.frz (i := 1) rfl ?_
  show W42 l Z (rm4 4 3 12 66) ((b7, fA .byte [(nar .byte d0.toInt8.toInt32), (nar .byte d1.toInt8.toInt32), (nar .byte d2.toInt8.toInt32), (nar .byte d3.toInt8.toInt32)]) :: (a5, strO b7) :: (a6, oA .char [d0, d1, d2, d3]) :: F) 3 12 114 #[.val (.int 4), .val (.int d0), .val (.int d1), .val (.int d2), .val (.int d3)] [(.ref a5)] (Q_c_str_4 d0 d1 d2 d3 F)
  refine wp_areturn D_m5_114 rfl rfl rfl rfl (by decide) (by decide) ?_
  exact ⟨_, _, _, rfl, rfl⟩
theorem pn_36 : plainFor (⟨"com/example/bylint/bylint/description/UriReferencesFragmentPinLaw", "at", "([CI)C"⟩ : MethodName) = true := by first | exact plainFor_of_name (by first | (simp [plainName, overriddenIn]; done) | decide +kernel) | decide +kernel
def Q_c_at_1 (p : Addr) (d0 d1 d2 d3 : Int32) (F : OH) : Option Value → OH → Prop := fun w' H' => w' = some (.int d1) ∧ H' = ((p, oA .char [d0, d1, d2, d3]) :: F)
theorem D_m4_0 : Dc method_4_code 0 (.iload_n 1) 1 1 := ⟨by decide +kernel, rfl⟩
theorem D_m4_1 : Dc method_4_code 1 (.iconst 4) 1 2 := ⟨by decide +kernel, rfl⟩
theorem D_m4_2 : Dc method_4_code 2 (.if_icmp .ge 9) 3 5 := ⟨by decide +kernel, rfl⟩
theorem D_m4_5 : Dc method_4_code 5 (.aload_n 0) 1 6 := ⟨by decide +kernel, rfl⟩
theorem D_m4_6 : Dc method_4_code 6 (.iload_n 1) 1 7 := ⟨by decide +kernel, rfl⟩
theorem D_m4_7 : Dc method_4_code 7 (.caload) 1 8 := ⟨by decide +kernel, rfl⟩
theorem D_m4_8 : Dc method_4_code 8 (.goto 5) 3 11 := ⟨by decide +kernel, rfl⟩
theorem D_m4_11 : Dc method_4_code 11 (.bipush 120) 2 13 := ⟨by decide +kernel, rfl⟩
theorem D_m4_13 : Dc method_4_code 13 (.ireturn) 1 14 := ⟨by decide +kernel, rfl⟩
abbrev W43 (l : Launch) (Z : State) := Wp none l Z "com/example/bylint/bylint/description/UriReferencesFragmentPinLaw" "at" method_4_code 2 (some .char)
set_option maxRecDepth 65536 in
set_option maxHeartbeats 40000000 in
theorem c_at_1 (l : Launch) (Z : State) (a0 : Array Value) (hw : HW Z a0) (p : Addr) (d0 d1 d2 d3 : Int32) (F : OH) (hd : 0 ≤ d1.toInt ∧ d1.toInt ≤ 255) :
    Met l Z (⟨"com/example/bylint/bylint/description/UriReferencesFragmentPinLaw", "at", "([CI)C"⟩ : MethodName) method_4_code 2 (some .char) (rm4 0 0 0 0) [(.ref p), (.int 1)] ((p, oA .char [d0, d1, d2, d3]) :: F) (Q_c_at_1 p d0 d1 d2 d3 F) := by
  refine Met.of_wp (Ls := #[.val (.ref p), .val (.int 1)]) pn_36 (fun m => (entry_loc m _ _).trans rfl) ?_
  show W43 l Z (rm4 0 0 0 0) ((p, oA .char [d0, d1, d2, d3]) :: F) 0 0 0 #[.val (.ref p), .val (.int 1)] [] (Q_c_at_1 p d0 d1 d2 d3 F)
  refine wp_iload_n D_m4_0 rfl ?_
  refine wp_iconst 4 D_m4_1 (by decide) ?_
  refine wp_icmp_ge D_m4_2 (pc'' := 11) ⟨by decide, by decide⟩ (fun h1 => by exact absurd h1 (by decide)) (fun h1 => ?_)
  refine wp_aload_n D_m4_5 rfl rfl ?_
  refine wp_iload_n D_m4_6 rfl ?_
  refine wp_caload (i := 0) (1) D_m4_7 rfl (by decide) (by decide) rfl ?_
  refine wp_goto D_m4_8 (pc'' := 13) ⟨by decide, by decide⟩ ?_
  refine wp_ireturnN D_m4_13 rfl (by simp) (by decide) (by decide) ?_
  exact ⟨congrArg (fun z => some (Value.int z)) (own_nc d1 hd), rfl⟩
def Q_c_at_2 (p : Addr) (d0 d1 d2 d3 : Int32) (F : OH) : Option Value → OH → Prop := fun w' H' => w' = some (.int d2) ∧ H' = ((p, oA .char [d0, d1, d2, d3]) :: F)
set_option maxRecDepth 65536 in
set_option maxHeartbeats 40000000 in
theorem c_at_2 (l : Launch) (Z : State) (a0 : Array Value) (hw : HW Z a0) (p : Addr) (d0 d1 d2 d3 : Int32) (F : OH) (hd : 0 ≤ d2.toInt ∧ d2.toInt ≤ 255) :
    Met l Z (⟨"com/example/bylint/bylint/description/UriReferencesFragmentPinLaw", "at", "([CI)C"⟩ : MethodName) method_4_code 2 (some .char) (rm4 0 0 0 0) [(.ref p), (.int 2)] ((p, oA .char [d0, d1, d2, d3]) :: F) (Q_c_at_2 p d0 d1 d2 d3 F) := by
  refine Met.of_wp (Ls := #[.val (.ref p), .val (.int 2)]) pn_36 (fun m => (entry_loc m _ _).trans rfl) ?_
  show W43 l Z (rm4 0 0 0 0) ((p, oA .char [d0, d1, d2, d3]) :: F) 0 0 0 #[.val (.ref p), .val (.int 2)] [] (Q_c_at_2 p d0 d1 d2 d3 F)
  refine wp_iload_n D_m4_0 rfl ?_
  refine wp_iconst 4 D_m4_1 (by decide) ?_
  refine wp_icmp_ge D_m4_2 (pc'' := 11) ⟨by decide, by decide⟩ (fun h1 => by exact absurd h1 (by decide)) (fun h1 => ?_)
  refine wp_aload_n D_m4_5 rfl rfl ?_
  refine wp_iload_n D_m4_6 rfl ?_
  refine wp_caload (i := 0) (2) D_m4_7 rfl (by decide) (by decide) rfl ?_
  refine wp_goto D_m4_8 (pc'' := 13) ⟨by decide, by decide⟩ ?_
  refine wp_ireturnN D_m4_13 rfl (by simp) (by decide) (by decide) ?_
  exact ⟨congrArg (fun z => some (Value.int z)) (own_nc d2 hd), rfl⟩
def Q_c_at_3 (p : Addr) (d0 d1 d2 d3 : Int32) (F : OH) : Option Value → OH → Prop := fun w' H' => w' = some (.int d3) ∧ H' = ((p, oA .char [d0, d1, d2, d3]) :: F)
set_option maxRecDepth 65536 in
set_option maxHeartbeats 40000000 in
theorem c_at_3 (l : Launch) (Z : State) (a0 : Array Value) (hw : HW Z a0) (p : Addr) (d0 d1 d2 d3 : Int32) (F : OH) (hd : 0 ≤ d3.toInt ∧ d3.toInt ≤ 255) :
    Met l Z (⟨"com/example/bylint/bylint/description/UriReferencesFragmentPinLaw", "at", "([CI)C"⟩ : MethodName) method_4_code 2 (some .char) (rm4 0 0 0 0) [(.ref p), (.int 3)] ((p, oA .char [d0, d1, d2, d3]) :: F) (Q_c_at_3 p d0 d1 d2 d3 F) := by
  refine Met.of_wp (Ls := #[.val (.ref p), .val (.int 3)]) pn_36 (fun m => (entry_loc m _ _).trans rfl) ?_
  show W43 l Z (rm4 0 0 0 0) ((p, oA .char [d0, d1, d2, d3]) :: F) 0 0 0 #[.val (.ref p), .val (.int 3)] [] (Q_c_at_3 p d0 d1 d2 d3 F)
  refine wp_iload_n D_m4_0 rfl ?_
  refine wp_iconst 4 D_m4_1 (by decide) ?_
  refine wp_icmp_ge D_m4_2 (pc'' := 11) ⟨by decide, by decide⟩ (fun h1 => by exact absurd h1 (by decide)) (fun h1 => ?_)
  refine wp_aload_n D_m4_5 rfl rfl ?_
  refine wp_iload_n D_m4_6 rfl ?_
  refine wp_caload (i := 0) (3) D_m4_7 rfl (by decide) (by decide) rfl ?_
  refine wp_goto D_m4_8 (pc'' := 13) ⟨by decide, by decide⟩ ?_
  refine wp_ireturnN D_m4_13 rfl (by simp) (by decide) (by decide) ?_
  exact ⟨congrArg (fun z => some (Value.int z)) (own_nc d3 hd), rfl⟩
def Q_c_at_4 (p : Addr) (d0 d1 d2 d3 : Int32) (F : OH) : Option Value → OH → Prop := fun w' H' => w' = some (.int 120) ∧ H' = ((p, oA .char [d0, d1, d2, d3]) :: F)
set_option maxRecDepth 65536 in
set_option maxHeartbeats 40000000 in
theorem c_at_4 (l : Launch) (Z : State) (a0 : Array Value) (hw : HW Z a0) (p : Addr) (d0 d1 d2 d3 : Int32) (F : OH) :
    Met l Z (⟨"com/example/bylint/bylint/description/UriReferencesFragmentPinLaw", "at", "([CI)C"⟩ : MethodName) method_4_code 2 (some .char) (rm4 0 0 0 0) [(.ref p), (.int 4)] ((p, oA .char [d0, d1, d2, d3]) :: F) (Q_c_at_4 p d0 d1 d2 d3 F) := by
  refine Met.of_wp (Ls := #[.val (.ref p), .val (.int 4)]) pn_36 (fun m => (entry_loc m _ _).trans rfl) ?_
  show W43 l Z (rm4 0 0 0 0) ((p, oA .char [d0, d1, d2, d3]) :: F) 0 0 0 #[.val (.ref p), .val (.int 4)] [] (Q_c_at_4 p d0 d1 d2 d3 F)
  refine wp_iload_n D_m4_0 rfl ?_
  refine wp_iconst 4 D_m4_1 (by decide) ?_
  refine wp_icmp_ge D_m4_2 (pc'' := 11) ⟨by decide, by decide⟩ (fun h1 => ?_) (fun h1 => by exact absurd h1 (by decide))
  refine wp_bipush 120 D_m4_11 (by decide) ?_
  refine wp_ireturnN D_m4_13 rfl (by simp) (by decide) (by decide) ?_
  exact ⟨rfl, rfl⟩
def Q_c_at_5 (p : Addr) (d0 d1 d2 d3 : Int32) (F : OH) : Option Value → OH → Prop := fun w' H' => w' = some (.int 120) ∧ H' = ((p, oA .char [d0, d1, d2, d3]) :: F)
set_option maxRecDepth 65536 in
set_option maxHeartbeats 40000000 in
theorem c_at_5 (l : Launch) (Z : State) (a0 : Array Value) (hw : HW Z a0) (p : Addr) (d0 d1 d2 d3 : Int32) (F : OH) :
    Met l Z (⟨"com/example/bylint/bylint/description/UriReferencesFragmentPinLaw", "at", "([CI)C"⟩ : MethodName) method_4_code 2 (some .char) (rm4 0 0 0 0) [(.ref p), (.int 5)] ((p, oA .char [d0, d1, d2, d3]) :: F) (Q_c_at_5 p d0 d1 d2 d3 F) := by
  refine Met.of_wp (Ls := #[.val (.ref p), .val (.int 5)]) pn_36 (fun m => (entry_loc m _ _).trans rfl) ?_
  show W43 l Z (rm4 0 0 0 0) ((p, oA .char [d0, d1, d2, d3]) :: F) 0 0 0 #[.val (.ref p), .val (.int 5)] [] (Q_c_at_5 p d0 d1 d2 d3 F)
  refine wp_iload_n D_m4_0 rfl ?_
  refine wp_iconst 4 D_m4_1 (by decide) ?_
  refine wp_icmp_ge D_m4_2 (pc'' := 11) ⟨by decide, by decide⟩ (fun h1 => ?_) (fun h1 => by exact absurd h1 (by decide))
  refine wp_bipush 120 D_m4_11 (by decide) ?_
  refine wp_ireturnN D_m4_13 rfl (by simp) (by decide) (by decide) ?_
  exact ⟨rfl, rfl⟩
def Q_c_at_6 (p : Addr) (d0 d1 d2 d3 : Int32) (F : OH) : Option Value → OH → Prop := fun w' H' => w' = some (.int 120) ∧ H' = ((p, oA .char [d0, d1, d2, d3]) :: F)
set_option maxRecDepth 65536 in
set_option maxHeartbeats 40000000 in
theorem c_at_6 (l : Launch) (Z : State) (a0 : Array Value) (hw : HW Z a0) (p : Addr) (d0 d1 d2 d3 : Int32) (F : OH) :
    Met l Z (⟨"com/example/bylint/bylint/description/UriReferencesFragmentPinLaw", "at", "([CI)C"⟩ : MethodName) method_4_code 2 (some .char) (rm4 0 0 0 0) [(.ref p), (.int 6)] ((p, oA .char [d0, d1, d2, d3]) :: F) (Q_c_at_6 p d0 d1 d2 d3 F) := by
  refine Met.of_wp (Ls := #[.val (.ref p), .val (.int 6)]) pn_36 (fun m => (entry_loc m _ _).trans rfl) ?_
  show W43 l Z (rm4 0 0 0 0) ((p, oA .char [d0, d1, d2, d3]) :: F) 0 0 0 #[.val (.ref p), .val (.int 6)] [] (Q_c_at_6 p d0 d1 d2 d3 F)
  refine wp_iload_n D_m4_0 rfl ?_
  refine wp_iconst 4 D_m4_1 (by decide) ?_
  refine wp_icmp_ge D_m4_2 (pc'' := 11) ⟨by decide, by decide⟩ (fun h1 => ?_) (fun h1 => by exact absurd h1 (by decide))
  refine wp_bipush 120 D_m4_11 (by decide) ?_
  refine wp_ireturnN D_m4_13 rfl (by simp) (by decide) (by decide) ?_
  exact ⟨rfl, rfl⟩
def Q_c_at_7 (p : Addr) (d0 d1 d2 d3 : Int32) (F : OH) : Option Value → OH → Prop := fun w' H' => w' = some (.int 120) ∧ H' = ((p, oA .char [d0, d1, d2, d3]) :: F)
set_option maxRecDepth 65536 in
set_option maxHeartbeats 40000000 in
theorem c_at_7 (l : Launch) (Z : State) (a0 : Array Value) (hw : HW Z a0) (p : Addr) (d0 d1 d2 d3 : Int32) (F : OH) :
    Met l Z (⟨"com/example/bylint/bylint/description/UriReferencesFragmentPinLaw", "at", "([CI)C"⟩ : MethodName) method_4_code 2 (some .char) (rm4 0 0 0 0) [(.ref p), (.int 7)] ((p, oA .char [d0, d1, d2, d3]) :: F) (Q_c_at_7 p d0 d1 d2 d3 F) := by
  refine Met.of_wp (Ls := #[.val (.ref p), .val (.int 7)]) pn_36 (fun m => (entry_loc m _ _).trans rfl) ?_
  show W43 l Z (rm4 0 0 0 0) ((p, oA .char [d0, d1, d2, d3]) :: F) 0 0 0 #[.val (.ref p), .val (.int 7)] [] (Q_c_at_7 p d0 d1 d2 d3 F)
  refine wp_iload_n D_m4_0 rfl ?_
  refine wp_iconst 4 D_m4_1 (by decide) ?_
  refine wp_icmp_ge D_m4_2 (pc'' := 11) ⟨by decide, by decide⟩ (fun h1 => ?_) (fun h1 => by exact absurd h1 (by decide))
  refine wp_bipush 120 D_m4_11 (by decide) ?_
  refine wp_ireturnN D_m4_13 rfl (by simp) (by decide) (by decide) ?_
  exact ⟨rfl, rfl⟩
theorem pn_37 : plainFor (⟨"com/example/bylint/bylint/description/UriReferencesFragmentPinLaw", "law", "(IIIII)Z"⟩ : MethodName) = true := by first | exact plainFor_of_name (by first | (simp [plainName, overriddenIn]; done) | decide +kernel) | decide +kernel
theorem own_null {args : Array Value} {s : State} {t : Term} (h : (Cond.eq t Term.null).value args s none s [] = some true) : t.eval args s none [] s = some .null := by
  cases ht : t.eval args s none [] s with
  | none => simp [Cond.value, ht] at h
  | some x => cases x <;> simp [Cond.value, Term.eval, ht] at h ⊢
theorem own_slo_o (l : Launch) (Z : State) (a0 : Array Value) (hw : HW Z a0) : Slo Z sg_2 := slo_of dfl_sg_2 (laid_sg_2 l Z a0 hw) (by decide)
theorem own_opt {args : Array Value} {s : State} {t : Term} {a : Addr} (slo : Slo s sg_2) (E : Exa s s.heap a "java/util/Optional") (e : t.eval args s none [] s = some (.ref a)) (h : (Cond.eq (Term.field t "java/util/Optional" "value" "Ljava/lang/Object;") Term.null).value args s none s [] = some true) : Sat s s.heap a (.inl ("java/util/Optional", sg_2, [.null])) := by
  have F : Fld s s.heap a "java/util/Optional" "value" "Ljava/lang/Object;" .null := Fld.start ((fld_at e).symm.trans (own_null h))
  refine ⟨E, slo, fun i f v q r => ?_⟩
  rcases i with _ | i
  · cases q; cases r; exact F
  · simp at r
def Q_law : Option Value → OH → Prop := fun v H' => v = some (.int 1)
theorem D_0 : Dc code 0 (.iload_n 0) 1 1 := ⟨at_0, rfl⟩
theorem D_1 : Dc code 1 (.ldc 7) 2 3 := ⟨at_1, rfl⟩
theorem D_3 : Dc code 3 (.iand) 1 4 := ⟨at_3, rfl⟩
theorem D_4 : Dc code 4 (.iconst 5) 1 5 := ⟨at_4, rfl⟩
theorem D_5 : Dc code 5 (.irem) 1 6 := ⟨at_5, rfl⟩
theorem D_6 : Dc code 6 (.istore 5) 2 8 := ⟨at_6, rfl⟩
theorem D_8 : Dc code 8 (.iconst 4) 1 9 := ⟨at_8, rfl⟩
theorem D_9 : Dc code 9 (.newarray .char) 2 11 := ⟨at_9, rfl⟩
theorem D_11 : Dc code 11 (.dup) 1 12 := ⟨at_11, rfl⟩
theorem D_12 : Dc code 12 (.iconst 0) 1 13 := ⟨at_12, rfl⟩
theorem D_13 : Dc code 13 (.iload_n 1) 1 14 := ⟨at_13, rfl⟩
theorem D_14 : Dc code 14 (.invokestatic 8) 3 17 := ⟨at_14, rfl⟩
theorem D_17 : Dc code 17 (.castore) 1 18 := ⟨at_17, rfl⟩
theorem D_18 : Dc code 18 (.dup) 1 19 := ⟨at_18, rfl⟩
theorem D_19 : Dc code 19 (.iconst 1) 1 20 := ⟨at_19, rfl⟩
theorem D_20 : Dc code 20 (.iload_n 2) 1 21 := ⟨at_20, rfl⟩
theorem D_21 : Dc code 21 (.invokestatic 8) 3 24 := ⟨at_21, rfl⟩
theorem D_24 : Dc code 24 (.castore) 1 25 := ⟨at_24, rfl⟩
theorem D_25 : Dc code 25 (.dup) 1 26 := ⟨at_25, rfl⟩
theorem D_26 : Dc code 26 (.iconst 2) 1 27 := ⟨at_26, rfl⟩
theorem D_27 : Dc code 27 (.iload_n 3) 1 28 := ⟨at_27, rfl⟩
theorem D_28 : Dc code 28 (.invokestatic 8) 3 31 := ⟨at_28, rfl⟩
theorem D_31 : Dc code 31 (.castore) 1 32 := ⟨at_31, rfl⟩
theorem D_32 : Dc code 32 (.dup) 1 33 := ⟨at_32, rfl⟩
theorem D_33 : Dc code 33 (.iconst 3) 1 34 := ⟨at_33, rfl⟩
theorem D_34 : Dc code 34 (.iload 4) 2 36 := ⟨at_34, rfl⟩
theorem D_36 : Dc code 36 (.invokestatic 8) 3 39 := ⟨at_36, rfl⟩
theorem D_39 : Dc code 39 (.castore) 1 40 := ⟨at_39, rfl⟩
theorem D_40 : Dc code 40 (.astore 6) 2 42 := ⟨at_40, rfl⟩
theorem D_42 : Dc code 42 (.iload 5) 2 44 := ⟨at_42, rfl⟩
theorem D_44 : Dc code 44 (.aload 6) 2 46 := ⟨at_44, rfl⟩
theorem D_46 : Dc code 46 (.iconst 0) 1 47 := ⟨at_46, rfl⟩
theorem D_47 : Dc code 47 (.caload) 1 48 := ⟨at_47, rfl⟩
theorem D_48 : Dc code 48 (.aload 6) 2 50 := ⟨at_48, rfl⟩
theorem D_50 : Dc code 50 (.iconst 1) 1 51 := ⟨at_50, rfl⟩
theorem D_51 : Dc code 51 (.caload) 1 52 := ⟨at_51, rfl⟩
theorem D_52 : Dc code 52 (.aload 6) 2 54 := ⟨at_52, rfl⟩
theorem D_54 : Dc code 54 (.iconst 2) 1 55 := ⟨at_54, rfl⟩
theorem D_55 : Dc code 55 (.caload) 1 56 := ⟨at_55, rfl⟩
theorem D_56 : Dc code 56 (.aload 6) 2 58 := ⟨at_56, rfl⟩
theorem D_58 : Dc code 58 (.iconst 3) 1 59 := ⟨at_58, rfl⟩
theorem D_59 : Dc code 59 (.caload) 1 60 := ⟨at_59, rfl⟩
theorem D_60 : Dc code 60 (.invokestatic 14) 3 63 := ⟨at_60, rfl⟩
theorem D_63 : Dc code 63 (.astore 7) 2 65 := ⟨at_63, rfl⟩
theorem D_65 : Dc code 65 (.iconst (-1)) 1 66 := ⟨at_65, rfl⟩
theorem D_66 : Dc code 66 (.istore 8) 2 68 := ⟨at_66, rfl⟩
theorem D_68 : Dc code 68 (.iload 5) 2 70 := ⟨at_68, rfl⟩
theorem D_70 : Dc code 70 (.ifCond .le 18) 3 73 := ⟨at_70, rfl⟩
theorem D_73 : Dc code 73 (.aload 6) 2 75 := ⟨at_73, rfl⟩
theorem D_75 : Dc code 75 (.iconst 0) 1 76 := ⟨at_75, rfl⟩
theorem D_76 : Dc code 76 (.caload) 1 77 := ⟨at_76, rfl⟩
theorem D_77 : Dc code 77 (.bipush 35) 2 79 := ⟨at_77, rfl⟩
theorem D_79 : Dc code 79 (.if_icmp .ne 9) 3 82 := ⟨at_79, rfl⟩
theorem D_82 : Dc code 82 (.iconst 0) 1 83 := ⟨at_82, rfl⟩
theorem D_83 : Dc code 83 (.istore 8) 2 85 := ⟨at_83, rfl⟩
theorem D_85 : Dc code 85 (.goto 63) 3 88 := ⟨at_85, rfl⟩
theorem D_88 : Dc code 88 (.iload 5) 2 90 := ⟨at_88, rfl⟩
theorem D_90 : Dc code 90 (.iconst 1) 1 91 := ⟨at_90, rfl⟩
theorem D_91 : Dc code 91 (.if_icmp .le 18) 3 94 := ⟨at_91, rfl⟩
theorem D_94 : Dc code 94 (.aload 6) 2 96 := ⟨at_94, rfl⟩
theorem D_96 : Dc code 96 (.iconst 1) 1 97 := ⟨at_96, rfl⟩
theorem D_97 : Dc code 97 (.caload) 1 98 := ⟨at_97, rfl⟩
theorem D_98 : Dc code 98 (.bipush 35) 2 100 := ⟨at_98, rfl⟩
theorem D_100 : Dc code 100 (.if_icmp .ne 9) 3 103 := ⟨at_100, rfl⟩
theorem D_103 : Dc code 103 (.iconst 1) 1 104 := ⟨at_103, rfl⟩
theorem D_104 : Dc code 104 (.istore 8) 2 106 := ⟨at_104, rfl⟩
theorem D_106 : Dc code 106 (.goto 42) 3 109 := ⟨at_106, rfl⟩
theorem D_109 : Dc code 109 (.iload 5) 2 111 := ⟨at_109, rfl⟩
theorem D_111 : Dc code 111 (.iconst 2) 1 112 := ⟨at_111, rfl⟩
theorem D_112 : Dc code 112 (.if_icmp .le 18) 3 115 := ⟨at_112, rfl⟩
theorem D_115 : Dc code 115 (.aload 6) 2 117 := ⟨at_115, rfl⟩
theorem D_117 : Dc code 117 (.iconst 2) 1 118 := ⟨at_117, rfl⟩
theorem D_118 : Dc code 118 (.caload) 1 119 := ⟨at_118, rfl⟩
theorem D_119 : Dc code 119 (.bipush 35) 2 121 := ⟨at_119, rfl⟩
theorem D_121 : Dc code 121 (.if_icmp .ne 9) 3 124 := ⟨at_121, rfl⟩
theorem D_124 : Dc code 124 (.iconst 2) 1 125 := ⟨at_124, rfl⟩
theorem D_125 : Dc code 125 (.istore 8) 2 127 := ⟨at_125, rfl⟩
theorem D_127 : Dc code 127 (.goto 21) 3 130 := ⟨at_127, rfl⟩
theorem D_130 : Dc code 130 (.iload 5) 2 132 := ⟨at_130, rfl⟩
theorem D_132 : Dc code 132 (.iconst 3) 1 133 := ⟨at_132, rfl⟩
theorem D_133 : Dc code 133 (.if_icmp .le 15) 3 136 := ⟨at_133, rfl⟩
theorem D_136 : Dc code 136 (.aload 6) 2 138 := ⟨at_136, rfl⟩
theorem D_138 : Dc code 138 (.iconst 3) 1 139 := ⟨at_138, rfl⟩
theorem D_139 : Dc code 139 (.caload) 1 140 := ⟨at_139, rfl⟩
theorem D_140 : Dc code 140 (.bipush 35) 2 142 := ⟨at_140, rfl⟩
theorem D_142 : Dc code 142 (.if_icmp .ne 6) 3 145 := ⟨at_142, rfl⟩
theorem D_145 : Dc code 145 (.iconst 3) 1 146 := ⟨at_145, rfl⟩
theorem D_146 : Dc code 146 (.istore 8) 2 148 := ⟨at_146, rfl⟩
theorem D_148 : Dc code 148 (.aload 7) 2 150 := ⟨at_148, rfl⟩
theorem D_150 : Dc code 150 (.invokestatic 18) 3 153 := ⟨at_150, rfl⟩
theorem D_153 : Dc code 153 (.astore 9) 2 155 := ⟨at_153, rfl⟩
theorem D_155 : Dc code 155 (.iload 8) 2 157 := ⟨at_155, rfl⟩
theorem D_157 : Dc code 157 (.ifCond .ge 17) 3 160 := ⟨at_157, rfl⟩
theorem D_160 : Dc code 160 (.aload 9) 2 162 := ⟨at_160, rfl⟩
theorem D_162 : Dc code 162 (.invokevirtual 24) 3 165 := ⟨at_162, rfl⟩
theorem D_165 : Dc code 165 (.ifCond .ne 7) 3 168 := ⟨at_165, rfl⟩
theorem D_168 : Dc code 168 (.iconst 1) 1 169 := ⟨at_168, rfl⟩
theorem D_169 : Dc code 169 (.goto 4) 3 172 := ⟨at_169, rfl⟩
theorem D_173 : Dc code 173 (.ireturn) 1 174 := ⟨at_173, rfl⟩
theorem D_174 : Dc code 174 (.iload 5) 2 176 := ⟨at_174, rfl⟩
theorem D_176 : Dc code 176 (.iload 8) 2 178 := ⟨at_176, rfl⟩
theorem D_178 : Dc code 178 (.isub) 1 179 := ⟨at_178, rfl⟩
theorem D_179 : Dc code 179 (.iconst 1) 1 180 := ⟨at_179, rfl⟩
theorem D_180 : Dc code 180 (.isub) 1 181 := ⟨at_180, rfl⟩
theorem D_181 : Dc code 181 (.aload 6) 2 183 := ⟨at_181, rfl⟩
theorem D_183 : Dc code 183 (.iload 8) 2 185 := ⟨at_183, rfl⟩
theorem D_185 : Dc code 185 (.iconst 1) 1 186 := ⟨at_185, rfl⟩
theorem D_186 : Dc code 186 (.iadd) 1 187 := ⟨at_186, rfl⟩
theorem D_187 : Dc code 187 (.invokestatic 30) 3 190 := ⟨at_187, rfl⟩
theorem D_190 : Dc code 190 (.aload 6) 2 192 := ⟨at_190, rfl⟩
theorem D_192 : Dc code 192 (.iload 8) 2 194 := ⟨at_192, rfl⟩
theorem D_194 : Dc code 194 (.iconst 2) 1 195 := ⟨at_194, rfl⟩
theorem D_195 : Dc code 195 (.iadd) 1 196 := ⟨at_195, rfl⟩
theorem D_196 : Dc code 196 (.invokestatic 30) 3 199 := ⟨at_196, rfl⟩
theorem D_199 : Dc code 199 (.aload 6) 2 201 := ⟨at_199, rfl⟩
theorem D_201 : Dc code 201 (.iload 8) 2 203 := ⟨at_201, rfl⟩
theorem D_203 : Dc code 203 (.iconst 3) 1 204 := ⟨at_203, rfl⟩
theorem D_204 : Dc code 204 (.iadd) 1 205 := ⟨at_204, rfl⟩
theorem D_205 : Dc code 205 (.invokestatic 30) 3 208 := ⟨at_205, rfl⟩
theorem D_208 : Dc code 208 (.aload 6) 2 210 := ⟨at_208, rfl⟩
theorem D_210 : Dc code 210 (.iload 8) 2 212 := ⟨at_210, rfl⟩
theorem D_212 : Dc code 212 (.iconst 4) 1 213 := ⟨at_212, rfl⟩
theorem D_213 : Dc code 213 (.iadd) 1 214 := ⟨at_213, rfl⟩
theorem D_214 : Dc code 214 (.invokestatic 30) 3 217 := ⟨at_214, rfl⟩
theorem D_217 : Dc code 217 (.invokestatic 14) 3 220 := ⟨at_217, rfl⟩
theorem D_220 : Dc code 220 (.astore 10) 2 222 := ⟨at_220, rfl⟩
theorem D_222 : Dc code 222 (.aload 9) 2 224 := ⟨at_222, rfl⟩
theorem D_224 : Dc code 224 (.invokevirtual 24) 3 227 := ⟨at_224, rfl⟩
theorem D_227 : Dc code 227 (.ifCond .eq 23) 3 230 := ⟨at_227, rfl⟩
theorem D_230 : Dc code 230 (.aload 9) 2 232 := ⟨at_230, rfl⟩
theorem D_232 : Dc code 232 (.invokevirtual 34) 3 235 := ⟨at_232, rfl⟩
theorem D_235 : Dc code 235 (.checkcast 38) 3 238 := ⟨at_235, rfl⟩
theorem D_238 : Dc code 238 (.aload 10) 2 240 := ⟨at_238, rfl⟩
theorem D_240 : Dc code 240 (.invokevirtual 40) 3 243 := ⟨at_240, rfl⟩
theorem D_243 : Dc code 243 (.ifCond .eq 7) 3 246 := ⟨at_243, rfl⟩
theorem D_246 : Dc code 246 (.iconst 1) 1 247 := ⟨at_246, rfl⟩
theorem D_247 : Dc code 247 (.goto 4) 3 250 := ⟨at_247, rfl⟩
theorem D_251 : Dc code 251 (.ireturn) 1 252 := ⟨at_251, rfl⟩
abbrev W44 (l : Launch) (Z : State) := Wp (some consts_1) l Z "com/example/bylint/bylint/description/UriReferencesFragmentPinLaw" "law" code maxLocals ret
set_option maxRecDepth 65536 in
set_option maxHeartbeats 40000000 in
theorem law_wp (l : Launch) (Z : State) (a0 : Array Value) (hw : HW Z a0) (g0 : Int32) (g1 : Int32) (g2 : Int32) (g3 : Int32) (g4 : Int32) (cp : Int32) (fm : Value) (aE : Addr) (hs : Std Z cp fm) (S_E : Sta Z Z.heap "java/util/Optional" "EMPTY" "Ljava/util/Optional;" (.ref aE)) (hE : Sat Z Z.heap aE (.inl ("java/util/Optional", sg_2, [.null]))) : W44 l Z room_1 [] 0 0 0 #[.val (.int g0), .val (.int g1), .val (.int g2), .val (.int g3), .val (.int g4), .unset, .unset, .unset, .unset, .unset, .unset] [] Q_law := by
  refine Wp.old hE ?_
  show W44 l Z room_1 [(aE, fI "java/util/Optional" sg_2 [(.null)])] 0 0 0 #[.val (.int g0), .val (.int g1), .val (.int g2), .val (.int g3), .val (.int g4), .unset, .unset, .unset, .unset, .unset, .unset] [] Q_law
  refine wp_iload_n D_0 rfl ?_
  refine wp_ldcI D_1 (gw hw 0 rfl) ?_
  refine wp_iand D_3 ?_
  refine wp_iconst 5 D_4 (by decide) ?_
  refine wp_irem D_5 (by decide) ?_
  generalize hg_x1 : ((g0 &&& (2147483647 : Int32)) % (5 : Int32)) = x1
  refine wp_istore #[.val (.int g0), .val (.int g1), .val (.int g2), .val (.int g3), .val (.int g4), .val (.int x1), .unset, .unset, .unset, .unset, .unset] D_6 rfl ?_
  have hs_x1 : x1 = (0 : Int32) ∨ x1 = (1 : Int32) ∨ x1 = (2 : Int32) ∨ x1 = (3 : Int32) ∨ x1 = (4 : Int32) := by
    rw [← hg_x1]; exact own_mod5 _
  rcases hs_x1 with hs_x1 | hs_x1 | hs_x1 | hs_x1 | hs_x1
  · subst hs_x1
    show W44 l Z room_1 [(aE, fI "java/util/Optional" sg_2 [(.null)])] 0 0 8 #[.val (.int g0), .val (.int g1), .val (.int g2), .val (.int g3), .val (.int g4), .val (.int 0), .unset, .unset, .unset, .unset, .unset] [] Q_law
    refine wp_iconst 4 D_8 (by decide) ?_
    refine wp_newarrayI (n := (4 : Int32)) (4) 4 D_9 rfl rfl rfl (gw hw 1 rfl) (by decide) (by decide) (by decide) (by decide) (by decide) (by decide) ?_
    intro a2
    show W44 l Z room_1 [(a2, oA .char [(0 : Int32), (0 : Int32), (0 : Int32), (0 : Int32)]), (aE, fI "java/util/Optional" sg_2 [(.null)])] 1 4 11 #[.val (.int g0), .val (.int g1), .val (.int g2), .val (.int g3), .val (.int g4), .val (.int 0), .unset, .unset, .unset, .unset, .unset] [(.ref a2)] Q_law
    refine wp_dup D_11 rfl ?_
    refine wp_iconst 0 D_12 (by decide) ?_
    refine wp_iload_n D_13 rfl ?_
    refine wp_callS (c_ch l Z a0 hw g1 [(a2, oA .char [(0 : Int32), (0 : Int32), (0 : Int32), (0 : Int32)]), (aE, fI "java/util/Optional" sg_2 [(.null)])] ) D_14 (gw hw 2 rfl) (gw hw 3 rfl) (gw hw 4 rfl) (gw hw 5 rfl) (by decide) pd_26 rfl rfl rfl (lb rfl) (lb rfl) (lb rfl) (lb rfl) ?_
    rintro _ _ ⟨c0, rfl, hc0, rfl⟩
    show W44 l Z room_1 [(a2, oA .char [(0 : Int32), (0 : Int32), (0 : Int32), (0 : Int32)]), (aE, fI "java/util/Optional" sg_2 [(.null)])] 1 4 17 #[.val (.int g0), .val (.int g1), .val (.int g2), .val (.int g3), .val (.int g4), .val (.int 0), .unset, .unset, .unset, .unset, .unset] [(.int c0), (.int 0), (.ref a2), (.ref a2)] Q_law
    refine wp_castore (i := 0) (0) D_17 rfl (by decide) (by decide) (by first | decide | exact Nat.le_of_ble_eq_true rfl | simp) ?_
    rw [own_nc c0 hc0]
    show W44 l Z room_1 [(a2, oA .char [c0, (0 : Int32), (0 : Int32), (0 : Int32)]), (aE, fI "java/util/Optional" sg_2 [(.null)])] 1 4 18 #[.val (.int g0), .val (.int g1), .val (.int g2), .val (.int g3), .val (.int g4), .val (.int 0), .unset, .unset, .unset, .unset, .unset] [(.ref a2)] Q_law
    refine wp_dup D_18 rfl ?_
    refine wp_iconst 1 D_19 (by decide) ?_
    refine wp_iload_n D_20 rfl ?_
    refine wp_callS (c_ch l Z a0 hw g2 [(a2, oA .char [c0, (0 : Int32), (0 : Int32), (0 : Int32)]), (aE, fI "java/util/Optional" sg_2 [(.null)])] ) D_21 (gw hw 2 rfl) (gw hw 3 rfl) (gw hw 4 rfl) (gw hw 5 rfl) (by decide) pd_26 rfl rfl rfl (lb rfl) (lb rfl) (lb rfl) (lb rfl) ?_
    rintro _ _ ⟨c1, rfl, hc1, rfl⟩
    show W44 l Z room_1 [(a2, oA .char [c0, (0 : Int32), (0 : Int32), (0 : Int32)]), (aE, fI "java/util/Optional" sg_2 [(.null)])] 1 4 24 #[.val (.int g0), .val (.int g1), .val (.int g2), .val (.int g3), .val (.int g4), .val (.int 0), .unset, .unset, .unset, .unset, .unset] [(.int c1), (.int 1), (.ref a2), (.ref a2)] Q_law
    refine wp_castore (i := 0) (1) D_24 rfl (by decide) (by decide) (by first | decide | exact Nat.le_of_ble_eq_true rfl | simp) ?_
    rw [own_nc c1 hc1]
    show W44 l Z room_1 [(a2, oA .char [c0, c1, (0 : Int32), (0 : Int32)]), (aE, fI "java/util/Optional" sg_2 [(.null)])] 1 4 25 #[.val (.int g0), .val (.int g1), .val (.int g2), .val (.int g3), .val (.int g4), .val (.int 0), .unset, .unset, .unset, .unset, .unset] [(.ref a2)] Q_law
    refine wp_dup D_25 rfl ?_
    refine wp_iconst 2 D_26 (by decide) ?_
    refine wp_iload_n D_27 rfl ?_
    refine wp_callS (c_ch l Z a0 hw g3 [(a2, oA .char [c0, c1, (0 : Int32), (0 : Int32)]), (aE, fI "java/util/Optional" sg_2 [(.null)])] ) D_28 (gw hw 2 rfl) (gw hw 3 rfl) (gw hw 4 rfl) (gw hw 5 rfl) (by decide) pd_26 rfl rfl rfl (lb rfl) (lb rfl) (lb rfl) (lb rfl) ?_
    rintro _ _ ⟨c2, rfl, hc2, rfl⟩
    show W44 l Z room_1 [(a2, oA .char [c0, c1, (0 : Int32), (0 : Int32)]), (aE, fI "java/util/Optional" sg_2 [(.null)])] 1 4 31 #[.val (.int g0), .val (.int g1), .val (.int g2), .val (.int g3), .val (.int g4), .val (.int 0), .unset, .unset, .unset, .unset, .unset] [(.int c2), (.int 2), (.ref a2), (.ref a2)] Q_law
    refine wp_castore (i := 0) (2) D_31 rfl (by decide) (by decide) (by first | decide | exact Nat.le_of_ble_eq_true rfl | simp) ?_
    rw [own_nc c2 hc2]
    show W44 l Z room_1 [(a2, oA .char [c0, c1, c2, (0 : Int32)]), (aE, fI "java/util/Optional" sg_2 [(.null)])] 1 4 32 #[.val (.int g0), .val (.int g1), .val (.int g2), .val (.int g3), .val (.int g4), .val (.int 0), .unset, .unset, .unset, .unset, .unset] [(.ref a2)] Q_law
    refine wp_dup D_32 rfl ?_
    refine wp_iconst 3 D_33 (by decide) ?_
    refine wp_iload D_34 rfl ?_
    refine wp_callS (c_ch l Z a0 hw g4 [(a2, oA .char [c0, c1, c2, (0 : Int32)]), (aE, fI "java/util/Optional" sg_2 [(.null)])] ) D_36 (gw hw 2 rfl) (gw hw 3 rfl) (gw hw 4 rfl) (gw hw 5 rfl) (by decide) pd_26 rfl rfl rfl (lb rfl) (lb rfl) (lb rfl) (lb rfl) ?_
    rintro _ _ ⟨c3, rfl, hc3, rfl⟩
    show W44 l Z room_1 [(a2, oA .char [c0, c1, c2, (0 : Int32)]), (aE, fI "java/util/Optional" sg_2 [(.null)])] 1 4 39 #[.val (.int g0), .val (.int g1), .val (.int g2), .val (.int g3), .val (.int g4), .val (.int 0), .unset, .unset, .unset, .unset, .unset] [(.int c3), (.int 3), (.ref a2), (.ref a2)] Q_law
    refine wp_castore (i := 0) (3) D_39 rfl (by decide) (by decide) (by first | decide | exact Nat.le_of_ble_eq_true rfl | simp) ?_
    rw [own_nc c3 hc3]
    show W44 l Z room_1 [(a2, oA .char [c0, c1, c2, c3]), (aE, fI "java/util/Optional" sg_2 [(.null)])] 1 4 40 #[.val (.int g0), .val (.int g1), .val (.int g2), .val (.int g3), .val (.int g4), .val (.int 0), .unset, .unset, .unset, .unset, .unset] [(.ref a2)] Q_law
    refine wp_astore #[.val (.int g0), .val (.int g1), .val (.int g2), .val (.int g3), .val (.int g4), .val (.int 0), .val (.ref a2), .unset, .unset, .unset, .unset] D_40 rfl rfl ?_
    refine wp_iload D_42 rfl ?_
    refine wp_aload D_44 rfl rfl ?_
    refine wp_iconst 0 D_46 (by decide) ?_
    refine wp_caload (i := 0) (0) D_47 rfl (by decide) (by decide) rfl ?_
    refine wp_aload D_48 rfl rfl ?_
    refine wp_iconst 1 D_50 (by decide) ?_
    refine wp_caload (i := 0) (1) D_51 rfl (by decide) (by decide) rfl ?_
    refine wp_aload D_52 rfl rfl ?_
    refine wp_iconst 2 D_54 (by decide) ?_
    refine wp_caload (i := 0) (2) D_55 rfl (by decide) (by decide) rfl ?_
    refine wp_aload D_56 rfl rfl ?_
    refine wp_iconst 3 D_58 (by decide) ?_
    refine wp_caload (i := 0) (3) D_59 rfl (by decide) (by decide) rfl ?_
    refine wp_callSI (c_str_0 l Z a0 hw c0 c1 c2 c3 cp fm [(a2, oA .char [c0, c1, c2, c3]), (aE, fI "java/util/Optional" sg_2 [(.null)])] hs ) (own_EL l Z a0 hw) D_60 (gw hw 7 rfl) (gw hw 8 rfl) (gw hw 4 rfl) (gw hw 9 rfl) (by decide) pd_27 rfl rfl rfl (lb rfl) (lb rfl) (lb rfl) (lb rfl) ?_
    rintro _ _ ⟨z3, z4, z5, z6, t7, q8, rfl, rfl⟩
    show W44 l Z room_1 [(z3, strO z4), (z4, fA .byte []), (z5, strO z6), (z6, fA .byte []), (t7, strO z6), (q8, oA .char []), (a2, oA .char [c0, c1, c2, c3]), (aE, fI "java/util/Optional" sg_2 [(.null)])] 7 16 63 #[.val (.int g0), .val (.int g1), .val (.int g2), .val (.int g3), .val (.int g4), .val (.int 0), .val (.ref a2), .unset, .unset, .unset, .unset] [(.ref t7)] Q_law
    refine wp_astore #[.val (.int g0), .val (.int g1), .val (.int g2), .val (.int g3), .val (.int g4), .val (.int 0), .val (.ref a2), .val (.ref t7), .unset, .unset, .unset] D_63 rfl rfl ?_
    refine wp_iconst (-1) D_65 (by decide) ?_
    refine wp_istore #[.val (.int g0), .val (.int g1), .val (.int g2), .val (.int g3), .val (.int g4), .val (.int 0), .val (.ref a2), .val (.ref t7), .val (.int (-1)), .unset, .unset] D_66 rfl ?_
    refine wp_iload D_68 rfl ?_
    refine wp_if_le D_70 (pc'' := 88) ⟨by decide, by decide⟩ (fun h9 => ?_) (fun h9 => by exact absurd h9 (by decide))
    refine wp_iload D_88 rfl ?_
    refine wp_iconst 1 D_90 (by decide) ?_
    refine wp_icmp_le D_91 (pc'' := 109) ⟨by decide, by decide⟩ (fun h10 => ?_) (fun h10 => by exact absurd h10 (by decide))
    refine wp_iload D_109 rfl ?_
    refine wp_iconst 2 D_111 (by decide) ?_
    refine wp_icmp_le D_112 (pc'' := 130) ⟨by decide, by decide⟩ (fun h11 => ?_) (fun h11 => by exact absurd h11 (by decide))
    refine wp_iload D_130 rfl ?_
    refine wp_iconst 3 D_132 (by decide) ?_
    refine wp_icmp_le D_133 (pc'' := 148) ⟨by decide, by decide⟩ (fun h12 => ?_) (fun h12 => by exact absurd h12 (by decide))
    refine wp_aload D_148 rfl rfl ?_
    refine Wp.pick [4, 3, 0, 1, 2, 5, 6, 7] (by decide) ?_
    show W44 l Z room_1 [(t7, strO z6), (z6, fA .byte []), (z3, strO z4), (z4, fA .byte []), (z5, strO z6), (q8, oA .char []), (a2, oA .char [c0, c1, c2, c3]), (aE, fI "java/util/Optional" sg_2 [(.null)])] 7 16 150 #[.val (.int g0), .val (.int g1), .val (.int g2), .val (.int g3), .val (.int g4), .val (.int 0), .val (.ref a2), .val (.ref t7), .val (.int (-1)), .unset, .unset] [(.ref t7)] Q_law
    refine wp_callS (c_fr_0_m l Z a0 hw t7 z6 aE cp fm [(z3, strO z4), (z4, fA .byte []), (z5, strO z6), (q8, oA .char []), (a2, oA .char [c0, c1, c2, c3]), (aE, fI "java/util/Optional" sg_2 [(.null)])] hs S_E ) D_150 (gw hw 31 rfl) (gw hw 32 rfl) (gw hw 33 rfl) (gw hw 34 rfl) (by decide) pd_29 rfl rfl rfl (lb rfl) (lb rfl) (lb rfl) (lb rfl) ?_
    rintro _ _ ⟨rfl, rfl⟩
    show W44 l Z room_1 [(t7, strO z6), (z6, fA .byte []), (z3, strO z4), (z4, fA .byte []), (z5, strO z6), (q8, oA .char []), (a2, oA .char [c0, c1, c2, c3]), (aE, fI "java/util/Optional" sg_2 [(.null)])] 7 16 153 #[.val (.int g0), .val (.int g1), .val (.int g2), .val (.int g3), .val (.int g4), .val (.int 0), .val (.ref a2), .val (.ref t7), .val (.int (-1)), .unset, .unset] [(.ref aE)] Q_law
    refine wp_astore #[.val (.int g0), .val (.int g1), .val (.int g2), .val (.int g3), .val (.int g4), .val (.int 0), .val (.ref a2), .val (.ref t7), .val (.int (-1)), .val (.ref aE), .unset] D_153 rfl rfl ?_
    refine wp_iload D_155 rfl ?_
    refine wp_if_ge D_157 (pc'' := 174) ⟨by decide, by decide⟩ (fun h13 => by exact absurd h13 (by decide)) (fun h13 => ?_)
    refine wp_aload D_160 rfl rfl ?_
    refine Wp.pick [7, 0, 1, 2, 3, 4, 5, 6] (by decide) ?_
    show W44 l Z room_1 [(aE, fI "java/util/Optional" sg_2 [(.null)]), (t7, strO z6), (z6, fA .byte []), (z3, strO z4), (z4, fA .byte []), (z5, strO z6), (q8, oA .char []), (a2, oA .char [c0, c1, c2, c3])] 7 16 162 #[.val (.int g0), .val (.int g1), .val (.int g2), .val (.int g3), .val (.int g4), .val (.int 0), .val (.ref a2), .val (.ref t7), .val (.int (-1)), .val (.ref aE), .unset] [(.ref aE)] Q_law
    refine wp_virtual (c_ip0 l Z a0 hw aE [(t7, strO z6), (z6, fA .byte []), (z3, strO z4), (z4, fA .byte []), (z5, strO z6), (q8, oA .char []), (a2, oA .char [c0, c1, c2, c3])] ) (exa_new (i := 0) rfl) D_162 (gw hw 80 rfl) (gw hw 81 rfl) (gw hw 83 rfl) (gw hw 83 rfl) (gw hw 82 rfl) (gw hw 77 rfl) (gw hw 84 rfl) (by decide) pd_4 rfl rfl rfl (lb rfl) (lb rfl) (lb rfl) (lb rfl) ?_
    rintro _ _ ⟨rfl, rfl⟩
    show W44 l Z room_1 [(aE, fI "java/util/Optional" sg_2 [(.null)]), (t7, strO z6), (z6, fA .byte []), (z3, strO z4), (z4, fA .byte []), (z5, strO z6), (q8, oA .char []), (a2, oA .char [c0, c1, c2, c3])] 7 16 165 #[.val (.int g0), .val (.int g1), .val (.int g2), .val (.int g3), .val (.int g4), .val (.int 0), .val (.ref a2), .val (.ref t7), .val (.int (-1)), .val (.ref aE), .unset] [(.int 0)] Q_law
    refine wp_if_ne D_165 (pc'' := 172) ⟨by decide, by decide⟩ (fun h14 => by exact absurd h14 (by decide)) (fun h14 => ?_)
    refine wp_iconst 1 D_168 (by decide) ?_
    refine wp_goto D_169 (pc'' := 173) ⟨by decide, by decide⟩ ?_
    refine wp_ireturnN D_173 rfl (by simp) (by decide) (by decide) ?_
    exact rfl
  · subst hs_x1
    show W44 l Z room_1 [(aE, fI "java/util/Optional" sg_2 [(.null)])] 0 0 8 #[.val (.int g0), .val (.int g1), .val (.int g2), .val (.int g3), .val (.int g4), .val (.int 1), .unset, .unset, .unset, .unset, .unset] [] Q_law
    refine wp_iconst 4 D_8 (by decide) ?_
    refine wp_newarrayI (n := (4 : Int32)) (4) 4 D_9 rfl rfl rfl (gw hw 1 rfl) (by decide) (by decide) (by decide) (by decide) (by decide) (by decide) ?_
    intro a15
    show W44 l Z room_1 [(a15, oA .char [(0 : Int32), (0 : Int32), (0 : Int32), (0 : Int32)]), (aE, fI "java/util/Optional" sg_2 [(.null)])] 1 4 11 #[.val (.int g0), .val (.int g1), .val (.int g2), .val (.int g3), .val (.int g4), .val (.int 1), .unset, .unset, .unset, .unset, .unset] [(.ref a15)] Q_law
    refine wp_dup D_11 rfl ?_
    refine wp_iconst 0 D_12 (by decide) ?_
    refine wp_iload_n D_13 rfl ?_
    refine wp_callS (c_ch l Z a0 hw g1 [(a15, oA .char [(0 : Int32), (0 : Int32), (0 : Int32), (0 : Int32)]), (aE, fI "java/util/Optional" sg_2 [(.null)])] ) D_14 (gw hw 2 rfl) (gw hw 3 rfl) (gw hw 4 rfl) (gw hw 5 rfl) (by decide) pd_26 rfl rfl rfl (lb rfl) (lb rfl) (lb rfl) (lb rfl) ?_
    rintro _ _ ⟨c0, rfl, hc0, rfl⟩
    show W44 l Z room_1 [(a15, oA .char [(0 : Int32), (0 : Int32), (0 : Int32), (0 : Int32)]), (aE, fI "java/util/Optional" sg_2 [(.null)])] 1 4 17 #[.val (.int g0), .val (.int g1), .val (.int g2), .val (.int g3), .val (.int g4), .val (.int 1), .unset, .unset, .unset, .unset, .unset] [(.int c0), (.int 0), (.ref a15), (.ref a15)] Q_law
    refine wp_castore (i := 0) (0) D_17 rfl (by decide) (by decide) (by first | decide | exact Nat.le_of_ble_eq_true rfl | simp) ?_
    rw [own_nc c0 hc0]
    show W44 l Z room_1 [(a15, oA .char [c0, (0 : Int32), (0 : Int32), (0 : Int32)]), (aE, fI "java/util/Optional" sg_2 [(.null)])] 1 4 18 #[.val (.int g0), .val (.int g1), .val (.int g2), .val (.int g3), .val (.int g4), .val (.int 1), .unset, .unset, .unset, .unset, .unset] [(.ref a15)] Q_law
    refine wp_dup D_18 rfl ?_
    refine wp_iconst 1 D_19 (by decide) ?_
    refine wp_iload_n D_20 rfl ?_
    refine wp_callS (c_ch l Z a0 hw g2 [(a15, oA .char [c0, (0 : Int32), (0 : Int32), (0 : Int32)]), (aE, fI "java/util/Optional" sg_2 [(.null)])] ) D_21 (gw hw 2 rfl) (gw hw 3 rfl) (gw hw 4 rfl) (gw hw 5 rfl) (by decide) pd_26 rfl rfl rfl (lb rfl) (lb rfl) (lb rfl) (lb rfl) ?_
    rintro _ _ ⟨c1, rfl, hc1, rfl⟩
    show W44 l Z room_1 [(a15, oA .char [c0, (0 : Int32), (0 : Int32), (0 : Int32)]), (aE, fI "java/util/Optional" sg_2 [(.null)])] 1 4 24 #[.val (.int g0), .val (.int g1), .val (.int g2), .val (.int g3), .val (.int g4), .val (.int 1), .unset, .unset, .unset, .unset, .unset] [(.int c1), (.int 1), (.ref a15), (.ref a15)] Q_law
    refine wp_castore (i := 0) (1) D_24 rfl (by decide) (by decide) (by first | decide | exact Nat.le_of_ble_eq_true rfl | simp) ?_
    rw [own_nc c1 hc1]
    show W44 l Z room_1 [(a15, oA .char [c0, c1, (0 : Int32), (0 : Int32)]), (aE, fI "java/util/Optional" sg_2 [(.null)])] 1 4 25 #[.val (.int g0), .val (.int g1), .val (.int g2), .val (.int g3), .val (.int g4), .val (.int 1), .unset, .unset, .unset, .unset, .unset] [(.ref a15)] Q_law
    refine wp_dup D_25 rfl ?_
    refine wp_iconst 2 D_26 (by decide) ?_
    refine wp_iload_n D_27 rfl ?_
    refine wp_callS (c_ch l Z a0 hw g3 [(a15, oA .char [c0, c1, (0 : Int32), (0 : Int32)]), (aE, fI "java/util/Optional" sg_2 [(.null)])] ) D_28 (gw hw 2 rfl) (gw hw 3 rfl) (gw hw 4 rfl) (gw hw 5 rfl) (by decide) pd_26 rfl rfl rfl (lb rfl) (lb rfl) (lb rfl) (lb rfl) ?_
    rintro _ _ ⟨c2, rfl, hc2, rfl⟩
    show W44 l Z room_1 [(a15, oA .char [c0, c1, (0 : Int32), (0 : Int32)]), (aE, fI "java/util/Optional" sg_2 [(.null)])] 1 4 31 #[.val (.int g0), .val (.int g1), .val (.int g2), .val (.int g3), .val (.int g4), .val (.int 1), .unset, .unset, .unset, .unset, .unset] [(.int c2), (.int 2), (.ref a15), (.ref a15)] Q_law
    refine wp_castore (i := 0) (2) D_31 rfl (by decide) (by decide) (by first | decide | exact Nat.le_of_ble_eq_true rfl | simp) ?_
    rw [own_nc c2 hc2]
    show W44 l Z room_1 [(a15, oA .char [c0, c1, c2, (0 : Int32)]), (aE, fI "java/util/Optional" sg_2 [(.null)])] 1 4 32 #[.val (.int g0), .val (.int g1), .val (.int g2), .val (.int g3), .val (.int g4), .val (.int 1), .unset, .unset, .unset, .unset, .unset] [(.ref a15)] Q_law
    refine wp_dup D_32 rfl ?_
    refine wp_iconst 3 D_33 (by decide) ?_
    refine wp_iload D_34 rfl ?_
    refine wp_callS (c_ch l Z a0 hw g4 [(a15, oA .char [c0, c1, c2, (0 : Int32)]), (aE, fI "java/util/Optional" sg_2 [(.null)])] ) D_36 (gw hw 2 rfl) (gw hw 3 rfl) (gw hw 4 rfl) (gw hw 5 rfl) (by decide) pd_26 rfl rfl rfl (lb rfl) (lb rfl) (lb rfl) (lb rfl) ?_
    rintro _ _ ⟨c3, rfl, hc3, rfl⟩
    show W44 l Z room_1 [(a15, oA .char [c0, c1, c2, (0 : Int32)]), (aE, fI "java/util/Optional" sg_2 [(.null)])] 1 4 39 #[.val (.int g0), .val (.int g1), .val (.int g2), .val (.int g3), .val (.int g4), .val (.int 1), .unset, .unset, .unset, .unset, .unset] [(.int c3), (.int 3), (.ref a15), (.ref a15)] Q_law
    refine wp_castore (i := 0) (3) D_39 rfl (by decide) (by decide) (by first | decide | exact Nat.le_of_ble_eq_true rfl | simp) ?_
    rw [own_nc c3 hc3]
    show W44 l Z room_1 [(a15, oA .char [c0, c1, c2, c3]), (aE, fI "java/util/Optional" sg_2 [(.null)])] 1 4 40 #[.val (.int g0), .val (.int g1), .val (.int g2), .val (.int g3), .val (.int g4), .val (.int 1), .unset, .unset, .unset, .unset, .unset] [(.ref a15)] Q_law
    refine wp_astore #[.val (.int g0), .val (.int g1), .val (.int g2), .val (.int g3), .val (.int g4), .val (.int 1), .val (.ref a15), .unset, .unset, .unset, .unset] D_40 rfl rfl ?_
    refine wp_iload D_42 rfl ?_
    refine wp_aload D_44 rfl rfl ?_
    refine wp_iconst 0 D_46 (by decide) ?_
    refine wp_caload (i := 0) (0) D_47 rfl (by decide) (by decide) rfl ?_
    refine wp_aload D_48 rfl rfl ?_
    refine wp_iconst 1 D_50 (by decide) ?_
    refine wp_caload (i := 0) (1) D_51 rfl (by decide) (by decide) rfl ?_
    refine wp_aload D_52 rfl rfl ?_
    refine wp_iconst 2 D_54 (by decide) ?_
    refine wp_caload (i := 0) (2) D_55 rfl (by decide) (by decide) rfl ?_
    refine wp_aload D_56 rfl rfl ?_
    refine wp_iconst 3 D_58 (by decide) ?_
    refine wp_caload (i := 0) (3) D_59 rfl (by decide) (by decide) rfl ?_
    refine wp_callS (c_str_1 l Z a0 hw c0 c1 c2 c3 cp fm [(a15, oA .char [c0, c1, c2, c3]), (aE, fI "java/util/Optional" sg_2 [(.null)])] hs hc0) D_60 (gw hw 7 rfl) (gw hw 8 rfl) (gw hw 4 rfl) (gw hw 9 rfl) (by decide) pd_27 rfl rfl rfl (lb rfl) (lb rfl) (lb rfl) (lb rfl) ?_
    rintro _ _ ⟨b16, t17, q18, rfl, rfl⟩
    show W44 l Z room_1 [(b16, fA .byte [(nar .byte c0.toInt8.toInt32)]), (t17, strO b16), (q18, oA .char [c0]), (a15, oA .char [c0, c1, c2, c3]), (aE, fI "java/util/Optional" sg_2 [(.null)])] 4 10 63 #[.val (.int g0), .val (.int g1), .val (.int g2), .val (.int g3), .val (.int g4), .val (.int 1), .val (.ref a15), .unset, .unset, .unset, .unset] [(.ref t17)] Q_law
    refine wp_astore #[.val (.int g0), .val (.int g1), .val (.int g2), .val (.int g3), .val (.int g4), .val (.int 1), .val (.ref a15), .val (.ref t17), .unset, .unset, .unset] D_63 rfl rfl ?_
    refine wp_iconst (-1) D_65 (by decide) ?_
    refine wp_istore #[.val (.int g0), .val (.int g1), .val (.int g2), .val (.int g3), .val (.int g4), .val (.int 1), .val (.ref a15), .val (.ref t17), .val (.int (-1)), .unset, .unset] D_66 rfl ?_
    refine wp_iload D_68 rfl ?_
    refine wp_if_le D_70 (pc'' := 88) ⟨by decide, by decide⟩ (fun h19 => by exact absurd h19 (by decide)) (fun h19 => ?_)
    refine wp_aload D_73 rfl rfl ?_
    refine wp_iconst 0 D_75 (by decide) ?_
    refine wp_caload (i := 3) (0) D_76 rfl (by decide) (by decide) rfl ?_
    refine wp_bipush 35 D_77 (by decide) ?_
    refine wp_icmp_ne D_79 (pc'' := 88) ⟨by decide, by decide⟩ (fun h20 => ?_) (fun h20 => ?_)
    · skip
      refine wp_iload D_88 rfl ?_
      refine wp_iconst 1 D_90 (by decide) ?_
      refine wp_icmp_le D_91 (pc'' := 109) ⟨by decide, by decide⟩ (fun h21 => ?_) (fun h21 => by exact absurd h21 (by decide))
      refine wp_iload D_109 rfl ?_
      refine wp_iconst 2 D_111 (by decide) ?_
      refine wp_icmp_le D_112 (pc'' := 130) ⟨by decide, by decide⟩ (fun h22 => ?_) (fun h22 => by exact absurd h22 (by decide))
      refine wp_iload D_130 rfl ?_
      refine wp_iconst 3 D_132 (by decide) ?_
      refine wp_icmp_le D_133 (pc'' := 148) ⟨by decide, by decide⟩ (fun h23 => ?_) (fun h23 => by exact absurd h23 (by decide))
      refine wp_aload D_148 rfl rfl ?_
      refine Wp.pick [1, 0, 2, 3, 4] (by decide) ?_
      show W44 l Z room_1 [(t17, strO b16), (b16, fA .byte [(nar .byte c0.toInt8.toInt32)]), (q18, oA .char [c0]), (a15, oA .char [c0, c1, c2, c3]), (aE, fI "java/util/Optional" sg_2 [(.null)])] 4 10 150 #[.val (.int g0), .val (.int g1), .val (.int g2), .val (.int g3), .val (.int g4), .val (.int 1), .val (.ref a15), .val (.ref t17), .val (.int (-1)), .unset, .unset] [(.ref t17)] Q_law
      refine wp_callS (c_fr_1_m l Z a0 hw t17 b16 (nar .byte c0.toInt8.toInt32) aE cp fm [(q18, oA .char [c0]), (a15, oA .char [c0, c1, c2, c3]), (aE, fI "java/util/Optional" sg_2 [(.null)])] hs S_E (own_35 c0 hc0 h20)) D_150 (gw hw 31 rfl) (gw hw 32 rfl) (gw hw 33 rfl) (gw hw 34 rfl) (by decide) pd_29 rfl rfl rfl (lb rfl) (lb rfl) (lb rfl) (lb rfl) ?_
      rintro _ _ ⟨rfl, rfl⟩
      show W44 l Z room_1 [(t17, strO b16), (b16, fA .byte [(nar .byte c0.toInt8.toInt32)]), (q18, oA .char [c0]), (a15, oA .char [c0, c1, c2, c3]), (aE, fI "java/util/Optional" sg_2 [(.null)])] 4 10 153 #[.val (.int g0), .val (.int g1), .val (.int g2), .val (.int g3), .val (.int g4), .val (.int 1), .val (.ref a15), .val (.ref t17), .val (.int (-1)), .unset, .unset] [(.ref aE)] Q_law
      refine wp_astore #[.val (.int g0), .val (.int g1), .val (.int g2), .val (.int g3), .val (.int g4), .val (.int 1), .val (.ref a15), .val (.ref t17), .val (.int (-1)), .val (.ref aE), .unset] D_153 rfl rfl ?_
      refine wp_iload D_155 rfl ?_
      refine wp_if_ge D_157 (pc'' := 174) ⟨by decide, by decide⟩ (fun h24 => by exact absurd h24 (by decide)) (fun h24 => ?_)
      refine wp_aload D_160 rfl rfl ?_
      refine Wp.pick [4, 0, 1, 2, 3] (by decide) ?_
      show W44 l Z room_1 [(aE, fI "java/util/Optional" sg_2 [(.null)]), (t17, strO b16), (b16, fA .byte [(nar .byte c0.toInt8.toInt32)]), (q18, oA .char [c0]), (a15, oA .char [c0, c1, c2, c3])] 4 10 162 #[.val (.int g0), .val (.int g1), .val (.int g2), .val (.int g3), .val (.int g4), .val (.int 1), .val (.ref a15), .val (.ref t17), .val (.int (-1)), .val (.ref aE), .unset] [(.ref aE)] Q_law
      refine wp_virtual (c_ip0 l Z a0 hw aE [(t17, strO b16), (b16, fA .byte [(nar .byte c0.toInt8.toInt32)]), (q18, oA .char [c0]), (a15, oA .char [c0, c1, c2, c3])] ) (exa_new (i := 0) rfl) D_162 (gw hw 80 rfl) (gw hw 81 rfl) (gw hw 83 rfl) (gw hw 83 rfl) (gw hw 82 rfl) (gw hw 77 rfl) (gw hw 84 rfl) (by decide) pd_4 rfl rfl rfl (lb rfl) (lb rfl) (lb rfl) (lb rfl) ?_
      rintro _ _ ⟨rfl, rfl⟩
      show W44 l Z room_1 [(aE, fI "java/util/Optional" sg_2 [(.null)]), (t17, strO b16), (b16, fA .byte [(nar .byte c0.toInt8.toInt32)]), (q18, oA .char [c0]), (a15, oA .char [c0, c1, c2, c3])] 4 10 165 #[.val (.int g0), .val (.int g1), .val (.int g2), .val (.int g3), .val (.int g4), .val (.int 1), .val (.ref a15), .val (.ref t17), .val (.int (-1)), .val (.ref aE), .unset] [(.int 0)] Q_law
      refine wp_if_ne D_165 (pc'' := 172) ⟨by decide, by decide⟩ (fun h25 => by exact absurd h25 (by decide)) (fun h25 => ?_)
      refine wp_iconst 1 D_168 (by decide) ?_
      refine wp_goto D_169 (pc'' := 173) ⟨by decide, by decide⟩ ?_
      refine wp_ireturnN D_173 rfl (by simp) (by decide) (by decide) ?_
      exact rfl
    · skip
      refine wp_iconst 0 D_82 (by decide) ?_
      refine wp_istore #[.val (.int g0), .val (.int g1), .val (.int g2), .val (.int g3), .val (.int g4), .val (.int 1), .val (.ref a15), .val (.ref t17), .val (.int 0), .unset, .unset] D_83 rfl ?_
      refine wp_goto D_85 (pc'' := 148) ⟨by decide, by decide⟩ ?_
      refine wp_aload D_148 rfl rfl ?_
      refine Wp.pick [1, 0, 2, 3, 4] (by decide) ?_
      show W44 l Z room_1 [(t17, strO b16), (b16, fA .byte [(nar .byte c0.toInt8.toInt32)]), (q18, oA .char [c0]), (a15, oA .char [c0, c1, c2, c3]), (aE, fI "java/util/Optional" sg_2 [(.null)])] 4 10 150 #[.val (.int g0), .val (.int g1), .val (.int g2), .val (.int g3), .val (.int g4), .val (.int 1), .val (.ref a15), .val (.ref t17), .val (.int 0), .unset, .unset] [(.ref t17)] Q_law
      refine wp_callSI (c_fr_1_0 l Z a0 hw t17 b16 (nar .byte c0.toInt8.toInt32) cp fm [(q18, oA .char [c0]), (a15, oA .char [c0, c1, c2, c3]), (aE, fI "java/util/Optional" sg_2 [(.null)])] hs (own_35y c0 h20)) (own_EL l Z a0 hw) D_150 (gw hw 31 rfl) (gw hw 32 rfl) (gw hw 33 rfl) (gw hw 34 rfl) (by decide) pd_29 rfl rfl rfl (lb rfl) (lb rfl) (lb rfl) (lb rfl) ?_
      rintro _ _ ⟨o26, sa27, su28, rfl, rfl⟩
      show W44 l Z room_1 [(o26, fI "java/util/Optional" sg_2 [(.ref sa27)]), (sa27, strO su28), (su28, fA .byte []), (t17, strO b16), (b16, fA .byte [(nar .byte c0.toInt8.toInt32)]), (q18, oA .char [c0]), (a15, oA .char [c0, c1, c2, c3]), (aE, fI "java/util/Optional" sg_2 [(.null)])] 7 15 153 #[.val (.int g0), .val (.int g1), .val (.int g2), .val (.int g3), .val (.int g4), .val (.int 1), .val (.ref a15), .val (.ref t17), .val (.int 0), .unset, .unset] [(.ref o26)] Q_law
      refine wp_astore #[.val (.int g0), .val (.int g1), .val (.int g2), .val (.int g3), .val (.int g4), .val (.int 1), .val (.ref a15), .val (.ref t17), .val (.int 0), .val (.ref o26), .unset] D_153 rfl rfl ?_
      refine wp_iload D_155 rfl ?_
      refine wp_if_ge D_157 (pc'' := 174) ⟨by decide, by decide⟩ (fun h29 => ?_) (fun h29 => by exact absurd h29 (by decide))
      refine wp_iload D_174 rfl ?_
      refine wp_iload D_176 rfl ?_
      refine wp_isub D_178 ?_
      rw [show ((1 : Int32) - (0 : Int32)) = (1 : Int32) from by decide]
      refine wp_iconst 1 D_179 (by decide) ?_
      refine wp_isub D_180 ?_
      rw [show ((1 : Int32) - (1 : Int32)) = (0 : Int32) from by decide]
      refine wp_aload D_181 rfl rfl ?_
      refine wp_iload D_183 rfl ?_
      refine wp_iconst 1 D_185 (by decide) ?_
      refine wp_iadd D_186 ?_
      rw [show ((0 : Int32) + (1 : Int32)) = (1 : Int32) from by decide]
      refine Wp.pick [6, 0, 1, 2, 3, 4, 5, 7] (by decide) ?_
      show W44 l Z room_1 [(a15, oA .char [c0, c1, c2, c3]), (o26, fI "java/util/Optional" sg_2 [(.ref sa27)]), (sa27, strO su28), (su28, fA .byte []), (t17, strO b16), (b16, fA .byte [(nar .byte c0.toInt8.toInt32)]), (q18, oA .char [c0]), (aE, fI "java/util/Optional" sg_2 [(.null)])] 7 15 187 #[.val (.int g0), .val (.int g1), .val (.int g2), .val (.int g3), .val (.int g4), .val (.int 1), .val (.ref a15), .val (.ref t17), .val (.int 0), .val (.ref o26), .unset] [(.int 1), (.ref a15), (.int 0)] Q_law
      refine wp_callS (c_at_1 l Z a0 hw a15 c0 c1 c2 c3 [(o26, fI "java/util/Optional" sg_2 [(.ref sa27)]), (sa27, strO su28), (su28, fA .byte []), (t17, strO b16), (b16, fA .byte [(nar .byte c0.toInt8.toInt32)]), (q18, oA .char [c0]), (aE, fI "java/util/Optional" sg_2 [(.null)])] hc1) D_187 (gw hw 154 rfl) (gw hw 155 rfl) (gw hw 4 rfl) (gw hw 156 rfl) (by decide) pd_30 rfl rfl rfl (lb rfl) (lb rfl) (lb rfl) (lb rfl) ?_
      rintro _ _ ⟨rfl, rfl⟩
      show W44 l Z room_1 [(a15, oA .char [c0, c1, c2, c3]), (o26, fI "java/util/Optional" sg_2 [(.ref sa27)]), (sa27, strO su28), (su28, fA .byte []), (t17, strO b16), (b16, fA .byte [(nar .byte c0.toInt8.toInt32)]), (q18, oA .char [c0]), (aE, fI "java/util/Optional" sg_2 [(.null)])] 7 15 190 #[.val (.int g0), .val (.int g1), .val (.int g2), .val (.int g3), .val (.int g4), .val (.int 1), .val (.ref a15), .val (.ref t17), .val (.int 0), .val (.ref o26), .unset] [(.int c1), (.int 0)] Q_law
      refine wp_aload D_190 rfl rfl ?_
      refine wp_iload D_192 rfl ?_
      refine wp_iconst 2 D_194 (by decide) ?_
      refine wp_iadd D_195 ?_
      rw [show ((0 : Int32) + (2 : Int32)) = (2 : Int32) from by decide]
      refine wp_callS (c_at_2 l Z a0 hw a15 c0 c1 c2 c3 [(o26, fI "java/util/Optional" sg_2 [(.ref sa27)]), (sa27, strO su28), (su28, fA .byte []), (t17, strO b16), (b16, fA .byte [(nar .byte c0.toInt8.toInt32)]), (q18, oA .char [c0]), (aE, fI "java/util/Optional" sg_2 [(.null)])] hc2) D_196 (gw hw 154 rfl) (gw hw 155 rfl) (gw hw 4 rfl) (gw hw 156 rfl) (by decide) pd_30 rfl rfl rfl (lb rfl) (lb rfl) (lb rfl) (lb rfl) ?_
      rintro _ _ ⟨rfl, rfl⟩
      show W44 l Z room_1 [(a15, oA .char [c0, c1, c2, c3]), (o26, fI "java/util/Optional" sg_2 [(.ref sa27)]), (sa27, strO su28), (su28, fA .byte []), (t17, strO b16), (b16, fA .byte [(nar .byte c0.toInt8.toInt32)]), (q18, oA .char [c0]), (aE, fI "java/util/Optional" sg_2 [(.null)])] 7 15 199 #[.val (.int g0), .val (.int g1), .val (.int g2), .val (.int g3), .val (.int g4), .val (.int 1), .val (.ref a15), .val (.ref t17), .val (.int 0), .val (.ref o26), .unset] [(.int c2), (.int c1), (.int 0)] Q_law
      refine wp_aload D_199 rfl rfl ?_
      refine wp_iload D_201 rfl ?_
      refine wp_iconst 3 D_203 (by decide) ?_
      refine wp_iadd D_204 ?_
      rw [show ((0 : Int32) + (3 : Int32)) = (3 : Int32) from by decide]
      refine wp_callS (c_at_3 l Z a0 hw a15 c0 c1 c2 c3 [(o26, fI "java/util/Optional" sg_2 [(.ref sa27)]), (sa27, strO su28), (su28, fA .byte []), (t17, strO b16), (b16, fA .byte [(nar .byte c0.toInt8.toInt32)]), (q18, oA .char [c0]), (aE, fI "java/util/Optional" sg_2 [(.null)])] hc3) D_205 (gw hw 154 rfl) (gw hw 155 rfl) (gw hw 4 rfl) (gw hw 156 rfl) (by decide) pd_30 rfl rfl rfl (lb rfl) (lb rfl) (lb rfl) (lb rfl) ?_
      rintro _ _ ⟨rfl, rfl⟩
      show W44 l Z room_1 [(a15, oA .char [c0, c1, c2, c3]), (o26, fI "java/util/Optional" sg_2 [(.ref sa27)]), (sa27, strO su28), (su28, fA .byte []), (t17, strO b16), (b16, fA .byte [(nar .byte c0.toInt8.toInt32)]), (q18, oA .char [c0]), (aE, fI "java/util/Optional" sg_2 [(.null)])] 7 15 208 #[.val (.int g0), .val (.int g1), .val (.int g2), .val (.int g3), .val (.int g4), .val (.int 1), .val (.ref a15), .val (.ref t17), .val (.int 0), .val (.ref o26), .unset] [(.int c3), (.int c2), (.int c1), (.int 0)] Q_law
      refine wp_aload D_208 rfl rfl ?_
      refine wp_iload D_210 rfl ?_
      refine wp_iconst 4 D_212 (by decide) ?_
      refine wp_iadd D_213 ?_
      rw [show ((0 : Int32) + (4 : Int32)) = (4 : Int32) from by decide]
      refine wp_callS (c_at_4 l Z a0 hw a15 c0 c1 c2 c3 [(o26, fI "java/util/Optional" sg_2 [(.ref sa27)]), (sa27, strO su28), (su28, fA .byte []), (t17, strO b16), (b16, fA .byte [(nar .byte c0.toInt8.toInt32)]), (q18, oA .char [c0]), (aE, fI "java/util/Optional" sg_2 [(.null)])] ) D_214 (gw hw 154 rfl) (gw hw 155 rfl) (gw hw 4 rfl) (gw hw 156 rfl) (by decide) pd_30 rfl rfl rfl (lb rfl) (lb rfl) (lb rfl) (lb rfl) ?_
      rintro _ _ ⟨rfl, rfl⟩
      show W44 l Z room_1 [(a15, oA .char [c0, c1, c2, c3]), (o26, fI "java/util/Optional" sg_2 [(.ref sa27)]), (sa27, strO su28), (su28, fA .byte []), (t17, strO b16), (b16, fA .byte [(nar .byte c0.toInt8.toInt32)]), (q18, oA .char [c0]), (aE, fI "java/util/Optional" sg_2 [(.null)])] 7 15 217 #[.val (.int g0), .val (.int g1), .val (.int g2), .val (.int g3), .val (.int g4), .val (.int 1), .val (.ref a15), .val (.ref t17), .val (.int 0), .val (.ref o26), .unset] [(.int 120), (.int c3), (.int c2), (.int c1), (.int 0)] Q_law
      refine wp_callSI (c_str_0 l Z a0 hw c1 c2 c3 (120 : Int32) cp fm [(a15, oA .char [c0, c1, c2, c3]), (o26, fI "java/util/Optional" sg_2 [(.ref sa27)]), (sa27, strO su28), (su28, fA .byte []), (t17, strO b16), (b16, fA .byte [(nar .byte c0.toInt8.toInt32)]), (q18, oA .char [c0]), (aE, fI "java/util/Optional" sg_2 [(.null)])] hs ) (own_EL l Z a0 hw) D_217 (gw hw 7 rfl) (gw hw 8 rfl) (gw hw 4 rfl) (gw hw 9 rfl) (by decide) pd_27 rfl rfl rfl (lb rfl) (lb rfl) (lb rfl) (lb rfl) ?_
      rintro _ _ ⟨z30, z31, z32, z33, t34, q35, rfl, rfl⟩
      show W44 l Z room_1 [(z30, strO z31), (z31, fA .byte []), (z32, strO z33), (z33, fA .byte []), (t34, strO z33), (q35, oA .char []), (a15, oA .char [c0, c1, c2, c3]), (o26, fI "java/util/Optional" sg_2 [(.ref sa27)]), (sa27, strO su28), (su28, fA .byte []), (t17, strO b16), (b16, fA .byte [(nar .byte c0.toInt8.toInt32)]), (q18, oA .char [c0]), (aE, fI "java/util/Optional" sg_2 [(.null)])] 13 27 220 #[.val (.int g0), .val (.int g1), .val (.int g2), .val (.int g3), .val (.int g4), .val (.int 1), .val (.ref a15), .val (.ref t17), .val (.int 0), .val (.ref o26), .unset] [(.ref t34)] Q_law
      refine wp_astore #[.val (.int g0), .val (.int g1), .val (.int g2), .val (.int g3), .val (.int g4), .val (.int 1), .val (.ref a15), .val (.ref t17), .val (.int 0), .val (.ref o26), .val (.ref t34)] D_220 rfl rfl ?_
      refine wp_aload D_222 rfl rfl ?_
      refine Wp.pick [7, 0, 1, 2, 3, 4, 5, 6, 8, 9, 10, 11, 12, 13] (by decide) ?_
      show W44 l Z room_1 [(o26, fI "java/util/Optional" sg_2 [(.ref sa27)]), (z30, strO z31), (z31, fA .byte []), (z32, strO z33), (z33, fA .byte []), (t34, strO z33), (q35, oA .char []), (a15, oA .char [c0, c1, c2, c3]), (sa27, strO su28), (su28, fA .byte []), (t17, strO b16), (b16, fA .byte [(nar .byte c0.toInt8.toInt32)]), (q18, oA .char [c0]), (aE, fI "java/util/Optional" sg_2 [(.null)])] 13 27 224 #[.val (.int g0), .val (.int g1), .val (.int g2), .val (.int g3), .val (.int g4), .val (.int 1), .val (.ref a15), .val (.ref t17), .val (.int 0), .val (.ref o26), .val (.ref t34)] [(.ref o26)] Q_law
      refine wp_virtual (c_ip1 l Z a0 hw o26 sa27 [(z30, strO z31), (z31, fA .byte []), (z32, strO z33), (z33, fA .byte []), (t34, strO z33), (q35, oA .char []), (a15, oA .char [c0, c1, c2, c3]), (sa27, strO su28), (su28, fA .byte []), (t17, strO b16), (b16, fA .byte [(nar .byte c0.toInt8.toInt32)]), (q18, oA .char [c0]), (aE, fI "java/util/Optional" sg_2 [(.null)])] ) (exa_new (i := 0) rfl) D_224 (gw hw 80 rfl) (gw hw 81 rfl) (gw hw 83 rfl) (gw hw 83 rfl) (gw hw 82 rfl) (gw hw 77 rfl) (gw hw 84 rfl) (by decide) pd_4 rfl rfl rfl (lb rfl) (lb rfl) (lb rfl) (lb rfl) ?_
      rintro _ _ ⟨rfl, rfl⟩
      show W44 l Z room_1 [(o26, fI "java/util/Optional" sg_2 [(.ref sa27)]), (z30, strO z31), (z31, fA .byte []), (z32, strO z33), (z33, fA .byte []), (t34, strO z33), (q35, oA .char []), (a15, oA .char [c0, c1, c2, c3]), (sa27, strO su28), (su28, fA .byte []), (t17, strO b16), (b16, fA .byte [(nar .byte c0.toInt8.toInt32)]), (q18, oA .char [c0]), (aE, fI "java/util/Optional" sg_2 [(.null)])] 13 27 227 #[.val (.int g0), .val (.int g1), .val (.int g2), .val (.int g3), .val (.int g4), .val (.int 1), .val (.ref a15), .val (.ref t17), .val (.int 0), .val (.ref o26), .val (.ref t34)] [(.int 1)] Q_law
      refine wp_if_eq D_227 (pc'' := 250) ⟨by decide, by decide⟩ (fun h36 => by exact absurd h36 (by decide)) (fun h36 => ?_)
      refine wp_aload D_230 rfl rfl ?_
      refine wp_virtual (c_get l Z a0 hw o26 sa27 [(z30, strO z31), (z31, fA .byte []), (z32, strO z33), (z33, fA .byte []), (t34, strO z33), (q35, oA .char []), (a15, oA .char [c0, c1, c2, c3]), (sa27, strO su28), (su28, fA .byte []), (t17, strO b16), (b16, fA .byte [(nar .byte c0.toInt8.toInt32)]), (q18, oA .char [c0]), (aE, fI "java/util/Optional" sg_2 [(.null)])] ) (exa_new (i := 0) rfl) D_232 (gw hw 157 rfl) (gw hw 158 rfl) (gw hw 160 rfl) (gw hw 160 rfl) (gw hw 159 rfl) (gw hw 77 rfl) (gw hw 161 rfl) (by decide) pd_31 rfl rfl rfl (lb rfl) (lb rfl) (lb rfl) (lb rfl) ?_
      rintro _ _ ⟨rfl, rfl⟩
      show W44 l Z room_1 [(o26, fI "java/util/Optional" sg_2 [(.ref sa27)]), (z30, strO z31), (z31, fA .byte []), (z32, strO z33), (z33, fA .byte []), (t34, strO z33), (q35, oA .char []), (a15, oA .char [c0, c1, c2, c3]), (sa27, strO su28), (su28, fA .byte []), (t17, strO b16), (b16, fA .byte [(nar .byte c0.toInt8.toInt32)]), (q18, oA .char [c0]), (aE, fI "java/util/Optional" sg_2 [(.null)])] 13 27 235 #[.val (.int g0), .val (.int g1), .val (.int g2), .val (.int g3), .val (.int g4), .val (.int 1), .val (.ref a15), .val (.ref t17), .val (.int 0), .val (.ref o26), .val (.ref t34)] [(.ref sa27)] Q_law
      refine wp_cast D_235 (gw hw 10 rfl) (fun h P => Ins.self (exa_new (i := 8) rfl h P)) ?_
      refine wp_aload D_238 rfl rfl ?_
      refine Wp.pick [8, 9, 5, 4, 0, 1, 2, 3, 6, 7, 10, 11, 12, 13] (by decide) ?_
      show W44 l Z room_1 [(sa27, strO su28), (su28, fA .byte []), (t34, strO z33), (z33, fA .byte []), (o26, fI "java/util/Optional" sg_2 [(.ref sa27)]), (z30, strO z31), (z31, fA .byte []), (z32, strO z33), (q35, oA .char []), (a15, oA .char [c0, c1, c2, c3]), (t17, strO b16), (b16, fA .byte [(nar .byte c0.toInt8.toInt32)]), (q18, oA .char [c0]), (aE, fI "java/util/Optional" sg_2 [(.null)])] 13 27 240 #[.val (.int g0), .val (.int g1), .val (.int g2), .val (.int g3), .val (.int g4), .val (.int 1), .val (.ref a15), .val (.ref t17), .val (.int 0), .val (.ref o26), .val (.ref t34)] [(.ref t34), (.ref sa27)] Q_law
      refine wp_virtual (c_seq_0 l Z a0 hw sa27 su28 t34 z33 cp fm [(o26, fI "java/util/Optional" sg_2 [(.ref sa27)]), (z30, strO z31), (z31, fA .byte []), (z32, strO z33), (q35, oA .char []), (a15, oA .char [c0, c1, c2, c3]), (t17, strO b16), (b16, fA .byte [(nar .byte c0.toInt8.toInt32)]), (q18, oA .char [c0]), (aE, fI "java/util/Optional" sg_2 [(.null)])] hs ) (exa_new (i := 0) rfl) D_240 (gw hw 162 rfl) (gw hw 163 rfl) (gw hw 165 rfl) (gw hw 165 rfl) (gw hw 164 rfl) (gw hw 12 rfl) (gw hw 166 rfl) (by decide) pd_32 rfl rfl rfl (lb rfl) (lb rfl) (lb rfl) (lb rfl) ?_
      rintro _ _ ⟨rfl, rfl⟩
      show W44 l Z room_1 [(sa27, strO su28), (su28, fA .byte []), (t34, strO z33), (z33, fA .byte []), (o26, fI "java/util/Optional" sg_2 [(.ref sa27)]), (z30, strO z31), (z31, fA .byte []), (z32, strO z33), (q35, oA .char []), (a15, oA .char [c0, c1, c2, c3]), (t17, strO b16), (b16, fA .byte [(nar .byte c0.toInt8.toInt32)]), (q18, oA .char [c0]), (aE, fI "java/util/Optional" sg_2 [(.null)])] 13 27 243 #[.val (.int g0), .val (.int g1), .val (.int g2), .val (.int g3), .val (.int g4), .val (.int 1), .val (.ref a15), .val (.ref t17), .val (.int 0), .val (.ref o26), .val (.ref t34)] [(.int 1)] Q_law
      refine wp_if_eq D_243 (pc'' := 250) ⟨by decide, by decide⟩ (fun h37 => by exact absurd h37 (by decide)) (fun h37 => ?_)
      refine wp_iconst 1 D_246 (by decide) ?_
      refine wp_goto D_247 (pc'' := 251) ⟨by decide, by decide⟩ ?_
      refine wp_ireturnN D_251 rfl (by simp) (by decide) (by decide) ?_
      exact rfl
  · subst hs_x1
    show W44 l Z room_1 [(aE, fI "java/util/Optional" sg_2 [(.null)])] 0 0 8 #[.val (.int g0), .val (.int g1), .val (.int g2), .val (.int g3), .val (.int g4), .val (.int 2), .unset, .unset, .unset, .unset, .unset] [] Q_law
    refine wp_iconst 4 D_8 (by decide) ?_
    refine wp_newarrayI (n := (4 : Int32)) (4) 4 D_9 rfl rfl rfl (gw hw 1 rfl) (by decide) (by decide) (by decide) (by decide) (by decide) (by decide) ?_
    intro a38
    show W44 l Z room_1 [(a38, oA .char [(0 : Int32), (0 : Int32), (0 : Int32), (0 : Int32)]), (aE, fI "java/util/Optional" sg_2 [(.null)])] 1 4 11 #[.val (.int g0), .val (.int g1), .val (.int g2), .val (.int g3), .val (.int g4), .val (.int 2), .unset, .unset, .unset, .unset, .unset] [(.ref a38)] Q_law
    refine wp_dup D_11 rfl ?_
    refine wp_iconst 0 D_12 (by decide) ?_
    refine wp_iload_n D_13 rfl ?_
    refine wp_callS (c_ch l Z a0 hw g1 [(a38, oA .char [(0 : Int32), (0 : Int32), (0 : Int32), (0 : Int32)]), (aE, fI "java/util/Optional" sg_2 [(.null)])] ) D_14 (gw hw 2 rfl) (gw hw 3 rfl) (gw hw 4 rfl) (gw hw 5 rfl) (by decide) pd_26 rfl rfl rfl (lb rfl) (lb rfl) (lb rfl) (lb rfl) ?_
    rintro _ _ ⟨c0, rfl, hc0, rfl⟩
    show W44 l Z room_1 [(a38, oA .char [(0 : Int32), (0 : Int32), (0 : Int32), (0 : Int32)]), (aE, fI "java/util/Optional" sg_2 [(.null)])] 1 4 17 #[.val (.int g0), .val (.int g1), .val (.int g2), .val (.int g3), .val (.int g4), .val (.int 2), .unset, .unset, .unset, .unset, .unset] [(.int c0), (.int 0), (.ref a38), (.ref a38)] Q_law
    refine wp_castore (i := 0) (0) D_17 rfl (by decide) (by decide) (by first | decide | exact Nat.le_of_ble_eq_true rfl | simp) ?_
    rw [own_nc c0 hc0]
    show W44 l Z room_1 [(a38, oA .char [c0, (0 : Int32), (0 : Int32), (0 : Int32)]), (aE, fI "java/util/Optional" sg_2 [(.null)])] 1 4 18 #[.val (.int g0), .val (.int g1), .val (.int g2), .val (.int g3), .val (.int g4), .val (.int 2), .unset, .unset, .unset, .unset, .unset] [(.ref a38)] Q_law
    refine wp_dup D_18 rfl ?_
    refine wp_iconst 1 D_19 (by decide) ?_
    refine wp_iload_n D_20 rfl ?_
    refine wp_callS (c_ch l Z a0 hw g2 [(a38, oA .char [c0, (0 : Int32), (0 : Int32), (0 : Int32)]), (aE, fI "java/util/Optional" sg_2 [(.null)])] ) D_21 (gw hw 2 rfl) (gw hw 3 rfl) (gw hw 4 rfl) (gw hw 5 rfl) (by decide) pd_26 rfl rfl rfl (lb rfl) (lb rfl) (lb rfl) (lb rfl) ?_
    rintro _ _ ⟨c1, rfl, hc1, rfl⟩
    show W44 l Z room_1 [(a38, oA .char [c0, (0 : Int32), (0 : Int32), (0 : Int32)]), (aE, fI "java/util/Optional" sg_2 [(.null)])] 1 4 24 #[.val (.int g0), .val (.int g1), .val (.int g2), .val (.int g3), .val (.int g4), .val (.int 2), .unset, .unset, .unset, .unset, .unset] [(.int c1), (.int 1), (.ref a38), (.ref a38)] Q_law
    refine wp_castore (i := 0) (1) D_24 rfl (by decide) (by decide) (by first | decide | exact Nat.le_of_ble_eq_true rfl | simp) ?_
    rw [own_nc c1 hc1]
    show W44 l Z room_1 [(a38, oA .char [c0, c1, (0 : Int32), (0 : Int32)]), (aE, fI "java/util/Optional" sg_2 [(.null)])] 1 4 25 #[.val (.int g0), .val (.int g1), .val (.int g2), .val (.int g3), .val (.int g4), .val (.int 2), .unset, .unset, .unset, .unset, .unset] [(.ref a38)] Q_law
    refine wp_dup D_25 rfl ?_
    refine wp_iconst 2 D_26 (by decide) ?_
    refine wp_iload_n D_27 rfl ?_
    refine wp_callS (c_ch l Z a0 hw g3 [(a38, oA .char [c0, c1, (0 : Int32), (0 : Int32)]), (aE, fI "java/util/Optional" sg_2 [(.null)])] ) D_28 (gw hw 2 rfl) (gw hw 3 rfl) (gw hw 4 rfl) (gw hw 5 rfl) (by decide) pd_26 rfl rfl rfl (lb rfl) (lb rfl) (lb rfl) (lb rfl) ?_
    rintro _ _ ⟨c2, rfl, hc2, rfl⟩
    show W44 l Z room_1 [(a38, oA .char [c0, c1, (0 : Int32), (0 : Int32)]), (aE, fI "java/util/Optional" sg_2 [(.null)])] 1 4 31 #[.val (.int g0), .val (.int g1), .val (.int g2), .val (.int g3), .val (.int g4), .val (.int 2), .unset, .unset, .unset, .unset, .unset] [(.int c2), (.int 2), (.ref a38), (.ref a38)] Q_law
    refine wp_castore (i := 0) (2) D_31 rfl (by decide) (by decide) (by first | decide | exact Nat.le_of_ble_eq_true rfl | simp) ?_
    rw [own_nc c2 hc2]
    show W44 l Z room_1 [(a38, oA .char [c0, c1, c2, (0 : Int32)]), (aE, fI "java/util/Optional" sg_2 [(.null)])] 1 4 32 #[.val (.int g0), .val (.int g1), .val (.int g2), .val (.int g3), .val (.int g4), .val (.int 2), .unset, .unset, .unset, .unset, .unset] [(.ref a38)] Q_law
    refine wp_dup D_32 rfl ?_
    refine wp_iconst 3 D_33 (by decide) ?_
    refine wp_iload D_34 rfl ?_
    refine wp_callS (c_ch l Z a0 hw g4 [(a38, oA .char [c0, c1, c2, (0 : Int32)]), (aE, fI "java/util/Optional" sg_2 [(.null)])] ) D_36 (gw hw 2 rfl) (gw hw 3 rfl) (gw hw 4 rfl) (gw hw 5 rfl) (by decide) pd_26 rfl rfl rfl (lb rfl) (lb rfl) (lb rfl) (lb rfl) ?_
    rintro _ _ ⟨c3, rfl, hc3, rfl⟩
    show W44 l Z room_1 [(a38, oA .char [c0, c1, c2, (0 : Int32)]), (aE, fI "java/util/Optional" sg_2 [(.null)])] 1 4 39 #[.val (.int g0), .val (.int g1), .val (.int g2), .val (.int g3), .val (.int g4), .val (.int 2), .unset, .unset, .unset, .unset, .unset] [(.int c3), (.int 3), (.ref a38), (.ref a38)] Q_law
    refine wp_castore (i := 0) (3) D_39 rfl (by decide) (by decide) (by first | decide | exact Nat.le_of_ble_eq_true rfl | simp) ?_
    rw [own_nc c3 hc3]
    show W44 l Z room_1 [(a38, oA .char [c0, c1, c2, c3]), (aE, fI "java/util/Optional" sg_2 [(.null)])] 1 4 40 #[.val (.int g0), .val (.int g1), .val (.int g2), .val (.int g3), .val (.int g4), .val (.int 2), .unset, .unset, .unset, .unset, .unset] [(.ref a38)] Q_law
    refine wp_astore #[.val (.int g0), .val (.int g1), .val (.int g2), .val (.int g3), .val (.int g4), .val (.int 2), .val (.ref a38), .unset, .unset, .unset, .unset] D_40 rfl rfl ?_
    refine wp_iload D_42 rfl ?_
    refine wp_aload D_44 rfl rfl ?_
    refine wp_iconst 0 D_46 (by decide) ?_
    refine wp_caload (i := 0) (0) D_47 rfl (by decide) (by decide) rfl ?_
    refine wp_aload D_48 rfl rfl ?_
    refine wp_iconst 1 D_50 (by decide) ?_
    refine wp_caload (i := 0) (1) D_51 rfl (by decide) (by decide) rfl ?_
    refine wp_aload D_52 rfl rfl ?_
    refine wp_iconst 2 D_54 (by decide) ?_
    refine wp_caload (i := 0) (2) D_55 rfl (by decide) (by decide) rfl ?_
    refine wp_aload D_56 rfl rfl ?_
    refine wp_iconst 3 D_58 (by decide) ?_
    refine wp_caload (i := 0) (3) D_59 rfl (by decide) (by decide) rfl ?_
    refine wp_callS (c_str_2 l Z a0 hw c0 c1 c2 c3 cp fm [(a38, oA .char [c0, c1, c2, c3]), (aE, fI "java/util/Optional" sg_2 [(.null)])] hs hc0 hc1) D_60 (gw hw 7 rfl) (gw hw 8 rfl) (gw hw 4 rfl) (gw hw 9 rfl) (by decide) pd_27 rfl rfl rfl (lb rfl) (lb rfl) (lb rfl) (lb rfl) ?_
    rintro _ _ ⟨b39, t40, q41, rfl, rfl⟩
    show W44 l Z room_1 [(b39, fA .byte [(nar .byte c0.toInt8.toInt32), (nar .byte c1.toInt8.toInt32)]), (t40, strO b39), (q41, oA .char [c0, c1]), (a38, oA .char [c0, c1, c2, c3]), (aE, fI "java/util/Optional" sg_2 [(.null)])] 4 12 63 #[.val (.int g0), .val (.int g1), .val (.int g2), .val (.int g3), .val (.int g4), .val (.int 2), .val (.ref a38), .unset, .unset, .unset, .unset] [(.ref t40)] Q_law
    refine wp_astore #[.val (.int g0), .val (.int g1), .val (.int g2), .val (.int g3), .val (.int g4), .val (.int 2), .val (.ref a38), .val (.ref t40), .unset, .unset, .unset] D_63 rfl rfl ?_
    refine wp_iconst (-1) D_65 (by decide) ?_
    refine wp_istore #[.val (.int g0), .val (.int g1), .val (.int g2), .val (.int g3), .val (.int g4), .val (.int 2), .val (.ref a38), .val (.ref t40), .val (.int (-1)), .unset, .unset] D_66 rfl ?_
    refine wp_iload D_68 rfl ?_
    refine wp_if_le D_70 (pc'' := 88) ⟨by decide, by decide⟩ (fun h42 => by exact absurd h42 (by decide)) (fun h42 => ?_)
    refine wp_aload D_73 rfl rfl ?_
    refine wp_iconst 0 D_75 (by decide) ?_
    refine wp_caload (i := 3) (0) D_76 rfl (by decide) (by decide) rfl ?_
    refine wp_bipush 35 D_77 (by decide) ?_
    refine wp_icmp_ne D_79 (pc'' := 88) ⟨by decide, by decide⟩ (fun h43 => ?_) (fun h43 => ?_)
    · skip
      refine wp_iload D_88 rfl ?_
      refine wp_iconst 1 D_90 (by decide) ?_
      refine wp_icmp_le D_91 (pc'' := 109) ⟨by decide, by decide⟩ (fun h44 => by exact absurd h44 (by decide)) (fun h44 => ?_)
      refine wp_aload D_94 rfl rfl ?_
      refine wp_iconst 1 D_96 (by decide) ?_
      refine wp_caload (i := 3) (1) D_97 rfl (by decide) (by decide) rfl ?_
      refine wp_bipush 35 D_98 (by decide) ?_
      refine wp_icmp_ne D_100 (pc'' := 109) ⟨by decide, by decide⟩ (fun h45 => ?_) (fun h45 => ?_)
      · skip
        refine wp_iload D_109 rfl ?_
        refine wp_iconst 2 D_111 (by decide) ?_
        refine wp_icmp_le D_112 (pc'' := 130) ⟨by decide, by decide⟩ (fun h46 => ?_) (fun h46 => by exact absurd h46 (by decide))
        refine wp_iload D_130 rfl ?_
        refine wp_iconst 3 D_132 (by decide) ?_
        refine wp_icmp_le D_133 (pc'' := 148) ⟨by decide, by decide⟩ (fun h47 => ?_) (fun h47 => by exact absurd h47 (by decide))
        refine wp_aload D_148 rfl rfl ?_
        refine Wp.pick [1, 0, 2, 3, 4] (by decide) ?_
        show W44 l Z room_1 [(t40, strO b39), (b39, fA .byte [(nar .byte c0.toInt8.toInt32), (nar .byte c1.toInt8.toInt32)]), (q41, oA .char [c0, c1]), (a38, oA .char [c0, c1, c2, c3]), (aE, fI "java/util/Optional" sg_2 [(.null)])] 4 12 150 #[.val (.int g0), .val (.int g1), .val (.int g2), .val (.int g3), .val (.int g4), .val (.int 2), .val (.ref a38), .val (.ref t40), .val (.int (-1)), .unset, .unset] [(.ref t40)] Q_law
        refine wp_callS (c_fr_2_m l Z a0 hw t40 b39 (nar .byte c0.toInt8.toInt32) (nar .byte c1.toInt8.toInt32) aE cp fm [(q41, oA .char [c0, c1]), (a38, oA .char [c0, c1, c2, c3]), (aE, fI "java/util/Optional" sg_2 [(.null)])] hs S_E (own_35 c0 hc0 h43) (own_35 c1 hc1 h45)) D_150 (gw hw 31 rfl) (gw hw 32 rfl) (gw hw 33 rfl) (gw hw 34 rfl) (by decide) pd_29 rfl rfl rfl (lb rfl) (lb rfl) (lb rfl) (lb rfl) ?_
        rintro _ _ ⟨rfl, rfl⟩
        show W44 l Z room_1 [(t40, strO b39), (b39, fA .byte [(nar .byte c0.toInt8.toInt32), (nar .byte c1.toInt8.toInt32)]), (q41, oA .char [c0, c1]), (a38, oA .char [c0, c1, c2, c3]), (aE, fI "java/util/Optional" sg_2 [(.null)])] 4 12 153 #[.val (.int g0), .val (.int g1), .val (.int g2), .val (.int g3), .val (.int g4), .val (.int 2), .val (.ref a38), .val (.ref t40), .val (.int (-1)), .unset, .unset] [(.ref aE)] Q_law
        refine wp_astore #[.val (.int g0), .val (.int g1), .val (.int g2), .val (.int g3), .val (.int g4), .val (.int 2), .val (.ref a38), .val (.ref t40), .val (.int (-1)), .val (.ref aE), .unset] D_153 rfl rfl ?_
        refine wp_iload D_155 rfl ?_
        refine wp_if_ge D_157 (pc'' := 174) ⟨by decide, by decide⟩ (fun h48 => by exact absurd h48 (by decide)) (fun h48 => ?_)
        refine wp_aload D_160 rfl rfl ?_
        refine Wp.pick [4, 0, 1, 2, 3] (by decide) ?_
        show W44 l Z room_1 [(aE, fI "java/util/Optional" sg_2 [(.null)]), (t40, strO b39), (b39, fA .byte [(nar .byte c0.toInt8.toInt32), (nar .byte c1.toInt8.toInt32)]), (q41, oA .char [c0, c1]), (a38, oA .char [c0, c1, c2, c3])] 4 12 162 #[.val (.int g0), .val (.int g1), .val (.int g2), .val (.int g3), .val (.int g4), .val (.int 2), .val (.ref a38), .val (.ref t40), .val (.int (-1)), .val (.ref aE), .unset] [(.ref aE)] Q_law
        refine wp_virtual (c_ip0 l Z a0 hw aE [(t40, strO b39), (b39, fA .byte [(nar .byte c0.toInt8.toInt32), (nar .byte c1.toInt8.toInt32)]), (q41, oA .char [c0, c1]), (a38, oA .char [c0, c1, c2, c3])] ) (exa_new (i := 0) rfl) D_162 (gw hw 80 rfl) (gw hw 81 rfl) (gw hw 83 rfl) (gw hw 83 rfl) (gw hw 82 rfl) (gw hw 77 rfl) (gw hw 84 rfl) (by decide) pd_4 rfl rfl rfl (lb rfl) (lb rfl) (lb rfl) (lb rfl) ?_
        rintro _ _ ⟨rfl, rfl⟩
        show W44 l Z room_1 [(aE, fI "java/util/Optional" sg_2 [(.null)]), (t40, strO b39), (b39, fA .byte [(nar .byte c0.toInt8.toInt32), (nar .byte c1.toInt8.toInt32)]), (q41, oA .char [c0, c1]), (a38, oA .char [c0, c1, c2, c3])] 4 12 165 #[.val (.int g0), .val (.int g1), .val (.int g2), .val (.int g3), .val (.int g4), .val (.int 2), .val (.ref a38), .val (.ref t40), .val (.int (-1)), .val (.ref aE), .unset] [(.int 0)] Q_law
        refine wp_if_ne D_165 (pc'' := 172) ⟨by decide, by decide⟩ (fun h49 => by exact absurd h49 (by decide)) (fun h49 => ?_)
        refine wp_iconst 1 D_168 (by decide) ?_
        refine wp_goto D_169 (pc'' := 173) ⟨by decide, by decide⟩ ?_
        refine wp_ireturnN D_173 rfl (by simp) (by decide) (by decide) ?_
        exact rfl
      · skip
        refine wp_iconst 1 D_103 (by decide) ?_
        refine wp_istore #[.val (.int g0), .val (.int g1), .val (.int g2), .val (.int g3), .val (.int g4), .val (.int 2), .val (.ref a38), .val (.ref t40), .val (.int 1), .unset, .unset] D_104 rfl ?_
        refine wp_goto D_106 (pc'' := 148) ⟨by decide, by decide⟩ ?_
        refine wp_aload D_148 rfl rfl ?_
        refine Wp.pick [1, 0, 2, 3, 4] (by decide) ?_
        show W44 l Z room_1 [(t40, strO b39), (b39, fA .byte [(nar .byte c0.toInt8.toInt32), (nar .byte c1.toInt8.toInt32)]), (q41, oA .char [c0, c1]), (a38, oA .char [c0, c1, c2, c3]), (aE, fI "java/util/Optional" sg_2 [(.null)])] 4 12 150 #[.val (.int g0), .val (.int g1), .val (.int g2), .val (.int g3), .val (.int g4), .val (.int 2), .val (.ref a38), .val (.ref t40), .val (.int 1), .unset, .unset] [(.ref t40)] Q_law
        refine wp_callSI (c_fr_2_1 l Z a0 hw t40 b39 (nar .byte c0.toInt8.toInt32) (nar .byte c1.toInt8.toInt32) cp fm [(q41, oA .char [c0, c1]), (a38, oA .char [c0, c1, c2, c3]), (aE, fI "java/util/Optional" sg_2 [(.null)])] hs (own_35 c0 hc0 h43) (own_35y c1 h45)) (own_EL l Z a0 hw) D_150 (gw hw 31 rfl) (gw hw 32 rfl) (gw hw 33 rfl) (gw hw 34 rfl) (by decide) pd_29 rfl rfl rfl (lb rfl) (lb rfl) (lb rfl) (lb rfl) ?_
        rintro _ _ ⟨o50, sa51, su52, rfl, rfl⟩
        show W44 l Z room_1 [(o50, fI "java/util/Optional" sg_2 [(.ref sa51)]), (sa51, strO su52), (su52, fA .byte []), (t40, strO b39), (b39, fA .byte [(nar .byte c0.toInt8.toInt32), (nar .byte c1.toInt8.toInt32)]), (q41, oA .char [c0, c1]), (a38, oA .char [c0, c1, c2, c3]), (aE, fI "java/util/Optional" sg_2 [(.null)])] 7 17 153 #[.val (.int g0), .val (.int g1), .val (.int g2), .val (.int g3), .val (.int g4), .val (.int 2), .val (.ref a38), .val (.ref t40), .val (.int 1), .unset, .unset] [(.ref o50)] Q_law
        refine wp_astore #[.val (.int g0), .val (.int g1), .val (.int g2), .val (.int g3), .val (.int g4), .val (.int 2), .val (.ref a38), .val (.ref t40), .val (.int 1), .val (.ref o50), .unset] D_153 rfl rfl ?_
        refine wp_iload D_155 rfl ?_
        refine wp_if_ge D_157 (pc'' := 174) ⟨by decide, by decide⟩ (fun h53 => ?_) (fun h53 => by exact absurd h53 (by decide))
        refine wp_iload D_174 rfl ?_
        refine wp_iload D_176 rfl ?_
        refine wp_isub D_178 ?_
        rw [show ((2 : Int32) - (1 : Int32)) = (1 : Int32) from by decide]
        refine wp_iconst 1 D_179 (by decide) ?_
        refine wp_isub D_180 ?_
        rw [show ((1 : Int32) - (1 : Int32)) = (0 : Int32) from by decide]
        refine wp_aload D_181 rfl rfl ?_
        refine wp_iload D_183 rfl ?_
        refine wp_iconst 1 D_185 (by decide) ?_
        refine wp_iadd D_186 ?_
        rw [show ((1 : Int32) + (1 : Int32)) = (2 : Int32) from by decide]
        refine Wp.pick [6, 0, 1, 2, 3, 4, 5, 7] (by decide) ?_
        show W44 l Z room_1 [(a38, oA .char [c0, c1, c2, c3]), (o50, fI "java/util/Optional" sg_2 [(.ref sa51)]), (sa51, strO su52), (su52, fA .byte []), (t40, strO b39), (b39, fA .byte [(nar .byte c0.toInt8.toInt32), (nar .byte c1.toInt8.toInt32)]), (q41, oA .char [c0, c1]), (aE, fI "java/util/Optional" sg_2 [(.null)])] 7 17 187 #[.val (.int g0), .val (.int g1), .val (.int g2), .val (.int g3), .val (.int g4), .val (.int 2), .val (.ref a38), .val (.ref t40), .val (.int 1), .val (.ref o50), .unset] [(.int 2), (.ref a38), (.int 0)] Q_law
        refine wp_callS (c_at_2 l Z a0 hw a38 c0 c1 c2 c3 [(o50, fI "java/util/Optional" sg_2 [(.ref sa51)]), (sa51, strO su52), (su52, fA .byte []), (t40, strO b39), (b39, fA .byte [(nar .byte c0.toInt8.toInt32), (nar .byte c1.toInt8.toInt32)]), (q41, oA .char [c0, c1]), (aE, fI "java/util/Optional" sg_2 [(.null)])] hc2) D_187 (gw hw 154 rfl) (gw hw 155 rfl) (gw hw 4 rfl) (gw hw 156 rfl) (by decide) pd_30 rfl rfl rfl (lb rfl) (lb rfl) (lb rfl) (lb rfl) ?_
        rintro _ _ ⟨rfl, rfl⟩
        show W44 l Z room_1 [(a38, oA .char [c0, c1, c2, c3]), (o50, fI "java/util/Optional" sg_2 [(.ref sa51)]), (sa51, strO su52), (su52, fA .byte []), (t40, strO b39), (b39, fA .byte [(nar .byte c0.toInt8.toInt32), (nar .byte c1.toInt8.toInt32)]), (q41, oA .char [c0, c1]), (aE, fI "java/util/Optional" sg_2 [(.null)])] 7 17 190 #[.val (.int g0), .val (.int g1), .val (.int g2), .val (.int g3), .val (.int g4), .val (.int 2), .val (.ref a38), .val (.ref t40), .val (.int 1), .val (.ref o50), .unset] [(.int c2), (.int 0)] Q_law
        refine wp_aload D_190 rfl rfl ?_
        refine wp_iload D_192 rfl ?_
        refine wp_iconst 2 D_194 (by decide) ?_
        refine wp_iadd D_195 ?_
        rw [show ((1 : Int32) + (2 : Int32)) = (3 : Int32) from by decide]
        refine wp_callS (c_at_3 l Z a0 hw a38 c0 c1 c2 c3 [(o50, fI "java/util/Optional" sg_2 [(.ref sa51)]), (sa51, strO su52), (su52, fA .byte []), (t40, strO b39), (b39, fA .byte [(nar .byte c0.toInt8.toInt32), (nar .byte c1.toInt8.toInt32)]), (q41, oA .char [c0, c1]), (aE, fI "java/util/Optional" sg_2 [(.null)])] hc3) D_196 (gw hw 154 rfl) (gw hw 155 rfl) (gw hw 4 rfl) (gw hw 156 rfl) (by decide) pd_30 rfl rfl rfl (lb rfl) (lb rfl) (lb rfl) (lb rfl) ?_
        rintro _ _ ⟨rfl, rfl⟩
        show W44 l Z room_1 [(a38, oA .char [c0, c1, c2, c3]), (o50, fI "java/util/Optional" sg_2 [(.ref sa51)]), (sa51, strO su52), (su52, fA .byte []), (t40, strO b39), (b39, fA .byte [(nar .byte c0.toInt8.toInt32), (nar .byte c1.toInt8.toInt32)]), (q41, oA .char [c0, c1]), (aE, fI "java/util/Optional" sg_2 [(.null)])] 7 17 199 #[.val (.int g0), .val (.int g1), .val (.int g2), .val (.int g3), .val (.int g4), .val (.int 2), .val (.ref a38), .val (.ref t40), .val (.int 1), .val (.ref o50), .unset] [(.int c3), (.int c2), (.int 0)] Q_law
        refine wp_aload D_199 rfl rfl ?_
        refine wp_iload D_201 rfl ?_
        refine wp_iconst 3 D_203 (by decide) ?_
        refine wp_iadd D_204 ?_
        rw [show ((1 : Int32) + (3 : Int32)) = (4 : Int32) from by decide]
        refine wp_callS (c_at_4 l Z a0 hw a38 c0 c1 c2 c3 [(o50, fI "java/util/Optional" sg_2 [(.ref sa51)]), (sa51, strO su52), (su52, fA .byte []), (t40, strO b39), (b39, fA .byte [(nar .byte c0.toInt8.toInt32), (nar .byte c1.toInt8.toInt32)]), (q41, oA .char [c0, c1]), (aE, fI "java/util/Optional" sg_2 [(.null)])] ) D_205 (gw hw 154 rfl) (gw hw 155 rfl) (gw hw 4 rfl) (gw hw 156 rfl) (by decide) pd_30 rfl rfl rfl (lb rfl) (lb rfl) (lb rfl) (lb rfl) ?_
        rintro _ _ ⟨rfl, rfl⟩
        show W44 l Z room_1 [(a38, oA .char [c0, c1, c2, c3]), (o50, fI "java/util/Optional" sg_2 [(.ref sa51)]), (sa51, strO su52), (su52, fA .byte []), (t40, strO b39), (b39, fA .byte [(nar .byte c0.toInt8.toInt32), (nar .byte c1.toInt8.toInt32)]), (q41, oA .char [c0, c1]), (aE, fI "java/util/Optional" sg_2 [(.null)])] 7 17 208 #[.val (.int g0), .val (.int g1), .val (.int g2), .val (.int g3), .val (.int g4), .val (.int 2), .val (.ref a38), .val (.ref t40), .val (.int 1), .val (.ref o50), .unset] [(.int 120), (.int c3), (.int c2), (.int 0)] Q_law
        refine wp_aload D_208 rfl rfl ?_
        refine wp_iload D_210 rfl ?_
        refine wp_iconst 4 D_212 (by decide) ?_
        refine wp_iadd D_213 ?_
        rw [show ((1 : Int32) + (4 : Int32)) = (5 : Int32) from by decide]
        refine wp_callS (c_at_5 l Z a0 hw a38 c0 c1 c2 c3 [(o50, fI "java/util/Optional" sg_2 [(.ref sa51)]), (sa51, strO su52), (su52, fA .byte []), (t40, strO b39), (b39, fA .byte [(nar .byte c0.toInt8.toInt32), (nar .byte c1.toInt8.toInt32)]), (q41, oA .char [c0, c1]), (aE, fI "java/util/Optional" sg_2 [(.null)])] ) D_214 (gw hw 154 rfl) (gw hw 155 rfl) (gw hw 4 rfl) (gw hw 156 rfl) (by decide) pd_30 rfl rfl rfl (lb rfl) (lb rfl) (lb rfl) (lb rfl) ?_
        rintro _ _ ⟨rfl, rfl⟩
        show W44 l Z room_1 [(a38, oA .char [c0, c1, c2, c3]), (o50, fI "java/util/Optional" sg_2 [(.ref sa51)]), (sa51, strO su52), (su52, fA .byte []), (t40, strO b39), (b39, fA .byte [(nar .byte c0.toInt8.toInt32), (nar .byte c1.toInt8.toInt32)]), (q41, oA .char [c0, c1]), (aE, fI "java/util/Optional" sg_2 [(.null)])] 7 17 217 #[.val (.int g0), .val (.int g1), .val (.int g2), .val (.int g3), .val (.int g4), .val (.int 2), .val (.ref a38), .val (.ref t40), .val (.int 1), .val (.ref o50), .unset] [(.int 120), (.int 120), (.int c3), (.int c2), (.int 0)] Q_law
        refine wp_callSI (c_str_0 l Z a0 hw c2 c3 (120 : Int32) (120 : Int32) cp fm [(a38, oA .char [c0, c1, c2, c3]), (o50, fI "java/util/Optional" sg_2 [(.ref sa51)]), (sa51, strO su52), (su52, fA .byte []), (t40, strO b39), (b39, fA .byte [(nar .byte c0.toInt8.toInt32), (nar .byte c1.toInt8.toInt32)]), (q41, oA .char [c0, c1]), (aE, fI "java/util/Optional" sg_2 [(.null)])] hs ) (own_EL l Z a0 hw) D_217 (gw hw 7 rfl) (gw hw 8 rfl) (gw hw 4 rfl) (gw hw 9 rfl) (by decide) pd_27 rfl rfl rfl (lb rfl) (lb rfl) (lb rfl) (lb rfl) ?_
        rintro _ _ ⟨z54, z55, z56, z57, t58, q59, rfl, rfl⟩
        show W44 l Z room_1 [(z54, strO z55), (z55, fA .byte []), (z56, strO z57), (z57, fA .byte []), (t58, strO z57), (q59, oA .char []), (a38, oA .char [c0, c1, c2, c3]), (o50, fI "java/util/Optional" sg_2 [(.ref sa51)]), (sa51, strO su52), (su52, fA .byte []), (t40, strO b39), (b39, fA .byte [(nar .byte c0.toInt8.toInt32), (nar .byte c1.toInt8.toInt32)]), (q41, oA .char [c0, c1]), (aE, fI "java/util/Optional" sg_2 [(.null)])] 13 29 220 #[.val (.int g0), .val (.int g1), .val (.int g2), .val (.int g3), .val (.int g4), .val (.int 2), .val (.ref a38), .val (.ref t40), .val (.int 1), .val (.ref o50), .unset] [(.ref t58)] Q_law
        refine wp_astore #[.val (.int g0), .val (.int g1), .val (.int g2), .val (.int g3), .val (.int g4), .val (.int 2), .val (.ref a38), .val (.ref t40), .val (.int 1), .val (.ref o50), .val (.ref t58)] D_220 rfl rfl ?_
        refine wp_aload D_222 rfl rfl ?_
        refine Wp.pick [7, 0, 1, 2, 3, 4, 5, 6, 8, 9, 10, 11, 12, 13] (by decide) ?_
        show W44 l Z room_1 [(o50, fI "java/util/Optional" sg_2 [(.ref sa51)]), (z54, strO z55), (z55, fA .byte []), (z56, strO z57), (z57, fA .byte []), (t58, strO z57), (q59, oA .char []), (a38, oA .char [c0, c1, c2, c3]), (sa51, strO su52), (su52, fA .byte []), (t40, strO b39), (b39, fA .byte [(nar .byte c0.toInt8.toInt32), (nar .byte c1.toInt8.toInt32)]), (q41, oA .char [c0, c1]), (aE, fI "java/util/Optional" sg_2 [(.null)])] 13 29 224 #[.val (.int g0), .val (.int g1), .val (.int g2), .val (.int g3), .val (.int g4), .val (.int 2), .val (.ref a38), .val (.ref t40), .val (.int 1), .val (.ref o50), .val (.ref t58)] [(.ref o50)] Q_law
        refine wp_virtual (c_ip1 l Z a0 hw o50 sa51 [(z54, strO z55), (z55, fA .byte []), (z56, strO z57), (z57, fA .byte []), (t58, strO z57), (q59, oA .char []), (a38, oA .char [c0, c1, c2, c3]), (sa51, strO su52), (su52, fA .byte []), (t40, strO b39), (b39, fA .byte [(nar .byte c0.toInt8.toInt32), (nar .byte c1.toInt8.toInt32)]), (q41, oA .char [c0, c1]), (aE, fI "java/util/Optional" sg_2 [(.null)])] ) (exa_new (i := 0) rfl) D_224 (gw hw 80 rfl) (gw hw 81 rfl) (gw hw 83 rfl) (gw hw 83 rfl) (gw hw 82 rfl) (gw hw 77 rfl) (gw hw 84 rfl) (by decide) pd_4 rfl rfl rfl (lb rfl) (lb rfl) (lb rfl) (lb rfl) ?_
        rintro _ _ ⟨rfl, rfl⟩
        show W44 l Z room_1 [(o50, fI "java/util/Optional" sg_2 [(.ref sa51)]), (z54, strO z55), (z55, fA .byte []), (z56, strO z57), (z57, fA .byte []), (t58, strO z57), (q59, oA .char []), (a38, oA .char [c0, c1, c2, c3]), (sa51, strO su52), (su52, fA .byte []), (t40, strO b39), (b39, fA .byte [(nar .byte c0.toInt8.toInt32), (nar .byte c1.toInt8.toInt32)]), (q41, oA .char [c0, c1]), (aE, fI "java/util/Optional" sg_2 [(.null)])] 13 29 227 #[.val (.int g0), .val (.int g1), .val (.int g2), .val (.int g3), .val (.int g4), .val (.int 2), .val (.ref a38), .val (.ref t40), .val (.int 1), .val (.ref o50), .val (.ref t58)] [(.int 1)] Q_law
        refine wp_if_eq D_227 (pc'' := 250) ⟨by decide, by decide⟩ (fun h60 => by exact absurd h60 (by decide)) (fun h60 => ?_)
        refine wp_aload D_230 rfl rfl ?_
        refine wp_virtual (c_get l Z a0 hw o50 sa51 [(z54, strO z55), (z55, fA .byte []), (z56, strO z57), (z57, fA .byte []), (t58, strO z57), (q59, oA .char []), (a38, oA .char [c0, c1, c2, c3]), (sa51, strO su52), (su52, fA .byte []), (t40, strO b39), (b39, fA .byte [(nar .byte c0.toInt8.toInt32), (nar .byte c1.toInt8.toInt32)]), (q41, oA .char [c0, c1]), (aE, fI "java/util/Optional" sg_2 [(.null)])] ) (exa_new (i := 0) rfl) D_232 (gw hw 157 rfl) (gw hw 158 rfl) (gw hw 160 rfl) (gw hw 160 rfl) (gw hw 159 rfl) (gw hw 77 rfl) (gw hw 161 rfl) (by decide) pd_31 rfl rfl rfl (lb rfl) (lb rfl) (lb rfl) (lb rfl) ?_
        rintro _ _ ⟨rfl, rfl⟩
        show W44 l Z room_1 [(o50, fI "java/util/Optional" sg_2 [(.ref sa51)]), (z54, strO z55), (z55, fA .byte []), (z56, strO z57), (z57, fA .byte []), (t58, strO z57), (q59, oA .char []), (a38, oA .char [c0, c1, c2, c3]), (sa51, strO su52), (su52, fA .byte []), (t40, strO b39), (b39, fA .byte [(nar .byte c0.toInt8.toInt32), (nar .byte c1.toInt8.toInt32)]), (q41, oA .char [c0, c1]), (aE, fI "java/util/Optional" sg_2 [(.null)])] 13 29 235 #[.val (.int g0), .val (.int g1), .val (.int g2), .val (.int g3), .val (.int g4), .val (.int 2), .val (.ref a38), .val (.ref t40), .val (.int 1), .val (.ref o50), .val (.ref t58)] [(.ref sa51)] Q_law
        refine wp_cast D_235 (gw hw 10 rfl) (fun h P => Ins.self (exa_new (i := 8) rfl h P)) ?_
        refine wp_aload D_238 rfl rfl ?_
        refine Wp.pick [8, 9, 5, 4, 0, 1, 2, 3, 6, 7, 10, 11, 12, 13] (by decide) ?_
        show W44 l Z room_1 [(sa51, strO su52), (su52, fA .byte []), (t58, strO z57), (z57, fA .byte []), (o50, fI "java/util/Optional" sg_2 [(.ref sa51)]), (z54, strO z55), (z55, fA .byte []), (z56, strO z57), (q59, oA .char []), (a38, oA .char [c0, c1, c2, c3]), (t40, strO b39), (b39, fA .byte [(nar .byte c0.toInt8.toInt32), (nar .byte c1.toInt8.toInt32)]), (q41, oA .char [c0, c1]), (aE, fI "java/util/Optional" sg_2 [(.null)])] 13 29 240 #[.val (.int g0), .val (.int g1), .val (.int g2), .val (.int g3), .val (.int g4), .val (.int 2), .val (.ref a38), .val (.ref t40), .val (.int 1), .val (.ref o50), .val (.ref t58)] [(.ref t58), (.ref sa51)] Q_law
        refine wp_virtual (c_seq_0 l Z a0 hw sa51 su52 t58 z57 cp fm [(o50, fI "java/util/Optional" sg_2 [(.ref sa51)]), (z54, strO z55), (z55, fA .byte []), (z56, strO z57), (q59, oA .char []), (a38, oA .char [c0, c1, c2, c3]), (t40, strO b39), (b39, fA .byte [(nar .byte c0.toInt8.toInt32), (nar .byte c1.toInt8.toInt32)]), (q41, oA .char [c0, c1]), (aE, fI "java/util/Optional" sg_2 [(.null)])] hs ) (exa_new (i := 0) rfl) D_240 (gw hw 162 rfl) (gw hw 163 rfl) (gw hw 165 rfl) (gw hw 165 rfl) (gw hw 164 rfl) (gw hw 12 rfl) (gw hw 166 rfl) (by decide) pd_32 rfl rfl rfl (lb rfl) (lb rfl) (lb rfl) (lb rfl) ?_
        rintro _ _ ⟨rfl, rfl⟩
        show W44 l Z room_1 [(sa51, strO su52), (su52, fA .byte []), (t58, strO z57), (z57, fA .byte []), (o50, fI "java/util/Optional" sg_2 [(.ref sa51)]), (z54, strO z55), (z55, fA .byte []), (z56, strO z57), (q59, oA .char []), (a38, oA .char [c0, c1, c2, c3]), (t40, strO b39), (b39, fA .byte [(nar .byte c0.toInt8.toInt32), (nar .byte c1.toInt8.toInt32)]), (q41, oA .char [c0, c1]), (aE, fI "java/util/Optional" sg_2 [(.null)])] 13 29 243 #[.val (.int g0), .val (.int g1), .val (.int g2), .val (.int g3), .val (.int g4), .val (.int 2), .val (.ref a38), .val (.ref t40), .val (.int 1), .val (.ref o50), .val (.ref t58)] [(.int 1)] Q_law
        refine wp_if_eq D_243 (pc'' := 250) ⟨by decide, by decide⟩ (fun h61 => by exact absurd h61 (by decide)) (fun h61 => ?_)
        refine wp_iconst 1 D_246 (by decide) ?_
        refine wp_goto D_247 (pc'' := 251) ⟨by decide, by decide⟩ ?_
        refine wp_ireturnN D_251 rfl (by simp) (by decide) (by decide) ?_
        exact rfl
    · skip
      refine wp_iconst 0 D_82 (by decide) ?_
      refine wp_istore #[.val (.int g0), .val (.int g1), .val (.int g2), .val (.int g3), .val (.int g4), .val (.int 2), .val (.ref a38), .val (.ref t40), .val (.int 0), .unset, .unset] D_83 rfl ?_
      refine wp_goto D_85 (pc'' := 148) ⟨by decide, by decide⟩ ?_
      refine wp_aload D_148 rfl rfl ?_
      refine Wp.pick [1, 0, 2, 3, 4] (by decide) ?_
      show W44 l Z room_1 [(t40, strO b39), (b39, fA .byte [(nar .byte c0.toInt8.toInt32), (nar .byte c1.toInt8.toInt32)]), (q41, oA .char [c0, c1]), (a38, oA .char [c0, c1, c2, c3]), (aE, fI "java/util/Optional" sg_2 [(.null)])] 4 12 150 #[.val (.int g0), .val (.int g1), .val (.int g2), .val (.int g3), .val (.int g4), .val (.int 2), .val (.ref a38), .val (.ref t40), .val (.int 0), .unset, .unset] [(.ref t40)] Q_law
      refine wp_callS (c_fr_2_0 l Z a0 hw t40 b39 (nar .byte c0.toInt8.toInt32) (nar .byte c1.toInt8.toInt32) cp fm [(q41, oA .char [c0, c1]), (a38, oA .char [c0, c1, c2, c3]), (aE, fI "java/util/Optional" sg_2 [(.null)])] hs (own_35y c0 h43)) D_150 (gw hw 31 rfl) (gw hw 32 rfl) (gw hw 33 rfl) (gw hw 34 rfl) (by decide) pd_29 rfl rfl rfl (lb rfl) (lb rfl) (lb rfl) (lb rfl) ?_
      rintro _ _ ⟨o62, sa63, su64, rfl, rfl⟩
      show W44 l Z room_1 [(o62, fI "java/util/Optional" sg_2 [(.ref sa63)]), (su64, fA .byte [(nar .byte c1.toInt8.toInt32)]), (sa63, strO su64), (t40, strO b39), (b39, fA .byte [(nar .byte c0.toInt8.toInt32), (nar .byte c1.toInt8.toInt32)]), (q41, oA .char [c0, c1]), (a38, oA .char [c0, c1, c2, c3]), (aE, fI "java/util/Optional" sg_2 [(.null)])] 7 18 153 #[.val (.int g0), .val (.int g1), .val (.int g2), .val (.int g3), .val (.int g4), .val (.int 2), .val (.ref a38), .val (.ref t40), .val (.int 0), .unset, .unset] [(.ref o62)] Q_law
      refine wp_astore #[.val (.int g0), .val (.int g1), .val (.int g2), .val (.int g3), .val (.int g4), .val (.int 2), .val (.ref a38), .val (.ref t40), .val (.int 0), .val (.ref o62), .unset] D_153 rfl rfl ?_
      refine wp_iload D_155 rfl ?_
      refine wp_if_ge D_157 (pc'' := 174) ⟨by decide, by decide⟩ (fun h65 => ?_) (fun h65 => by exact absurd h65 (by decide))
      refine wp_iload D_174 rfl ?_
      refine wp_iload D_176 rfl ?_
      refine wp_isub D_178 ?_
      rw [show ((2 : Int32) - (0 : Int32)) = (2 : Int32) from by decide]
      refine wp_iconst 1 D_179 (by decide) ?_
      refine wp_isub D_180 ?_
      rw [show ((2 : Int32) - (1 : Int32)) = (1 : Int32) from by decide]
      refine wp_aload D_181 rfl rfl ?_
      refine wp_iload D_183 rfl ?_
      refine wp_iconst 1 D_185 (by decide) ?_
      refine wp_iadd D_186 ?_
      rw [show ((0 : Int32) + (1 : Int32)) = (1 : Int32) from by decide]
      refine Wp.pick [6, 0, 1, 2, 3, 4, 5, 7] (by decide) ?_
      show W44 l Z room_1 [(a38, oA .char [c0, c1, c2, c3]), (o62, fI "java/util/Optional" sg_2 [(.ref sa63)]), (su64, fA .byte [(nar .byte c1.toInt8.toInt32)]), (sa63, strO su64), (t40, strO b39), (b39, fA .byte [(nar .byte c0.toInt8.toInt32), (nar .byte c1.toInt8.toInt32)]), (q41, oA .char [c0, c1]), (aE, fI "java/util/Optional" sg_2 [(.null)])] 7 18 187 #[.val (.int g0), .val (.int g1), .val (.int g2), .val (.int g3), .val (.int g4), .val (.int 2), .val (.ref a38), .val (.ref t40), .val (.int 0), .val (.ref o62), .unset] [(.int 1), (.ref a38), (.int 1)] Q_law
      refine wp_callS (c_at_1 l Z a0 hw a38 c0 c1 c2 c3 [(o62, fI "java/util/Optional" sg_2 [(.ref sa63)]), (su64, fA .byte [(nar .byte c1.toInt8.toInt32)]), (sa63, strO su64), (t40, strO b39), (b39, fA .byte [(nar .byte c0.toInt8.toInt32), (nar .byte c1.toInt8.toInt32)]), (q41, oA .char [c0, c1]), (aE, fI "java/util/Optional" sg_2 [(.null)])] hc1) D_187 (gw hw 154 rfl) (gw hw 155 rfl) (gw hw 4 rfl) (gw hw 156 rfl) (by decide) pd_30 rfl rfl rfl (lb rfl) (lb rfl) (lb rfl) (lb rfl) ?_
      rintro _ _ ⟨rfl, rfl⟩
      show W44 l Z room_1 [(a38, oA .char [c0, c1, c2, c3]), (o62, fI "java/util/Optional" sg_2 [(.ref sa63)]), (su64, fA .byte [(nar .byte c1.toInt8.toInt32)]), (sa63, strO su64), (t40, strO b39), (b39, fA .byte [(nar .byte c0.toInt8.toInt32), (nar .byte c1.toInt8.toInt32)]), (q41, oA .char [c0, c1]), (aE, fI "java/util/Optional" sg_2 [(.null)])] 7 18 190 #[.val (.int g0), .val (.int g1), .val (.int g2), .val (.int g3), .val (.int g4), .val (.int 2), .val (.ref a38), .val (.ref t40), .val (.int 0), .val (.ref o62), .unset] [(.int c1), (.int 1)] Q_law
      refine wp_aload D_190 rfl rfl ?_
      refine wp_iload D_192 rfl ?_
      refine wp_iconst 2 D_194 (by decide) ?_
      refine wp_iadd D_195 ?_
      rw [show ((0 : Int32) + (2 : Int32)) = (2 : Int32) from by decide]
      refine wp_callS (c_at_2 l Z a0 hw a38 c0 c1 c2 c3 [(o62, fI "java/util/Optional" sg_2 [(.ref sa63)]), (su64, fA .byte [(nar .byte c1.toInt8.toInt32)]), (sa63, strO su64), (t40, strO b39), (b39, fA .byte [(nar .byte c0.toInt8.toInt32), (nar .byte c1.toInt8.toInt32)]), (q41, oA .char [c0, c1]), (aE, fI "java/util/Optional" sg_2 [(.null)])] hc2) D_196 (gw hw 154 rfl) (gw hw 155 rfl) (gw hw 4 rfl) (gw hw 156 rfl) (by decide) pd_30 rfl rfl rfl (lb rfl) (lb rfl) (lb rfl) (lb rfl) ?_
      rintro _ _ ⟨rfl, rfl⟩
      show W44 l Z room_1 [(a38, oA .char [c0, c1, c2, c3]), (o62, fI "java/util/Optional" sg_2 [(.ref sa63)]), (su64, fA .byte [(nar .byte c1.toInt8.toInt32)]), (sa63, strO su64), (t40, strO b39), (b39, fA .byte [(nar .byte c0.toInt8.toInt32), (nar .byte c1.toInt8.toInt32)]), (q41, oA .char [c0, c1]), (aE, fI "java/util/Optional" sg_2 [(.null)])] 7 18 199 #[.val (.int g0), .val (.int g1), .val (.int g2), .val (.int g3), .val (.int g4), .val (.int 2), .val (.ref a38), .val (.ref t40), .val (.int 0), .val (.ref o62), .unset] [(.int c2), (.int c1), (.int 1)] Q_law
      refine wp_aload D_199 rfl rfl ?_
      refine wp_iload D_201 rfl ?_
      refine wp_iconst 3 D_203 (by decide) ?_
      refine wp_iadd D_204 ?_
      rw [show ((0 : Int32) + (3 : Int32)) = (3 : Int32) from by decide]
      refine wp_callS (c_at_3 l Z a0 hw a38 c0 c1 c2 c3 [(o62, fI "java/util/Optional" sg_2 [(.ref sa63)]), (su64, fA .byte [(nar .byte c1.toInt8.toInt32)]), (sa63, strO su64), (t40, strO b39), (b39, fA .byte [(nar .byte c0.toInt8.toInt32), (nar .byte c1.toInt8.toInt32)]), (q41, oA .char [c0, c1]), (aE, fI "java/util/Optional" sg_2 [(.null)])] hc3) D_205 (gw hw 154 rfl) (gw hw 155 rfl) (gw hw 4 rfl) (gw hw 156 rfl) (by decide) pd_30 rfl rfl rfl (lb rfl) (lb rfl) (lb rfl) (lb rfl) ?_
      rintro _ _ ⟨rfl, rfl⟩
      show W44 l Z room_1 [(a38, oA .char [c0, c1, c2, c3]), (o62, fI "java/util/Optional" sg_2 [(.ref sa63)]), (su64, fA .byte [(nar .byte c1.toInt8.toInt32)]), (sa63, strO su64), (t40, strO b39), (b39, fA .byte [(nar .byte c0.toInt8.toInt32), (nar .byte c1.toInt8.toInt32)]), (q41, oA .char [c0, c1]), (aE, fI "java/util/Optional" sg_2 [(.null)])] 7 18 208 #[.val (.int g0), .val (.int g1), .val (.int g2), .val (.int g3), .val (.int g4), .val (.int 2), .val (.ref a38), .val (.ref t40), .val (.int 0), .val (.ref o62), .unset] [(.int c3), (.int c2), (.int c1), (.int 1)] Q_law
      refine wp_aload D_208 rfl rfl ?_
      refine wp_iload D_210 rfl ?_
      refine wp_iconst 4 D_212 (by decide) ?_
      refine wp_iadd D_213 ?_
      rw [show ((0 : Int32) + (4 : Int32)) = (4 : Int32) from by decide]
      refine wp_callS (c_at_4 l Z a0 hw a38 c0 c1 c2 c3 [(o62, fI "java/util/Optional" sg_2 [(.ref sa63)]), (su64, fA .byte [(nar .byte c1.toInt8.toInt32)]), (sa63, strO su64), (t40, strO b39), (b39, fA .byte [(nar .byte c0.toInt8.toInt32), (nar .byte c1.toInt8.toInt32)]), (q41, oA .char [c0, c1]), (aE, fI "java/util/Optional" sg_2 [(.null)])] ) D_214 (gw hw 154 rfl) (gw hw 155 rfl) (gw hw 4 rfl) (gw hw 156 rfl) (by decide) pd_30 rfl rfl rfl (lb rfl) (lb rfl) (lb rfl) (lb rfl) ?_
      rintro _ _ ⟨rfl, rfl⟩
      show W44 l Z room_1 [(a38, oA .char [c0, c1, c2, c3]), (o62, fI "java/util/Optional" sg_2 [(.ref sa63)]), (su64, fA .byte [(nar .byte c1.toInt8.toInt32)]), (sa63, strO su64), (t40, strO b39), (b39, fA .byte [(nar .byte c0.toInt8.toInt32), (nar .byte c1.toInt8.toInt32)]), (q41, oA .char [c0, c1]), (aE, fI "java/util/Optional" sg_2 [(.null)])] 7 18 217 #[.val (.int g0), .val (.int g1), .val (.int g2), .val (.int g3), .val (.int g4), .val (.int 2), .val (.ref a38), .val (.ref t40), .val (.int 0), .val (.ref o62), .unset] [(.int 120), (.int c3), (.int c2), (.int c1), (.int 1)] Q_law
      refine wp_callS (c_str_1 l Z a0 hw c1 c2 c3 (120 : Int32) cp fm [(a38, oA .char [c0, c1, c2, c3]), (o62, fI "java/util/Optional" sg_2 [(.ref sa63)]), (su64, fA .byte [(nar .byte c1.toInt8.toInt32)]), (sa63, strO su64), (t40, strO b39), (b39, fA .byte [(nar .byte c0.toInt8.toInt32), (nar .byte c1.toInt8.toInt32)]), (q41, oA .char [c0, c1]), (aE, fI "java/util/Optional" sg_2 [(.null)])] hs hc1) D_217 (gw hw 7 rfl) (gw hw 8 rfl) (gw hw 4 rfl) (gw hw 9 rfl) (by decide) pd_27 rfl rfl rfl (lb rfl) (lb rfl) (lb rfl) (lb rfl) ?_
      rintro _ _ ⟨b66, t67, q68, rfl, rfl⟩
      show W44 l Z room_1 [(b66, fA .byte [(nar .byte c1.toInt8.toInt32)]), (t67, strO b66), (q68, oA .char [c1]), (a38, oA .char [c0, c1, c2, c3]), (o62, fI "java/util/Optional" sg_2 [(.ref sa63)]), (su64, fA .byte [(nar .byte c1.toInt8.toInt32)]), (sa63, strO su64), (t40, strO b39), (b39, fA .byte [(nar .byte c0.toInt8.toInt32), (nar .byte c1.toInt8.toInt32)]), (q41, oA .char [c0, c1]), (aE, fI "java/util/Optional" sg_2 [(.null)])] 10 24 220 #[.val (.int g0), .val (.int g1), .val (.int g2), .val (.int g3), .val (.int g4), .val (.int 2), .val (.ref a38), .val (.ref t40), .val (.int 0), .val (.ref o62), .unset] [(.ref t67)] Q_law
      refine wp_astore #[.val (.int g0), .val (.int g1), .val (.int g2), .val (.int g3), .val (.int g4), .val (.int 2), .val (.ref a38), .val (.ref t40), .val (.int 0), .val (.ref o62), .val (.ref t67)] D_220 rfl rfl ?_
      refine wp_aload D_222 rfl rfl ?_
      refine Wp.pick [4, 0, 1, 2, 3, 5, 6, 7, 8, 9, 10] (by decide) ?_
      show W44 l Z room_1 [(o62, fI "java/util/Optional" sg_2 [(.ref sa63)]), (b66, fA .byte [(nar .byte c1.toInt8.toInt32)]), (t67, strO b66), (q68, oA .char [c1]), (a38, oA .char [c0, c1, c2, c3]), (su64, fA .byte [(nar .byte c1.toInt8.toInt32)]), (sa63, strO su64), (t40, strO b39), (b39, fA .byte [(nar .byte c0.toInt8.toInt32), (nar .byte c1.toInt8.toInt32)]), (q41, oA .char [c0, c1]), (aE, fI "java/util/Optional" sg_2 [(.null)])] 10 24 224 #[.val (.int g0), .val (.int g1), .val (.int g2), .val (.int g3), .val (.int g4), .val (.int 2), .val (.ref a38), .val (.ref t40), .val (.int 0), .val (.ref o62), .val (.ref t67)] [(.ref o62)] Q_law
      refine wp_virtual (c_ip1 l Z a0 hw o62 sa63 [(b66, fA .byte [(nar .byte c1.toInt8.toInt32)]), (t67, strO b66), (q68, oA .char [c1]), (a38, oA .char [c0, c1, c2, c3]), (su64, fA .byte [(nar .byte c1.toInt8.toInt32)]), (sa63, strO su64), (t40, strO b39), (b39, fA .byte [(nar .byte c0.toInt8.toInt32), (nar .byte c1.toInt8.toInt32)]), (q41, oA .char [c0, c1]), (aE, fI "java/util/Optional" sg_2 [(.null)])] ) (exa_new (i := 0) rfl) D_224 (gw hw 80 rfl) (gw hw 81 rfl) (gw hw 83 rfl) (gw hw 83 rfl) (gw hw 82 rfl) (gw hw 77 rfl) (gw hw 84 rfl) (by decide) pd_4 rfl rfl rfl (lb rfl) (lb rfl) (lb rfl) (lb rfl) ?_
      rintro _ _ ⟨rfl, rfl⟩
      show W44 l Z room_1 [(o62, fI "java/util/Optional" sg_2 [(.ref sa63)]), (b66, fA .byte [(nar .byte c1.toInt8.toInt32)]), (t67, strO b66), (q68, oA .char [c1]), (a38, oA .char [c0, c1, c2, c3]), (su64, fA .byte [(nar .byte c1.toInt8.toInt32)]), (sa63, strO su64), (t40, strO b39), (b39, fA .byte [(nar .byte c0.toInt8.toInt32), (nar .byte c1.toInt8.toInt32)]), (q41, oA .char [c0, c1]), (aE, fI "java/util/Optional" sg_2 [(.null)])] 10 24 227 #[.val (.int g0), .val (.int g1), .val (.int g2), .val (.int g3), .val (.int g4), .val (.int 2), .val (.ref a38), .val (.ref t40), .val (.int 0), .val (.ref o62), .val (.ref t67)] [(.int 1)] Q_law
      refine wp_if_eq D_227 (pc'' := 250) ⟨by decide, by decide⟩ (fun h69 => by exact absurd h69 (by decide)) (fun h69 => ?_)
      refine wp_aload D_230 rfl rfl ?_
      refine wp_virtual (c_get l Z a0 hw o62 sa63 [(b66, fA .byte [(nar .byte c1.toInt8.toInt32)]), (t67, strO b66), (q68, oA .char [c1]), (a38, oA .char [c0, c1, c2, c3]), (su64, fA .byte [(nar .byte c1.toInt8.toInt32)]), (sa63, strO su64), (t40, strO b39), (b39, fA .byte [(nar .byte c0.toInt8.toInt32), (nar .byte c1.toInt8.toInt32)]), (q41, oA .char [c0, c1]), (aE, fI "java/util/Optional" sg_2 [(.null)])] ) (exa_new (i := 0) rfl) D_232 (gw hw 157 rfl) (gw hw 158 rfl) (gw hw 160 rfl) (gw hw 160 rfl) (gw hw 159 rfl) (gw hw 77 rfl) (gw hw 161 rfl) (by decide) pd_31 rfl rfl rfl (lb rfl) (lb rfl) (lb rfl) (lb rfl) ?_
      rintro _ _ ⟨rfl, rfl⟩
      show W44 l Z room_1 [(o62, fI "java/util/Optional" sg_2 [(.ref sa63)]), (b66, fA .byte [(nar .byte c1.toInt8.toInt32)]), (t67, strO b66), (q68, oA .char [c1]), (a38, oA .char [c0, c1, c2, c3]), (su64, fA .byte [(nar .byte c1.toInt8.toInt32)]), (sa63, strO su64), (t40, strO b39), (b39, fA .byte [(nar .byte c0.toInt8.toInt32), (nar .byte c1.toInt8.toInt32)]), (q41, oA .char [c0, c1]), (aE, fI "java/util/Optional" sg_2 [(.null)])] 10 24 235 #[.val (.int g0), .val (.int g1), .val (.int g2), .val (.int g3), .val (.int g4), .val (.int 2), .val (.ref a38), .val (.ref t40), .val (.int 0), .val (.ref o62), .val (.ref t67)] [(.ref sa63)] Q_law
      refine wp_cast D_235 (gw hw 10 rfl) (fun h P => Ins.self (exa_new (i := 6) rfl h P)) ?_
      refine wp_aload D_238 rfl rfl ?_
      refine Wp.pick [6, 5, 2, 1, 0, 3, 4, 7, 8, 9, 10] (by decide) ?_
      show W44 l Z room_1 [(sa63, strO su64), (su64, fA .byte [(nar .byte c1.toInt8.toInt32)]), (t67, strO b66), (b66, fA .byte [(nar .byte c1.toInt8.toInt32)]), (o62, fI "java/util/Optional" sg_2 [(.ref sa63)]), (q68, oA .char [c1]), (a38, oA .char [c0, c1, c2, c3]), (t40, strO b39), (b39, fA .byte [(nar .byte c0.toInt8.toInt32), (nar .byte c1.toInt8.toInt32)]), (q41, oA .char [c0, c1]), (aE, fI "java/util/Optional" sg_2 [(.null)])] 10 24 240 #[.val (.int g0), .val (.int g1), .val (.int g2), .val (.int g3), .val (.int g4), .val (.int 2), .val (.ref a38), .val (.ref t40), .val (.int 0), .val (.ref o62), .val (.ref t67)] [(.ref t67), (.ref sa63)] Q_law
      refine wp_virtual (c_seq_1 l Z a0 hw sa63 su64 t67 b66 (nar .byte c1.toInt8.toInt32) cp fm [(o62, fI "java/util/Optional" sg_2 [(.ref sa63)]), (q68, oA .char [c1]), (a38, oA .char [c0, c1, c2, c3]), (t40, strO b39), (b39, fA .byte [(nar .byte c0.toInt8.toInt32), (nar .byte c1.toInt8.toInt32)]), (q41, oA .char [c0, c1]), (aE, fI "java/util/Optional" sg_2 [(.null)])] hs ) (exa_new (i := 0) rfl) D_240 (gw hw 162 rfl) (gw hw 163 rfl) (gw hw 165 rfl) (gw hw 165 rfl) (gw hw 164 rfl) (gw hw 12 rfl) (gw hw 166 rfl) (by decide) pd_32 rfl rfl rfl (lb rfl) (lb rfl) (lb rfl) (lb rfl) ?_
      rintro _ _ ⟨rfl, rfl⟩
      show W44 l Z room_1 [(sa63, strO su64), (su64, fA .byte [(nar .byte c1.toInt8.toInt32)]), (t67, strO b66), (b66, fA .byte [(nar .byte c1.toInt8.toInt32)]), (o62, fI "java/util/Optional" sg_2 [(.ref sa63)]), (q68, oA .char [c1]), (a38, oA .char [c0, c1, c2, c3]), (t40, strO b39), (b39, fA .byte [(nar .byte c0.toInt8.toInt32), (nar .byte c1.toInt8.toInt32)]), (q41, oA .char [c0, c1]), (aE, fI "java/util/Optional" sg_2 [(.null)])] 10 24 243 #[.val (.int g0), .val (.int g1), .val (.int g2), .val (.int g3), .val (.int g4), .val (.int 2), .val (.ref a38), .val (.ref t40), .val (.int 0), .val (.ref o62), .val (.ref t67)] [(.int 1)] Q_law
      refine wp_if_eq D_243 (pc'' := 250) ⟨by decide, by decide⟩ (fun h70 => by exact absurd h70 (by decide)) (fun h70 => ?_)
      refine wp_iconst 1 D_246 (by decide) ?_
      refine wp_goto D_247 (pc'' := 251) ⟨by decide, by decide⟩ ?_
      refine wp_ireturnN D_251 rfl (by simp) (by decide) (by decide) ?_
      exact rfl
  · subst hs_x1
    show W44 l Z room_1 [(aE, fI "java/util/Optional" sg_2 [(.null)])] 0 0 8 #[.val (.int g0), .val (.int g1), .val (.int g2), .val (.int g3), .val (.int g4), .val (.int 3), .unset, .unset, .unset, .unset, .unset] [] Q_law
    refine wp_iconst 4 D_8 (by decide) ?_
    refine wp_newarrayI (n := (4 : Int32)) (4) 4 D_9 rfl rfl rfl (gw hw 1 rfl) (by decide) (by decide) (by decide) (by decide) (by decide) (by decide) ?_
    intro a71
    show W44 l Z room_1 [(a71, oA .char [(0 : Int32), (0 : Int32), (0 : Int32), (0 : Int32)]), (aE, fI "java/util/Optional" sg_2 [(.null)])] 1 4 11 #[.val (.int g0), .val (.int g1), .val (.int g2), .val (.int g3), .val (.int g4), .val (.int 3), .unset, .unset, .unset, .unset, .unset] [(.ref a71)] Q_law
    refine wp_dup D_11 rfl ?_
    refine wp_iconst 0 D_12 (by decide) ?_
    refine wp_iload_n D_13 rfl ?_
    refine wp_callS (c_ch l Z a0 hw g1 [(a71, oA .char [(0 : Int32), (0 : Int32), (0 : Int32), (0 : Int32)]), (aE, fI "java/util/Optional" sg_2 [(.null)])] ) D_14 (gw hw 2 rfl) (gw hw 3 rfl) (gw hw 4 rfl) (gw hw 5 rfl) (by decide) pd_26 rfl rfl rfl (lb rfl) (lb rfl) (lb rfl) (lb rfl) ?_
    rintro _ _ ⟨c0, rfl, hc0, rfl⟩
    show W44 l Z room_1 [(a71, oA .char [(0 : Int32), (0 : Int32), (0 : Int32), (0 : Int32)]), (aE, fI "java/util/Optional" sg_2 [(.null)])] 1 4 17 #[.val (.int g0), .val (.int g1), .val (.int g2), .val (.int g3), .val (.int g4), .val (.int 3), .unset, .unset, .unset, .unset, .unset] [(.int c0), (.int 0), (.ref a71), (.ref a71)] Q_law
    refine wp_castore (i := 0) (0) D_17 rfl (by decide) (by decide) (by first | decide | exact Nat.le_of_ble_eq_true rfl | simp) ?_
    rw [own_nc c0 hc0]
    show W44 l Z room_1 [(a71, oA .char [c0, (0 : Int32), (0 : Int32), (0 : Int32)]), (aE, fI "java/util/Optional" sg_2 [(.null)])] 1 4 18 #[.val (.int g0), .val (.int g1), .val (.int g2), .val (.int g3), .val (.int g4), .val (.int 3), .unset, .unset, .unset, .unset, .unset] [(.ref a71)] Q_law
    refine wp_dup D_18 rfl ?_
    refine wp_iconst 1 D_19 (by decide) ?_
    refine wp_iload_n D_20 rfl ?_
    refine wp_callS (c_ch l Z a0 hw g2 [(a71, oA .char [c0, (0 : Int32), (0 : Int32), (0 : Int32)]), (aE, fI "java/util/Optional" sg_2 [(.null)])] ) D_21 (gw hw 2 rfl) (gw hw 3 rfl) (gw hw 4 rfl) (gw hw 5 rfl) (by decide) pd_26 rfl rfl rfl (lb rfl) (lb rfl) (lb rfl) (lb rfl) ?_
    rintro _ _ ⟨c1, rfl, hc1, rfl⟩
    show W44 l Z room_1 [(a71, oA .char [c0, (0 : Int32), (0 : Int32), (0 : Int32)]), (aE, fI "java/util/Optional" sg_2 [(.null)])] 1 4 24 #[.val (.int g0), .val (.int g1), .val (.int g2), .val (.int g3), .val (.int g4), .val (.int 3), .unset, .unset, .unset, .unset, .unset] [(.int c1), (.int 1), (.ref a71), (.ref a71)] Q_law
    refine wp_castore (i := 0) (1) D_24 rfl (by decide) (by decide) (by first | decide | exact Nat.le_of_ble_eq_true rfl | simp) ?_
    rw [own_nc c1 hc1]
    show W44 l Z room_1 [(a71, oA .char [c0, c1, (0 : Int32), (0 : Int32)]), (aE, fI "java/util/Optional" sg_2 [(.null)])] 1 4 25 #[.val (.int g0), .val (.int g1), .val (.int g2), .val (.int g3), .val (.int g4), .val (.int 3), .unset, .unset, .unset, .unset, .unset] [(.ref a71)] Q_law
    refine wp_dup D_25 rfl ?_
    refine wp_iconst 2 D_26 (by decide) ?_
    refine wp_iload_n D_27 rfl ?_
    refine wp_callS (c_ch l Z a0 hw g3 [(a71, oA .char [c0, c1, (0 : Int32), (0 : Int32)]), (aE, fI "java/util/Optional" sg_2 [(.null)])] ) D_28 (gw hw 2 rfl) (gw hw 3 rfl) (gw hw 4 rfl) (gw hw 5 rfl) (by decide) pd_26 rfl rfl rfl (lb rfl) (lb rfl) (lb rfl) (lb rfl) ?_
    rintro _ _ ⟨c2, rfl, hc2, rfl⟩
    show W44 l Z room_1 [(a71, oA .char [c0, c1, (0 : Int32), (0 : Int32)]), (aE, fI "java/util/Optional" sg_2 [(.null)])] 1 4 31 #[.val (.int g0), .val (.int g1), .val (.int g2), .val (.int g3), .val (.int g4), .val (.int 3), .unset, .unset, .unset, .unset, .unset] [(.int c2), (.int 2), (.ref a71), (.ref a71)] Q_law
    refine wp_castore (i := 0) (2) D_31 rfl (by decide) (by decide) (by first | decide | exact Nat.le_of_ble_eq_true rfl | simp) ?_
    rw [own_nc c2 hc2]
    show W44 l Z room_1 [(a71, oA .char [c0, c1, c2, (0 : Int32)]), (aE, fI "java/util/Optional" sg_2 [(.null)])] 1 4 32 #[.val (.int g0), .val (.int g1), .val (.int g2), .val (.int g3), .val (.int g4), .val (.int 3), .unset, .unset, .unset, .unset, .unset] [(.ref a71)] Q_law
    refine wp_dup D_32 rfl ?_
    refine wp_iconst 3 D_33 (by decide) ?_
    refine wp_iload D_34 rfl ?_
    refine wp_callS (c_ch l Z a0 hw g4 [(a71, oA .char [c0, c1, c2, (0 : Int32)]), (aE, fI "java/util/Optional" sg_2 [(.null)])] ) D_36 (gw hw 2 rfl) (gw hw 3 rfl) (gw hw 4 rfl) (gw hw 5 rfl) (by decide) pd_26 rfl rfl rfl (lb rfl) (lb rfl) (lb rfl) (lb rfl) ?_
    rintro _ _ ⟨c3, rfl, hc3, rfl⟩
    show W44 l Z room_1 [(a71, oA .char [c0, c1, c2, (0 : Int32)]), (aE, fI "java/util/Optional" sg_2 [(.null)])] 1 4 39 #[.val (.int g0), .val (.int g1), .val (.int g2), .val (.int g3), .val (.int g4), .val (.int 3), .unset, .unset, .unset, .unset, .unset] [(.int c3), (.int 3), (.ref a71), (.ref a71)] Q_law
    refine wp_castore (i := 0) (3) D_39 rfl (by decide) (by decide) (by first | decide | exact Nat.le_of_ble_eq_true rfl | simp) ?_
    rw [own_nc c3 hc3]
    show W44 l Z room_1 [(a71, oA .char [c0, c1, c2, c3]), (aE, fI "java/util/Optional" sg_2 [(.null)])] 1 4 40 #[.val (.int g0), .val (.int g1), .val (.int g2), .val (.int g3), .val (.int g4), .val (.int 3), .unset, .unset, .unset, .unset, .unset] [(.ref a71)] Q_law
    refine wp_astore #[.val (.int g0), .val (.int g1), .val (.int g2), .val (.int g3), .val (.int g4), .val (.int 3), .val (.ref a71), .unset, .unset, .unset, .unset] D_40 rfl rfl ?_
    refine wp_iload D_42 rfl ?_
    refine wp_aload D_44 rfl rfl ?_
    refine wp_iconst 0 D_46 (by decide) ?_
    refine wp_caload (i := 0) (0) D_47 rfl (by decide) (by decide) rfl ?_
    refine wp_aload D_48 rfl rfl ?_
    refine wp_iconst 1 D_50 (by decide) ?_
    refine wp_caload (i := 0) (1) D_51 rfl (by decide) (by decide) rfl ?_
    refine wp_aload D_52 rfl rfl ?_
    refine wp_iconst 2 D_54 (by decide) ?_
    refine wp_caload (i := 0) (2) D_55 rfl (by decide) (by decide) rfl ?_
    refine wp_aload D_56 rfl rfl ?_
    refine wp_iconst 3 D_58 (by decide) ?_
    refine wp_caload (i := 0) (3) D_59 rfl (by decide) (by decide) rfl ?_
    refine wp_callS (c_str_3 l Z a0 hw c0 c1 c2 c3 cp fm [(a71, oA .char [c0, c1, c2, c3]), (aE, fI "java/util/Optional" sg_2 [(.null)])] hs hc0 hc1 hc2) D_60 (gw hw 7 rfl) (gw hw 8 rfl) (gw hw 4 rfl) (gw hw 9 rfl) (by decide) pd_27 rfl rfl rfl (lb rfl) (lb rfl) (lb rfl) (lb rfl) ?_
    rintro _ _ ⟨b72, t73, q74, rfl, rfl⟩
    show W44 l Z room_1 [(b72, fA .byte [(nar .byte c0.toInt8.toInt32), (nar .byte c1.toInt8.toInt32), (nar .byte c2.toInt8.toInt32)]), (t73, strO b72), (q74, oA .char [c0, c1, c2]), (a71, oA .char [c0, c1, c2, c3]), (aE, fI "java/util/Optional" sg_2 [(.null)])] 4 14 63 #[.val (.int g0), .val (.int g1), .val (.int g2), .val (.int g3), .val (.int g4), .val (.int 3), .val (.ref a71), .unset, .unset, .unset, .unset] [(.ref t73)] Q_law
    refine wp_astore #[.val (.int g0), .val (.int g1), .val (.int g2), .val (.int g3), .val (.int g4), .val (.int 3), .val (.ref a71), .val (.ref t73), .unset, .unset, .unset] D_63 rfl rfl ?_
    refine wp_iconst (-1) D_65 (by decide) ?_
    refine wp_istore #[.val (.int g0), .val (.int g1), .val (.int g2), .val (.int g3), .val (.int g4), .val (.int 3), .val (.ref a71), .val (.ref t73), .val (.int (-1)), .unset, .unset] D_66 rfl ?_
    refine wp_iload D_68 rfl ?_
    refine wp_if_le D_70 (pc'' := 88) ⟨by decide, by decide⟩ (fun h75 => by exact absurd h75 (by decide)) (fun h75 => ?_)
    refine wp_aload D_73 rfl rfl ?_
    refine wp_iconst 0 D_75 (by decide) ?_
    refine wp_caload (i := 3) (0) D_76 rfl (by decide) (by decide) rfl ?_
    refine wp_bipush 35 D_77 (by decide) ?_
    refine wp_icmp_ne D_79 (pc'' := 88) ⟨by decide, by decide⟩ (fun h76 => ?_) (fun h76 => ?_)
    · skip
      refine wp_iload D_88 rfl ?_
      refine wp_iconst 1 D_90 (by decide) ?_
      refine wp_icmp_le D_91 (pc'' := 109) ⟨by decide, by decide⟩ (fun h77 => by exact absurd h77 (by decide)) (fun h77 => ?_)
      refine wp_aload D_94 rfl rfl ?_
      refine wp_iconst 1 D_96 (by decide) ?_
      refine wp_caload (i := 3) (1) D_97 rfl (by decide) (by decide) rfl ?_
      refine wp_bipush 35 D_98 (by decide) ?_
      refine wp_icmp_ne D_100 (pc'' := 109) ⟨by decide, by decide⟩ (fun h78 => ?_) (fun h78 => ?_)
      · skip
        refine wp_iload D_109 rfl ?_
        refine wp_iconst 2 D_111 (by decide) ?_
        refine wp_icmp_le D_112 (pc'' := 130) ⟨by decide, by decide⟩ (fun h79 => by exact absurd h79 (by decide)) (fun h79 => ?_)
        refine wp_aload D_115 rfl rfl ?_
        refine wp_iconst 2 D_117 (by decide) ?_
        refine wp_caload (i := 3) (2) D_118 rfl (by decide) (by decide) rfl ?_
        refine wp_bipush 35 D_119 (by decide) ?_
        refine wp_icmp_ne D_121 (pc'' := 130) ⟨by decide, by decide⟩ (fun h80 => ?_) (fun h80 => ?_)
        · skip
          refine wp_iload D_130 rfl ?_
          refine wp_iconst 3 D_132 (by decide) ?_
          refine wp_icmp_le D_133 (pc'' := 148) ⟨by decide, by decide⟩ (fun h81 => ?_) (fun h81 => by exact absurd h81 (by decide))
          refine wp_aload D_148 rfl rfl ?_
          refine Wp.pick [1, 0, 2, 3, 4] (by decide) ?_
          show W44 l Z room_1 [(t73, strO b72), (b72, fA .byte [(nar .byte c0.toInt8.toInt32), (nar .byte c1.toInt8.toInt32), (nar .byte c2.toInt8.toInt32)]), (q74, oA .char [c0, c1, c2]), (a71, oA .char [c0, c1, c2, c3]), (aE, fI "java/util/Optional" sg_2 [(.null)])] 4 14 150 #[.val (.int g0), .val (.int g1), .val (.int g2), .val (.int g3), .val (.int g4), .val (.int 3), .val (.ref a71), .val (.ref t73), .val (.int (-1)), .unset, .unset] [(.ref t73)] Q_law
          refine wp_callS (c_fr_3_m l Z a0 hw t73 b72 (nar .byte c0.toInt8.toInt32) (nar .byte c1.toInt8.toInt32) (nar .byte c2.toInt8.toInt32) aE cp fm [(q74, oA .char [c0, c1, c2]), (a71, oA .char [c0, c1, c2, c3]), (aE, fI "java/util/Optional" sg_2 [(.null)])] hs S_E (own_35 c0 hc0 h76) (own_35 c1 hc1 h78) (own_35 c2 hc2 h80)) D_150 (gw hw 31 rfl) (gw hw 32 rfl) (gw hw 33 rfl) (gw hw 34 rfl) (by decide) pd_29 rfl rfl rfl (lb rfl) (lb rfl) (lb rfl) (lb rfl) ?_
          rintro _ _ ⟨rfl, rfl⟩
          show W44 l Z room_1 [(t73, strO b72), (b72, fA .byte [(nar .byte c0.toInt8.toInt32), (nar .byte c1.toInt8.toInt32), (nar .byte c2.toInt8.toInt32)]), (q74, oA .char [c0, c1, c2]), (a71, oA .char [c0, c1, c2, c3]), (aE, fI "java/util/Optional" sg_2 [(.null)])] 4 14 153 #[.val (.int g0), .val (.int g1), .val (.int g2), .val (.int g3), .val (.int g4), .val (.int 3), .val (.ref a71), .val (.ref t73), .val (.int (-1)), .unset, .unset] [(.ref aE)] Q_law
          refine wp_astore #[.val (.int g0), .val (.int g1), .val (.int g2), .val (.int g3), .val (.int g4), .val (.int 3), .val (.ref a71), .val (.ref t73), .val (.int (-1)), .val (.ref aE), .unset] D_153 rfl rfl ?_
          refine wp_iload D_155 rfl ?_
          refine wp_if_ge D_157 (pc'' := 174) ⟨by decide, by decide⟩ (fun h82 => by exact absurd h82 (by decide)) (fun h82 => ?_)
          refine wp_aload D_160 rfl rfl ?_
          refine Wp.pick [4, 0, 1, 2, 3] (by decide) ?_
          show W44 l Z room_1 [(aE, fI "java/util/Optional" sg_2 [(.null)]), (t73, strO b72), (b72, fA .byte [(nar .byte c0.toInt8.toInt32), (nar .byte c1.toInt8.toInt32), (nar .byte c2.toInt8.toInt32)]), (q74, oA .char [c0, c1, c2]), (a71, oA .char [c0, c1, c2, c3])] 4 14 162 #[.val (.int g0), .val (.int g1), .val (.int g2), .val (.int g3), .val (.int g4), .val (.int 3), .val (.ref a71), .val (.ref t73), .val (.int (-1)), .val (.ref aE), .unset] [(.ref aE)] Q_law
          refine wp_virtual (c_ip0 l Z a0 hw aE [(t73, strO b72), (b72, fA .byte [(nar .byte c0.toInt8.toInt32), (nar .byte c1.toInt8.toInt32), (nar .byte c2.toInt8.toInt32)]), (q74, oA .char [c0, c1, c2]), (a71, oA .char [c0, c1, c2, c3])] ) (exa_new (i := 0) rfl) D_162 (gw hw 80 rfl) (gw hw 81 rfl) (gw hw 83 rfl) (gw hw 83 rfl) (gw hw 82 rfl) (gw hw 77 rfl) (gw hw 84 rfl) (by decide) pd_4 rfl rfl rfl (lb rfl) (lb rfl) (lb rfl) (lb rfl) ?_
          rintro _ _ ⟨rfl, rfl⟩
          show W44 l Z room_1 [(aE, fI "java/util/Optional" sg_2 [(.null)]), (t73, strO b72), (b72, fA .byte [(nar .byte c0.toInt8.toInt32), (nar .byte c1.toInt8.toInt32), (nar .byte c2.toInt8.toInt32)]), (q74, oA .char [c0, c1, c2]), (a71, oA .char [c0, c1, c2, c3])] 4 14 165 #[.val (.int g0), .val (.int g1), .val (.int g2), .val (.int g3), .val (.int g4), .val (.int 3), .val (.ref a71), .val (.ref t73), .val (.int (-1)), .val (.ref aE), .unset] [(.int 0)] Q_law
          refine wp_if_ne D_165 (pc'' := 172) ⟨by decide, by decide⟩ (fun h83 => by exact absurd h83 (by decide)) (fun h83 => ?_)
          refine wp_iconst 1 D_168 (by decide) ?_
          refine wp_goto D_169 (pc'' := 173) ⟨by decide, by decide⟩ ?_
          refine wp_ireturnN D_173 rfl (by simp) (by decide) (by decide) ?_
          exact rfl
        · skip
          refine wp_iconst 2 D_124 (by decide) ?_
          refine wp_istore #[.val (.int g0), .val (.int g1), .val (.int g2), .val (.int g3), .val (.int g4), .val (.int 3), .val (.ref a71), .val (.ref t73), .val (.int 2), .unset, .unset] D_125 rfl ?_
          refine wp_goto D_127 (pc'' := 148) ⟨by decide, by decide⟩ ?_
          refine wp_aload D_148 rfl rfl ?_
          refine Wp.pick [1, 0, 2, 3, 4] (by decide) ?_
          show W44 l Z room_1 [(t73, strO b72), (b72, fA .byte [(nar .byte c0.toInt8.toInt32), (nar .byte c1.toInt8.toInt32), (nar .byte c2.toInt8.toInt32)]), (q74, oA .char [c0, c1, c2]), (a71, oA .char [c0, c1, c2, c3]), (aE, fI "java/util/Optional" sg_2 [(.null)])] 4 14 150 #[.val (.int g0), .val (.int g1), .val (.int g2), .val (.int g3), .val (.int g4), .val (.int 3), .val (.ref a71), .val (.ref t73), .val (.int 2), .unset, .unset] [(.ref t73)] Q_law
          refine wp_callSI (c_fr_3_2 l Z a0 hw t73 b72 (nar .byte c0.toInt8.toInt32) (nar .byte c1.toInt8.toInt32) (nar .byte c2.toInt8.toInt32) cp fm [(q74, oA .char [c0, c1, c2]), (a71, oA .char [c0, c1, c2, c3]), (aE, fI "java/util/Optional" sg_2 [(.null)])] hs (own_35 c0 hc0 h76) (own_35 c1 hc1 h78) (own_35y c2 h80)) (own_EL l Z a0 hw) D_150 (gw hw 31 rfl) (gw hw 32 rfl) (gw hw 33 rfl) (gw hw 34 rfl) (by decide) pd_29 rfl rfl rfl (lb rfl) (lb rfl) (lb rfl) (lb rfl) ?_
          rintro _ _ ⟨o84, sa85, su86, rfl, rfl⟩
          show W44 l Z room_1 [(o84, fI "java/util/Optional" sg_2 [(.ref sa85)]), (sa85, strO su86), (su86, fA .byte []), (t73, strO b72), (b72, fA .byte [(nar .byte c0.toInt8.toInt32), (nar .byte c1.toInt8.toInt32), (nar .byte c2.toInt8.toInt32)]), (q74, oA .char [c0, c1, c2]), (a71, oA .char [c0, c1, c2, c3]), (aE, fI "java/util/Optional" sg_2 [(.null)])] 7 19 153 #[.val (.int g0), .val (.int g1), .val (.int g2), .val (.int g3), .val (.int g4), .val (.int 3), .val (.ref a71), .val (.ref t73), .val (.int 2), .unset, .unset] [(.ref o84)] Q_law
          refine wp_astore #[.val (.int g0), .val (.int g1), .val (.int g2), .val (.int g3), .val (.int g4), .val (.int 3), .val (.ref a71), .val (.ref t73), .val (.int 2), .val (.ref o84), .unset] D_153 rfl rfl ?_
          refine wp_iload D_155 rfl ?_
          refine wp_if_ge D_157 (pc'' := 174) ⟨by decide, by decide⟩ (fun h87 => ?_) (fun h87 => by exact absurd h87 (by decide))
          refine wp_iload D_174 rfl ?_
          refine wp_iload D_176 rfl ?_
          refine wp_isub D_178 ?_
          rw [show ((3 : Int32) - (2 : Int32)) = (1 : Int32) from by decide]
          refine wp_iconst 1 D_179 (by decide) ?_
          refine wp_isub D_180 ?_
          rw [show ((1 : Int32) - (1 : Int32)) = (0 : Int32) from by decide]
          refine wp_aload D_181 rfl rfl ?_
          refine wp_iload D_183 rfl ?_
          refine wp_iconst 1 D_185 (by decide) ?_
          refine wp_iadd D_186 ?_
          rw [show ((2 : Int32) + (1 : Int32)) = (3 : Int32) from by decide]
          refine Wp.pick [6, 0, 1, 2, 3, 4, 5, 7] (by decide) ?_
          show W44 l Z room_1 [(a71, oA .char [c0, c1, c2, c3]), (o84, fI "java/util/Optional" sg_2 [(.ref sa85)]), (sa85, strO su86), (su86, fA .byte []), (t73, strO b72), (b72, fA .byte [(nar .byte c0.toInt8.toInt32), (nar .byte c1.toInt8.toInt32), (nar .byte c2.toInt8.toInt32)]), (q74, oA .char [c0, c1, c2]), (aE, fI "java/util/Optional" sg_2 [(.null)])] 7 19 187 #[.val (.int g0), .val (.int g1), .val (.int g2), .val (.int g3), .val (.int g4), .val (.int 3), .val (.ref a71), .val (.ref t73), .val (.int 2), .val (.ref o84), .unset] [(.int 3), (.ref a71), (.int 0)] Q_law
          refine wp_callS (c_at_3 l Z a0 hw a71 c0 c1 c2 c3 [(o84, fI "java/util/Optional" sg_2 [(.ref sa85)]), (sa85, strO su86), (su86, fA .byte []), (t73, strO b72), (b72, fA .byte [(nar .byte c0.toInt8.toInt32), (nar .byte c1.toInt8.toInt32), (nar .byte c2.toInt8.toInt32)]), (q74, oA .char [c0, c1, c2]), (aE, fI "java/util/Optional" sg_2 [(.null)])] hc3) D_187 (gw hw 154 rfl) (gw hw 155 rfl) (gw hw 4 rfl) (gw hw 156 rfl) (by decide) pd_30 rfl rfl rfl (lb rfl) (lb rfl) (lb rfl) (lb rfl) ?_
          rintro _ _ ⟨rfl, rfl⟩
          show W44 l Z room_1 [(a71, oA .char [c0, c1, c2, c3]), (o84, fI "java/util/Optional" sg_2 [(.ref sa85)]), (sa85, strO su86), (su86, fA .byte []), (t73, strO b72), (b72, fA .byte [(nar .byte c0.toInt8.toInt32), (nar .byte c1.toInt8.toInt32), (nar .byte c2.toInt8.toInt32)]), (q74, oA .char [c0, c1, c2]), (aE, fI "java/util/Optional" sg_2 [(.null)])] 7 19 190 #[.val (.int g0), .val (.int g1), .val (.int g2), .val (.int g3), .val (.int g4), .val (.int 3), .val (.ref a71), .val (.ref t73), .val (.int 2), .val (.ref o84), .unset] [(.int c3), (.int 0)] Q_law
          refine wp_aload D_190 rfl rfl ?_
          refine wp_iload D_192 rfl ?_
          refine wp_iconst 2 D_194 (by decide) ?_
          refine wp_iadd D_195 ?_
          rw [show ((2 : Int32) + (2 : Int32)) = (4 : Int32) from by decide]
          refine wp_callS (c_at_4 l Z a0 hw a71 c0 c1 c2 c3 [(o84, fI "java/util/Optional" sg_2 [(.ref sa85)]), (sa85, strO su86), (su86, fA .byte []), (t73, strO b72), (b72, fA .byte [(nar .byte c0.toInt8.toInt32), (nar .byte c1.toInt8.toInt32), (nar .byte c2.toInt8.toInt32)]), (q74, oA .char [c0, c1, c2]), (aE, fI "java/util/Optional" sg_2 [(.null)])] ) D_196 (gw hw 154 rfl) (gw hw 155 rfl) (gw hw 4 rfl) (gw hw 156 rfl) (by decide) pd_30 rfl rfl rfl (lb rfl) (lb rfl) (lb rfl) (lb rfl) ?_
          rintro _ _ ⟨rfl, rfl⟩
          show W44 l Z room_1 [(a71, oA .char [c0, c1, c2, c3]), (o84, fI "java/util/Optional" sg_2 [(.ref sa85)]), (sa85, strO su86), (su86, fA .byte []), (t73, strO b72), (b72, fA .byte [(nar .byte c0.toInt8.toInt32), (nar .byte c1.toInt8.toInt32), (nar .byte c2.toInt8.toInt32)]), (q74, oA .char [c0, c1, c2]), (aE, fI "java/util/Optional" sg_2 [(.null)])] 7 19 199 #[.val (.int g0), .val (.int g1), .val (.int g2), .val (.int g3), .val (.int g4), .val (.int 3), .val (.ref a71), .val (.ref t73), .val (.int 2), .val (.ref o84), .unset] [(.int 120), (.int c3), (.int 0)] Q_law
          refine wp_aload D_199 rfl rfl ?_
          refine wp_iload D_201 rfl ?_
          refine wp_iconst 3 D_203 (by decide) ?_
          refine wp_iadd D_204 ?_
          rw [show ((2 : Int32) + (3 : Int32)) = (5 : Int32) from by decide]
          refine wp_callS (c_at_5 l Z a0 hw a71 c0 c1 c2 c3 [(o84, fI "java/util/Optional" sg_2 [(.ref sa85)]), (sa85, strO su86), (su86, fA .byte []), (t73, strO b72), (b72, fA .byte [(nar .byte c0.toInt8.toInt32), (nar .byte c1.toInt8.toInt32), (nar .byte c2.toInt8.toInt32)]), (q74, oA .char [c0, c1, c2]), (aE, fI "java/util/Optional" sg_2 [(.null)])] ) D_205 (gw hw 154 rfl) (gw hw 155 rfl) (gw hw 4 rfl) (gw hw 156 rfl) (by decide) pd_30 rfl rfl rfl (lb rfl) (lb rfl) (lb rfl) (lb rfl) ?_
          rintro _ _ ⟨rfl, rfl⟩
          show W44 l Z room_1 [(a71, oA .char [c0, c1, c2, c3]), (o84, fI "java/util/Optional" sg_2 [(.ref sa85)]), (sa85, strO su86), (su86, fA .byte []), (t73, strO b72), (b72, fA .byte [(nar .byte c0.toInt8.toInt32), (nar .byte c1.toInt8.toInt32), (nar .byte c2.toInt8.toInt32)]), (q74, oA .char [c0, c1, c2]), (aE, fI "java/util/Optional" sg_2 [(.null)])] 7 19 208 #[.val (.int g0), .val (.int g1), .val (.int g2), .val (.int g3), .val (.int g4), .val (.int 3), .val (.ref a71), .val (.ref t73), .val (.int 2), .val (.ref o84), .unset] [(.int 120), (.int 120), (.int c3), (.int 0)] Q_law
          refine wp_aload D_208 rfl rfl ?_
          refine wp_iload D_210 rfl ?_
          refine wp_iconst 4 D_212 (by decide) ?_
          refine wp_iadd D_213 ?_
          rw [show ((2 : Int32) + (4 : Int32)) = (6 : Int32) from by decide]
          refine wp_callS (c_at_6 l Z a0 hw a71 c0 c1 c2 c3 [(o84, fI "java/util/Optional" sg_2 [(.ref sa85)]), (sa85, strO su86), (su86, fA .byte []), (t73, strO b72), (b72, fA .byte [(nar .byte c0.toInt8.toInt32), (nar .byte c1.toInt8.toInt32), (nar .byte c2.toInt8.toInt32)]), (q74, oA .char [c0, c1, c2]), (aE, fI "java/util/Optional" sg_2 [(.null)])] ) D_214 (gw hw 154 rfl) (gw hw 155 rfl) (gw hw 4 rfl) (gw hw 156 rfl) (by decide) pd_30 rfl rfl rfl (lb rfl) (lb rfl) (lb rfl) (lb rfl) ?_
          rintro _ _ ⟨rfl, rfl⟩
          show W44 l Z room_1 [(a71, oA .char [c0, c1, c2, c3]), (o84, fI "java/util/Optional" sg_2 [(.ref sa85)]), (sa85, strO su86), (su86, fA .byte []), (t73, strO b72), (b72, fA .byte [(nar .byte c0.toInt8.toInt32), (nar .byte c1.toInt8.toInt32), (nar .byte c2.toInt8.toInt32)]), (q74, oA .char [c0, c1, c2]), (aE, fI "java/util/Optional" sg_2 [(.null)])] 7 19 217 #[.val (.int g0), .val (.int g1), .val (.int g2), .val (.int g3), .val (.int g4), .val (.int 3), .val (.ref a71), .val (.ref t73), .val (.int 2), .val (.ref o84), .unset] [(.int 120), (.int 120), (.int 120), (.int c3), (.int 0)] Q_law
          refine wp_callSI (c_str_0 l Z a0 hw c3 (120 : Int32) (120 : Int32) (120 : Int32) cp fm [(a71, oA .char [c0, c1, c2, c3]), (o84, fI "java/util/Optional" sg_2 [(.ref sa85)]), (sa85, strO su86), (su86, fA .byte []), (t73, strO b72), (b72, fA .byte [(nar .byte c0.toInt8.toInt32), (nar .byte c1.toInt8.toInt32), (nar .byte c2.toInt8.toInt32)]), (q74, oA .char [c0, c1, c2]), (aE, fI "java/util/Optional" sg_2 [(.null)])] hs ) (own_EL l Z a0 hw) D_217 (gw hw 7 rfl) (gw hw 8 rfl) (gw hw 4 rfl) (gw hw 9 rfl) (by decide) pd_27 rfl rfl rfl (lb rfl) (lb rfl) (lb rfl) (lb rfl) ?_
          rintro _ _ ⟨z88, z89, z90, z91, t92, q93, rfl, rfl⟩
          show W44 l Z room_1 [(z88, strO z89), (z89, fA .byte []), (z90, strO z91), (z91, fA .byte []), (t92, strO z91), (q93, oA .char []), (a71, oA .char [c0, c1, c2, c3]), (o84, fI "java/util/Optional" sg_2 [(.ref sa85)]), (sa85, strO su86), (su86, fA .byte []), (t73, strO b72), (b72, fA .byte [(nar .byte c0.toInt8.toInt32), (nar .byte c1.toInt8.toInt32), (nar .byte c2.toInt8.toInt32)]), (q74, oA .char [c0, c1, c2]), (aE, fI "java/util/Optional" sg_2 [(.null)])] 13 31 220 #[.val (.int g0), .val (.int g1), .val (.int g2), .val (.int g3), .val (.int g4), .val (.int 3), .val (.ref a71), .val (.ref t73), .val (.int 2), .val (.ref o84), .unset] [(.ref t92)] Q_law
          refine wp_astore #[.val (.int g0), .val (.int g1), .val (.int g2), .val (.int g3), .val (.int g4), .val (.int 3), .val (.ref a71), .val (.ref t73), .val (.int 2), .val (.ref o84), .val (.ref t92)] D_220 rfl rfl ?_
          refine wp_aload D_222 rfl rfl ?_
          refine Wp.pick [7, 0, 1, 2, 3, 4, 5, 6, 8, 9, 10, 11, 12, 13] (by decide) ?_
          show W44 l Z room_1 [(o84, fI "java/util/Optional" sg_2 [(.ref sa85)]), (z88, strO z89), (z89, fA .byte []), (z90, strO z91), (z91, fA .byte []), (t92, strO z91), (q93, oA .char []), (a71, oA .char [c0, c1, c2, c3]), (sa85, strO su86), (su86, fA .byte []), (t73, strO b72), (b72, fA .byte [(nar .byte c0.toInt8.toInt32), (nar .byte c1.toInt8.toInt32), (nar .byte c2.toInt8.toInt32)]), (q74, oA .char [c0, c1, c2]), (aE, fI "java/util/Optional" sg_2 [(.null)])] 13 31 224 #[.val (.int g0), .val (.int g1), .val (.int g2), .val (.int g3), .val (.int g4), .val (.int 3), .val (.ref a71), .val (.ref t73), .val (.int 2), .val (.ref o84), .val (.ref t92)] [(.ref o84)] Q_law
          refine wp_virtual (c_ip1 l Z a0 hw o84 sa85 [(z88, strO z89), (z89, fA .byte []), (z90, strO z91), (z91, fA .byte []), (t92, strO z91), (q93, oA .char []), (a71, oA .char [c0, c1, c2, c3]), (sa85, strO su86), (su86, fA .byte []), (t73, strO b72), (b72, fA .byte [(nar .byte c0.toInt8.toInt32), (nar .byte c1.toInt8.toInt32), (nar .byte c2.toInt8.toInt32)]), (q74, oA .char [c0, c1, c2]), (aE, fI "java/util/Optional" sg_2 [(.null)])] ) (exa_new (i := 0) rfl) D_224 (gw hw 80 rfl) (gw hw 81 rfl) (gw hw 83 rfl) (gw hw 83 rfl) (gw hw 82 rfl) (gw hw 77 rfl) (gw hw 84 rfl) (by decide) pd_4 rfl rfl rfl (lb rfl) (lb rfl) (lb rfl) (lb rfl) ?_
          rintro _ _ ⟨rfl, rfl⟩
          show W44 l Z room_1 [(o84, fI "java/util/Optional" sg_2 [(.ref sa85)]), (z88, strO z89), (z89, fA .byte []), (z90, strO z91), (z91, fA .byte []), (t92, strO z91), (q93, oA .char []), (a71, oA .char [c0, c1, c2, c3]), (sa85, strO su86), (su86, fA .byte []), (t73, strO b72), (b72, fA .byte [(nar .byte c0.toInt8.toInt32), (nar .byte c1.toInt8.toInt32), (nar .byte c2.toInt8.toInt32)]), (q74, oA .char [c0, c1, c2]), (aE, fI "java/util/Optional" sg_2 [(.null)])] 13 31 227 #[.val (.int g0), .val (.int g1), .val (.int g2), .val (.int g3), .val (.int g4), .val (.int 3), .val (.ref a71), .val (.ref t73), .val (.int 2), .val (.ref o84), .val (.ref t92)] [(.int 1)] Q_law
          refine wp_if_eq D_227 (pc'' := 250) ⟨by decide, by decide⟩ (fun h94 => by exact absurd h94 (by decide)) (fun h94 => ?_)
          refine wp_aload D_230 rfl rfl ?_
          refine wp_virtual (c_get l Z a0 hw o84 sa85 [(z88, strO z89), (z89, fA .byte []), (z90, strO z91), (z91, fA .byte []), (t92, strO z91), (q93, oA .char []), (a71, oA .char [c0, c1, c2, c3]), (sa85, strO su86), (su86, fA .byte []), (t73, strO b72), (b72, fA .byte [(nar .byte c0.toInt8.toInt32), (nar .byte c1.toInt8.toInt32), (nar .byte c2.toInt8.toInt32)]), (q74, oA .char [c0, c1, c2]), (aE, fI "java/util/Optional" sg_2 [(.null)])] ) (exa_new (i := 0) rfl) D_232 (gw hw 157 rfl) (gw hw 158 rfl) (gw hw 160 rfl) (gw hw 160 rfl) (gw hw 159 rfl) (gw hw 77 rfl) (gw hw 161 rfl) (by decide) pd_31 rfl rfl rfl (lb rfl) (lb rfl) (lb rfl) (lb rfl) ?_
          rintro _ _ ⟨rfl, rfl⟩
          show W44 l Z room_1 [(o84, fI "java/util/Optional" sg_2 [(.ref sa85)]), (z88, strO z89), (z89, fA .byte []), (z90, strO z91), (z91, fA .byte []), (t92, strO z91), (q93, oA .char []), (a71, oA .char [c0, c1, c2, c3]), (sa85, strO su86), (su86, fA .byte []), (t73, strO b72), (b72, fA .byte [(nar .byte c0.toInt8.toInt32), (nar .byte c1.toInt8.toInt32), (nar .byte c2.toInt8.toInt32)]), (q74, oA .char [c0, c1, c2]), (aE, fI "java/util/Optional" sg_2 [(.null)])] 13 31 235 #[.val (.int g0), .val (.int g1), .val (.int g2), .val (.int g3), .val (.int g4), .val (.int 3), .val (.ref a71), .val (.ref t73), .val (.int 2), .val (.ref o84), .val (.ref t92)] [(.ref sa85)] Q_law
          refine wp_cast D_235 (gw hw 10 rfl) (fun h P => Ins.self (exa_new (i := 8) rfl h P)) ?_
          refine wp_aload D_238 rfl rfl ?_
          refine Wp.pick [8, 9, 5, 4, 0, 1, 2, 3, 6, 7, 10, 11, 12, 13] (by decide) ?_
          show W44 l Z room_1 [(sa85, strO su86), (su86, fA .byte []), (t92, strO z91), (z91, fA .byte []), (o84, fI "java/util/Optional" sg_2 [(.ref sa85)]), (z88, strO z89), (z89, fA .byte []), (z90, strO z91), (q93, oA .char []), (a71, oA .char [c0, c1, c2, c3]), (t73, strO b72), (b72, fA .byte [(nar .byte c0.toInt8.toInt32), (nar .byte c1.toInt8.toInt32), (nar .byte c2.toInt8.toInt32)]), (q74, oA .char [c0, c1, c2]), (aE, fI "java/util/Optional" sg_2 [(.null)])] 13 31 240 #[.val (.int g0), .val (.int g1), .val (.int g2), .val (.int g3), .val (.int g4), .val (.int 3), .val (.ref a71), .val (.ref t73), .val (.int 2), .val (.ref o84), .val (.ref t92)] [(.ref t92), (.ref sa85)] Q_law
          refine wp_virtual (c_seq_0 l Z a0 hw sa85 su86 t92 z91 cp fm [(o84, fI "java/util/Optional" sg_2 [(.ref sa85)]), (z88, strO z89), (z89, fA .byte []), (z90, strO z91), (q93, oA .char []), (a71, oA .char [c0, c1, c2, c3]), (t73, strO b72), (b72, fA .byte [(nar .byte c0.toInt8.toInt32), (nar .byte c1.toInt8.toInt32), (nar .byte c2.toInt8.toInt32)]), (q74, oA .char [c0, c1, c2]), (aE, fI "java/util/Optional" sg_2 [(.null)])] hs ) (exa_new (i := 0) rfl) D_240 (gw hw 162 rfl) (gw hw 163 rfl) (gw hw 165 rfl) (gw hw 165 rfl) (gw hw 164 rfl) (gw hw 12 rfl) (gw hw 166 rfl) (by decide) pd_32 rfl rfl rfl (lb rfl) (lb rfl) (lb rfl) (lb rfl) ?_
          rintro _ _ ⟨rfl, rfl⟩
          show W44 l Z room_1 [(sa85, strO su86), (su86, fA .byte []), (t92, strO z91), (z91, fA .byte []), (o84, fI "java/util/Optional" sg_2 [(.ref sa85)]), (z88, strO z89), (z89, fA .byte []), (z90, strO z91), (q93, oA .char []), (a71, oA .char [c0, c1, c2, c3]), (t73, strO b72), (b72, fA .byte [(nar .byte c0.toInt8.toInt32), (nar .byte c1.toInt8.toInt32), (nar .byte c2.toInt8.toInt32)]), (q74, oA .char [c0, c1, c2]), (aE, fI "java/util/Optional" sg_2 [(.null)])] 13 31 243 #[.val (.int g0), .val (.int g1), .val (.int g2), .val (.int g3), .val (.int g4), .val (.int 3), .val (.ref a71), .val (.ref t73), .val (.int 2), .val (.ref o84), .val (.ref t92)] [(.int 1)] Q_law
          refine wp_if_eq D_243 (pc'' := 250) ⟨by decide, by decide⟩ (fun h95 => by exact absurd h95 (by decide)) (fun h95 => ?_)
          refine wp_iconst 1 D_246 (by decide) ?_
          refine wp_goto D_247 (pc'' := 251) ⟨by decide, by decide⟩ ?_
          refine wp_ireturnN D_251 rfl (by simp) (by decide) (by decide) ?_
          exact rfl
      · skip
        refine wp_iconst 1 D_103 (by decide) ?_
        refine wp_istore #[.val (.int g0), .val (.int g1), .val (.int g2), .val (.int g3), .val (.int g4), .val (.int 3), .val (.ref a71), .val (.ref t73), .val (.int 1), .unset, .unset] D_104 rfl ?_
        refine wp_goto D_106 (pc'' := 148) ⟨by decide, by decide⟩ ?_
        refine wp_aload D_148 rfl rfl ?_
        refine Wp.pick [1, 0, 2, 3, 4] (by decide) ?_
        show W44 l Z room_1 [(t73, strO b72), (b72, fA .byte [(nar .byte c0.toInt8.toInt32), (nar .byte c1.toInt8.toInt32), (nar .byte c2.toInt8.toInt32)]), (q74, oA .char [c0, c1, c2]), (a71, oA .char [c0, c1, c2, c3]), (aE, fI "java/util/Optional" sg_2 [(.null)])] 4 14 150 #[.val (.int g0), .val (.int g1), .val (.int g2), .val (.int g3), .val (.int g4), .val (.int 3), .val (.ref a71), .val (.ref t73), .val (.int 1), .unset, .unset] [(.ref t73)] Q_law
        refine wp_callS (c_fr_3_1 l Z a0 hw t73 b72 (nar .byte c0.toInt8.toInt32) (nar .byte c1.toInt8.toInt32) (nar .byte c2.toInt8.toInt32) cp fm [(q74, oA .char [c0, c1, c2]), (a71, oA .char [c0, c1, c2, c3]), (aE, fI "java/util/Optional" sg_2 [(.null)])] hs (own_35 c0 hc0 h76) (own_35y c1 h78)) D_150 (gw hw 31 rfl) (gw hw 32 rfl) (gw hw 33 rfl) (gw hw 34 rfl) (by decide) pd_29 rfl rfl rfl (lb rfl) (lb rfl) (lb rfl) (lb rfl) ?_
        rintro _ _ ⟨o96, sa97, su98, rfl, rfl⟩
        show W44 l Z room_1 [(o96, fI "java/util/Optional" sg_2 [(.ref sa97)]), (su98, fA .byte [(nar .byte c2.toInt8.toInt32)]), (sa97, strO su98), (t73, strO b72), (b72, fA .byte [(nar .byte c0.toInt8.toInt32), (nar .byte c1.toInt8.toInt32), (nar .byte c2.toInt8.toInt32)]), (q74, oA .char [c0, c1, c2]), (a71, oA .char [c0, c1, c2, c3]), (aE, fI "java/util/Optional" sg_2 [(.null)])] 7 20 153 #[.val (.int g0), .val (.int g1), .val (.int g2), .val (.int g3), .val (.int g4), .val (.int 3), .val (.ref a71), .val (.ref t73), .val (.int 1), .unset, .unset] [(.ref o96)] Q_law
        refine wp_astore #[.val (.int g0), .val (.int g1), .val (.int g2), .val (.int g3), .val (.int g4), .val (.int 3), .val (.ref a71), .val (.ref t73), .val (.int 1), .val (.ref o96), .unset] D_153 rfl rfl ?_
        refine wp_iload D_155 rfl ?_
        refine wp_if_ge D_157 (pc'' := 174) ⟨by decide, by decide⟩ (fun h99 => ?_) (fun h99 => by exact absurd h99 (by decide))
        refine wp_iload D_174 rfl ?_
        refine wp_iload D_176 rfl ?_
        refine wp_isub D_178 ?_
        rw [show ((3 : Int32) - (1 : Int32)) = (2 : Int32) from by decide]
        refine wp_iconst 1 D_179 (by decide) ?_
        refine wp_isub D_180 ?_
        rw [show ((2 : Int32) - (1 : Int32)) = (1 : Int32) from by decide]
        refine wp_aload D_181 rfl rfl ?_
        refine wp_iload D_183 rfl ?_
        refine wp_iconst 1 D_185 (by decide) ?_
        refine wp_iadd D_186 ?_
        rw [show ((1 : Int32) + (1 : Int32)) = (2 : Int32) from by decide]
        refine Wp.pick [6, 0, 1, 2, 3, 4, 5, 7] (by decide) ?_
        show W44 l Z room_1 [(a71, oA .char [c0, c1, c2, c3]), (o96, fI "java/util/Optional" sg_2 [(.ref sa97)]), (su98, fA .byte [(nar .byte c2.toInt8.toInt32)]), (sa97, strO su98), (t73, strO b72), (b72, fA .byte [(nar .byte c0.toInt8.toInt32), (nar .byte c1.toInt8.toInt32), (nar .byte c2.toInt8.toInt32)]), (q74, oA .char [c0, c1, c2]), (aE, fI "java/util/Optional" sg_2 [(.null)])] 7 20 187 #[.val (.int g0), .val (.int g1), .val (.int g2), .val (.int g3), .val (.int g4), .val (.int 3), .val (.ref a71), .val (.ref t73), .val (.int 1), .val (.ref o96), .unset] [(.int 2), (.ref a71), (.int 1)] Q_law
        refine wp_callS (c_at_2 l Z a0 hw a71 c0 c1 c2 c3 [(o96, fI "java/util/Optional" sg_2 [(.ref sa97)]), (su98, fA .byte [(nar .byte c2.toInt8.toInt32)]), (sa97, strO su98), (t73, strO b72), (b72, fA .byte [(nar .byte c0.toInt8.toInt32), (nar .byte c1.toInt8.toInt32), (nar .byte c2.toInt8.toInt32)]), (q74, oA .char [c0, c1, c2]), (aE, fI "java/util/Optional" sg_2 [(.null)])] hc2) D_187 (gw hw 154 rfl) (gw hw 155 rfl) (gw hw 4 rfl) (gw hw 156 rfl) (by decide) pd_30 rfl rfl rfl (lb rfl) (lb rfl) (lb rfl) (lb rfl) ?_
        rintro _ _ ⟨rfl, rfl⟩
        show W44 l Z room_1 [(a71, oA .char [c0, c1, c2, c3]), (o96, fI "java/util/Optional" sg_2 [(.ref sa97)]), (su98, fA .byte [(nar .byte c2.toInt8.toInt32)]), (sa97, strO su98), (t73, strO b72), (b72, fA .byte [(nar .byte c0.toInt8.toInt32), (nar .byte c1.toInt8.toInt32), (nar .byte c2.toInt8.toInt32)]), (q74, oA .char [c0, c1, c2]), (aE, fI "java/util/Optional" sg_2 [(.null)])] 7 20 190 #[.val (.int g0), .val (.int g1), .val (.int g2), .val (.int g3), .val (.int g4), .val (.int 3), .val (.ref a71), .val (.ref t73), .val (.int 1), .val (.ref o96), .unset] [(.int c2), (.int 1)] Q_law
        refine wp_aload D_190 rfl rfl ?_
        refine wp_iload D_192 rfl ?_
        refine wp_iconst 2 D_194 (by decide) ?_
        refine wp_iadd D_195 ?_
        rw [show ((1 : Int32) + (2 : Int32)) = (3 : Int32) from by decide]
        refine wp_callS (c_at_3 l Z a0 hw a71 c0 c1 c2 c3 [(o96, fI "java/util/Optional" sg_2 [(.ref sa97)]), (su98, fA .byte [(nar .byte c2.toInt8.toInt32)]), (sa97, strO su98), (t73, strO b72), (b72, fA .byte [(nar .byte c0.toInt8.toInt32), (nar .byte c1.toInt8.toInt32), (nar .byte c2.toInt8.toInt32)]), (q74, oA .char [c0, c1, c2]), (aE, fI "java/util/Optional" sg_2 [(.null)])] hc3) D_196 (gw hw 154 rfl) (gw hw 155 rfl) (gw hw 4 rfl) (gw hw 156 rfl) (by decide) pd_30 rfl rfl rfl (lb rfl) (lb rfl) (lb rfl) (lb rfl) ?_
        rintro _ _ ⟨rfl, rfl⟩
        show W44 l Z room_1 [(a71, oA .char [c0, c1, c2, c3]), (o96, fI "java/util/Optional" sg_2 [(.ref sa97)]), (su98, fA .byte [(nar .byte c2.toInt8.toInt32)]), (sa97, strO su98), (t73, strO b72), (b72, fA .byte [(nar .byte c0.toInt8.toInt32), (nar .byte c1.toInt8.toInt32), (nar .byte c2.toInt8.toInt32)]), (q74, oA .char [c0, c1, c2]), (aE, fI "java/util/Optional" sg_2 [(.null)])] 7 20 199 #[.val (.int g0), .val (.int g1), .val (.int g2), .val (.int g3), .val (.int g4), .val (.int 3), .val (.ref a71), .val (.ref t73), .val (.int 1), .val (.ref o96), .unset] [(.int c3), (.int c2), (.int 1)] Q_law
        refine wp_aload D_199 rfl rfl ?_
        refine wp_iload D_201 rfl ?_
        refine wp_iconst 3 D_203 (by decide) ?_
        refine wp_iadd D_204 ?_
        rw [show ((1 : Int32) + (3 : Int32)) = (4 : Int32) from by decide]
        refine wp_callS (c_at_4 l Z a0 hw a71 c0 c1 c2 c3 [(o96, fI "java/util/Optional" sg_2 [(.ref sa97)]), (su98, fA .byte [(nar .byte c2.toInt8.toInt32)]), (sa97, strO su98), (t73, strO b72), (b72, fA .byte [(nar .byte c0.toInt8.toInt32), (nar .byte c1.toInt8.toInt32), (nar .byte c2.toInt8.toInt32)]), (q74, oA .char [c0, c1, c2]), (aE, fI "java/util/Optional" sg_2 [(.null)])] ) D_205 (gw hw 154 rfl) (gw hw 155 rfl) (gw hw 4 rfl) (gw hw 156 rfl) (by decide) pd_30 rfl rfl rfl (lb rfl) (lb rfl) (lb rfl) (lb rfl) ?_
        rintro _ _ ⟨rfl, rfl⟩
        show W44 l Z room_1 [(a71, oA .char [c0, c1, c2, c3]), (o96, fI "java/util/Optional" sg_2 [(.ref sa97)]), (su98, fA .byte [(nar .byte c2.toInt8.toInt32)]), (sa97, strO su98), (t73, strO b72), (b72, fA .byte [(nar .byte c0.toInt8.toInt32), (nar .byte c1.toInt8.toInt32), (nar .byte c2.toInt8.toInt32)]), (q74, oA .char [c0, c1, c2]), (aE, fI "java/util/Optional" sg_2 [(.null)])] 7 20 208 #[.val (.int g0), .val (.int g1), .val (.int g2), .val (.int g3), .val (.int g4), .val (.int 3), .val (.ref a71), .val (.ref t73), .val (.int 1), .val (.ref o96), .unset] [(.int 120), (.int c3), (.int c2), (.int 1)] Q_law
        refine wp_aload D_208 rfl rfl ?_
        refine wp_iload D_210 rfl ?_
        refine wp_iconst 4 D_212 (by decide) ?_
        refine wp_iadd D_213 ?_
        rw [show ((1 : Int32) + (4 : Int32)) = (5 : Int32) from by decide]
        refine wp_callS (c_at_5 l Z a0 hw a71 c0 c1 c2 c3 [(o96, fI "java/util/Optional" sg_2 [(.ref sa97)]), (su98, fA .byte [(nar .byte c2.toInt8.toInt32)]), (sa97, strO su98), (t73, strO b72), (b72, fA .byte [(nar .byte c0.toInt8.toInt32), (nar .byte c1.toInt8.toInt32), (nar .byte c2.toInt8.toInt32)]), (q74, oA .char [c0, c1, c2]), (aE, fI "java/util/Optional" sg_2 [(.null)])] ) D_214 (gw hw 154 rfl) (gw hw 155 rfl) (gw hw 4 rfl) (gw hw 156 rfl) (by decide) pd_30 rfl rfl rfl (lb rfl) (lb rfl) (lb rfl) (lb rfl) ?_
        rintro _ _ ⟨rfl, rfl⟩
        show W44 l Z room_1 [(a71, oA .char [c0, c1, c2, c3]), (o96, fI "java/util/Optional" sg_2 [(.ref sa97)]), (su98, fA .byte [(nar .byte c2.toInt8.toInt32)]), (sa97, strO su98), (t73, strO b72), (b72, fA .byte [(nar .byte c0.toInt8.toInt32), (nar .byte c1.toInt8.toInt32), (nar .byte c2.toInt8.toInt32)]), (q74, oA .char [c0, c1, c2]), (aE, fI "java/util/Optional" sg_2 [(.null)])] 7 20 217 #[.val (.int g0), .val (.int g1), .val (.int g2), .val (.int g3), .val (.int g4), .val (.int 3), .val (.ref a71), .val (.ref t73), .val (.int 1), .val (.ref o96), .unset] [(.int 120), (.int 120), (.int c3), (.int c2), (.int 1)] Q_law
        refine wp_callS (c_str_1 l Z a0 hw c2 c3 (120 : Int32) (120 : Int32) cp fm [(a71, oA .char [c0, c1, c2, c3]), (o96, fI "java/util/Optional" sg_2 [(.ref sa97)]), (su98, fA .byte [(nar .byte c2.toInt8.toInt32)]), (sa97, strO su98), (t73, strO b72), (b72, fA .byte [(nar .byte c0.toInt8.toInt32), (nar .byte c1.toInt8.toInt32), (nar .byte c2.toInt8.toInt32)]), (q74, oA .char [c0, c1, c2]), (aE, fI "java/util/Optional" sg_2 [(.null)])] hs hc2) D_217 (gw hw 7 rfl) (gw hw 8 rfl) (gw hw 4 rfl) (gw hw 9 rfl) (by decide) pd_27 rfl rfl rfl (lb rfl) (lb rfl) (lb rfl) (lb rfl) ?_
        rintro _ _ ⟨b100, t101, q102, rfl, rfl⟩
        show W44 l Z room_1 [(b100, fA .byte [(nar .byte c2.toInt8.toInt32)]), (t101, strO b100), (q102, oA .char [c2]), (a71, oA .char [c0, c1, c2, c3]), (o96, fI "java/util/Optional" sg_2 [(.ref sa97)]), (su98, fA .byte [(nar .byte c2.toInt8.toInt32)]), (sa97, strO su98), (t73, strO b72), (b72, fA .byte [(nar .byte c0.toInt8.toInt32), (nar .byte c1.toInt8.toInt32), (nar .byte c2.toInt8.toInt32)]), (q74, oA .char [c0, c1, c2]), (aE, fI "java/util/Optional" sg_2 [(.null)])] 10 26 220 #[.val (.int g0), .val (.int g1), .val (.int g2), .val (.int g3), .val (.int g4), .val (.int 3), .val (.ref a71), .val (.ref t73), .val (.int 1), .val (.ref o96), .unset] [(.ref t101)] Q_law
        refine wp_astore #[.val (.int g0), .val (.int g1), .val (.int g2), .val (.int g3), .val (.int g4), .val (.int 3), .val (.ref a71), .val (.ref t73), .val (.int 1), .val (.ref o96), .val (.ref t101)] D_220 rfl rfl ?_
        refine wp_aload D_222 rfl rfl ?_
        refine Wp.pick [4, 0, 1, 2, 3, 5, 6, 7, 8, 9, 10] (by decide) ?_
        show W44 l Z room_1 [(o96, fI "java/util/Optional" sg_2 [(.ref sa97)]), (b100, fA .byte [(nar .byte c2.toInt8.toInt32)]), (t101, strO b100), (q102, oA .char [c2]), (a71, oA .char [c0, c1, c2, c3]), (su98, fA .byte [(nar .byte c2.toInt8.toInt32)]), (sa97, strO su98), (t73, strO b72), (b72, fA .byte [(nar .byte c0.toInt8.toInt32), (nar .byte c1.toInt8.toInt32), (nar .byte c2.toInt8.toInt32)]), (q74, oA .char [c0, c1, c2]), (aE, fI "java/util/Optional" sg_2 [(.null)])] 10 26 224 #[.val (.int g0), .val (.int g1), .val (.int g2), .val (.int g3), .val (.int g4), .val (.int 3), .val (.ref a71), .val (.ref t73), .val (.int 1), .val (.ref o96), .val (.ref t101)] [(.ref o96)] Q_law
        refine wp_virtual (c_ip1 l Z a0 hw o96 sa97 [(b100, fA .byte [(nar .byte c2.toInt8.toInt32)]), (t101, strO b100), (q102, oA .char [c2]), (a71, oA .char [c0, c1, c2, c3]), (su98, fA .byte [(nar .byte c2.toInt8.toInt32)]), (sa97, strO su98), (t73, strO b72), (b72, fA .byte [(nar .byte c0.toInt8.toInt32), (nar .byte c1.toInt8.toInt32), (nar .byte c2.toInt8.toInt32)]), (q74, oA .char [c0, c1, c2]), (aE, fI "java/util/Optional" sg_2 [(.null)])] ) (exa_new (i := 0) rfl) D_224 (gw hw 80 rfl) (gw hw 81 rfl) (gw hw 83 rfl) (gw hw 83 rfl) (gw hw 82 rfl) (gw hw 77 rfl) (gw hw 84 rfl) (by decide) pd_4 rfl rfl rfl (lb rfl) (lb rfl) (lb rfl) (lb rfl) ?_
        rintro _ _ ⟨rfl, rfl⟩
        show W44 l Z room_1 [(o96, fI "java/util/Optional" sg_2 [(.ref sa97)]), (b100, fA .byte [(nar .byte c2.toInt8.toInt32)]), (t101, strO b100), (q102, oA .char [c2]), (a71, oA .char [c0, c1, c2, c3]), (su98, fA .byte [(nar .byte c2.toInt8.toInt32)]), (sa97, strO su98), (t73, strO b72), (b72, fA .byte [(nar .byte c0.toInt8.toInt32), (nar .byte c1.toInt8.toInt32), (nar .byte c2.toInt8.toInt32)]), (q74, oA .char [c0, c1, c2]), (aE, fI "java/util/Optional" sg_2 [(.null)])] 10 26 227 #[.val (.int g0), .val (.int g1), .val (.int g2), .val (.int g3), .val (.int g4), .val (.int 3), .val (.ref a71), .val (.ref t73), .val (.int 1), .val (.ref o96), .val (.ref t101)] [(.int 1)] Q_law
        refine wp_if_eq D_227 (pc'' := 250) ⟨by decide, by decide⟩ (fun h103 => by exact absurd h103 (by decide)) (fun h103 => ?_)
        refine wp_aload D_230 rfl rfl ?_
        refine wp_virtual (c_get l Z a0 hw o96 sa97 [(b100, fA .byte [(nar .byte c2.toInt8.toInt32)]), (t101, strO b100), (q102, oA .char [c2]), (a71, oA .char [c0, c1, c2, c3]), (su98, fA .byte [(nar .byte c2.toInt8.toInt32)]), (sa97, strO su98), (t73, strO b72), (b72, fA .byte [(nar .byte c0.toInt8.toInt32), (nar .byte c1.toInt8.toInt32), (nar .byte c2.toInt8.toInt32)]), (q74, oA .char [c0, c1, c2]), (aE, fI "java/util/Optional" sg_2 [(.null)])] ) (exa_new (i := 0) rfl) D_232 (gw hw 157 rfl) (gw hw 158 rfl) (gw hw 160 rfl) (gw hw 160 rfl) (gw hw 159 rfl) (gw hw 77 rfl) (gw hw 161 rfl) (by decide) pd_31 rfl rfl rfl (lb rfl) (lb rfl) (lb rfl) (lb rfl) ?_
        rintro _ _ ⟨rfl, rfl⟩
        show W44 l Z room_1 [(o96, fI "java/util/Optional" sg_2 [(.ref sa97)]), (b100, fA .byte [(nar .byte c2.toInt8.toInt32)]), (t101, strO b100), (q102, oA .char [c2]), (a71, oA .char [c0, c1, c2, c3]), (su98, fA .byte [(nar .byte c2.toInt8.toInt32)]), (sa97, strO su98), (t73, strO b72), (b72, fA .byte [(nar .byte c0.toInt8.toInt32), (nar .byte c1.toInt8.toInt32), (nar .byte c2.toInt8.toInt32)]), (q74, oA .char [c0, c1, c2]), (aE, fI "java/util/Optional" sg_2 [(.null)])] 10 26 235 #[.val (.int g0), .val (.int g1), .val (.int g2), .val (.int g3), .val (.int g4), .val (.int 3), .val (.ref a71), .val (.ref t73), .val (.int 1), .val (.ref o96), .val (.ref t101)] [(.ref sa97)] Q_law
        refine wp_cast D_235 (gw hw 10 rfl) (fun h P => Ins.self (exa_new (i := 6) rfl h P)) ?_
        refine wp_aload D_238 rfl rfl ?_
        refine Wp.pick [6, 5, 2, 1, 0, 3, 4, 7, 8, 9, 10] (by decide) ?_
        show W44 l Z room_1 [(sa97, strO su98), (su98, fA .byte [(nar .byte c2.toInt8.toInt32)]), (t101, strO b100), (b100, fA .byte [(nar .byte c2.toInt8.toInt32)]), (o96, fI "java/util/Optional" sg_2 [(.ref sa97)]), (q102, oA .char [c2]), (a71, oA .char [c0, c1, c2, c3]), (t73, strO b72), (b72, fA .byte [(nar .byte c0.toInt8.toInt32), (nar .byte c1.toInt8.toInt32), (nar .byte c2.toInt8.toInt32)]), (q74, oA .char [c0, c1, c2]), (aE, fI "java/util/Optional" sg_2 [(.null)])] 10 26 240 #[.val (.int g0), .val (.int g1), .val (.int g2), .val (.int g3), .val (.int g4), .val (.int 3), .val (.ref a71), .val (.ref t73), .val (.int 1), .val (.ref o96), .val (.ref t101)] [(.ref t101), (.ref sa97)] Q_law
        refine wp_virtual (c_seq_1 l Z a0 hw sa97 su98 t101 b100 (nar .byte c2.toInt8.toInt32) cp fm [(o96, fI "java/util/Optional" sg_2 [(.ref sa97)]), (q102, oA .char [c2]), (a71, oA .char [c0, c1, c2, c3]), (t73, strO b72), (b72, fA .byte [(nar .byte c0.toInt8.toInt32), (nar .byte c1.toInt8.toInt32), (nar .byte c2.toInt8.toInt32)]), (q74, oA .char [c0, c1, c2]), (aE, fI "java/util/Optional" sg_2 [(.null)])] hs ) (exa_new (i := 0) rfl) D_240 (gw hw 162 rfl) (gw hw 163 rfl) (gw hw 165 rfl) (gw hw 165 rfl) (gw hw 164 rfl) (gw hw 12 rfl) (gw hw 166 rfl) (by decide) pd_32 rfl rfl rfl (lb rfl) (lb rfl) (lb rfl) (lb rfl) ?_
        rintro _ _ ⟨rfl, rfl⟩
        show W44 l Z room_1 [(sa97, strO su98), (su98, fA .byte [(nar .byte c2.toInt8.toInt32)]), (t101, strO b100), (b100, fA .byte [(nar .byte c2.toInt8.toInt32)]), (o96, fI "java/util/Optional" sg_2 [(.ref sa97)]), (q102, oA .char [c2]), (a71, oA .char [c0, c1, c2, c3]), (t73, strO b72), (b72, fA .byte [(nar .byte c0.toInt8.toInt32), (nar .byte c1.toInt8.toInt32), (nar .byte c2.toInt8.toInt32)]), (q74, oA .char [c0, c1, c2]), (aE, fI "java/util/Optional" sg_2 [(.null)])] 10 26 243 #[.val (.int g0), .val (.int g1), .val (.int g2), .val (.int g3), .val (.int g4), .val (.int 3), .val (.ref a71), .val (.ref t73), .val (.int 1), .val (.ref o96), .val (.ref t101)] [(.int 1)] Q_law
        refine wp_if_eq D_243 (pc'' := 250) ⟨by decide, by decide⟩ (fun h104 => by exact absurd h104 (by decide)) (fun h104 => ?_)
        refine wp_iconst 1 D_246 (by decide) ?_
        refine wp_goto D_247 (pc'' := 251) ⟨by decide, by decide⟩ ?_
        refine wp_ireturnN D_251 rfl (by simp) (by decide) (by decide) ?_
        exact rfl
    · skip
      refine wp_iconst 0 D_82 (by decide) ?_
      refine wp_istore #[.val (.int g0), .val (.int g1), .val (.int g2), .val (.int g3), .val (.int g4), .val (.int 3), .val (.ref a71), .val (.ref t73), .val (.int 0), .unset, .unset] D_83 rfl ?_
      refine wp_goto D_85 (pc'' := 148) ⟨by decide, by decide⟩ ?_
      refine wp_aload D_148 rfl rfl ?_
      refine Wp.pick [1, 0, 2, 3, 4] (by decide) ?_
      show W44 l Z room_1 [(t73, strO b72), (b72, fA .byte [(nar .byte c0.toInt8.toInt32), (nar .byte c1.toInt8.toInt32), (nar .byte c2.toInt8.toInt32)]), (q74, oA .char [c0, c1, c2]), (a71, oA .char [c0, c1, c2, c3]), (aE, fI "java/util/Optional" sg_2 [(.null)])] 4 14 150 #[.val (.int g0), .val (.int g1), .val (.int g2), .val (.int g3), .val (.int g4), .val (.int 3), .val (.ref a71), .val (.ref t73), .val (.int 0), .unset, .unset] [(.ref t73)] Q_law
      refine wp_callS (c_fr_3_0 l Z a0 hw t73 b72 (nar .byte c0.toInt8.toInt32) (nar .byte c1.toInt8.toInt32) (nar .byte c2.toInt8.toInt32) cp fm [(q74, oA .char [c0, c1, c2]), (a71, oA .char [c0, c1, c2, c3]), (aE, fI "java/util/Optional" sg_2 [(.null)])] hs (own_35y c0 h76)) D_150 (gw hw 31 rfl) (gw hw 32 rfl) (gw hw 33 rfl) (gw hw 34 rfl) (by decide) pd_29 rfl rfl rfl (lb rfl) (lb rfl) (lb rfl) (lb rfl) ?_
      rintro _ _ ⟨o105, sa106, su107, rfl, rfl⟩
      show W44 l Z room_1 [(o105, fI "java/util/Optional" sg_2 [(.ref sa106)]), (su107, fA .byte [(nar .byte c1.toInt8.toInt32), (nar .byte c2.toInt8.toInt32)]), (sa106, strO su107), (t73, strO b72), (b72, fA .byte [(nar .byte c0.toInt8.toInt32), (nar .byte c1.toInt8.toInt32), (nar .byte c2.toInt8.toInt32)]), (q74, oA .char [c0, c1, c2]), (a71, oA .char [c0, c1, c2, c3]), (aE, fI "java/util/Optional" sg_2 [(.null)])] 7 21 153 #[.val (.int g0), .val (.int g1), .val (.int g2), .val (.int g3), .val (.int g4), .val (.int 3), .val (.ref a71), .val (.ref t73), .val (.int 0), .unset, .unset] [(.ref o105)] Q_law
      refine wp_astore #[.val (.int g0), .val (.int g1), .val (.int g2), .val (.int g3), .val (.int g4), .val (.int 3), .val (.ref a71), .val (.ref t73), .val (.int 0), .val (.ref o105), .unset] D_153 rfl rfl ?_
      refine wp_iload D_155 rfl ?_
      refine wp_if_ge D_157 (pc'' := 174) ⟨by decide, by decide⟩ (fun h108 => ?_) (fun h108 => by exact absurd h108 (by decide))
      refine wp_iload D_174 rfl ?_
      refine wp_iload D_176 rfl ?_
      refine wp_isub D_178 ?_
      rw [show ((3 : Int32) - (0 : Int32)) = (3 : Int32) from by decide]
      refine wp_iconst 1 D_179 (by decide) ?_
      refine wp_isub D_180 ?_
      rw [show ((3 : Int32) - (1 : Int32)) = (2 : Int32) from by decide]
      refine wp_aload D_181 rfl rfl ?_
      refine wp_iload D_183 rfl ?_
      refine wp_iconst 1 D_185 (by decide) ?_
      refine wp_iadd D_186 ?_
      rw [show ((0 : Int32) + (1 : Int32)) = (1 : Int32) from by decide]
      refine Wp.pick [6, 0, 1, 2, 3, 4, 5, 7] (by decide) ?_
      show W44 l Z room_1 [(a71, oA .char [c0, c1, c2, c3]), (o105, fI "java/util/Optional" sg_2 [(.ref sa106)]), (su107, fA .byte [(nar .byte c1.toInt8.toInt32), (nar .byte c2.toInt8.toInt32)]), (sa106, strO su107), (t73, strO b72), (b72, fA .byte [(nar .byte c0.toInt8.toInt32), (nar .byte c1.toInt8.toInt32), (nar .byte c2.toInt8.toInt32)]), (q74, oA .char [c0, c1, c2]), (aE, fI "java/util/Optional" sg_2 [(.null)])] 7 21 187 #[.val (.int g0), .val (.int g1), .val (.int g2), .val (.int g3), .val (.int g4), .val (.int 3), .val (.ref a71), .val (.ref t73), .val (.int 0), .val (.ref o105), .unset] [(.int 1), (.ref a71), (.int 2)] Q_law
      refine wp_callS (c_at_1 l Z a0 hw a71 c0 c1 c2 c3 [(o105, fI "java/util/Optional" sg_2 [(.ref sa106)]), (su107, fA .byte [(nar .byte c1.toInt8.toInt32), (nar .byte c2.toInt8.toInt32)]), (sa106, strO su107), (t73, strO b72), (b72, fA .byte [(nar .byte c0.toInt8.toInt32), (nar .byte c1.toInt8.toInt32), (nar .byte c2.toInt8.toInt32)]), (q74, oA .char [c0, c1, c2]), (aE, fI "java/util/Optional" sg_2 [(.null)])] hc1) D_187 (gw hw 154 rfl) (gw hw 155 rfl) (gw hw 4 rfl) (gw hw 156 rfl) (by decide) pd_30 rfl rfl rfl (lb rfl) (lb rfl) (lb rfl) (lb rfl) ?_
      rintro _ _ ⟨rfl, rfl⟩
      show W44 l Z room_1 [(a71, oA .char [c0, c1, c2, c3]), (o105, fI "java/util/Optional" sg_2 [(.ref sa106)]), (su107, fA .byte [(nar .byte c1.toInt8.toInt32), (nar .byte c2.toInt8.toInt32)]), (sa106, strO su107), (t73, strO b72), (b72, fA .byte [(nar .byte c0.toInt8.toInt32), (nar .byte c1.toInt8.toInt32), (nar .byte c2.toInt8.toInt32)]), (q74, oA .char [c0, c1, c2]), (aE, fI "java/util/Optional" sg_2 [(.null)])] 7 21 190 #[.val (.int g0), .val (.int g1), .val (.int g2), .val (.int g3), .val (.int g4), .val (.int 3), .val (.ref a71), .val (.ref t73), .val (.int 0), .val (.ref o105), .unset] [(.int c1), (.int 2)] Q_law
      refine wp_aload D_190 rfl rfl ?_
      refine wp_iload D_192 rfl ?_
      refine wp_iconst 2 D_194 (by decide) ?_
      refine wp_iadd D_195 ?_
      rw [show ((0 : Int32) + (2 : Int32)) = (2 : Int32) from by decide]
      refine wp_callS (c_at_2 l Z a0 hw a71 c0 c1 c2 c3 [(o105, fI "java/util/Optional" sg_2 [(.ref sa106)]), (su107, fA .byte [(nar .byte c1.toInt8.toInt32), (nar .byte c2.toInt8.toInt32)]), (sa106, strO su107), (t73, strO b72), (b72, fA .byte [(nar .byte c0.toInt8.toInt32), (nar .byte c1.toInt8.toInt32), (nar .byte c2.toInt8.toInt32)]), (q74, oA .char [c0, c1, c2]), (aE, fI "java/util/Optional" sg_2 [(.null)])] hc2) D_196 (gw hw 154 rfl) (gw hw 155 rfl) (gw hw 4 rfl) (gw hw 156 rfl) (by decide) pd_30 rfl rfl rfl (lb rfl) (lb rfl) (lb rfl) (lb rfl) ?_
      rintro _ _ ⟨rfl, rfl⟩
      show W44 l Z room_1 [(a71, oA .char [c0, c1, c2, c3]), (o105, fI "java/util/Optional" sg_2 [(.ref sa106)]), (su107, fA .byte [(nar .byte c1.toInt8.toInt32), (nar .byte c2.toInt8.toInt32)]), (sa106, strO su107), (t73, strO b72), (b72, fA .byte [(nar .byte c0.toInt8.toInt32), (nar .byte c1.toInt8.toInt32), (nar .byte c2.toInt8.toInt32)]), (q74, oA .char [c0, c1, c2]), (aE, fI "java/util/Optional" sg_2 [(.null)])] 7 21 199 #[.val (.int g0), .val (.int g1), .val (.int g2), .val (.int g3), .val (.int g4), .val (.int 3), .val (.ref a71), .val (.ref t73), .val (.int 0), .val (.ref o105), .unset] [(.int c2), (.int c1), (.int 2)] Q_law
      refine wp_aload D_199 rfl rfl ?_
      refine wp_iload D_201 rfl ?_
      refine wp_iconst 3 D_203 (by decide) ?_
      refine wp_iadd D_204 ?_
      rw [show ((0 : Int32) + (3 : Int32)) = (3 : Int32) from by decide]
      refine wp_callS (c_at_3 l Z a0 hw a71 c0 c1 c2 c3 [(o105, fI "java/util/Optional" sg_2 [(.ref sa106)]), (su107, fA .byte [(nar .byte c1.toInt8.toInt32), (nar .byte c2.toInt8.toInt32)]), (sa106, strO su107), (t73, strO b72), (b72, fA .byte [(nar .byte c0.toInt8.toInt32), (nar .byte c1.toInt8.toInt32), (nar .byte c2.toInt8.toInt32)]), (q74, oA .char [c0, c1, c2]), (aE, fI "java/util/Optional" sg_2 [(.null)])] hc3) D_205 (gw hw 154 rfl) (gw hw 155 rfl) (gw hw 4 rfl) (gw hw 156 rfl) (by decide) pd_30 rfl rfl rfl (lb rfl) (lb rfl) (lb rfl) (lb rfl) ?_
      rintro _ _ ⟨rfl, rfl⟩
      show W44 l Z room_1 [(a71, oA .char [c0, c1, c2, c3]), (o105, fI "java/util/Optional" sg_2 [(.ref sa106)]), (su107, fA .byte [(nar .byte c1.toInt8.toInt32), (nar .byte c2.toInt8.toInt32)]), (sa106, strO su107), (t73, strO b72), (b72, fA .byte [(nar .byte c0.toInt8.toInt32), (nar .byte c1.toInt8.toInt32), (nar .byte c2.toInt8.toInt32)]), (q74, oA .char [c0, c1, c2]), (aE, fI "java/util/Optional" sg_2 [(.null)])] 7 21 208 #[.val (.int g0), .val (.int g1), .val (.int g2), .val (.int g3), .val (.int g4), .val (.int 3), .val (.ref a71), .val (.ref t73), .val (.int 0), .val (.ref o105), .unset] [(.int c3), (.int c2), (.int c1), (.int 2)] Q_law
      refine wp_aload D_208 rfl rfl ?_
      refine wp_iload D_210 rfl ?_
      refine wp_iconst 4 D_212 (by decide) ?_
      refine wp_iadd D_213 ?_
      rw [show ((0 : Int32) + (4 : Int32)) = (4 : Int32) from by decide]
      refine wp_callS (c_at_4 l Z a0 hw a71 c0 c1 c2 c3 [(o105, fI "java/util/Optional" sg_2 [(.ref sa106)]), (su107, fA .byte [(nar .byte c1.toInt8.toInt32), (nar .byte c2.toInt8.toInt32)]), (sa106, strO su107), (t73, strO b72), (b72, fA .byte [(nar .byte c0.toInt8.toInt32), (nar .byte c1.toInt8.toInt32), (nar .byte c2.toInt8.toInt32)]), (q74, oA .char [c0, c1, c2]), (aE, fI "java/util/Optional" sg_2 [(.null)])] ) D_214 (gw hw 154 rfl) (gw hw 155 rfl) (gw hw 4 rfl) (gw hw 156 rfl) (by decide) pd_30 rfl rfl rfl (lb rfl) (lb rfl) (lb rfl) (lb rfl) ?_
      rintro _ _ ⟨rfl, rfl⟩
      show W44 l Z room_1 [(a71, oA .char [c0, c1, c2, c3]), (o105, fI "java/util/Optional" sg_2 [(.ref sa106)]), (su107, fA .byte [(nar .byte c1.toInt8.toInt32), (nar .byte c2.toInt8.toInt32)]), (sa106, strO su107), (t73, strO b72), (b72, fA .byte [(nar .byte c0.toInt8.toInt32), (nar .byte c1.toInt8.toInt32), (nar .byte c2.toInt8.toInt32)]), (q74, oA .char [c0, c1, c2]), (aE, fI "java/util/Optional" sg_2 [(.null)])] 7 21 217 #[.val (.int g0), .val (.int g1), .val (.int g2), .val (.int g3), .val (.int g4), .val (.int 3), .val (.ref a71), .val (.ref t73), .val (.int 0), .val (.ref o105), .unset] [(.int 120), (.int c3), (.int c2), (.int c1), (.int 2)] Q_law
      refine wp_callS (c_str_2 l Z a0 hw c1 c2 c3 (120 : Int32) cp fm [(a71, oA .char [c0, c1, c2, c3]), (o105, fI "java/util/Optional" sg_2 [(.ref sa106)]), (su107, fA .byte [(nar .byte c1.toInt8.toInt32), (nar .byte c2.toInt8.toInt32)]), (sa106, strO su107), (t73, strO b72), (b72, fA .byte [(nar .byte c0.toInt8.toInt32), (nar .byte c1.toInt8.toInt32), (nar .byte c2.toInt8.toInt32)]), (q74, oA .char [c0, c1, c2]), (aE, fI "java/util/Optional" sg_2 [(.null)])] hs hc1 hc2) D_217 (gw hw 7 rfl) (gw hw 8 rfl) (gw hw 4 rfl) (gw hw 9 rfl) (by decide) pd_27 rfl rfl rfl (lb rfl) (lb rfl) (lb rfl) (lb rfl) ?_
      rintro _ _ ⟨b109, t110, q111, rfl, rfl⟩
      show W44 l Z room_1 [(b109, fA .byte [(nar .byte c1.toInt8.toInt32), (nar .byte c2.toInt8.toInt32)]), (t110, strO b109), (q111, oA .char [c1, c2]), (a71, oA .char [c0, c1, c2, c3]), (o105, fI "java/util/Optional" sg_2 [(.ref sa106)]), (su107, fA .byte [(nar .byte c1.toInt8.toInt32), (nar .byte c2.toInt8.toInt32)]), (sa106, strO su107), (t73, strO b72), (b72, fA .byte [(nar .byte c0.toInt8.toInt32), (nar .byte c1.toInt8.toInt32), (nar .byte c2.toInt8.toInt32)]), (q74, oA .char [c0, c1, c2]), (aE, fI "java/util/Optional" sg_2 [(.null)])] 10 29 220 #[.val (.int g0), .val (.int g1), .val (.int g2), .val (.int g3), .val (.int g4), .val (.int 3), .val (.ref a71), .val (.ref t73), .val (.int 0), .val (.ref o105), .unset] [(.ref t110)] Q_law
      refine wp_astore #[.val (.int g0), .val (.int g1), .val (.int g2), .val (.int g3), .val (.int g4), .val (.int 3), .val (.ref a71), .val (.ref t73), .val (.int 0), .val (.ref o105), .val (.ref t110)] D_220 rfl rfl ?_
      refine wp_aload D_222 rfl rfl ?_
      refine Wp.pick [4, 0, 1, 2, 3, 5, 6, 7, 8, 9, 10] (by decide) ?_
      show W44 l Z room_1 [(o105, fI "java/util/Optional" sg_2 [(.ref sa106)]), (b109, fA .byte [(nar .byte c1.toInt8.toInt32), (nar .byte c2.toInt8.toInt32)]), (t110, strO b109), (q111, oA .char [c1, c2]), (a71, oA .char [c0, c1, c2, c3]), (su107, fA .byte [(nar .byte c1.toInt8.toInt32), (nar .byte c2.toInt8.toInt32)]), (sa106, strO su107), (t73, strO b72), (b72, fA .byte [(nar .byte c0.toInt8.toInt32), (nar .byte c1.toInt8.toInt32), (nar .byte c2.toInt8.toInt32)]), (q74, oA .char [c0, c1, c2]), (aE, fI "java/util/Optional" sg_2 [(.null)])] 10 29 224 #[.val (.int g0), .val (.int g1), .val (.int g2), .val (.int g3), .val (.int g4), .val (.int 3), .val (.ref a71), .val (.ref t73), .val (.int 0), .val (.ref o105), .val (.ref t110)] [(.ref o105)] Q_law
      refine wp_virtual (c_ip1 l Z a0 hw o105 sa106 [(b109, fA .byte [(nar .byte c1.toInt8.toInt32), (nar .byte c2.toInt8.toInt32)]), (t110, strO b109), (q111, oA .char [c1, c2]), (a71, oA .char [c0, c1, c2, c3]), (su107, fA .byte [(nar .byte c1.toInt8.toInt32), (nar .byte c2.toInt8.toInt32)]), (sa106, strO su107), (t73, strO b72), (b72, fA .byte [(nar .byte c0.toInt8.toInt32), (nar .byte c1.toInt8.toInt32), (nar .byte c2.toInt8.toInt32)]), (q74, oA .char [c0, c1, c2]), (aE, fI "java/util/Optional" sg_2 [(.null)])] ) (exa_new (i := 0) rfl) D_224 (gw hw 80 rfl) (gw hw 81 rfl) (gw hw 83 rfl) (gw hw 83 rfl) (gw hw 82 rfl) (gw hw 77 rfl) (gw hw 84 rfl) (by decide) pd_4 rfl rfl rfl (lb rfl) (lb rfl) (lb rfl) (lb rfl) ?_
      rintro _ _ ⟨rfl, rfl⟩
      show W44 l Z room_1 [(o105, fI "java/util/Optional" sg_2 [(.ref sa106)]), (b109, fA .byte [(nar .byte c1.toInt8.toInt32), (nar .byte c2.toInt8.toInt32)]), (t110, strO b109), (q111, oA .char [c1, c2]), (a71, oA .char [c0, c1, c2, c3]), (su107, fA .byte [(nar .byte c1.toInt8.toInt32), (nar .byte c2.toInt8.toInt32)]), (sa106, strO su107), (t73, strO b72), (b72, fA .byte [(nar .byte c0.toInt8.toInt32), (nar .byte c1.toInt8.toInt32), (nar .byte c2.toInt8.toInt32)]), (q74, oA .char [c0, c1, c2]), (aE, fI "java/util/Optional" sg_2 [(.null)])] 10 29 227 #[.val (.int g0), .val (.int g1), .val (.int g2), .val (.int g3), .val (.int g4), .val (.int 3), .val (.ref a71), .val (.ref t73), .val (.int 0), .val (.ref o105), .val (.ref t110)] [(.int 1)] Q_law
      refine wp_if_eq D_227 (pc'' := 250) ⟨by decide, by decide⟩ (fun h112 => by exact absurd h112 (by decide)) (fun h112 => ?_)
      refine wp_aload D_230 rfl rfl ?_
      refine wp_virtual (c_get l Z a0 hw o105 sa106 [(b109, fA .byte [(nar .byte c1.toInt8.toInt32), (nar .byte c2.toInt8.toInt32)]), (t110, strO b109), (q111, oA .char [c1, c2]), (a71, oA .char [c0, c1, c2, c3]), (su107, fA .byte [(nar .byte c1.toInt8.toInt32), (nar .byte c2.toInt8.toInt32)]), (sa106, strO su107), (t73, strO b72), (b72, fA .byte [(nar .byte c0.toInt8.toInt32), (nar .byte c1.toInt8.toInt32), (nar .byte c2.toInt8.toInt32)]), (q74, oA .char [c0, c1, c2]), (aE, fI "java/util/Optional" sg_2 [(.null)])] ) (exa_new (i := 0) rfl) D_232 (gw hw 157 rfl) (gw hw 158 rfl) (gw hw 160 rfl) (gw hw 160 rfl) (gw hw 159 rfl) (gw hw 77 rfl) (gw hw 161 rfl) (by decide) pd_31 rfl rfl rfl (lb rfl) (lb rfl) (lb rfl) (lb rfl) ?_
      rintro _ _ ⟨rfl, rfl⟩
      show W44 l Z room_1 [(o105, fI "java/util/Optional" sg_2 [(.ref sa106)]), (b109, fA .byte [(nar .byte c1.toInt8.toInt32), (nar .byte c2.toInt8.toInt32)]), (t110, strO b109), (q111, oA .char [c1, c2]), (a71, oA .char [c0, c1, c2, c3]), (su107, fA .byte [(nar .byte c1.toInt8.toInt32), (nar .byte c2.toInt8.toInt32)]), (sa106, strO su107), (t73, strO b72), (b72, fA .byte [(nar .byte c0.toInt8.toInt32), (nar .byte c1.toInt8.toInt32), (nar .byte c2.toInt8.toInt32)]), (q74, oA .char [c0, c1, c2]), (aE, fI "java/util/Optional" sg_2 [(.null)])] 10 29 235 #[.val (.int g0), .val (.int g1), .val (.int g2), .val (.int g3), .val (.int g4), .val (.int 3), .val (.ref a71), .val (.ref t73), .val (.int 0), .val (.ref o105), .val (.ref t110)] [(.ref sa106)] Q_law
      refine wp_cast D_235 (gw hw 10 rfl) (fun h P => Ins.self (exa_new (i := 6) rfl h P)) ?_
      refine wp_aload D_238 rfl rfl ?_
      refine Wp.pick [6, 5, 2, 1, 0, 3, 4, 7, 8, 9, 10] (by decide) ?_
      show W44 l Z room_1 [(sa106, strO su107), (su107, fA .byte [(nar .byte c1.toInt8.toInt32), (nar .byte c2.toInt8.toInt32)]), (t110, strO b109), (b109, fA .byte [(nar .byte c1.toInt8.toInt32), (nar .byte c2.toInt8.toInt32)]), (o105, fI "java/util/Optional" sg_2 [(.ref sa106)]), (q111, oA .char [c1, c2]), (a71, oA .char [c0, c1, c2, c3]), (t73, strO b72), (b72, fA .byte [(nar .byte c0.toInt8.toInt32), (nar .byte c1.toInt8.toInt32), (nar .byte c2.toInt8.toInt32)]), (q74, oA .char [c0, c1, c2]), (aE, fI "java/util/Optional" sg_2 [(.null)])] 10 29 240 #[.val (.int g0), .val (.int g1), .val (.int g2), .val (.int g3), .val (.int g4), .val (.int 3), .val (.ref a71), .val (.ref t73), .val (.int 0), .val (.ref o105), .val (.ref t110)] [(.ref t110), (.ref sa106)] Q_law
      refine wp_virtual (c_seq_2 l Z a0 hw sa106 su107 t110 b109 (nar .byte c1.toInt8.toInt32) (nar .byte c2.toInt8.toInt32) cp fm [(o105, fI "java/util/Optional" sg_2 [(.ref sa106)]), (q111, oA .char [c1, c2]), (a71, oA .char [c0, c1, c2, c3]), (t73, strO b72), (b72, fA .byte [(nar .byte c0.toInt8.toInt32), (nar .byte c1.toInt8.toInt32), (nar .byte c2.toInt8.toInt32)]), (q74, oA .char [c0, c1, c2]), (aE, fI "java/util/Optional" sg_2 [(.null)])] hs ) (exa_new (i := 0) rfl) D_240 (gw hw 162 rfl) (gw hw 163 rfl) (gw hw 165 rfl) (gw hw 165 rfl) (gw hw 164 rfl) (gw hw 12 rfl) (gw hw 166 rfl) (by decide) pd_32 rfl rfl rfl (lb rfl) (lb rfl) (lb rfl) (lb rfl) ?_
      rintro _ _ ⟨rfl, rfl⟩
      show W44 l Z room_1 [(sa106, strO su107), (su107, fA .byte [(nar .byte c1.toInt8.toInt32), (nar .byte c2.toInt8.toInt32)]), (t110, strO b109), (b109, fA .byte [(nar .byte c1.toInt8.toInt32), (nar .byte c2.toInt8.toInt32)]), (o105, fI "java/util/Optional" sg_2 [(.ref sa106)]), (q111, oA .char [c1, c2]), (a71, oA .char [c0, c1, c2, c3]), (t73, strO b72), (b72, fA .byte [(nar .byte c0.toInt8.toInt32), (nar .byte c1.toInt8.toInt32), (nar .byte c2.toInt8.toInt32)]), (q74, oA .char [c0, c1, c2]), (aE, fI "java/util/Optional" sg_2 [(.null)])] 10 29 243 #[.val (.int g0), .val (.int g1), .val (.int g2), .val (.int g3), .val (.int g4), .val (.int 3), .val (.ref a71), .val (.ref t73), .val (.int 0), .val (.ref o105), .val (.ref t110)] [(.int 1)] Q_law
      refine wp_if_eq D_243 (pc'' := 250) ⟨by decide, by decide⟩ (fun h113 => by exact absurd h113 (by decide)) (fun h113 => ?_)
      refine wp_iconst 1 D_246 (by decide) ?_
      refine wp_goto D_247 (pc'' := 251) ⟨by decide, by decide⟩ ?_
      refine wp_ireturnN D_251 rfl (by simp) (by decide) (by decide) ?_
      exact rfl
  · subst hs_x1
    show W44 l Z room_1 [(aE, fI "java/util/Optional" sg_2 [(.null)])] 0 0 8 #[.val (.int g0), .val (.int g1), .val (.int g2), .val (.int g3), .val (.int g4), .val (.int 4), .unset, .unset, .unset, .unset, .unset] [] Q_law
    refine wp_iconst 4 D_8 (by decide) ?_
    refine wp_newarrayI (n := (4 : Int32)) (4) 4 D_9 rfl rfl rfl (gw hw 1 rfl) (by decide) (by decide) (by decide) (by decide) (by decide) (by decide) ?_
    intro a114
    show W44 l Z room_1 [(a114, oA .char [(0 : Int32), (0 : Int32), (0 : Int32), (0 : Int32)]), (aE, fI "java/util/Optional" sg_2 [(.null)])] 1 4 11 #[.val (.int g0), .val (.int g1), .val (.int g2), .val (.int g3), .val (.int g4), .val (.int 4), .unset, .unset, .unset, .unset, .unset] [(.ref a114)] Q_law
    refine wp_dup D_11 rfl ?_
    refine wp_iconst 0 D_12 (by decide) ?_
    refine wp_iload_n D_13 rfl ?_
    refine wp_callS (c_ch l Z a0 hw g1 [(a114, oA .char [(0 : Int32), (0 : Int32), (0 : Int32), (0 : Int32)]), (aE, fI "java/util/Optional" sg_2 [(.null)])] ) D_14 (gw hw 2 rfl) (gw hw 3 rfl) (gw hw 4 rfl) (gw hw 5 rfl) (by decide) pd_26 rfl rfl rfl (lb rfl) (lb rfl) (lb rfl) (lb rfl) ?_
    rintro _ _ ⟨c0, rfl, hc0, rfl⟩
    show W44 l Z room_1 [(a114, oA .char [(0 : Int32), (0 : Int32), (0 : Int32), (0 : Int32)]), (aE, fI "java/util/Optional" sg_2 [(.null)])] 1 4 17 #[.val (.int g0), .val (.int g1), .val (.int g2), .val (.int g3), .val (.int g4), .val (.int 4), .unset, .unset, .unset, .unset, .unset] [(.int c0), (.int 0), (.ref a114), (.ref a114)] Q_law
    refine wp_castore (i := 0) (0) D_17 rfl (by decide) (by decide) (by first | decide | exact Nat.le_of_ble_eq_true rfl | simp) ?_
    rw [own_nc c0 hc0]
    show W44 l Z room_1 [(a114, oA .char [c0, (0 : Int32), (0 : Int32), (0 : Int32)]), (aE, fI "java/util/Optional" sg_2 [(.null)])] 1 4 18 #[.val (.int g0), .val (.int g1), .val (.int g2), .val (.int g3), .val (.int g4), .val (.int 4), .unset, .unset, .unset, .unset, .unset] [(.ref a114)] Q_law
    refine wp_dup D_18 rfl ?_
    refine wp_iconst 1 D_19 (by decide) ?_
    refine wp_iload_n D_20 rfl ?_
    refine wp_callS (c_ch l Z a0 hw g2 [(a114, oA .char [c0, (0 : Int32), (0 : Int32), (0 : Int32)]), (aE, fI "java/util/Optional" sg_2 [(.null)])] ) D_21 (gw hw 2 rfl) (gw hw 3 rfl) (gw hw 4 rfl) (gw hw 5 rfl) (by decide) pd_26 rfl rfl rfl (lb rfl) (lb rfl) (lb rfl) (lb rfl) ?_
    rintro _ _ ⟨c1, rfl, hc1, rfl⟩
    show W44 l Z room_1 [(a114, oA .char [c0, (0 : Int32), (0 : Int32), (0 : Int32)]), (aE, fI "java/util/Optional" sg_2 [(.null)])] 1 4 24 #[.val (.int g0), .val (.int g1), .val (.int g2), .val (.int g3), .val (.int g4), .val (.int 4), .unset, .unset, .unset, .unset, .unset] [(.int c1), (.int 1), (.ref a114), (.ref a114)] Q_law
    refine wp_castore (i := 0) (1) D_24 rfl (by decide) (by decide) (by first | decide | exact Nat.le_of_ble_eq_true rfl | simp) ?_
    rw [own_nc c1 hc1]
    show W44 l Z room_1 [(a114, oA .char [c0, c1, (0 : Int32), (0 : Int32)]), (aE, fI "java/util/Optional" sg_2 [(.null)])] 1 4 25 #[.val (.int g0), .val (.int g1), .val (.int g2), .val (.int g3), .val (.int g4), .val (.int 4), .unset, .unset, .unset, .unset, .unset] [(.ref a114)] Q_law
    refine wp_dup D_25 rfl ?_
    refine wp_iconst 2 D_26 (by decide) ?_
    refine wp_iload_n D_27 rfl ?_
    refine wp_callS (c_ch l Z a0 hw g3 [(a114, oA .char [c0, c1, (0 : Int32), (0 : Int32)]), (aE, fI "java/util/Optional" sg_2 [(.null)])] ) D_28 (gw hw 2 rfl) (gw hw 3 rfl) (gw hw 4 rfl) (gw hw 5 rfl) (by decide) pd_26 rfl rfl rfl (lb rfl) (lb rfl) (lb rfl) (lb rfl) ?_
    rintro _ _ ⟨c2, rfl, hc2, rfl⟩
    show W44 l Z room_1 [(a114, oA .char [c0, c1, (0 : Int32), (0 : Int32)]), (aE, fI "java/util/Optional" sg_2 [(.null)])] 1 4 31 #[.val (.int g0), .val (.int g1), .val (.int g2), .val (.int g3), .val (.int g4), .val (.int 4), .unset, .unset, .unset, .unset, .unset] [(.int c2), (.int 2), (.ref a114), (.ref a114)] Q_law
    refine wp_castore (i := 0) (2) D_31 rfl (by decide) (by decide) (by first | decide | exact Nat.le_of_ble_eq_true rfl | simp) ?_
    rw [own_nc c2 hc2]
    show W44 l Z room_1 [(a114, oA .char [c0, c1, c2, (0 : Int32)]), (aE, fI "java/util/Optional" sg_2 [(.null)])] 1 4 32 #[.val (.int g0), .val (.int g1), .val (.int g2), .val (.int g3), .val (.int g4), .val (.int 4), .unset, .unset, .unset, .unset, .unset] [(.ref a114)] Q_law
    refine wp_dup D_32 rfl ?_
    refine wp_iconst 3 D_33 (by decide) ?_
    refine wp_iload D_34 rfl ?_
    refine wp_callS (c_ch l Z a0 hw g4 [(a114, oA .char [c0, c1, c2, (0 : Int32)]), (aE, fI "java/util/Optional" sg_2 [(.null)])] ) D_36 (gw hw 2 rfl) (gw hw 3 rfl) (gw hw 4 rfl) (gw hw 5 rfl) (by decide) pd_26 rfl rfl rfl (lb rfl) (lb rfl) (lb rfl) (lb rfl) ?_
    rintro _ _ ⟨c3, rfl, hc3, rfl⟩
    show W44 l Z room_1 [(a114, oA .char [c0, c1, c2, (0 : Int32)]), (aE, fI "java/util/Optional" sg_2 [(.null)])] 1 4 39 #[.val (.int g0), .val (.int g1), .val (.int g2), .val (.int g3), .val (.int g4), .val (.int 4), .unset, .unset, .unset, .unset, .unset] [(.int c3), (.int 3), (.ref a114), (.ref a114)] Q_law
    refine wp_castore (i := 0) (3) D_39 rfl (by decide) (by decide) (by first | decide | exact Nat.le_of_ble_eq_true rfl | simp) ?_
    rw [own_nc c3 hc3]
    show W44 l Z room_1 [(a114, oA .char [c0, c1, c2, c3]), (aE, fI "java/util/Optional" sg_2 [(.null)])] 1 4 40 #[.val (.int g0), .val (.int g1), .val (.int g2), .val (.int g3), .val (.int g4), .val (.int 4), .unset, .unset, .unset, .unset, .unset] [(.ref a114)] Q_law
    refine wp_astore #[.val (.int g0), .val (.int g1), .val (.int g2), .val (.int g3), .val (.int g4), .val (.int 4), .val (.ref a114), .unset, .unset, .unset, .unset] D_40 rfl rfl ?_
    refine wp_iload D_42 rfl ?_
    refine wp_aload D_44 rfl rfl ?_
    refine wp_iconst 0 D_46 (by decide) ?_
    refine wp_caload (i := 0) (0) D_47 rfl (by decide) (by decide) rfl ?_
    refine wp_aload D_48 rfl rfl ?_
    refine wp_iconst 1 D_50 (by decide) ?_
    refine wp_caload (i := 0) (1) D_51 rfl (by decide) (by decide) rfl ?_
    refine wp_aload D_52 rfl rfl ?_
    refine wp_iconst 2 D_54 (by decide) ?_
    refine wp_caload (i := 0) (2) D_55 rfl (by decide) (by decide) rfl ?_
    refine wp_aload D_56 rfl rfl ?_
    refine wp_iconst 3 D_58 (by decide) ?_
    refine wp_caload (i := 0) (3) D_59 rfl (by decide) (by decide) rfl ?_
    refine wp_callS (c_str_4 l Z a0 hw c0 c1 c2 c3 cp fm [(a114, oA .char [c0, c1, c2, c3]), (aE, fI "java/util/Optional" sg_2 [(.null)])] hs hc0 hc1 hc2 hc3) D_60 (gw hw 7 rfl) (gw hw 8 rfl) (gw hw 4 rfl) (gw hw 9 rfl) (by decide) pd_27 rfl rfl rfl (lb rfl) (lb rfl) (lb rfl) (lb rfl) ?_
    rintro _ _ ⟨b115, t116, q117, rfl, rfl⟩
    show W44 l Z room_1 [(b115, fA .byte [(nar .byte c0.toInt8.toInt32), (nar .byte c1.toInt8.toInt32), (nar .byte c2.toInt8.toInt32), (nar .byte c3.toInt8.toInt32)]), (t116, strO b115), (q117, oA .char [c0, c1, c2, c3]), (a114, oA .char [c0, c1, c2, c3]), (aE, fI "java/util/Optional" sg_2 [(.null)])] 4 16 63 #[.val (.int g0), .val (.int g1), .val (.int g2), .val (.int g3), .val (.int g4), .val (.int 4), .val (.ref a114), .unset, .unset, .unset, .unset] [(.ref t116)] Q_law
    refine wp_astore #[.val (.int g0), .val (.int g1), .val (.int g2), .val (.int g3), .val (.int g4), .val (.int 4), .val (.ref a114), .val (.ref t116), .unset, .unset, .unset] D_63 rfl rfl ?_
    refine wp_iconst (-1) D_65 (by decide) ?_
    refine wp_istore #[.val (.int g0), .val (.int g1), .val (.int g2), .val (.int g3), .val (.int g4), .val (.int 4), .val (.ref a114), .val (.ref t116), .val (.int (-1)), .unset, .unset] D_66 rfl ?_
    refine wp_iload D_68 rfl ?_
    refine wp_if_le D_70 (pc'' := 88) ⟨by decide, by decide⟩ (fun h118 => by exact absurd h118 (by decide)) (fun h118 => ?_)
    refine wp_aload D_73 rfl rfl ?_
    refine wp_iconst 0 D_75 (by decide) ?_
    refine wp_caload (i := 3) (0) D_76 rfl (by decide) (by decide) rfl ?_
    refine wp_bipush 35 D_77 (by decide) ?_
    refine wp_icmp_ne D_79 (pc'' := 88) ⟨by decide, by decide⟩ (fun h119 => ?_) (fun h119 => ?_)
    · skip
      refine wp_iload D_88 rfl ?_
      refine wp_iconst 1 D_90 (by decide) ?_
      refine wp_icmp_le D_91 (pc'' := 109) ⟨by decide, by decide⟩ (fun h120 => by exact absurd h120 (by decide)) (fun h120 => ?_)
      refine wp_aload D_94 rfl rfl ?_
      refine wp_iconst 1 D_96 (by decide) ?_
      refine wp_caload (i := 3) (1) D_97 rfl (by decide) (by decide) rfl ?_
      refine wp_bipush 35 D_98 (by decide) ?_
      refine wp_icmp_ne D_100 (pc'' := 109) ⟨by decide, by decide⟩ (fun h121 => ?_) (fun h121 => ?_)
      · skip
        refine wp_iload D_109 rfl ?_
        refine wp_iconst 2 D_111 (by decide) ?_
        refine wp_icmp_le D_112 (pc'' := 130) ⟨by decide, by decide⟩ (fun h122 => by exact absurd h122 (by decide)) (fun h122 => ?_)
        refine wp_aload D_115 rfl rfl ?_
        refine wp_iconst 2 D_117 (by decide) ?_
        refine wp_caload (i := 3) (2) D_118 rfl (by decide) (by decide) rfl ?_
        refine wp_bipush 35 D_119 (by decide) ?_
        refine wp_icmp_ne D_121 (pc'' := 130) ⟨by decide, by decide⟩ (fun h123 => ?_) (fun h123 => ?_)
        · skip
          refine wp_iload D_130 rfl ?_
          refine wp_iconst 3 D_132 (by decide) ?_
          refine wp_icmp_le D_133 (pc'' := 148) ⟨by decide, by decide⟩ (fun h124 => by exact absurd h124 (by decide)) (fun h124 => ?_)
          refine wp_aload D_136 rfl rfl ?_
          refine wp_iconst 3 D_138 (by decide) ?_
          refine wp_caload (i := 3) (3) D_139 rfl (by decide) (by decide) rfl ?_
          refine wp_bipush 35 D_140 (by decide) ?_
          refine wp_icmp_ne D_142 (pc'' := 148) ⟨by decide, by decide⟩ (fun h125 => ?_) (fun h125 => ?_)
          · skip
            refine wp_aload D_148 rfl rfl ?_
            refine Wp.pick [1, 0, 2, 3, 4] (by decide) ?_
            show W44 l Z room_1 [(t116, strO b115), (b115, fA .byte [(nar .byte c0.toInt8.toInt32), (nar .byte c1.toInt8.toInt32), (nar .byte c2.toInt8.toInt32), (nar .byte c3.toInt8.toInt32)]), (q117, oA .char [c0, c1, c2, c3]), (a114, oA .char [c0, c1, c2, c3]), (aE, fI "java/util/Optional" sg_2 [(.null)])] 4 16 150 #[.val (.int g0), .val (.int g1), .val (.int g2), .val (.int g3), .val (.int g4), .val (.int 4), .val (.ref a114), .val (.ref t116), .val (.int (-1)), .unset, .unset] [(.ref t116)] Q_law
            refine wp_callS (c_fr_4_m l Z a0 hw t116 b115 (nar .byte c0.toInt8.toInt32) (nar .byte c1.toInt8.toInt32) (nar .byte c2.toInt8.toInt32) (nar .byte c3.toInt8.toInt32) aE cp fm [(q117, oA .char [c0, c1, c2, c3]), (a114, oA .char [c0, c1, c2, c3]), (aE, fI "java/util/Optional" sg_2 [(.null)])] hs S_E (own_35 c0 hc0 h119) (own_35 c1 hc1 h121) (own_35 c2 hc2 h123) (own_35 c3 hc3 h125)) D_150 (gw hw 31 rfl) (gw hw 32 rfl) (gw hw 33 rfl) (gw hw 34 rfl) (by decide) pd_29 rfl rfl rfl (lb rfl) (lb rfl) (lb rfl) (lb rfl) ?_
            rintro _ _ ⟨rfl, rfl⟩
            show W44 l Z room_1 [(t116, strO b115), (b115, fA .byte [(nar .byte c0.toInt8.toInt32), (nar .byte c1.toInt8.toInt32), (nar .byte c2.toInt8.toInt32), (nar .byte c3.toInt8.toInt32)]), (q117, oA .char [c0, c1, c2, c3]), (a114, oA .char [c0, c1, c2, c3]), (aE, fI "java/util/Optional" sg_2 [(.null)])] 4 16 153 #[.val (.int g0), .val (.int g1), .val (.int g2), .val (.int g3), .val (.int g4), .val (.int 4), .val (.ref a114), .val (.ref t116), .val (.int (-1)), .unset, .unset] [(.ref aE)] Q_law
            refine wp_astore #[.val (.int g0), .val (.int g1), .val (.int g2), .val (.int g3), .val (.int g4), .val (.int 4), .val (.ref a114), .val (.ref t116), .val (.int (-1)), .val (.ref aE), .unset] D_153 rfl rfl ?_
            refine wp_iload D_155 rfl ?_
            refine wp_if_ge D_157 (pc'' := 174) ⟨by decide, by decide⟩ (fun h126 => by exact absurd h126 (by decide)) (fun h126 => ?_)
            refine wp_aload D_160 rfl rfl ?_
            refine Wp.pick [4, 0, 1, 2, 3] (by decide) ?_
            show W44 l Z room_1 [(aE, fI "java/util/Optional" sg_2 [(.null)]), (t116, strO b115), (b115, fA .byte [(nar .byte c0.toInt8.toInt32), (nar .byte c1.toInt8.toInt32), (nar .byte c2.toInt8.toInt32), (nar .byte c3.toInt8.toInt32)]), (q117, oA .char [c0, c1, c2, c3]), (a114, oA .char [c0, c1, c2, c3])] 4 16 162 #[.val (.int g0), .val (.int g1), .val (.int g2), .val (.int g3), .val (.int g4), .val (.int 4), .val (.ref a114), .val (.ref t116), .val (.int (-1)), .val (.ref aE), .unset] [(.ref aE)] Q_law
            refine wp_virtual (c_ip0 l Z a0 hw aE [(t116, strO b115), (b115, fA .byte [(nar .byte c0.toInt8.toInt32), (nar .byte c1.toInt8.toInt32), (nar .byte c2.toInt8.toInt32), (nar .byte c3.toInt8.toInt32)]), (q117, oA .char [c0, c1, c2, c3]), (a114, oA .char [c0, c1, c2, c3])] ) (exa_new (i := 0) rfl) D_162 (gw hw 80 rfl) (gw hw 81 rfl) (gw hw 83 rfl) (gw hw 83 rfl) (gw hw 82 rfl) (gw hw 77 rfl) (gw hw 84 rfl) (by decide) pd_4 rfl rfl rfl (lb rfl) (lb rfl) (lb rfl) (lb rfl) ?_
            rintro _ _ ⟨rfl, rfl⟩
            show W44 l Z room_1 [(aE, fI "java/util/Optional" sg_2 [(.null)]), (t116, strO b115), (b115, fA .byte [(nar .byte c0.toInt8.toInt32), (nar .byte c1.toInt8.toInt32), (nar .byte c2.toInt8.toInt32), (nar .byte c3.toInt8.toInt32)]), (q117, oA .char [c0, c1, c2, c3]), (a114, oA .char [c0, c1, c2, c3])] 4 16 165 #[.val (.int g0), .val (.int g1), .val (.int g2), .val (.int g3), .val (.int g4), .val (.int 4), .val (.ref a114), .val (.ref t116), .val (.int (-1)), .val (.ref aE), .unset] [(.int 0)] Q_law
            refine wp_if_ne D_165 (pc'' := 172) ⟨by decide, by decide⟩ (fun h127 => by exact absurd h127 (by decide)) (fun h127 => ?_)
            refine wp_iconst 1 D_168 (by decide) ?_
            refine wp_goto D_169 (pc'' := 173) ⟨by decide, by decide⟩ ?_
            refine wp_ireturnN D_173 rfl (by simp) (by decide) (by decide) ?_
            exact rfl
          · skip
            refine wp_iconst 3 D_145 (by decide) ?_
            refine wp_istore #[.val (.int g0), .val (.int g1), .val (.int g2), .val (.int g3), .val (.int g4), .val (.int 4), .val (.ref a114), .val (.ref t116), .val (.int 3), .unset, .unset] D_146 rfl ?_
            refine wp_aload D_148 rfl rfl ?_
            refine Wp.pick [1, 0, 2, 3, 4] (by decide) ?_
            show W44 l Z room_1 [(t116, strO b115), (b115, fA .byte [(nar .byte c0.toInt8.toInt32), (nar .byte c1.toInt8.toInt32), (nar .byte c2.toInt8.toInt32), (nar .byte c3.toInt8.toInt32)]), (q117, oA .char [c0, c1, c2, c3]), (a114, oA .char [c0, c1, c2, c3]), (aE, fI "java/util/Optional" sg_2 [(.null)])] 4 16 150 #[.val (.int g0), .val (.int g1), .val (.int g2), .val (.int g3), .val (.int g4), .val (.int 4), .val (.ref a114), .val (.ref t116), .val (.int 3), .unset, .unset] [(.ref t116)] Q_law
            refine wp_callSI (c_fr_4_3 l Z a0 hw t116 b115 (nar .byte c0.toInt8.toInt32) (nar .byte c1.toInt8.toInt32) (nar .byte c2.toInt8.toInt32) (nar .byte c3.toInt8.toInt32) cp fm [(q117, oA .char [c0, c1, c2, c3]), (a114, oA .char [c0, c1, c2, c3]), (aE, fI "java/util/Optional" sg_2 [(.null)])] hs (own_35 c0 hc0 h119) (own_35 c1 hc1 h121) (own_35 c2 hc2 h123) (own_35y c3 h125)) (own_EL l Z a0 hw) D_150 (gw hw 31 rfl) (gw hw 32 rfl) (gw hw 33 rfl) (gw hw 34 rfl) (by decide) pd_29 rfl rfl rfl (lb rfl) (lb rfl) (lb rfl) (lb rfl) ?_
            rintro _ _ ⟨o128, sa129, su130, rfl, rfl⟩
            show W44 l Z room_1 [(o128, fI "java/util/Optional" sg_2 [(.ref sa129)]), (sa129, strO su130), (su130, fA .byte []), (t116, strO b115), (b115, fA .byte [(nar .byte c0.toInt8.toInt32), (nar .byte c1.toInt8.toInt32), (nar .byte c2.toInt8.toInt32), (nar .byte c3.toInt8.toInt32)]), (q117, oA .char [c0, c1, c2, c3]), (a114, oA .char [c0, c1, c2, c3]), (aE, fI "java/util/Optional" sg_2 [(.null)])] 7 21 153 #[.val (.int g0), .val (.int g1), .val (.int g2), .val (.int g3), .val (.int g4), .val (.int 4), .val (.ref a114), .val (.ref t116), .val (.int 3), .unset, .unset] [(.ref o128)] Q_law
            refine wp_astore #[.val (.int g0), .val (.int g1), .val (.int g2), .val (.int g3), .val (.int g4), .val (.int 4), .val (.ref a114), .val (.ref t116), .val (.int 3), .val (.ref o128), .unset] D_153 rfl rfl ?_
            refine wp_iload D_155 rfl ?_
            refine wp_if_ge D_157 (pc'' := 174) ⟨by decide, by decide⟩ (fun h131 => ?_) (fun h131 => by exact absurd h131 (by decide))
            refine wp_iload D_174 rfl ?_
            refine wp_iload D_176 rfl ?_
            refine wp_isub D_178 ?_
            rw [show ((4 : Int32) - (3 : Int32)) = (1 : Int32) from by decide]
            refine wp_iconst 1 D_179 (by decide) ?_
            refine wp_isub D_180 ?_
            rw [show ((1 : Int32) - (1 : Int32)) = (0 : Int32) from by decide]
            refine wp_aload D_181 rfl rfl ?_
            refine wp_iload D_183 rfl ?_
            refine wp_iconst 1 D_185 (by decide) ?_
            refine wp_iadd D_186 ?_
            rw [show ((3 : Int32) + (1 : Int32)) = (4 : Int32) from by decide]
            refine Wp.pick [6, 0, 1, 2, 3, 4, 5, 7] (by decide) ?_
            show W44 l Z room_1 [(a114, oA .char [c0, c1, c2, c3]), (o128, fI "java/util/Optional" sg_2 [(.ref sa129)]), (sa129, strO su130), (su130, fA .byte []), (t116, strO b115), (b115, fA .byte [(nar .byte c0.toInt8.toInt32), (nar .byte c1.toInt8.toInt32), (nar .byte c2.toInt8.toInt32), (nar .byte c3.toInt8.toInt32)]), (q117, oA .char [c0, c1, c2, c3]), (aE, fI "java/util/Optional" sg_2 [(.null)])] 7 21 187 #[.val (.int g0), .val (.int g1), .val (.int g2), .val (.int g3), .val (.int g4), .val (.int 4), .val (.ref a114), .val (.ref t116), .val (.int 3), .val (.ref o128), .unset] [(.int 4), (.ref a114), (.int 0)] Q_law
            refine wp_callS (c_at_4 l Z a0 hw a114 c0 c1 c2 c3 [(o128, fI "java/util/Optional" sg_2 [(.ref sa129)]), (sa129, strO su130), (su130, fA .byte []), (t116, strO b115), (b115, fA .byte [(nar .byte c0.toInt8.toInt32), (nar .byte c1.toInt8.toInt32), (nar .byte c2.toInt8.toInt32), (nar .byte c3.toInt8.toInt32)]), (q117, oA .char [c0, c1, c2, c3]), (aE, fI "java/util/Optional" sg_2 [(.null)])] ) D_187 (gw hw 154 rfl) (gw hw 155 rfl) (gw hw 4 rfl) (gw hw 156 rfl) (by decide) pd_30 rfl rfl rfl (lb rfl) (lb rfl) (lb rfl) (lb rfl) ?_
            rintro _ _ ⟨rfl, rfl⟩
            show W44 l Z room_1 [(a114, oA .char [c0, c1, c2, c3]), (o128, fI "java/util/Optional" sg_2 [(.ref sa129)]), (sa129, strO su130), (su130, fA .byte []), (t116, strO b115), (b115, fA .byte [(nar .byte c0.toInt8.toInt32), (nar .byte c1.toInt8.toInt32), (nar .byte c2.toInt8.toInt32), (nar .byte c3.toInt8.toInt32)]), (q117, oA .char [c0, c1, c2, c3]), (aE, fI "java/util/Optional" sg_2 [(.null)])] 7 21 190 #[.val (.int g0), .val (.int g1), .val (.int g2), .val (.int g3), .val (.int g4), .val (.int 4), .val (.ref a114), .val (.ref t116), .val (.int 3), .val (.ref o128), .unset] [(.int 120), (.int 0)] Q_law
            refine wp_aload D_190 rfl rfl ?_
            refine wp_iload D_192 rfl ?_
            refine wp_iconst 2 D_194 (by decide) ?_
            refine wp_iadd D_195 ?_
            rw [show ((3 : Int32) + (2 : Int32)) = (5 : Int32) from by decide]
            refine wp_callS (c_at_5 l Z a0 hw a114 c0 c1 c2 c3 [(o128, fI "java/util/Optional" sg_2 [(.ref sa129)]), (sa129, strO su130), (su130, fA .byte []), (t116, strO b115), (b115, fA .byte [(nar .byte c0.toInt8.toInt32), (nar .byte c1.toInt8.toInt32), (nar .byte c2.toInt8.toInt32), (nar .byte c3.toInt8.toInt32)]), (q117, oA .char [c0, c1, c2, c3]), (aE, fI "java/util/Optional" sg_2 [(.null)])] ) D_196 (gw hw 154 rfl) (gw hw 155 rfl) (gw hw 4 rfl) (gw hw 156 rfl) (by decide) pd_30 rfl rfl rfl (lb rfl) (lb rfl) (lb rfl) (lb rfl) ?_
            rintro _ _ ⟨rfl, rfl⟩
            show W44 l Z room_1 [(a114, oA .char [c0, c1, c2, c3]), (o128, fI "java/util/Optional" sg_2 [(.ref sa129)]), (sa129, strO su130), (su130, fA .byte []), (t116, strO b115), (b115, fA .byte [(nar .byte c0.toInt8.toInt32), (nar .byte c1.toInt8.toInt32), (nar .byte c2.toInt8.toInt32), (nar .byte c3.toInt8.toInt32)]), (q117, oA .char [c0, c1, c2, c3]), (aE, fI "java/util/Optional" sg_2 [(.null)])] 7 21 199 #[.val (.int g0), .val (.int g1), .val (.int g2), .val (.int g3), .val (.int g4), .val (.int 4), .val (.ref a114), .val (.ref t116), .val (.int 3), .val (.ref o128), .unset] [(.int 120), (.int 120), (.int 0)] Q_law
            refine wp_aload D_199 rfl rfl ?_
            refine wp_iload D_201 rfl ?_
            refine wp_iconst 3 D_203 (by decide) ?_
            refine wp_iadd D_204 ?_
            rw [show ((3 : Int32) + (3 : Int32)) = (6 : Int32) from by decide]
            refine wp_callS (c_at_6 l Z a0 hw a114 c0 c1 c2 c3 [(o128, fI "java/util/Optional" sg_2 [(.ref sa129)]), (sa129, strO su130), (su130, fA .byte []), (t116, strO b115), (b115, fA .byte [(nar .byte c0.toInt8.toInt32), (nar .byte c1.toInt8.toInt32), (nar .byte c2.toInt8.toInt32), (nar .byte c3.toInt8.toInt32)]), (q117, oA .char [c0, c1, c2, c3]), (aE, fI "java/util/Optional" sg_2 [(.null)])] ) D_205 (gw hw 154 rfl) (gw hw 155 rfl) (gw hw 4 rfl) (gw hw 156 rfl) (by decide) pd_30 rfl rfl rfl (lb rfl) (lb rfl) (lb rfl) (lb rfl) ?_
            rintro _ _ ⟨rfl, rfl⟩
            show W44 l Z room_1 [(a114, oA .char [c0, c1, c2, c3]), (o128, fI "java/util/Optional" sg_2 [(.ref sa129)]), (sa129, strO su130), (su130, fA .byte []), (t116, strO b115), (b115, fA .byte [(nar .byte c0.toInt8.toInt32), (nar .byte c1.toInt8.toInt32), (nar .byte c2.toInt8.toInt32), (nar .byte c3.toInt8.toInt32)]), (q117, oA .char [c0, c1, c2, c3]), (aE, fI "java/util/Optional" sg_2 [(.null)])] 7 21 208 #[.val (.int g0), .val (.int g1), .val (.int g2), .val (.int g3), .val (.int g4), .val (.int 4), .val (.ref a114), .val (.ref t116), .val (.int 3), .val (.ref o128), .unset] [(.int 120), (.int 120), (.int 120), (.int 0)] Q_law
            refine wp_aload D_208 rfl rfl ?_
            refine wp_iload D_210 rfl ?_
            refine wp_iconst 4 D_212 (by decide) ?_
            refine wp_iadd D_213 ?_
            rw [show ((3 : Int32) + (4 : Int32)) = (7 : Int32) from by decide]
            refine wp_callS (c_at_7 l Z a0 hw a114 c0 c1 c2 c3 [(o128, fI "java/util/Optional" sg_2 [(.ref sa129)]), (sa129, strO su130), (su130, fA .byte []), (t116, strO b115), (b115, fA .byte [(nar .byte c0.toInt8.toInt32), (nar .byte c1.toInt8.toInt32), (nar .byte c2.toInt8.toInt32), (nar .byte c3.toInt8.toInt32)]), (q117, oA .char [c0, c1, c2, c3]), (aE, fI "java/util/Optional" sg_2 [(.null)])] ) D_214 (gw hw 154 rfl) (gw hw 155 rfl) (gw hw 4 rfl) (gw hw 156 rfl) (by decide) pd_30 rfl rfl rfl (lb rfl) (lb rfl) (lb rfl) (lb rfl) ?_
            rintro _ _ ⟨rfl, rfl⟩
            show W44 l Z room_1 [(a114, oA .char [c0, c1, c2, c3]), (o128, fI "java/util/Optional" sg_2 [(.ref sa129)]), (sa129, strO su130), (su130, fA .byte []), (t116, strO b115), (b115, fA .byte [(nar .byte c0.toInt8.toInt32), (nar .byte c1.toInt8.toInt32), (nar .byte c2.toInt8.toInt32), (nar .byte c3.toInt8.toInt32)]), (q117, oA .char [c0, c1, c2, c3]), (aE, fI "java/util/Optional" sg_2 [(.null)])] 7 21 217 #[.val (.int g0), .val (.int g1), .val (.int g2), .val (.int g3), .val (.int g4), .val (.int 4), .val (.ref a114), .val (.ref t116), .val (.int 3), .val (.ref o128), .unset] [(.int 120), (.int 120), (.int 120), (.int 120), (.int 0)] Q_law
            refine wp_callSI (c_str_0 l Z a0 hw (120 : Int32) (120 : Int32) (120 : Int32) (120 : Int32) cp fm [(a114, oA .char [c0, c1, c2, c3]), (o128, fI "java/util/Optional" sg_2 [(.ref sa129)]), (sa129, strO su130), (su130, fA .byte []), (t116, strO b115), (b115, fA .byte [(nar .byte c0.toInt8.toInt32), (nar .byte c1.toInt8.toInt32), (nar .byte c2.toInt8.toInt32), (nar .byte c3.toInt8.toInt32)]), (q117, oA .char [c0, c1, c2, c3]), (aE, fI "java/util/Optional" sg_2 [(.null)])] hs ) (own_EL l Z a0 hw) D_217 (gw hw 7 rfl) (gw hw 8 rfl) (gw hw 4 rfl) (gw hw 9 rfl) (by decide) pd_27 rfl rfl rfl (lb rfl) (lb rfl) (lb rfl) (lb rfl) ?_
            rintro _ _ ⟨z132, z133, z134, z135, t136, q137, rfl, rfl⟩
            show W44 l Z room_1 [(z132, strO z133), (z133, fA .byte []), (z134, strO z135), (z135, fA .byte []), (t136, strO z135), (q137, oA .char []), (a114, oA .char [c0, c1, c2, c3]), (o128, fI "java/util/Optional" sg_2 [(.ref sa129)]), (sa129, strO su130), (su130, fA .byte []), (t116, strO b115), (b115, fA .byte [(nar .byte c0.toInt8.toInt32), (nar .byte c1.toInt8.toInt32), (nar .byte c2.toInt8.toInt32), (nar .byte c3.toInt8.toInt32)]), (q117, oA .char [c0, c1, c2, c3]), (aE, fI "java/util/Optional" sg_2 [(.null)])] 13 33 220 #[.val (.int g0), .val (.int g1), .val (.int g2), .val (.int g3), .val (.int g4), .val (.int 4), .val (.ref a114), .val (.ref t116), .val (.int 3), .val (.ref o128), .unset] [(.ref t136)] Q_law
            refine wp_astore #[.val (.int g0), .val (.int g1), .val (.int g2), .val (.int g3), .val (.int g4), .val (.int 4), .val (.ref a114), .val (.ref t116), .val (.int 3), .val (.ref o128), .val (.ref t136)] D_220 rfl rfl ?_
            refine wp_aload D_222 rfl rfl ?_
            refine Wp.pick [7, 0, 1, 2, 3, 4, 5, 6, 8, 9, 10, 11, 12, 13] (by decide) ?_
            show W44 l Z room_1 [(o128, fI "java/util/Optional" sg_2 [(.ref sa129)]), (z132, strO z133), (z133, fA .byte []), (z134, strO z135), (z135, fA .byte []), (t136, strO z135), (q137, oA .char []), (a114, oA .char [c0, c1, c2, c3]), (sa129, strO su130), (su130, fA .byte []), (t116, strO b115), (b115, fA .byte [(nar .byte c0.toInt8.toInt32), (nar .byte c1.toInt8.toInt32), (nar .byte c2.toInt8.toInt32), (nar .byte c3.toInt8.toInt32)]), (q117, oA .char [c0, c1, c2, c3]), (aE, fI "java/util/Optional" sg_2 [(.null)])] 13 33 224 #[.val (.int g0), .val (.int g1), .val (.int g2), .val (.int g3), .val (.int g4), .val (.int 4), .val (.ref a114), .val (.ref t116), .val (.int 3), .val (.ref o128), .val (.ref t136)] [(.ref o128)] Q_law
            refine wp_virtual (c_ip1 l Z a0 hw o128 sa129 [(z132, strO z133), (z133, fA .byte []), (z134, strO z135), (z135, fA .byte []), (t136, strO z135), (q137, oA .char []), (a114, oA .char [c0, c1, c2, c3]), (sa129, strO su130), (su130, fA .byte []), (t116, strO b115), (b115, fA .byte [(nar .byte c0.toInt8.toInt32), (nar .byte c1.toInt8.toInt32), (nar .byte c2.toInt8.toInt32), (nar .byte c3.toInt8.toInt32)]), (q117, oA .char [c0, c1, c2, c3]), (aE, fI "java/util/Optional" sg_2 [(.null)])] ) (exa_new (i := 0) rfl) D_224 (gw hw 80 rfl) (gw hw 81 rfl) (gw hw 83 rfl) (gw hw 83 rfl) (gw hw 82 rfl) (gw hw 77 rfl) (gw hw 84 rfl) (by decide) pd_4 rfl rfl rfl (lb rfl) (lb rfl) (lb rfl) (lb rfl) ?_
            rintro _ _ ⟨rfl, rfl⟩
            show W44 l Z room_1 [(o128, fI "java/util/Optional" sg_2 [(.ref sa129)]), (z132, strO z133), (z133, fA .byte []), (z134, strO z135), (z135, fA .byte []), (t136, strO z135), (q137, oA .char []), (a114, oA .char [c0, c1, c2, c3]), (sa129, strO su130), (su130, fA .byte []), (t116, strO b115), (b115, fA .byte [(nar .byte c0.toInt8.toInt32), (nar .byte c1.toInt8.toInt32), (nar .byte c2.toInt8.toInt32), (nar .byte c3.toInt8.toInt32)]), (q117, oA .char [c0, c1, c2, c3]), (aE, fI "java/util/Optional" sg_2 [(.null)])] 13 33 227 #[.val (.int g0), .val (.int g1), .val (.int g2), .val (.int g3), .val (.int g4), .val (.int 4), .val (.ref a114), .val (.ref t116), .val (.int 3), .val (.ref o128), .val (.ref t136)] [(.int 1)] Q_law
            refine wp_if_eq D_227 (pc'' := 250) ⟨by decide, by decide⟩ (fun h138 => by exact absurd h138 (by decide)) (fun h138 => ?_)
            refine wp_aload D_230 rfl rfl ?_
            refine wp_virtual (c_get l Z a0 hw o128 sa129 [(z132, strO z133), (z133, fA .byte []), (z134, strO z135), (z135, fA .byte []), (t136, strO z135), (q137, oA .char []), (a114, oA .char [c0, c1, c2, c3]), (sa129, strO su130), (su130, fA .byte []), (t116, strO b115), (b115, fA .byte [(nar .byte c0.toInt8.toInt32), (nar .byte c1.toInt8.toInt32), (nar .byte c2.toInt8.toInt32), (nar .byte c3.toInt8.toInt32)]), (q117, oA .char [c0, c1, c2, c3]), (aE, fI "java/util/Optional" sg_2 [(.null)])] ) (exa_new (i := 0) rfl) D_232 (gw hw 157 rfl) (gw hw 158 rfl) (gw hw 160 rfl) (gw hw 160 rfl) (gw hw 159 rfl) (gw hw 77 rfl) (gw hw 161 rfl) (by decide) pd_31 rfl rfl rfl (lb rfl) (lb rfl) (lb rfl) (lb rfl) ?_
            rintro _ _ ⟨rfl, rfl⟩
            show W44 l Z room_1 [(o128, fI "java/util/Optional" sg_2 [(.ref sa129)]), (z132, strO z133), (z133, fA .byte []), (z134, strO z135), (z135, fA .byte []), (t136, strO z135), (q137, oA .char []), (a114, oA .char [c0, c1, c2, c3]), (sa129, strO su130), (su130, fA .byte []), (t116, strO b115), (b115, fA .byte [(nar .byte c0.toInt8.toInt32), (nar .byte c1.toInt8.toInt32), (nar .byte c2.toInt8.toInt32), (nar .byte c3.toInt8.toInt32)]), (q117, oA .char [c0, c1, c2, c3]), (aE, fI "java/util/Optional" sg_2 [(.null)])] 13 33 235 #[.val (.int g0), .val (.int g1), .val (.int g2), .val (.int g3), .val (.int g4), .val (.int 4), .val (.ref a114), .val (.ref t116), .val (.int 3), .val (.ref o128), .val (.ref t136)] [(.ref sa129)] Q_law
            refine wp_cast D_235 (gw hw 10 rfl) (fun h P => Ins.self (exa_new (i := 8) rfl h P)) ?_
            refine wp_aload D_238 rfl rfl ?_
            refine Wp.pick [8, 9, 5, 4, 0, 1, 2, 3, 6, 7, 10, 11, 12, 13] (by decide) ?_
            show W44 l Z room_1 [(sa129, strO su130), (su130, fA .byte []), (t136, strO z135), (z135, fA .byte []), (o128, fI "java/util/Optional" sg_2 [(.ref sa129)]), (z132, strO z133), (z133, fA .byte []), (z134, strO z135), (q137, oA .char []), (a114, oA .char [c0, c1, c2, c3]), (t116, strO b115), (b115, fA .byte [(nar .byte c0.toInt8.toInt32), (nar .byte c1.toInt8.toInt32), (nar .byte c2.toInt8.toInt32), (nar .byte c3.toInt8.toInt32)]), (q117, oA .char [c0, c1, c2, c3]), (aE, fI "java/util/Optional" sg_2 [(.null)])] 13 33 240 #[.val (.int g0), .val (.int g1), .val (.int g2), .val (.int g3), .val (.int g4), .val (.int 4), .val (.ref a114), .val (.ref t116), .val (.int 3), .val (.ref o128), .val (.ref t136)] [(.ref t136), (.ref sa129)] Q_law
            refine wp_virtual (c_seq_0 l Z a0 hw sa129 su130 t136 z135 cp fm [(o128, fI "java/util/Optional" sg_2 [(.ref sa129)]), (z132, strO z133), (z133, fA .byte []), (z134, strO z135), (q137, oA .char []), (a114, oA .char [c0, c1, c2, c3]), (t116, strO b115), (b115, fA .byte [(nar .byte c0.toInt8.toInt32), (nar .byte c1.toInt8.toInt32), (nar .byte c2.toInt8.toInt32), (nar .byte c3.toInt8.toInt32)]), (q117, oA .char [c0, c1, c2, c3]), (aE, fI "java/util/Optional" sg_2 [(.null)])] hs ) (exa_new (i := 0) rfl) D_240 (gw hw 162 rfl) (gw hw 163 rfl) (gw hw 165 rfl) (gw hw 165 rfl) (gw hw 164 rfl) (gw hw 12 rfl) (gw hw 166 rfl) (by decide) pd_32 rfl rfl rfl (lb rfl) (lb rfl) (lb rfl) (lb rfl) ?_
            rintro _ _ ⟨rfl, rfl⟩
            show W44 l Z room_1 [(sa129, strO su130), (su130, fA .byte []), (t136, strO z135), (z135, fA .byte []), (o128, fI "java/util/Optional" sg_2 [(.ref sa129)]), (z132, strO z133), (z133, fA .byte []), (z134, strO z135), (q137, oA .char []), (a114, oA .char [c0, c1, c2, c3]), (t116, strO b115), (b115, fA .byte [(nar .byte c0.toInt8.toInt32), (nar .byte c1.toInt8.toInt32), (nar .byte c2.toInt8.toInt32), (nar .byte c3.toInt8.toInt32)]), (q117, oA .char [c0, c1, c2, c3]), (aE, fI "java/util/Optional" sg_2 [(.null)])] 13 33 243 #[.val (.int g0), .val (.int g1), .val (.int g2), .val (.int g3), .val (.int g4), .val (.int 4), .val (.ref a114), .val (.ref t116), .val (.int 3), .val (.ref o128), .val (.ref t136)] [(.int 1)] Q_law
            refine wp_if_eq D_243 (pc'' := 250) ⟨by decide, by decide⟩ (fun h139 => by exact absurd h139 (by decide)) (fun h139 => ?_)
            refine wp_iconst 1 D_246 (by decide) ?_
            refine wp_goto D_247 (pc'' := 251) ⟨by decide, by decide⟩ ?_
            refine wp_ireturnN D_251 rfl (by simp) (by decide) (by decide) ?_
            exact rfl
        · skip
          refine wp_iconst 2 D_124 (by decide) ?_
          refine wp_istore #[.val (.int g0), .val (.int g1), .val (.int g2), .val (.int g3), .val (.int g4), .val (.int 4), .val (.ref a114), .val (.ref t116), .val (.int 2), .unset, .unset] D_125 rfl ?_
          refine wp_goto D_127 (pc'' := 148) ⟨by decide, by decide⟩ ?_
          refine wp_aload D_148 rfl rfl ?_
          refine Wp.pick [1, 0, 2, 3, 4] (by decide) ?_
          show W44 l Z room_1 [(t116, strO b115), (b115, fA .byte [(nar .byte c0.toInt8.toInt32), (nar .byte c1.toInt8.toInt32), (nar .byte c2.toInt8.toInt32), (nar .byte c3.toInt8.toInt32)]), (q117, oA .char [c0, c1, c2, c3]), (a114, oA .char [c0, c1, c2, c3]), (aE, fI "java/util/Optional" sg_2 [(.null)])] 4 16 150 #[.val (.int g0), .val (.int g1), .val (.int g2), .val (.int g3), .val (.int g4), .val (.int 4), .val (.ref a114), .val (.ref t116), .val (.int 2), .unset, .unset] [(.ref t116)] Q_law
          refine wp_callS (c_fr_4_2 l Z a0 hw t116 b115 (nar .byte c0.toInt8.toInt32) (nar .byte c1.toInt8.toInt32) (nar .byte c2.toInt8.toInt32) (nar .byte c3.toInt8.toInt32) cp fm [(q117, oA .char [c0, c1, c2, c3]), (a114, oA .char [c0, c1, c2, c3]), (aE, fI "java/util/Optional" sg_2 [(.null)])] hs (own_35 c0 hc0 h119) (own_35 c1 hc1 h121) (own_35y c2 h123)) D_150 (gw hw 31 rfl) (gw hw 32 rfl) (gw hw 33 rfl) (gw hw 34 rfl) (by decide) pd_29 rfl rfl rfl (lb rfl) (lb rfl) (lb rfl) (lb rfl) ?_
          rintro _ _ ⟨o140, sa141, su142, rfl, rfl⟩
          show W44 l Z room_1 [(o140, fI "java/util/Optional" sg_2 [(.ref sa141)]), (su142, fA .byte [(nar .byte c3.toInt8.toInt32)]), (sa141, strO su142), (t116, strO b115), (b115, fA .byte [(nar .byte c0.toInt8.toInt32), (nar .byte c1.toInt8.toInt32), (nar .byte c2.toInt8.toInt32), (nar .byte c3.toInt8.toInt32)]), (q117, oA .char [c0, c1, c2, c3]), (a114, oA .char [c0, c1, c2, c3]), (aE, fI "java/util/Optional" sg_2 [(.null)])] 7 22 153 #[.val (.int g0), .val (.int g1), .val (.int g2), .val (.int g3), .val (.int g4), .val (.int 4), .val (.ref a114), .val (.ref t116), .val (.int 2), .unset, .unset] [(.ref o140)] Q_law
          refine wp_astore #[.val (.int g0), .val (.int g1), .val (.int g2), .val (.int g3), .val (.int g4), .val (.int 4), .val (.ref a114), .val (.ref t116), .val (.int 2), .val (.ref o140), .unset] D_153 rfl rfl ?_
          refine wp_iload D_155 rfl ?_
          refine wp_if_ge D_157 (pc'' := 174) ⟨by decide, by decide⟩ (fun h143 => ?_) (fun h143 => by exact absurd h143 (by decide))
          refine wp_iload D_174 rfl ?_
          refine wp_iload D_176 rfl ?_
          refine wp_isub D_178 ?_
          rw [show ((4 : Int32) - (2 : Int32)) = (2 : Int32) from by decide]
          refine wp_iconst 1 D_179 (by decide) ?_
          refine wp_isub D_180 ?_
          rw [show ((2 : Int32) - (1 : Int32)) = (1 : Int32) from by decide]
          refine wp_aload D_181 rfl rfl ?_
          refine wp_iload D_183 rfl ?_
          refine wp_iconst 1 D_185 (by decide) ?_
          refine wp_iadd D_186 ?_
          rw [show ((2 : Int32) + (1 : Int32)) = (3 : Int32) from by decide]
          refine Wp.pick [6, 0, 1, 2, 3, 4, 5, 7] (by decide) ?_
          show W44 l Z room_1 [(a114, oA .char [c0, c1, c2, c3]), (o140, fI "java/util/Optional" sg_2 [(.ref sa141)]), (su142, fA .byte [(nar .byte c3.toInt8.toInt32)]), (sa141, strO su142), (t116, strO b115), (b115, fA .byte [(nar .byte c0.toInt8.toInt32), (nar .byte c1.toInt8.toInt32), (nar .byte c2.toInt8.toInt32), (nar .byte c3.toInt8.toInt32)]), (q117, oA .char [c0, c1, c2, c3]), (aE, fI "java/util/Optional" sg_2 [(.null)])] 7 22 187 #[.val (.int g0), .val (.int g1), .val (.int g2), .val (.int g3), .val (.int g4), .val (.int 4), .val (.ref a114), .val (.ref t116), .val (.int 2), .val (.ref o140), .unset] [(.int 3), (.ref a114), (.int 1)] Q_law
          refine wp_callS (c_at_3 l Z a0 hw a114 c0 c1 c2 c3 [(o140, fI "java/util/Optional" sg_2 [(.ref sa141)]), (su142, fA .byte [(nar .byte c3.toInt8.toInt32)]), (sa141, strO su142), (t116, strO b115), (b115, fA .byte [(nar .byte c0.toInt8.toInt32), (nar .byte c1.toInt8.toInt32), (nar .byte c2.toInt8.toInt32), (nar .byte c3.toInt8.toInt32)]), (q117, oA .char [c0, c1, c2, c3]), (aE, fI "java/util/Optional" sg_2 [(.null)])] hc3) D_187 (gw hw 154 rfl) (gw hw 155 rfl) (gw hw 4 rfl) (gw hw 156 rfl) (by decide) pd_30 rfl rfl rfl (lb rfl) (lb rfl) (lb rfl) (lb rfl) ?_
          rintro _ _ ⟨rfl, rfl⟩
          show W44 l Z room_1 [(a114, oA .char [c0, c1, c2, c3]), (o140, fI "java/util/Optional" sg_2 [(.ref sa141)]), (su142, fA .byte [(nar .byte c3.toInt8.toInt32)]), (sa141, strO su142), (t116, strO b115), (b115, fA .byte [(nar .byte c0.toInt8.toInt32), (nar .byte c1.toInt8.toInt32), (nar .byte c2.toInt8.toInt32), (nar .byte c3.toInt8.toInt32)]), (q117, oA .char [c0, c1, c2, c3]), (aE, fI "java/util/Optional" sg_2 [(.null)])] 7 22 190 #[.val (.int g0), .val (.int g1), .val (.int g2), .val (.int g3), .val (.int g4), .val (.int 4), .val (.ref a114), .val (.ref t116), .val (.int 2), .val (.ref o140), .unset] [(.int c3), (.int 1)] Q_law
          refine wp_aload D_190 rfl rfl ?_
          refine wp_iload D_192 rfl ?_
          refine wp_iconst 2 D_194 (by decide) ?_
          refine wp_iadd D_195 ?_
          rw [show ((2 : Int32) + (2 : Int32)) = (4 : Int32) from by decide]
          refine wp_callS (c_at_4 l Z a0 hw a114 c0 c1 c2 c3 [(o140, fI "java/util/Optional" sg_2 [(.ref sa141)]), (su142, fA .byte [(nar .byte c3.toInt8.toInt32)]), (sa141, strO su142), (t116, strO b115), (b115, fA .byte [(nar .byte c0.toInt8.toInt32), (nar .byte c1.toInt8.toInt32), (nar .byte c2.toInt8.toInt32), (nar .byte c3.toInt8.toInt32)]), (q117, oA .char [c0, c1, c2, c3]), (aE, fI "java/util/Optional" sg_2 [(.null)])] ) D_196 (gw hw 154 rfl) (gw hw 155 rfl) (gw hw 4 rfl) (gw hw 156 rfl) (by decide) pd_30 rfl rfl rfl (lb rfl) (lb rfl) (lb rfl) (lb rfl) ?_
          rintro _ _ ⟨rfl, rfl⟩
          show W44 l Z room_1 [(a114, oA .char [c0, c1, c2, c3]), (o140, fI "java/util/Optional" sg_2 [(.ref sa141)]), (su142, fA .byte [(nar .byte c3.toInt8.toInt32)]), (sa141, strO su142), (t116, strO b115), (b115, fA .byte [(nar .byte c0.toInt8.toInt32), (nar .byte c1.toInt8.toInt32), (nar .byte c2.toInt8.toInt32), (nar .byte c3.toInt8.toInt32)]), (q117, oA .char [c0, c1, c2, c3]), (aE, fI "java/util/Optional" sg_2 [(.null)])] 7 22 199 #[.val (.int g0), .val (.int g1), .val (.int g2), .val (.int g3), .val (.int g4), .val (.int 4), .val (.ref a114), .val (.ref t116), .val (.int 2), .val (.ref o140), .unset] [(.int 120), (.int c3), (.int 1)] Q_law
          refine wp_aload D_199 rfl rfl ?_
          refine wp_iload D_201 rfl ?_
          refine wp_iconst 3 D_203 (by decide) ?_
          refine wp_iadd D_204 ?_
          rw [show ((2 : Int32) + (3 : Int32)) = (5 : Int32) from by decide]
          refine wp_callS (c_at_5 l Z a0 hw a114 c0 c1 c2 c3 [(o140, fI "java/util/Optional" sg_2 [(.ref sa141)]), (su142, fA .byte [(nar .byte c3.toInt8.toInt32)]), (sa141, strO su142), (t116, strO b115), (b115, fA .byte [(nar .byte c0.toInt8.toInt32), (nar .byte c1.toInt8.toInt32), (nar .byte c2.toInt8.toInt32), (nar .byte c3.toInt8.toInt32)]), (q117, oA .char [c0, c1, c2, c3]), (aE, fI "java/util/Optional" sg_2 [(.null)])] ) D_205 (gw hw 154 rfl) (gw hw 155 rfl) (gw hw 4 rfl) (gw hw 156 rfl) (by decide) pd_30 rfl rfl rfl (lb rfl) (lb rfl) (lb rfl) (lb rfl) ?_
          rintro _ _ ⟨rfl, rfl⟩
          show W44 l Z room_1 [(a114, oA .char [c0, c1, c2, c3]), (o140, fI "java/util/Optional" sg_2 [(.ref sa141)]), (su142, fA .byte [(nar .byte c3.toInt8.toInt32)]), (sa141, strO su142), (t116, strO b115), (b115, fA .byte [(nar .byte c0.toInt8.toInt32), (nar .byte c1.toInt8.toInt32), (nar .byte c2.toInt8.toInt32), (nar .byte c3.toInt8.toInt32)]), (q117, oA .char [c0, c1, c2, c3]), (aE, fI "java/util/Optional" sg_2 [(.null)])] 7 22 208 #[.val (.int g0), .val (.int g1), .val (.int g2), .val (.int g3), .val (.int g4), .val (.int 4), .val (.ref a114), .val (.ref t116), .val (.int 2), .val (.ref o140), .unset] [(.int 120), (.int 120), (.int c3), (.int 1)] Q_law
          refine wp_aload D_208 rfl rfl ?_
          refine wp_iload D_210 rfl ?_
          refine wp_iconst 4 D_212 (by decide) ?_
          refine wp_iadd D_213 ?_
          rw [show ((2 : Int32) + (4 : Int32)) = (6 : Int32) from by decide]
          refine wp_callS (c_at_6 l Z a0 hw a114 c0 c1 c2 c3 [(o140, fI "java/util/Optional" sg_2 [(.ref sa141)]), (su142, fA .byte [(nar .byte c3.toInt8.toInt32)]), (sa141, strO su142), (t116, strO b115), (b115, fA .byte [(nar .byte c0.toInt8.toInt32), (nar .byte c1.toInt8.toInt32), (nar .byte c2.toInt8.toInt32), (nar .byte c3.toInt8.toInt32)]), (q117, oA .char [c0, c1, c2, c3]), (aE, fI "java/util/Optional" sg_2 [(.null)])] ) D_214 (gw hw 154 rfl) (gw hw 155 rfl) (gw hw 4 rfl) (gw hw 156 rfl) (by decide) pd_30 rfl rfl rfl (lb rfl) (lb rfl) (lb rfl) (lb rfl) ?_
          rintro _ _ ⟨rfl, rfl⟩
          show W44 l Z room_1 [(a114, oA .char [c0, c1, c2, c3]), (o140, fI "java/util/Optional" sg_2 [(.ref sa141)]), (su142, fA .byte [(nar .byte c3.toInt8.toInt32)]), (sa141, strO su142), (t116, strO b115), (b115, fA .byte [(nar .byte c0.toInt8.toInt32), (nar .byte c1.toInt8.toInt32), (nar .byte c2.toInt8.toInt32), (nar .byte c3.toInt8.toInt32)]), (q117, oA .char [c0, c1, c2, c3]), (aE, fI "java/util/Optional" sg_2 [(.null)])] 7 22 217 #[.val (.int g0), .val (.int g1), .val (.int g2), .val (.int g3), .val (.int g4), .val (.int 4), .val (.ref a114), .val (.ref t116), .val (.int 2), .val (.ref o140), .unset] [(.int 120), (.int 120), (.int 120), (.int c3), (.int 1)] Q_law
          refine wp_callS (c_str_1 l Z a0 hw c3 (120 : Int32) (120 : Int32) (120 : Int32) cp fm [(a114, oA .char [c0, c1, c2, c3]), (o140, fI "java/util/Optional" sg_2 [(.ref sa141)]), (su142, fA .byte [(nar .byte c3.toInt8.toInt32)]), (sa141, strO su142), (t116, strO b115), (b115, fA .byte [(nar .byte c0.toInt8.toInt32), (nar .byte c1.toInt8.toInt32), (nar .byte c2.toInt8.toInt32), (nar .byte c3.toInt8.toInt32)]), (q117, oA .char [c0, c1, c2, c3]), (aE, fI "java/util/Optional" sg_2 [(.null)])] hs hc3) D_217 (gw hw 7 rfl) (gw hw 8 rfl) (gw hw 4 rfl) (gw hw 9 rfl) (by decide) pd_27 rfl rfl rfl (lb rfl) (lb rfl) (lb rfl) (lb rfl) ?_
          rintro _ _ ⟨b144, t145, q146, rfl, rfl⟩
          show W44 l Z room_1 [(b144, fA .byte [(nar .byte c3.toInt8.toInt32)]), (t145, strO b144), (q146, oA .char [c3]), (a114, oA .char [c0, c1, c2, c3]), (o140, fI "java/util/Optional" sg_2 [(.ref sa141)]), (su142, fA .byte [(nar .byte c3.toInt8.toInt32)]), (sa141, strO su142), (t116, strO b115), (b115, fA .byte [(nar .byte c0.toInt8.toInt32), (nar .byte c1.toInt8.toInt32), (nar .byte c2.toInt8.toInt32), (nar .byte c3.toInt8.toInt32)]), (q117, oA .char [c0, c1, c2, c3]), (aE, fI "java/util/Optional" sg_2 [(.null)])] 10 28 220 #[.val (.int g0), .val (.int g1), .val (.int g2), .val (.int g3), .val (.int g4), .val (.int 4), .val (.ref a114), .val (.ref t116), .val (.int 2), .val (.ref o140), .unset] [(.ref t145)] Q_law
          refine wp_astore #[.val (.int g0), .val (.int g1), .val (.int g2), .val (.int g3), .val (.int g4), .val (.int 4), .val (.ref a114), .val (.ref t116), .val (.int 2), .val (.ref o140), .val (.ref t145)] D_220 rfl rfl ?_
          refine wp_aload D_222 rfl rfl ?_
          refine Wp.pick [4, 0, 1, 2, 3, 5, 6, 7, 8, 9, 10] (by decide) ?_
          show W44 l Z room_1 [(o140, fI "java/util/Optional" sg_2 [(.ref sa141)]), (b144, fA .byte [(nar .byte c3.toInt8.toInt32)]), (t145, strO b144), (q146, oA .char [c3]), (a114, oA .char [c0, c1, c2, c3]), (su142, fA .byte [(nar .byte c3.toInt8.toInt32)]), (sa141, strO su142), (t116, strO b115), (b115, fA .byte [(nar .byte c0.toInt8.toInt32), (nar .byte c1.toInt8.toInt32), (nar .byte c2.toInt8.toInt32), (nar .byte c3.toInt8.toInt32)]), (q117, oA .char [c0, c1, c2, c3]), (aE, fI "java/util/Optional" sg_2 [(.null)])] 10 28 224 #[.val (.int g0), .val (.int g1), .val (.int g2), .val (.int g3), .val (.int g4), .val (.int 4), .val (.ref a114), .val (.ref t116), .val (.int 2), .val (.ref o140), .val (.ref t145)] [(.ref o140)] Q_law
          refine wp_virtual (c_ip1 l Z a0 hw o140 sa141 [(b144, fA .byte [(nar .byte c3.toInt8.toInt32)]), (t145, strO b144), (q146, oA .char [c3]), (a114, oA .char [c0, c1, c2, c3]), (su142, fA .byte [(nar .byte c3.toInt8.toInt32)]), (sa141, strO su142), (t116, strO b115), (b115, fA .byte [(nar .byte c0.toInt8.toInt32), (nar .byte c1.toInt8.toInt32), (nar .byte c2.toInt8.toInt32), (nar .byte c3.toInt8.toInt32)]), (q117, oA .char [c0, c1, c2, c3]), (aE, fI "java/util/Optional" sg_2 [(.null)])] ) (exa_new (i := 0) rfl) D_224 (gw hw 80 rfl) (gw hw 81 rfl) (gw hw 83 rfl) (gw hw 83 rfl) (gw hw 82 rfl) (gw hw 77 rfl) (gw hw 84 rfl) (by decide) pd_4 rfl rfl rfl (lb rfl) (lb rfl) (lb rfl) (lb rfl) ?_
          rintro _ _ ⟨rfl, rfl⟩
          show W44 l Z room_1 [(o140, fI "java/util/Optional" sg_2 [(.ref sa141)]), (b144, fA .byte [(nar .byte c3.toInt8.toInt32)]), (t145, strO b144), (q146, oA .char [c3]), (a114, oA .char [c0, c1, c2, c3]), (su142, fA .byte [(nar .byte c3.toInt8.toInt32)]), (sa141, strO su142), (t116, strO b115), (b115, fA .byte [(nar .byte c0.toInt8.toInt32), (nar .byte c1.toInt8.toInt32), (nar .byte c2.toInt8.toInt32), (nar .byte c3.toInt8.toInt32)]), (q117, oA .char [c0, c1, c2, c3]), (aE, fI "java/util/Optional" sg_2 [(.null)])] 10 28 227 #[.val (.int g0), .val (.int g1), .val (.int g2), .val (.int g3), .val (.int g4), .val (.int 4), .val (.ref a114), .val (.ref t116), .val (.int 2), .val (.ref o140), .val (.ref t145)] [(.int 1)] Q_law
          refine wp_if_eq D_227 (pc'' := 250) ⟨by decide, by decide⟩ (fun h147 => by exact absurd h147 (by decide)) (fun h147 => ?_)
          refine wp_aload D_230 rfl rfl ?_
          refine wp_virtual (c_get l Z a0 hw o140 sa141 [(b144, fA .byte [(nar .byte c3.toInt8.toInt32)]), (t145, strO b144), (q146, oA .char [c3]), (a114, oA .char [c0, c1, c2, c3]), (su142, fA .byte [(nar .byte c3.toInt8.toInt32)]), (sa141, strO su142), (t116, strO b115), (b115, fA .byte [(nar .byte c0.toInt8.toInt32), (nar .byte c1.toInt8.toInt32), (nar .byte c2.toInt8.toInt32), (nar .byte c3.toInt8.toInt32)]), (q117, oA .char [c0, c1, c2, c3]), (aE, fI "java/util/Optional" sg_2 [(.null)])] ) (exa_new (i := 0) rfl) D_232 (gw hw 157 rfl) (gw hw 158 rfl) (gw hw 160 rfl) (gw hw 160 rfl) (gw hw 159 rfl) (gw hw 77 rfl) (gw hw 161 rfl) (by decide) pd_31 rfl rfl rfl (lb rfl) (lb rfl) (lb rfl) (lb rfl) ?_
          rintro _ _ ⟨rfl, rfl⟩
          show W44 l Z room_1 [(o140, fI "java/util/Optional" sg_2 [(.ref sa141)]), (b144, fA .byte [(nar .byte c3.toInt8.toInt32)]), (t145, strO b144), (q146, oA .char [c3]), (a114, oA .char [c0, c1, c2, c3]), (su142, fA .byte [(nar .byte c3.toInt8.toInt32)]), (sa141, strO su142), (t116, strO b115), (b115, fA .byte [(nar .byte c0.toInt8.toInt32), (nar .byte c1.toInt8.toInt32), (nar .byte c2.toInt8.toInt32), (nar .byte c3.toInt8.toInt32)]), (q117, oA .char [c0, c1, c2, c3]), (aE, fI "java/util/Optional" sg_2 [(.null)])] 10 28 235 #[.val (.int g0), .val (.int g1), .val (.int g2), .val (.int g3), .val (.int g4), .val (.int 4), .val (.ref a114), .val (.ref t116), .val (.int 2), .val (.ref o140), .val (.ref t145)] [(.ref sa141)] Q_law
          refine wp_cast D_235 (gw hw 10 rfl) (fun h P => Ins.self (exa_new (i := 6) rfl h P)) ?_
          refine wp_aload D_238 rfl rfl ?_
          refine Wp.pick [6, 5, 2, 1, 0, 3, 4, 7, 8, 9, 10] (by decide) ?_
          show W44 l Z room_1 [(sa141, strO su142), (su142, fA .byte [(nar .byte c3.toInt8.toInt32)]), (t145, strO b144), (b144, fA .byte [(nar .byte c3.toInt8.toInt32)]), (o140, fI "java/util/Optional" sg_2 [(.ref sa141)]), (q146, oA .char [c3]), (a114, oA .char [c0, c1, c2, c3]), (t116, strO b115), (b115, fA .byte [(nar .byte c0.toInt8.toInt32), (nar .byte c1.toInt8.toInt32), (nar .byte c2.toInt8.toInt32), (nar .byte c3.toInt8.toInt32)]), (q117, oA .char [c0, c1, c2, c3]), (aE, fI "java/util/Optional" sg_2 [(.null)])] 10 28 240 #[.val (.int g0), .val (.int g1), .val (.int g2), .val (.int g3), .val (.int g4), .val (.int 4), .val (.ref a114), .val (.ref t116), .val (.int 2), .val (.ref o140), .val (.ref t145)] [(.ref t145), (.ref sa141)] Q_law
          refine wp_virtual (c_seq_1 l Z a0 hw sa141 su142 t145 b144 (nar .byte c3.toInt8.toInt32) cp fm [(o140, fI "java/util/Optional" sg_2 [(.ref sa141)]), (q146, oA .char [c3]), (a114, oA .char [c0, c1, c2, c3]), (t116, strO b115), (b115, fA .byte [(nar .byte c0.toInt8.toInt32), (nar .byte c1.toInt8.toInt32), (nar .byte c2.toInt8.toInt32), (nar .byte c3.toInt8.toInt32)]), (q117, oA .char [c0, c1, c2, c3]), (aE, fI "java/util/Optional" sg_2 [(.null)])] hs ) (exa_new (i := 0) rfl) D_240 (gw hw 162 rfl) (gw hw 163 rfl) (gw hw 165 rfl) (gw hw 165 rfl) (gw hw 164 rfl) (gw hw 12 rfl) (gw hw 166 rfl) (by decide) pd_32 rfl rfl rfl (lb rfl) (lb rfl) (lb rfl) (lb rfl) ?_
          rintro _ _ ⟨rfl, rfl⟩
          show W44 l Z room_1 [(sa141, strO su142), (su142, fA .byte [(nar .byte c3.toInt8.toInt32)]), (t145, strO b144), (b144, fA .byte [(nar .byte c3.toInt8.toInt32)]), (o140, fI "java/util/Optional" sg_2 [(.ref sa141)]), (q146, oA .char [c3]), (a114, oA .char [c0, c1, c2, c3]), (t116, strO b115), (b115, fA .byte [(nar .byte c0.toInt8.toInt32), (nar .byte c1.toInt8.toInt32), (nar .byte c2.toInt8.toInt32), (nar .byte c3.toInt8.toInt32)]), (q117, oA .char [c0, c1, c2, c3]), (aE, fI "java/util/Optional" sg_2 [(.null)])] 10 28 243 #[.val (.int g0), .val (.int g1), .val (.int g2), .val (.int g3), .val (.int g4), .val (.int 4), .val (.ref a114), .val (.ref t116), .val (.int 2), .val (.ref o140), .val (.ref t145)] [(.int 1)] Q_law
          refine wp_if_eq D_243 (pc'' := 250) ⟨by decide, by decide⟩ (fun h148 => by exact absurd h148 (by decide)) (fun h148 => ?_)
          refine wp_iconst 1 D_246 (by decide) ?_
          refine wp_goto D_247 (pc'' := 251) ⟨by decide, by decide⟩ ?_
          refine wp_ireturnN D_251 rfl (by simp) (by decide) (by decide) ?_
          exact rfl
      · skip
        refine wp_iconst 1 D_103 (by decide) ?_
        refine wp_istore #[.val (.int g0), .val (.int g1), .val (.int g2), .val (.int g3), .val (.int g4), .val (.int 4), .val (.ref a114), .val (.ref t116), .val (.int 1), .unset, .unset] D_104 rfl ?_
        refine wp_goto D_106 (pc'' := 148) ⟨by decide, by decide⟩ ?_
        refine wp_aload D_148 rfl rfl ?_
        refine Wp.pick [1, 0, 2, 3, 4] (by decide) ?_
        show W44 l Z room_1 [(t116, strO b115), (b115, fA .byte [(nar .byte c0.toInt8.toInt32), (nar .byte c1.toInt8.toInt32), (nar .byte c2.toInt8.toInt32), (nar .byte c3.toInt8.toInt32)]), (q117, oA .char [c0, c1, c2, c3]), (a114, oA .char [c0, c1, c2, c3]), (aE, fI "java/util/Optional" sg_2 [(.null)])] 4 16 150 #[.val (.int g0), .val (.int g1), .val (.int g2), .val (.int g3), .val (.int g4), .val (.int 4), .val (.ref a114), .val (.ref t116), .val (.int 1), .unset, .unset] [(.ref t116)] Q_law
        refine wp_callS (c_fr_4_1 l Z a0 hw t116 b115 (nar .byte c0.toInt8.toInt32) (nar .byte c1.toInt8.toInt32) (nar .byte c2.toInt8.toInt32) (nar .byte c3.toInt8.toInt32) cp fm [(q117, oA .char [c0, c1, c2, c3]), (a114, oA .char [c0, c1, c2, c3]), (aE, fI "java/util/Optional" sg_2 [(.null)])] hs (own_35 c0 hc0 h119) (own_35y c1 h121)) D_150 (gw hw 31 rfl) (gw hw 32 rfl) (gw hw 33 rfl) (gw hw 34 rfl) (by decide) pd_29 rfl rfl rfl (lb rfl) (lb rfl) (lb rfl) (lb rfl) ?_
        rintro _ _ ⟨o149, sa150, su151, rfl, rfl⟩
        show W44 l Z room_1 [(o149, fI "java/util/Optional" sg_2 [(.ref sa150)]), (su151, fA .byte [(nar .byte c2.toInt8.toInt32), (nar .byte c3.toInt8.toInt32)]), (sa150, strO su151), (t116, strO b115), (b115, fA .byte [(nar .byte c0.toInt8.toInt32), (nar .byte c1.toInt8.toInt32), (nar .byte c2.toInt8.toInt32), (nar .byte c3.toInt8.toInt32)]), (q117, oA .char [c0, c1, c2, c3]), (a114, oA .char [c0, c1, c2, c3]), (aE, fI "java/util/Optional" sg_2 [(.null)])] 7 23 153 #[.val (.int g0), .val (.int g1), .val (.int g2), .val (.int g3), .val (.int g4), .val (.int 4), .val (.ref a114), .val (.ref t116), .val (.int 1), .unset, .unset] [(.ref o149)] Q_law
        refine wp_astore #[.val (.int g0), .val (.int g1), .val (.int g2), .val (.int g3), .val (.int g4), .val (.int 4), .val (.ref a114), .val (.ref t116), .val (.int 1), .val (.ref o149), .unset] D_153 rfl rfl ?_
        refine wp_iload D_155 rfl ?_
        refine wp_if_ge D_157 (pc'' := 174) ⟨by decide, by decide⟩ (fun h152 => ?_) (fun h152 => by exact absurd h152 (by decide))
        refine wp_iload D_174 rfl ?_
        refine wp_iload D_176 rfl ?_
        refine wp_isub D_178 ?_
        rw [show ((4 : Int32) - (1 : Int32)) = (3 : Int32) from by decide]
        refine wp_iconst 1 D_179 (by decide) ?_
        refine wp_isub D_180 ?_
        rw [show ((3 : Int32) - (1 : Int32)) = (2 : Int32) from by decide]
        refine wp_aload D_181 rfl rfl ?_
        refine wp_iload D_183 rfl ?_
        refine wp_iconst 1 D_185 (by decide) ?_
        refine wp_iadd D_186 ?_
        rw [show ((1 : Int32) + (1 : Int32)) = (2 : Int32) from by decide]
        refine Wp.pick [6, 0, 1, 2, 3, 4, 5, 7] (by decide) ?_
        show W44 l Z room_1 [(a114, oA .char [c0, c1, c2, c3]), (o149, fI "java/util/Optional" sg_2 [(.ref sa150)]), (su151, fA .byte [(nar .byte c2.toInt8.toInt32), (nar .byte c3.toInt8.toInt32)]), (sa150, strO su151), (t116, strO b115), (b115, fA .byte [(nar .byte c0.toInt8.toInt32), (nar .byte c1.toInt8.toInt32), (nar .byte c2.toInt8.toInt32), (nar .byte c3.toInt8.toInt32)]), (q117, oA .char [c0, c1, c2, c3]), (aE, fI "java/util/Optional" sg_2 [(.null)])] 7 23 187 #[.val (.int g0), .val (.int g1), .val (.int g2), .val (.int g3), .val (.int g4), .val (.int 4), .val (.ref a114), .val (.ref t116), .val (.int 1), .val (.ref o149), .unset] [(.int 2), (.ref a114), (.int 2)] Q_law
        refine wp_callS (c_at_2 l Z a0 hw a114 c0 c1 c2 c3 [(o149, fI "java/util/Optional" sg_2 [(.ref sa150)]), (su151, fA .byte [(nar .byte c2.toInt8.toInt32), (nar .byte c3.toInt8.toInt32)]), (sa150, strO su151), (t116, strO b115), (b115, fA .byte [(nar .byte c0.toInt8.toInt32), (nar .byte c1.toInt8.toInt32), (nar .byte c2.toInt8.toInt32), (nar .byte c3.toInt8.toInt32)]), (q117, oA .char [c0, c1, c2, c3]), (aE, fI "java/util/Optional" sg_2 [(.null)])] hc2) D_187 (gw hw 154 rfl) (gw hw 155 rfl) (gw hw 4 rfl) (gw hw 156 rfl) (by decide) pd_30 rfl rfl rfl (lb rfl) (lb rfl) (lb rfl) (lb rfl) ?_
        rintro _ _ ⟨rfl, rfl⟩
        show W44 l Z room_1 [(a114, oA .char [c0, c1, c2, c3]), (o149, fI "java/util/Optional" sg_2 [(.ref sa150)]), (su151, fA .byte [(nar .byte c2.toInt8.toInt32), (nar .byte c3.toInt8.toInt32)]), (sa150, strO su151), (t116, strO b115), (b115, fA .byte [(nar .byte c0.toInt8.toInt32), (nar .byte c1.toInt8.toInt32), (nar .byte c2.toInt8.toInt32), (nar .byte c3.toInt8.toInt32)]), (q117, oA .char [c0, c1, c2, c3]), (aE, fI "java/util/Optional" sg_2 [(.null)])] 7 23 190 #[.val (.int g0), .val (.int g1), .val (.int g2), .val (.int g3), .val (.int g4), .val (.int 4), .val (.ref a114), .val (.ref t116), .val (.int 1), .val (.ref o149), .unset] [(.int c2), (.int 2)] Q_law
        refine wp_aload D_190 rfl rfl ?_
        refine wp_iload D_192 rfl ?_
        refine wp_iconst 2 D_194 (by decide) ?_
        refine wp_iadd D_195 ?_
        rw [show ((1 : Int32) + (2 : Int32)) = (3 : Int32) from by decide]
        refine wp_callS (c_at_3 l Z a0 hw a114 c0 c1 c2 c3 [(o149, fI "java/util/Optional" sg_2 [(.ref sa150)]), (su151, fA .byte [(nar .byte c2.toInt8.toInt32), (nar .byte c3.toInt8.toInt32)]), (sa150, strO su151), (t116, strO b115), (b115, fA .byte [(nar .byte c0.toInt8.toInt32), (nar .byte c1.toInt8.toInt32), (nar .byte c2.toInt8.toInt32), (nar .byte c3.toInt8.toInt32)]), (q117, oA .char [c0, c1, c2, c3]), (aE, fI "java/util/Optional" sg_2 [(.null)])] hc3) D_196 (gw hw 154 rfl) (gw hw 155 rfl) (gw hw 4 rfl) (gw hw 156 rfl) (by decide) pd_30 rfl rfl rfl (lb rfl) (lb rfl) (lb rfl) (lb rfl) ?_
        rintro _ _ ⟨rfl, rfl⟩
        show W44 l Z room_1 [(a114, oA .char [c0, c1, c2, c3]), (o149, fI "java/util/Optional" sg_2 [(.ref sa150)]), (su151, fA .byte [(nar .byte c2.toInt8.toInt32), (nar .byte c3.toInt8.toInt32)]), (sa150, strO su151), (t116, strO b115), (b115, fA .byte [(nar .byte c0.toInt8.toInt32), (nar .byte c1.toInt8.toInt32), (nar .byte c2.toInt8.toInt32), (nar .byte c3.toInt8.toInt32)]), (q117, oA .char [c0, c1, c2, c3]), (aE, fI "java/util/Optional" sg_2 [(.null)])] 7 23 199 #[.val (.int g0), .val (.int g1), .val (.int g2), .val (.int g3), .val (.int g4), .val (.int 4), .val (.ref a114), .val (.ref t116), .val (.int 1), .val (.ref o149), .unset] [(.int c3), (.int c2), (.int 2)] Q_law
        refine wp_aload D_199 rfl rfl ?_
        refine wp_iload D_201 rfl ?_
        refine wp_iconst 3 D_203 (by decide) ?_
        refine wp_iadd D_204 ?_
        rw [show ((1 : Int32) + (3 : Int32)) = (4 : Int32) from by decide]
        refine wp_callS (c_at_4 l Z a0 hw a114 c0 c1 c2 c3 [(o149, fI "java/util/Optional" sg_2 [(.ref sa150)]), (su151, fA .byte [(nar .byte c2.toInt8.toInt32), (nar .byte c3.toInt8.toInt32)]), (sa150, strO su151), (t116, strO b115), (b115, fA .byte [(nar .byte c0.toInt8.toInt32), (nar .byte c1.toInt8.toInt32), (nar .byte c2.toInt8.toInt32), (nar .byte c3.toInt8.toInt32)]), (q117, oA .char [c0, c1, c2, c3]), (aE, fI "java/util/Optional" sg_2 [(.null)])] ) D_205 (gw hw 154 rfl) (gw hw 155 rfl) (gw hw 4 rfl) (gw hw 156 rfl) (by decide) pd_30 rfl rfl rfl (lb rfl) (lb rfl) (lb rfl) (lb rfl) ?_
        rintro _ _ ⟨rfl, rfl⟩
        show W44 l Z room_1 [(a114, oA .char [c0, c1, c2, c3]), (o149, fI "java/util/Optional" sg_2 [(.ref sa150)]), (su151, fA .byte [(nar .byte c2.toInt8.toInt32), (nar .byte c3.toInt8.toInt32)]), (sa150, strO su151), (t116, strO b115), (b115, fA .byte [(nar .byte c0.toInt8.toInt32), (nar .byte c1.toInt8.toInt32), (nar .byte c2.toInt8.toInt32), (nar .byte c3.toInt8.toInt32)]), (q117, oA .char [c0, c1, c2, c3]), (aE, fI "java/util/Optional" sg_2 [(.null)])] 7 23 208 #[.val (.int g0), .val (.int g1), .val (.int g2), .val (.int g3), .val (.int g4), .val (.int 4), .val (.ref a114), .val (.ref t116), .val (.int 1), .val (.ref o149), .unset] [(.int 120), (.int c3), (.int c2), (.int 2)] Q_law
        refine wp_aload D_208 rfl rfl ?_
        refine wp_iload D_210 rfl ?_
        refine wp_iconst 4 D_212 (by decide) ?_
        refine wp_iadd D_213 ?_
        rw [show ((1 : Int32) + (4 : Int32)) = (5 : Int32) from by decide]
        refine wp_callS (c_at_5 l Z a0 hw a114 c0 c1 c2 c3 [(o149, fI "java/util/Optional" sg_2 [(.ref sa150)]), (su151, fA .byte [(nar .byte c2.toInt8.toInt32), (nar .byte c3.toInt8.toInt32)]), (sa150, strO su151), (t116, strO b115), (b115, fA .byte [(nar .byte c0.toInt8.toInt32), (nar .byte c1.toInt8.toInt32), (nar .byte c2.toInt8.toInt32), (nar .byte c3.toInt8.toInt32)]), (q117, oA .char [c0, c1, c2, c3]), (aE, fI "java/util/Optional" sg_2 [(.null)])] ) D_214 (gw hw 154 rfl) (gw hw 155 rfl) (gw hw 4 rfl) (gw hw 156 rfl) (by decide) pd_30 rfl rfl rfl (lb rfl) (lb rfl) (lb rfl) (lb rfl) ?_
        rintro _ _ ⟨rfl, rfl⟩
        show W44 l Z room_1 [(a114, oA .char [c0, c1, c2, c3]), (o149, fI "java/util/Optional" sg_2 [(.ref sa150)]), (su151, fA .byte [(nar .byte c2.toInt8.toInt32), (nar .byte c3.toInt8.toInt32)]), (sa150, strO su151), (t116, strO b115), (b115, fA .byte [(nar .byte c0.toInt8.toInt32), (nar .byte c1.toInt8.toInt32), (nar .byte c2.toInt8.toInt32), (nar .byte c3.toInt8.toInt32)]), (q117, oA .char [c0, c1, c2, c3]), (aE, fI "java/util/Optional" sg_2 [(.null)])] 7 23 217 #[.val (.int g0), .val (.int g1), .val (.int g2), .val (.int g3), .val (.int g4), .val (.int 4), .val (.ref a114), .val (.ref t116), .val (.int 1), .val (.ref o149), .unset] [(.int 120), (.int 120), (.int c3), (.int c2), (.int 2)] Q_law
        refine wp_callS (c_str_2 l Z a0 hw c2 c3 (120 : Int32) (120 : Int32) cp fm [(a114, oA .char [c0, c1, c2, c3]), (o149, fI "java/util/Optional" sg_2 [(.ref sa150)]), (su151, fA .byte [(nar .byte c2.toInt8.toInt32), (nar .byte c3.toInt8.toInt32)]), (sa150, strO su151), (t116, strO b115), (b115, fA .byte [(nar .byte c0.toInt8.toInt32), (nar .byte c1.toInt8.toInt32), (nar .byte c2.toInt8.toInt32), (nar .byte c3.toInt8.toInt32)]), (q117, oA .char [c0, c1, c2, c3]), (aE, fI "java/util/Optional" sg_2 [(.null)])] hs hc2 hc3) D_217 (gw hw 7 rfl) (gw hw 8 rfl) (gw hw 4 rfl) (gw hw 9 rfl) (by decide) pd_27 rfl rfl rfl (lb rfl) (lb rfl) (lb rfl) (lb rfl) ?_
        rintro _ _ ⟨b153, t154, q155, rfl, rfl⟩
        show W44 l Z room_1 [(b153, fA .byte [(nar .byte c2.toInt8.toInt32), (nar .byte c3.toInt8.toInt32)]), (t154, strO b153), (q155, oA .char [c2, c3]), (a114, oA .char [c0, c1, c2, c3]), (o149, fI "java/util/Optional" sg_2 [(.ref sa150)]), (su151, fA .byte [(nar .byte c2.toInt8.toInt32), (nar .byte c3.toInt8.toInt32)]), (sa150, strO su151), (t116, strO b115), (b115, fA .byte [(nar .byte c0.toInt8.toInt32), (nar .byte c1.toInt8.toInt32), (nar .byte c2.toInt8.toInt32), (nar .byte c3.toInt8.toInt32)]), (q117, oA .char [c0, c1, c2, c3]), (aE, fI "java/util/Optional" sg_2 [(.null)])] 10 31 220 #[.val (.int g0), .val (.int g1), .val (.int g2), .val (.int g3), .val (.int g4), .val (.int 4), .val (.ref a114), .val (.ref t116), .val (.int 1), .val (.ref o149), .unset] [(.ref t154)] Q_law
        refine wp_astore #[.val (.int g0), .val (.int g1), .val (.int g2), .val (.int g3), .val (.int g4), .val (.int 4), .val (.ref a114), .val (.ref t116), .val (.int 1), .val (.ref o149), .val (.ref t154)] D_220 rfl rfl ?_
        refine wp_aload D_222 rfl rfl ?_
        refine Wp.pick [4, 0, 1, 2, 3, 5, 6, 7, 8, 9, 10] (by decide) ?_
        show W44 l Z room_1 [(o149, fI "java/util/Optional" sg_2 [(.ref sa150)]), (b153, fA .byte [(nar .byte c2.toInt8.toInt32), (nar .byte c3.toInt8.toInt32)]), (t154, strO b153), (q155, oA .char [c2, c3]), (a114, oA .char [c0, c1, c2, c3]), (su151, fA .byte [(nar .byte c2.toInt8.toInt32), (nar .byte c3.toInt8.toInt32)]), (sa150, strO su151), (t116, strO b115), (b115, fA .byte [(nar .byte c0.toInt8.toInt32), (nar .byte c1.toInt8.toInt32), (nar .byte c2.toInt8.toInt32), (nar .byte c3.toInt8.toInt32)]), (q117, oA .char [c0, c1, c2, c3]), (aE, fI "java/util/Optional" sg_2 [(.null)])] 10 31 224 #[.val (.int g0), .val (.int g1), .val (.int g2), .val (.int g3), .val (.int g4), .val (.int 4), .val (.ref a114), .val (.ref t116), .val (.int 1), .val (.ref o149), .val (.ref t154)] [(.ref o149)] Q_law
        refine wp_virtual (c_ip1 l Z a0 hw o149 sa150 [(b153, fA .byte [(nar .byte c2.toInt8.toInt32), (nar .byte c3.toInt8.toInt32)]), (t154, strO b153), (q155, oA .char [c2, c3]), (a114, oA .char [c0, c1, c2, c3]), (su151, fA .byte [(nar .byte c2.toInt8.toInt32), (nar .byte c3.toInt8.toInt32)]), (sa150, strO su151), (t116, strO b115), (b115, fA .byte [(nar .byte c0.toInt8.toInt32), (nar .byte c1.toInt8.toInt32), (nar .byte c2.toInt8.toInt32), (nar .byte c3.toInt8.toInt32)]), (q117, oA .char [c0, c1, c2, c3]), (aE, fI "java/util/Optional" sg_2 [(.null)])] ) (exa_new (i := 0) rfl) D_224 (gw hw 80 rfl) (gw hw 81 rfl) (gw hw 83 rfl) (gw hw 83 rfl) (gw hw 82 rfl) (gw hw 77 rfl) (gw hw 84 rfl) (by decide) pd_4 rfl rfl rfl (lb rfl) (lb rfl) (lb rfl) (lb rfl) ?_
        rintro _ _ ⟨rfl, rfl⟩
        show W44 l Z room_1 [(o149, fI "java/util/Optional" sg_2 [(.ref sa150)]), (b153, fA .byte [(nar .byte c2.toInt8.toInt32), (nar .byte c3.toInt8.toInt32)]), (t154, strO b153), (q155, oA .char [c2, c3]), (a114, oA .char [c0, c1, c2, c3]), (su151, fA .byte [(nar .byte c2.toInt8.toInt32), (nar .byte c3.toInt8.toInt32)]), (sa150, strO su151), (t116, strO b115), (b115, fA .byte [(nar .byte c0.toInt8.toInt32), (nar .byte c1.toInt8.toInt32), (nar .byte c2.toInt8.toInt32), (nar .byte c3.toInt8.toInt32)]), (q117, oA .char [c0, c1, c2, c3]), (aE, fI "java/util/Optional" sg_2 [(.null)])] 10 31 227 #[.val (.int g0), .val (.int g1), .val (.int g2), .val (.int g3), .val (.int g4), .val (.int 4), .val (.ref a114), .val (.ref t116), .val (.int 1), .val (.ref o149), .val (.ref t154)] [(.int 1)] Q_law
        refine wp_if_eq D_227 (pc'' := 250) ⟨by decide, by decide⟩ (fun h156 => by exact absurd h156 (by decide)) (fun h156 => ?_)
        refine wp_aload D_230 rfl rfl ?_
        refine wp_virtual (c_get l Z a0 hw o149 sa150 [(b153, fA .byte [(nar .byte c2.toInt8.toInt32), (nar .byte c3.toInt8.toInt32)]), (t154, strO b153), (q155, oA .char [c2, c3]), (a114, oA .char [c0, c1, c2, c3]), (su151, fA .byte [(nar .byte c2.toInt8.toInt32), (nar .byte c3.toInt8.toInt32)]), (sa150, strO su151), (t116, strO b115), (b115, fA .byte [(nar .byte c0.toInt8.toInt32), (nar .byte c1.toInt8.toInt32), (nar .byte c2.toInt8.toInt32), (nar .byte c3.toInt8.toInt32)]), (q117, oA .char [c0, c1, c2, c3]), (aE, fI "java/util/Optional" sg_2 [(.null)])] ) (exa_new (i := 0) rfl) D_232 (gw hw 157 rfl) (gw hw 158 rfl) (gw hw 160 rfl) (gw hw 160 rfl) (gw hw 159 rfl) (gw hw 77 rfl) (gw hw 161 rfl) (by decide) pd_31 rfl rfl rfl (lb rfl) (lb rfl) (lb rfl) (lb rfl) ?_
        rintro _ _ ⟨rfl, rfl⟩
        show W44 l Z room_1 [(o149, fI "java/util/Optional" sg_2 [(.ref sa150)]), (b153, fA .byte [(nar .byte c2.toInt8.toInt32), (nar .byte c3.toInt8.toInt32)]), (t154, strO b153), (q155, oA .char [c2, c3]), (a114, oA .char [c0, c1, c2, c3]), (su151, fA .byte [(nar .byte c2.toInt8.toInt32), (nar .byte c3.toInt8.toInt32)]), (sa150, strO su151), (t116, strO b115), (b115, fA .byte [(nar .byte c0.toInt8.toInt32), (nar .byte c1.toInt8.toInt32), (nar .byte c2.toInt8.toInt32), (nar .byte c3.toInt8.toInt32)]), (q117, oA .char [c0, c1, c2, c3]), (aE, fI "java/util/Optional" sg_2 [(.null)])] 10 31 235 #[.val (.int g0), .val (.int g1), .val (.int g2), .val (.int g3), .val (.int g4), .val (.int 4), .val (.ref a114), .val (.ref t116), .val (.int 1), .val (.ref o149), .val (.ref t154)] [(.ref sa150)] Q_law
        refine wp_cast D_235 (gw hw 10 rfl) (fun h P => Ins.self (exa_new (i := 6) rfl h P)) ?_
        refine wp_aload D_238 rfl rfl ?_
        refine Wp.pick [6, 5, 2, 1, 0, 3, 4, 7, 8, 9, 10] (by decide) ?_
        show W44 l Z room_1 [(sa150, strO su151), (su151, fA .byte [(nar .byte c2.toInt8.toInt32), (nar .byte c3.toInt8.toInt32)]), (t154, strO b153), (b153, fA .byte [(nar .byte c2.toInt8.toInt32), (nar .byte c3.toInt8.toInt32)]), (o149, fI "java/util/Optional" sg_2 [(.ref sa150)]), (q155, oA .char [c2, c3]), (a114, oA .char [c0, c1, c2, c3]), (t116, strO b115), (b115, fA .byte [(nar .byte c0.toInt8.toInt32), (nar .byte c1.toInt8.toInt32), (nar .byte c2.toInt8.toInt32), (nar .byte c3.toInt8.toInt32)]), (q117, oA .char [c0, c1, c2, c3]), (aE, fI "java/util/Optional" sg_2 [(.null)])] 10 31 240 #[.val (.int g0), .val (.int g1), .val (.int g2), .val (.int g3), .val (.int g4), .val (.int 4), .val (.ref a114), .val (.ref t116), .val (.int 1), .val (.ref o149), .val (.ref t154)] [(.ref t154), (.ref sa150)] Q_law
        refine wp_virtual (c_seq_2 l Z a0 hw sa150 su151 t154 b153 (nar .byte c2.toInt8.toInt32) (nar .byte c3.toInt8.toInt32) cp fm [(o149, fI "java/util/Optional" sg_2 [(.ref sa150)]), (q155, oA .char [c2, c3]), (a114, oA .char [c0, c1, c2, c3]), (t116, strO b115), (b115, fA .byte [(nar .byte c0.toInt8.toInt32), (nar .byte c1.toInt8.toInt32), (nar .byte c2.toInt8.toInt32), (nar .byte c3.toInt8.toInt32)]), (q117, oA .char [c0, c1, c2, c3]), (aE, fI "java/util/Optional" sg_2 [(.null)])] hs ) (exa_new (i := 0) rfl) D_240 (gw hw 162 rfl) (gw hw 163 rfl) (gw hw 165 rfl) (gw hw 165 rfl) (gw hw 164 rfl) (gw hw 12 rfl) (gw hw 166 rfl) (by decide) pd_32 rfl rfl rfl (lb rfl) (lb rfl) (lb rfl) (lb rfl) ?_
        rintro _ _ ⟨rfl, rfl⟩
        show W44 l Z room_1 [(sa150, strO su151), (su151, fA .byte [(nar .byte c2.toInt8.toInt32), (nar .byte c3.toInt8.toInt32)]), (t154, strO b153), (b153, fA .byte [(nar .byte c2.toInt8.toInt32), (nar .byte c3.toInt8.toInt32)]), (o149, fI "java/util/Optional" sg_2 [(.ref sa150)]), (q155, oA .char [c2, c3]), (a114, oA .char [c0, c1, c2, c3]), (t116, strO b115), (b115, fA .byte [(nar .byte c0.toInt8.toInt32), (nar .byte c1.toInt8.toInt32), (nar .byte c2.toInt8.toInt32), (nar .byte c3.toInt8.toInt32)]), (q117, oA .char [c0, c1, c2, c3]), (aE, fI "java/util/Optional" sg_2 [(.null)])] 10 31 243 #[.val (.int g0), .val (.int g1), .val (.int g2), .val (.int g3), .val (.int g4), .val (.int 4), .val (.ref a114), .val (.ref t116), .val (.int 1), .val (.ref o149), .val (.ref t154)] [(.int 1)] Q_law
        refine wp_if_eq D_243 (pc'' := 250) ⟨by decide, by decide⟩ (fun h157 => by exact absurd h157 (by decide)) (fun h157 => ?_)
        refine wp_iconst 1 D_246 (by decide) ?_
        refine wp_goto D_247 (pc'' := 251) ⟨by decide, by decide⟩ ?_
        refine wp_ireturnN D_251 rfl (by simp) (by decide) (by decide) ?_
        exact rfl
    · skip
      refine wp_iconst 0 D_82 (by decide) ?_
      refine wp_istore #[.val (.int g0), .val (.int g1), .val (.int g2), .val (.int g3), .val (.int g4), .val (.int 4), .val (.ref a114), .val (.ref t116), .val (.int 0), .unset, .unset] D_83 rfl ?_
      refine wp_goto D_85 (pc'' := 148) ⟨by decide, by decide⟩ ?_
      refine wp_aload D_148 rfl rfl ?_
      refine Wp.pick [1, 0, 2, 3, 4] (by decide) ?_
      show W44 l Z room_1 [(t116, strO b115), (b115, fA .byte [(nar .byte c0.toInt8.toInt32), (nar .byte c1.toInt8.toInt32), (nar .byte c2.toInt8.toInt32), (nar .byte c3.toInt8.toInt32)]), (q117, oA .char [c0, c1, c2, c3]), (a114, oA .char [c0, c1, c2, c3]), (aE, fI "java/util/Optional" sg_2 [(.null)])] 4 16 150 #[.val (.int g0), .val (.int g1), .val (.int g2), .val (.int g3), .val (.int g4), .val (.int 4), .val (.ref a114), .val (.ref t116), .val (.int 0), .unset, .unset] [(.ref t116)] Q_law
      refine wp_callS (c_fr_4_0 l Z a0 hw t116 b115 (nar .byte c0.toInt8.toInt32) (nar .byte c1.toInt8.toInt32) (nar .byte c2.toInt8.toInt32) (nar .byte c3.toInt8.toInt32) cp fm [(q117, oA .char [c0, c1, c2, c3]), (a114, oA .char [c0, c1, c2, c3]), (aE, fI "java/util/Optional" sg_2 [(.null)])] hs (own_35y c0 h119)) D_150 (gw hw 31 rfl) (gw hw 32 rfl) (gw hw 33 rfl) (gw hw 34 rfl) (by decide) pd_29 rfl rfl rfl (lb rfl) (lb rfl) (lb rfl) (lb rfl) ?_
      rintro _ _ ⟨o158, sa159, su160, rfl, rfl⟩
      show W44 l Z room_1 [(o158, fI "java/util/Optional" sg_2 [(.ref sa159)]), (su160, fA .byte [(nar .byte c1.toInt8.toInt32), (nar .byte c2.toInt8.toInt32), (nar .byte c3.toInt8.toInt32)]), (sa159, strO su160), (t116, strO b115), (b115, fA .byte [(nar .byte c0.toInt8.toInt32), (nar .byte c1.toInt8.toInt32), (nar .byte c2.toInt8.toInt32), (nar .byte c3.toInt8.toInt32)]), (q117, oA .char [c0, c1, c2, c3]), (a114, oA .char [c0, c1, c2, c3]), (aE, fI "java/util/Optional" sg_2 [(.null)])] 7 24 153 #[.val (.int g0), .val (.int g1), .val (.int g2), .val (.int g3), .val (.int g4), .val (.int 4), .val (.ref a114), .val (.ref t116), .val (.int 0), .unset, .unset] [(.ref o158)] Q_law
      refine wp_astore #[.val (.int g0), .val (.int g1), .val (.int g2), .val (.int g3), .val (.int g4), .val (.int 4), .val (.ref a114), .val (.ref t116), .val (.int 0), .val (.ref o158), .unset] D_153 rfl rfl ?_
      refine wp_iload D_155 rfl ?_
      refine wp_if_ge D_157 (pc'' := 174) ⟨by decide, by decide⟩ (fun h161 => ?_) (fun h161 => by exact absurd h161 (by decide))
      refine wp_iload D_174 rfl ?_
      refine wp_iload D_176 rfl ?_
      refine wp_isub D_178 ?_
      rw [show ((4 : Int32) - (0 : Int32)) = (4 : Int32) from by decide]
      refine wp_iconst 1 D_179 (by decide) ?_
      refine wp_isub D_180 ?_
      rw [show ((4 : Int32) - (1 : Int32)) = (3 : Int32) from by decide]
      refine wp_aload D_181 rfl rfl ?_
      refine wp_iload D_183 rfl ?_
      refine wp_iconst 1 D_185 (by decide) ?_
      refine wp_iadd D_186 ?_
      rw [show ((0 : Int32) + (1 : Int32)) = (1 : Int32) from by decide]
      refine Wp.pick [6, 0, 1, 2, 3, 4, 5, 7] (by decide) ?_
      show W44 l Z room_1 [(a114, oA .char [c0, c1, c2, c3]), (o158, fI "java/util/Optional" sg_2 [(.ref sa159)]), (su160, fA .byte [(nar .byte c1.toInt8.toInt32), (nar .byte c2.toInt8.toInt32), (nar .byte c3.toInt8.toInt32)]), (sa159, strO su160), (t116, strO b115), (b115, fA .byte [(nar .byte c0.toInt8.toInt32), (nar .byte c1.toInt8.toInt32), (nar .byte c2.toInt8.toInt32), (nar .byte c3.toInt8.toInt32)]), (q117, oA .char [c0, c1, c2, c3]), (aE, fI "java/util/Optional" sg_2 [(.null)])] 7 24 187 #[.val (.int g0), .val (.int g1), .val (.int g2), .val (.int g3), .val (.int g4), .val (.int 4), .val (.ref a114), .val (.ref t116), .val (.int 0), .val (.ref o158), .unset] [(.int 1), (.ref a114), (.int 3)] Q_law
      refine wp_callS (c_at_1 l Z a0 hw a114 c0 c1 c2 c3 [(o158, fI "java/util/Optional" sg_2 [(.ref sa159)]), (su160, fA .byte [(nar .byte c1.toInt8.toInt32), (nar .byte c2.toInt8.toInt32), (nar .byte c3.toInt8.toInt32)]), (sa159, strO su160), (t116, strO b115), (b115, fA .byte [(nar .byte c0.toInt8.toInt32), (nar .byte c1.toInt8.toInt32), (nar .byte c2.toInt8.toInt32), (nar .byte c3.toInt8.toInt32)]), (q117, oA .char [c0, c1, c2, c3]), (aE, fI "java/util/Optional" sg_2 [(.null)])] hc1) D_187 (gw hw 154 rfl) (gw hw 155 rfl) (gw hw 4 rfl) (gw hw 156 rfl) (by decide) pd_30 rfl rfl rfl (lb rfl) (lb rfl) (lb rfl) (lb rfl) ?_
      rintro _ _ ⟨rfl, rfl⟩
      show W44 l Z room_1 [(a114, oA .char [c0, c1, c2, c3]), (o158, fI "java/util/Optional" sg_2 [(.ref sa159)]), (su160, fA .byte [(nar .byte c1.toInt8.toInt32), (nar .byte c2.toInt8.toInt32), (nar .byte c3.toInt8.toInt32)]), (sa159, strO su160), (t116, strO b115), (b115, fA .byte [(nar .byte c0.toInt8.toInt32), (nar .byte c1.toInt8.toInt32), (nar .byte c2.toInt8.toInt32), (nar .byte c3.toInt8.toInt32)]), (q117, oA .char [c0, c1, c2, c3]), (aE, fI "java/util/Optional" sg_2 [(.null)])] 7 24 190 #[.val (.int g0), .val (.int g1), .val (.int g2), .val (.int g3), .val (.int g4), .val (.int 4), .val (.ref a114), .val (.ref t116), .val (.int 0), .val (.ref o158), .unset] [(.int c1), (.int 3)] Q_law
      refine wp_aload D_190 rfl rfl ?_
      refine wp_iload D_192 rfl ?_
      refine wp_iconst 2 D_194 (by decide) ?_
      refine wp_iadd D_195 ?_
      rw [show ((0 : Int32) + (2 : Int32)) = (2 : Int32) from by decide]
      refine wp_callS (c_at_2 l Z a0 hw a114 c0 c1 c2 c3 [(o158, fI "java/util/Optional" sg_2 [(.ref sa159)]), (su160, fA .byte [(nar .byte c1.toInt8.toInt32), (nar .byte c2.toInt8.toInt32), (nar .byte c3.toInt8.toInt32)]), (sa159, strO su160), (t116, strO b115), (b115, fA .byte [(nar .byte c0.toInt8.toInt32), (nar .byte c1.toInt8.toInt32), (nar .byte c2.toInt8.toInt32), (nar .byte c3.toInt8.toInt32)]), (q117, oA .char [c0, c1, c2, c3]), (aE, fI "java/util/Optional" sg_2 [(.null)])] hc2) D_196 (gw hw 154 rfl) (gw hw 155 rfl) (gw hw 4 rfl) (gw hw 156 rfl) (by decide) pd_30 rfl rfl rfl (lb rfl) (lb rfl) (lb rfl) (lb rfl) ?_
      rintro _ _ ⟨rfl, rfl⟩
      show W44 l Z room_1 [(a114, oA .char [c0, c1, c2, c3]), (o158, fI "java/util/Optional" sg_2 [(.ref sa159)]), (su160, fA .byte [(nar .byte c1.toInt8.toInt32), (nar .byte c2.toInt8.toInt32), (nar .byte c3.toInt8.toInt32)]), (sa159, strO su160), (t116, strO b115), (b115, fA .byte [(nar .byte c0.toInt8.toInt32), (nar .byte c1.toInt8.toInt32), (nar .byte c2.toInt8.toInt32), (nar .byte c3.toInt8.toInt32)]), (q117, oA .char [c0, c1, c2, c3]), (aE, fI "java/util/Optional" sg_2 [(.null)])] 7 24 199 #[.val (.int g0), .val (.int g1), .val (.int g2), .val (.int g3), .val (.int g4), .val (.int 4), .val (.ref a114), .val (.ref t116), .val (.int 0), .val (.ref o158), .unset] [(.int c2), (.int c1), (.int 3)] Q_law
      refine wp_aload D_199 rfl rfl ?_
      refine wp_iload D_201 rfl ?_
      refine wp_iconst 3 D_203 (by decide) ?_
      refine wp_iadd D_204 ?_
      rw [show ((0 : Int32) + (3 : Int32)) = (3 : Int32) from by decide]
      refine wp_callS (c_at_3 l Z a0 hw a114 c0 c1 c2 c3 [(o158, fI "java/util/Optional" sg_2 [(.ref sa159)]), (su160, fA .byte [(nar .byte c1.toInt8.toInt32), (nar .byte c2.toInt8.toInt32), (nar .byte c3.toInt8.toInt32)]), (sa159, strO su160), (t116, strO b115), (b115, fA .byte [(nar .byte c0.toInt8.toInt32), (nar .byte c1.toInt8.toInt32), (nar .byte c2.toInt8.toInt32), (nar .byte c3.toInt8.toInt32)]), (q117, oA .char [c0, c1, c2, c3]), (aE, fI "java/util/Optional" sg_2 [(.null)])] hc3) D_205 (gw hw 154 rfl) (gw hw 155 rfl) (gw hw 4 rfl) (gw hw 156 rfl) (by decide) pd_30 rfl rfl rfl (lb rfl) (lb rfl) (lb rfl) (lb rfl) ?_
      rintro _ _ ⟨rfl, rfl⟩
      show W44 l Z room_1 [(a114, oA .char [c0, c1, c2, c3]), (o158, fI "java/util/Optional" sg_2 [(.ref sa159)]), (su160, fA .byte [(nar .byte c1.toInt8.toInt32), (nar .byte c2.toInt8.toInt32), (nar .byte c3.toInt8.toInt32)]), (sa159, strO su160), (t116, strO b115), (b115, fA .byte [(nar .byte c0.toInt8.toInt32), (nar .byte c1.toInt8.toInt32), (nar .byte c2.toInt8.toInt32), (nar .byte c3.toInt8.toInt32)]), (q117, oA .char [c0, c1, c2, c3]), (aE, fI "java/util/Optional" sg_2 [(.null)])] 7 24 208 #[.val (.int g0), .val (.int g1), .val (.int g2), .val (.int g3), .val (.int g4), .val (.int 4), .val (.ref a114), .val (.ref t116), .val (.int 0), .val (.ref o158), .unset] [(.int c3), (.int c2), (.int c1), (.int 3)] Q_law
      refine wp_aload D_208 rfl rfl ?_
      refine wp_iload D_210 rfl ?_
      refine wp_iconst 4 D_212 (by decide) ?_
      refine wp_iadd D_213 ?_
      rw [show ((0 : Int32) + (4 : Int32)) = (4 : Int32) from by decide]
      refine wp_callS (c_at_4 l Z a0 hw a114 c0 c1 c2 c3 [(o158, fI "java/util/Optional" sg_2 [(.ref sa159)]), (su160, fA .byte [(nar .byte c1.toInt8.toInt32), (nar .byte c2.toInt8.toInt32), (nar .byte c3.toInt8.toInt32)]), (sa159, strO su160), (t116, strO b115), (b115, fA .byte [(nar .byte c0.toInt8.toInt32), (nar .byte c1.toInt8.toInt32), (nar .byte c2.toInt8.toInt32), (nar .byte c3.toInt8.toInt32)]), (q117, oA .char [c0, c1, c2, c3]), (aE, fI "java/util/Optional" sg_2 [(.null)])] ) D_214 (gw hw 154 rfl) (gw hw 155 rfl) (gw hw 4 rfl) (gw hw 156 rfl) (by decide) pd_30 rfl rfl rfl (lb rfl) (lb rfl) (lb rfl) (lb rfl) ?_
      rintro _ _ ⟨rfl, rfl⟩
      show W44 l Z room_1 [(a114, oA .char [c0, c1, c2, c3]), (o158, fI "java/util/Optional" sg_2 [(.ref sa159)]), (su160, fA .byte [(nar .byte c1.toInt8.toInt32), (nar .byte c2.toInt8.toInt32), (nar .byte c3.toInt8.toInt32)]), (sa159, strO su160), (t116, strO b115), (b115, fA .byte [(nar .byte c0.toInt8.toInt32), (nar .byte c1.toInt8.toInt32), (nar .byte c2.toInt8.toInt32), (nar .byte c3.toInt8.toInt32)]), (q117, oA .char [c0, c1, c2, c3]), (aE, fI "java/util/Optional" sg_2 [(.null)])] 7 24 217 #[.val (.int g0), .val (.int g1), .val (.int g2), .val (.int g3), .val (.int g4), .val (.int 4), .val (.ref a114), .val (.ref t116), .val (.int 0), .val (.ref o158), .unset] [(.int 120), (.int c3), (.int c2), (.int c1), (.int 3)] Q_law
      refine wp_callS (c_str_3 l Z a0 hw c1 c2 c3 (120 : Int32) cp fm [(a114, oA .char [c0, c1, c2, c3]), (o158, fI "java/util/Optional" sg_2 [(.ref sa159)]), (su160, fA .byte [(nar .byte c1.toInt8.toInt32), (nar .byte c2.toInt8.toInt32), (nar .byte c3.toInt8.toInt32)]), (sa159, strO su160), (t116, strO b115), (b115, fA .byte [(nar .byte c0.toInt8.toInt32), (nar .byte c1.toInt8.toInt32), (nar .byte c2.toInt8.toInt32), (nar .byte c3.toInt8.toInt32)]), (q117, oA .char [c0, c1, c2, c3]), (aE, fI "java/util/Optional" sg_2 [(.null)])] hs hc1 hc2 hc3) D_217 (gw hw 7 rfl) (gw hw 8 rfl) (gw hw 4 rfl) (gw hw 9 rfl) (by decide) pd_27 rfl rfl rfl (lb rfl) (lb rfl) (lb rfl) (lb rfl) ?_
      rintro _ _ ⟨b162, t163, q164, rfl, rfl⟩
      show W44 l Z room_1 [(b162, fA .byte [(nar .byte c1.toInt8.toInt32), (nar .byte c2.toInt8.toInt32), (nar .byte c3.toInt8.toInt32)]), (t163, strO b162), (q164, oA .char [c1, c2, c3]), (a114, oA .char [c0, c1, c2, c3]), (o158, fI "java/util/Optional" sg_2 [(.ref sa159)]), (su160, fA .byte [(nar .byte c1.toInt8.toInt32), (nar .byte c2.toInt8.toInt32), (nar .byte c3.toInt8.toInt32)]), (sa159, strO su160), (t116, strO b115), (b115, fA .byte [(nar .byte c0.toInt8.toInt32), (nar .byte c1.toInt8.toInt32), (nar .byte c2.toInt8.toInt32), (nar .byte c3.toInt8.toInt32)]), (q117, oA .char [c0, c1, c2, c3]), (aE, fI "java/util/Optional" sg_2 [(.null)])] 10 34 220 #[.val (.int g0), .val (.int g1), .val (.int g2), .val (.int g3), .val (.int g4), .val (.int 4), .val (.ref a114), .val (.ref t116), .val (.int 0), .val (.ref o158), .unset] [(.ref t163)] Q_law
      refine wp_astore #[.val (.int g0), .val (.int g1), .val (.int g2), .val (.int g3), .val (.int g4), .val (.int 4), .val (.ref a114), .val (.ref t116), .val (.int 0), .val (.ref o158), .val (.ref t163)] D_220 rfl rfl ?_
      refine wp_aload D_222 rfl rfl ?_
      refine Wp.pick [4, 0, 1, 2, 3, 5, 6, 7, 8, 9, 10] (by decide) ?_
      show W44 l Z room_1 [(o158, fI "java/util/Optional" sg_2 [(.ref sa159)]), (b162, fA .byte [(nar .byte c1.toInt8.toInt32), (nar .byte c2.toInt8.toInt32), (nar .byte c3.toInt8.toInt32)]), (t163, strO b162), (q164, oA .char [c1, c2, c3]), (a114, oA .char [c0, c1, c2, c3]), (su160, fA .byte [(nar .byte c1.toInt8.toInt32), (nar .byte c2.toInt8.toInt32), (nar .byte c3.toInt8.toInt32)]), (sa159, strO su160), (t116, strO b115), (b115, fA .byte [(nar .byte c0.toInt8.toInt32), (nar .byte c1.toInt8.toInt32), (nar .byte c2.toInt8.toInt32), (nar .byte c3.toInt8.toInt32)]), (q117, oA .char [c0, c1, c2, c3]), (aE, fI "java/util/Optional" sg_2 [(.null)])] 10 34 224 #[.val (.int g0), .val (.int g1), .val (.int g2), .val (.int g3), .val (.int g4), .val (.int 4), .val (.ref a114), .val (.ref t116), .val (.int 0), .val (.ref o158), .val (.ref t163)] [(.ref o158)] Q_law
      refine wp_virtual (c_ip1 l Z a0 hw o158 sa159 [(b162, fA .byte [(nar .byte c1.toInt8.toInt32), (nar .byte c2.toInt8.toInt32), (nar .byte c3.toInt8.toInt32)]), (t163, strO b162), (q164, oA .char [c1, c2, c3]), (a114, oA .char [c0, c1, c2, c3]), (su160, fA .byte [(nar .byte c1.toInt8.toInt32), (nar .byte c2.toInt8.toInt32), (nar .byte c3.toInt8.toInt32)]), (sa159, strO su160), (t116, strO b115), (b115, fA .byte [(nar .byte c0.toInt8.toInt32), (nar .byte c1.toInt8.toInt32), (nar .byte c2.toInt8.toInt32), (nar .byte c3.toInt8.toInt32)]), (q117, oA .char [c0, c1, c2, c3]), (aE, fI "java/util/Optional" sg_2 [(.null)])] ) (exa_new (i := 0) rfl) D_224 (gw hw 80 rfl) (gw hw 81 rfl) (gw hw 83 rfl) (gw hw 83 rfl) (gw hw 82 rfl) (gw hw 77 rfl) (gw hw 84 rfl) (by decide) pd_4 rfl rfl rfl (lb rfl) (lb rfl) (lb rfl) (lb rfl) ?_
      rintro _ _ ⟨rfl, rfl⟩
      show W44 l Z room_1 [(o158, fI "java/util/Optional" sg_2 [(.ref sa159)]), (b162, fA .byte [(nar .byte c1.toInt8.toInt32), (nar .byte c2.toInt8.toInt32), (nar .byte c3.toInt8.toInt32)]), (t163, strO b162), (q164, oA .char [c1, c2, c3]), (a114, oA .char [c0, c1, c2, c3]), (su160, fA .byte [(nar .byte c1.toInt8.toInt32), (nar .byte c2.toInt8.toInt32), (nar .byte c3.toInt8.toInt32)]), (sa159, strO su160), (t116, strO b115), (b115, fA .byte [(nar .byte c0.toInt8.toInt32), (nar .byte c1.toInt8.toInt32), (nar .byte c2.toInt8.toInt32), (nar .byte c3.toInt8.toInt32)]), (q117, oA .char [c0, c1, c2, c3]), (aE, fI "java/util/Optional" sg_2 [(.null)])] 10 34 227 #[.val (.int g0), .val (.int g1), .val (.int g2), .val (.int g3), .val (.int g4), .val (.int 4), .val (.ref a114), .val (.ref t116), .val (.int 0), .val (.ref o158), .val (.ref t163)] [(.int 1)] Q_law
      refine wp_if_eq D_227 (pc'' := 250) ⟨by decide, by decide⟩ (fun h165 => by exact absurd h165 (by decide)) (fun h165 => ?_)
      refine wp_aload D_230 rfl rfl ?_
      refine wp_virtual (c_get l Z a0 hw o158 sa159 [(b162, fA .byte [(nar .byte c1.toInt8.toInt32), (nar .byte c2.toInt8.toInt32), (nar .byte c3.toInt8.toInt32)]), (t163, strO b162), (q164, oA .char [c1, c2, c3]), (a114, oA .char [c0, c1, c2, c3]), (su160, fA .byte [(nar .byte c1.toInt8.toInt32), (nar .byte c2.toInt8.toInt32), (nar .byte c3.toInt8.toInt32)]), (sa159, strO su160), (t116, strO b115), (b115, fA .byte [(nar .byte c0.toInt8.toInt32), (nar .byte c1.toInt8.toInt32), (nar .byte c2.toInt8.toInt32), (nar .byte c3.toInt8.toInt32)]), (q117, oA .char [c0, c1, c2, c3]), (aE, fI "java/util/Optional" sg_2 [(.null)])] ) (exa_new (i := 0) rfl) D_232 (gw hw 157 rfl) (gw hw 158 rfl) (gw hw 160 rfl) (gw hw 160 rfl) (gw hw 159 rfl) (gw hw 77 rfl) (gw hw 161 rfl) (by decide) pd_31 rfl rfl rfl (lb rfl) (lb rfl) (lb rfl) (lb rfl) ?_
      rintro _ _ ⟨rfl, rfl⟩
      show W44 l Z room_1 [(o158, fI "java/util/Optional" sg_2 [(.ref sa159)]), (b162, fA .byte [(nar .byte c1.toInt8.toInt32), (nar .byte c2.toInt8.toInt32), (nar .byte c3.toInt8.toInt32)]), (t163, strO b162), (q164, oA .char [c1, c2, c3]), (a114, oA .char [c0, c1, c2, c3]), (su160, fA .byte [(nar .byte c1.toInt8.toInt32), (nar .byte c2.toInt8.toInt32), (nar .byte c3.toInt8.toInt32)]), (sa159, strO su160), (t116, strO b115), (b115, fA .byte [(nar .byte c0.toInt8.toInt32), (nar .byte c1.toInt8.toInt32), (nar .byte c2.toInt8.toInt32), (nar .byte c3.toInt8.toInt32)]), (q117, oA .char [c0, c1, c2, c3]), (aE, fI "java/util/Optional" sg_2 [(.null)])] 10 34 235 #[.val (.int g0), .val (.int g1), .val (.int g2), .val (.int g3), .val (.int g4), .val (.int 4), .val (.ref a114), .val (.ref t116), .val (.int 0), .val (.ref o158), .val (.ref t163)] [(.ref sa159)] Q_law
      refine wp_cast D_235 (gw hw 10 rfl) (fun h P => Ins.self (exa_new (i := 6) rfl h P)) ?_
      refine wp_aload D_238 rfl rfl ?_
      refine Wp.pick [6, 5, 2, 1, 0, 3, 4, 7, 8, 9, 10] (by decide) ?_
      show W44 l Z room_1 [(sa159, strO su160), (su160, fA .byte [(nar .byte c1.toInt8.toInt32), (nar .byte c2.toInt8.toInt32), (nar .byte c3.toInt8.toInt32)]), (t163, strO b162), (b162, fA .byte [(nar .byte c1.toInt8.toInt32), (nar .byte c2.toInt8.toInt32), (nar .byte c3.toInt8.toInt32)]), (o158, fI "java/util/Optional" sg_2 [(.ref sa159)]), (q164, oA .char [c1, c2, c3]), (a114, oA .char [c0, c1, c2, c3]), (t116, strO b115), (b115, fA .byte [(nar .byte c0.toInt8.toInt32), (nar .byte c1.toInt8.toInt32), (nar .byte c2.toInt8.toInt32), (nar .byte c3.toInt8.toInt32)]), (q117, oA .char [c0, c1, c2, c3]), (aE, fI "java/util/Optional" sg_2 [(.null)])] 10 34 240 #[.val (.int g0), .val (.int g1), .val (.int g2), .val (.int g3), .val (.int g4), .val (.int 4), .val (.ref a114), .val (.ref t116), .val (.int 0), .val (.ref o158), .val (.ref t163)] [(.ref t163), (.ref sa159)] Q_law
      refine wp_virtual (c_seq_3 l Z a0 hw sa159 su160 t163 b162 (nar .byte c1.toInt8.toInt32) (nar .byte c2.toInt8.toInt32) (nar .byte c3.toInt8.toInt32) cp fm [(o158, fI "java/util/Optional" sg_2 [(.ref sa159)]), (q164, oA .char [c1, c2, c3]), (a114, oA .char [c0, c1, c2, c3]), (t116, strO b115), (b115, fA .byte [(nar .byte c0.toInt8.toInt32), (nar .byte c1.toInt8.toInt32), (nar .byte c2.toInt8.toInt32), (nar .byte c3.toInt8.toInt32)]), (q117, oA .char [c0, c1, c2, c3]), (aE, fI "java/util/Optional" sg_2 [(.null)])] hs ) (exa_new (i := 0) rfl) D_240 (gw hw 162 rfl) (gw hw 163 rfl) (gw hw 165 rfl) (gw hw 165 rfl) (gw hw 164 rfl) (gw hw 12 rfl) (gw hw 166 rfl) (by decide) pd_32 rfl rfl rfl (lb rfl) (lb rfl) (lb rfl) (lb rfl) ?_
      rintro _ _ ⟨rfl, rfl⟩
      show W44 l Z room_1 [(sa159, strO su160), (su160, fA .byte [(nar .byte c1.toInt8.toInt32), (nar .byte c2.toInt8.toInt32), (nar .byte c3.toInt8.toInt32)]), (t163, strO b162), (b162, fA .byte [(nar .byte c1.toInt8.toInt32), (nar .byte c2.toInt8.toInt32), (nar .byte c3.toInt8.toInt32)]), (o158, fI "java/util/Optional" sg_2 [(.ref sa159)]), (q164, oA .char [c1, c2, c3]), (a114, oA .char [c0, c1, c2, c3]), (t116, strO b115), (b115, fA .byte [(nar .byte c0.toInt8.toInt32), (nar .byte c1.toInt8.toInt32), (nar .byte c2.toInt8.toInt32), (nar .byte c3.toInt8.toInt32)]), (q117, oA .char [c0, c1, c2, c3]), (aE, fI "java/util/Optional" sg_2 [(.null)])] 10 34 243 #[.val (.int g0), .val (.int g1), .val (.int g2), .val (.int g3), .val (.int g4), .val (.int 4), .val (.ref a114), .val (.ref t116), .val (.int 0), .val (.ref o158), .val (.ref t163)] [(.int 1)] Q_law
      refine wp_if_eq D_243 (pc'' := 250) ⟨by decide, by decide⟩ (fun h166 => by exact absurd h166 (by decide)) (fun h166 => ?_)
      refine wp_iconst 1 D_246 (by decide) ?_
      refine wp_goto D_247 (pc'' := 251) ⟨by decide, by decide⟩ ?_
      refine wp_ireturnN D_251 rfl (by simp) (by decide) (by decide) ?_
      exact rfl
set_option maxRecDepth 65536 in
set_option maxHeartbeats 40000000 in
theorem comes_1 {Post : Tables → Env → Array Value → State → Outcome → State → Prop} (hpost : ∀ tb e args s v u, (limb_1_1.after args s (.returned v) u = true ∧ limb_1_2.after args s (.returned v) u = true ∧ True) → ReturnedEndW s (.returned v) u (Jvm.fieldLocs frame_1_writes args s ++ Jvm.arrayLocs frame_1_arrays args s ++ Jvm.staticLocs frame_1_statics s) 32 2240 → Post tb e args s (.returned v) u) :
    ArmFor flags0 classFile x code maxLocals ret World_1 tables_1 room_1 Calls_1 rest_1 Pre_1 Post := by
  intro l hfl _ _ p e ha hc hk s m args below hf hA hF happ hP
  obtain ⟨hcalls, hrest, hpre⟩ := hP
  obtain ⟨-, -, -, hnamed, -, -, -, hat⟩ := (Spec.applies_iff hf).mp happ
  obtain ⟨hg, hn⟩ := and_e (Cond.before_iff.mp (show (Jvm.Cond.and given_1 narrow_1).before args s = true from hpre))
  obtain ⟨hcnt, hk0⟩ := and_e hg
  obtain ⟨hz0, hk1⟩ := and_e hk0
  obtain ⟨hz1, hk2⟩ := and_e hk1
  obtain ⟨hz2, hk3⟩ := and_e hk2
  obtain ⟨hz3, hk4⟩ := and_e hk3
  have hz4 := hk4
  obtain ⟨w0, w1, w2, w3, w4, rfl⟩ : ∃ w0 w1 w2 w3 w4 : Value, args = #[w0, w1, w2, w3, w4] := by
    have hs : args.size = 5 := by simpa [Cond.value, given_1] using hcnt
    obtain ⟨L⟩ := args
    match L, hs with
    | [w0, w1, w2, w3, w4], _ => exact ⟨w0, w1, w2, w3, w4, rfl⟩
  have hw := fun d (hd : d ∈ tables_1) => atoms_spec (ws := Jvm.Cond.code x code maxLocals ret :: tables_1) hat d (List.mem_cons_of_mem _ hd)
  have hfit : Fit s := fun {y c} hc i hi => by
    obtain ⟨ha, rfl⟩ := Array.getElem?_eq_some_iff.mp hc
    have q := List.all_eq_true.mp ((Array.all_eq_true_iff_forall_mem.mp hF) _ (Array.getElem_mem ha)) i (List.mem_range.mpr hi)
    simpa [Array.getElem?_eq_getElem hi] using q
  obtain ⟨g0, e0⟩ := is_v hz0
  obtain rfl : w0 = (.int g0) := Option.some.inj e0
  obtain ⟨g1, e1⟩ := is_v hz1
  obtain rfl : w1 = (.int g1) := Option.some.inj e1
  obtain ⟨g2, e2⟩ := is_v hz2
  obtain rfl : w2 = (.int g2) := Option.some.inj e2
  obtain ⟨g3, e3⟩ := is_v hz3
  obtain rfl : w3 = (.int g3) := Option.some.inj e3
  obtain ⟨g4, e4⟩ := is_v hz4
  obtain rfl : w4 = (.int g4) := Option.some.inj e4
  obtain ⟨hsets, hown0⟩ := atoms_of _ (rest_1_c_eq ▸ (show rest_1_c.before _ s = true from hrest))
  obtain ⟨cp, ecp⟩ := is_v (Cond.before_iff.mp (hsets _ (List.mem_of_getElem? (i := 1) rfl)))
  have S_cp := Sta.start ecp (Or.inl (hsets _ (List.mem_of_getElem? (i := 0) rfl)))
  have hcw : Jvm.Lit.compactW.before _ s = true := hsets _ (List.mem_of_getElem? (i := 2) rfl)
  have hcp := own_nz ecp hcw
  obtain ⟨fm, efm, hfm⟩ := isR_v (Cond.before_iff.mp (hsets _ (List.mem_of_getElem? (i := 8) rfl)))
  have S_fm := Sta.start efm (Or.inl (hsets _ (List.mem_of_getElem? (i := 7) rfl)))
  have hcs : ∀ p ∈ consts_1, Jvm.Lit.constHeld s p.1 p.2 := hcalls.1
  have hx1 := Cond.before_iff.mp (hsets _ (List.mem_of_getElem? (i := 11) rfl))
  obtain ⟨aE, eE⟩ := exa_v hx1
  have S_E := Sta.start eE (Or.inl (hsets _ (List.mem_of_getElem? (i := 10) rfl)))
  have hx2 := Cond.before_iff.mp (hsets _ (List.mem_of_getElem? (i := 12) rfl))
  have hE : Sat s s.heap aE (.inl ("java/util/Optional", sg_2, [.null])) := own_opt (own_slo_o l s _ hw) (Exa.start eE hx1) eE hx2
  have hm := (law_wp l s _ hw g0 g1 g2 g3 g4 cp fm aE ⟨S_cp, hcp, S_fm, hfm⟩ S_E hE)
  have hch : Good s consts_1 (fun a c => s.heap[a]? = some c) s.vm := Good.start (Jvm.RoadKit.CHv.start (own_EL l s _ hw) (fun p hp => hcs p hp) hcw (gw hw 24 rfl) (gw hw 11 rfl))
  obtain ⟨n, o, h1, h2, h3, v, L, rfl, ⟨N, H', D1, -, -, hQ⟩, hq⟩ := MetI.of_wp (y := x) (as' := [(.int g0), (.int g1), (.int g2), (.int g3), (.int g4)]) pn_37 (fun m => (entry_loc m _ _).trans rfl) (own_EL l s _ hw) hm tables_1 s.heap _ (Hp.nil s) p e ha hc hk s m _ below hf ((Spec.applies_iff_loose hf).mp happ).1 ⟨rfl, State.Warmed39.refl s, rfl, hch⟩ trivial
  obtain rfl : v = some (.int 1) := hQ
  refine ⟨n, _, h1, h2, h3, hpost _ _ _ _ _ _ ⟨Cond.after_iff.mpr rfl, Cond.after_iff.mpr (eq_i res_at (Term.int_eval (1)) rfl), trivial⟩ ⟨hq.1, hq.2.1, hq.2.2.1, (hq.2.2.2.sift fun y hy => Or.inr (N y hy)).mono (by decide) (by decide)⟩⟩
theorem main_1_1 : Claimed_1_1 := comes_1 fun _ _ _ _ _ _ h hF => ⟨h.1, hF⟩
theorem main_1_2 : Claimed_1_2 := comes_1 fun _ _ _ _ _ _ h hF => ⟨h.2.1, hF⟩
end Jvm.Pilot.@@N@@
namespace Jvm.Pilot.@@N@@
open Jvm Jvm.ClassFile Sem Op Lib Jvm.Free Jvm.Stand Jvm.Pilot.@@N@@.Jvm.D
/-! MADE BY PROGRAM (witnessworld.py) out of the Statement's table words and the real class files: 25 classes; the members and pool entries that the words name. The judged class is class 1, her method 1. -/
namespace start1
open Jvm.ClassFile
def u (s : String) : CpInfo := .utf8 (stringToUtf16 s)
/-- a pool by its gaps: so many unusable entries, then the entry; so many at the end -/
def gap : Nat → List CpInfo → List CpInfo
  | 0, r => r
  | n + 1, r => .unusable :: gap n r
def poolList (es : List (Nat × CpInfo)) (last : Nat) : List CpInfo := es.foldr (fun e r => gap e.1 (e.2 :: r)) (gap last [])
def pool (es : List (Nat × CpInfo)) (last : Nat) : Array CpInfo := ⟨poolList es last⟩
def fileOf (pool : Array CpInfo) (this : Nat) (attrs : Array Attribute := #[]) (ms : Array MethodInfo := #[]) (fl : Nat := 33) (sup : Nat := 0) (ifs : Array Nat := #[]) (fds : Array FieldInfo := #[]) : ClassFile where
  minorVersion := 0
  majorVersion := 65
  constantPool := pool
  accessFlags := fl
  thisClass := this
  superClass := sup
  interfaces := ifs
  fields := fds
  methods := ms
  attributes := attrs
def plain (name : String) (sup : Option ClassId) : Class where
  name := name
  kind := .ordinary
  loader := none
  accessFlags := 33
  super := sup
  interfaces := #[]
  cf := none
  fields := #[]
  methods := #[]
  instanceTypes := #[]
  staticTypes := #[]
  resolved := #[]
  callSites := []
  init := .initialized
  statics := none
  mirror := none

def pool0 : Array CpInfo := pool [(5, u "<init>"), (0, u "()V"), (1, .class_ 10), (1, u "java/lang/Object")] 113

def k0c0 : Code := { maxStack := 0, maxLocals := 1, code := object_method_1_code, exceptionTable := #[], attributes := #[] }
def k0m0 : Method := { name := "<init>", desc := "()V", sig := { parameters := [], returnType := none }, accessFlags := 1, code := some k0c0 }
/-- java/lang/Object -/
def k0 : Class := { plain "java/lang/Object" none with
  accessFlags := 33
  interfaces := #[]
  cf := some (fileOf pool0 8 #[] #[{ accessFlags := 1, nameIndex := 5, descriptorIndex := 6, attributes := #[] }] 33 0 #[] #[])
  fields := #[]
  methods := #[k0m0]
  instanceTypes := #[]
  staticTypes := #[]
  resolved := Array.replicate 124 none
  statics := none }

def pool1 : Array CpInfo := pool [(2, .class_ 4), (1, u "java/lang/Object"), (0, u "<init>"), (0, u "()V"), (0, .integer 2147483647), (0, .methodref 9 10), (0, .class_ 11), (0, .nameAndType 12 13), (0, u "com/example/bylint/bylint/description/UriReferencesFragmentPinLaw"), (0, u "ch"), (0, u "(I)C"), (0, .methodref 9 15), (0, .nameAndType 16 17), (0, u "str"), (0, u "(ICCCC)Ljava/lang/String;"), (0, .methodref 19 20), (0, .class_ 21), (0, .nameAndType 22 23), (0, u "com/example/bylint/bylint/description/UriReferences"), (0, u "fragment"), (0, u "(Ljava/lang/String;)Ljava/util/Optional;"), (0, .methodref 25 26), (0, .class_ 27), (0, .nameAndType 28 29), (0, u "java/util/Optional"), (0, u "isPresent"), (0, u "()Z"), (0, .methodref 9 31), (0, .nameAndType 32 33), (0, u "at"), (0, u "([CI)C"), (0, .methodref 25 35), (0, .nameAndType 36 37), (0, u "get"), (0, u "()Ljava/lang/Object;"), (0, .class_ 39), (0, u "java/lang/String"), (0, .methodref 38 41), (0, .nameAndType 42 43), (0, u "equals"), (0, u "(Ljava/lang/Object;)Z"), (0, .integer 65536), (0, .methodref 38 46), (0, .nameAndType 5 47), (0, u "([C)V"), (2, u "law"), (0, u "(IIIII)Z")] 5

def k1m0 : Method := { name := "<init>", desc := "()V", sig := { parameters := [], returnType := none }, accessFlags := 1, code := none }
def k1c1 : Code := { maxStack := 7, maxLocals := 11, code := code, exceptionTable := #[], attributes := #[] }
def k1m1 : Method := { name := "law", desc := "(IIIII)Z", sig := { parameters := [.int, .int, .int, .int, .int], returnType := some .boolean }, accessFlags := 9, code := some k1c1 }
def k1c2 : Code := { maxStack := 2, maxLocals := 1, code := method_3_code, exceptionTable := #[], attributes := #[] }
def k1m2 : Method := { name := "ch", desc := "(I)C", sig := { parameters := [.int], returnType := some .char }, accessFlags := 10, code := some k1c2 }
def k1c3 : Code := { maxStack := 2, maxLocals := 2, code := method_4_code, exceptionTable := #[], attributes := #[] }
def k1m3 : Method := { name := "at", desc := "([CI)C", sig := { parameters := [(.array .char), .int], returnType := some .char }, accessFlags := 10, code := some k1c3 }
def k1c4 : Code := { maxStack := 6, maxLocals := 5, code := method_5_code, exceptionTable := #[], attributes := #[] }
def k1m4 : Method := { name := "str", desc := "(ICCCC)Ljava/lang/String;", sig := { parameters := [.int, .char, .char, .char, .char], returnType := some (.object "java/lang/String") }, accessFlags := 10, code := some k1c4 }
/-- com/example/bylint/bylint/description/UriReferencesFragmentPinLaw -/
def k1 : Class := { plain "com/example/bylint/bylint/description/UriReferencesFragmentPinLaw" (some 0) with
  accessFlags := 49
  interfaces := #[]
  cf := some (fileOf pool1 9 #[] #[{ accessFlags := 1, nameIndex := 5, descriptorIndex := 6, attributes := #[] }, { accessFlags := 9, nameIndex := 50, descriptorIndex := 51, attributes := #[] }, { accessFlags := 10, nameIndex := 12, descriptorIndex := 13, attributes := #[] }, { accessFlags := 10, nameIndex := 32, descriptorIndex := 33, attributes := #[] }, { accessFlags := 10, nameIndex := 16, descriptorIndex := 17, attributes := #[] }] 49 2 #[] #[])
  fields := #[]
  methods := #[k1m0, k1m1, k1m2, k1m3, k1m4]
  instanceTypes := #[]
  staticTypes := #[]
  resolved := Array.replicate 57 none
  statics := none }

def pool2 : Array CpInfo := pool [(1, .class_ 2), (0, u "java/io/Serializable"), (0, .class_ 4), (0, u "java/lang/Object")] 2

/-- java/io/Serializable -/
def k2 : Class := { plain "java/io/Serializable" (some 0) with
  accessFlags := 1537
  interfaces := #[]
  cf := some (fileOf pool2 1 #[] #[] 1537 3 #[] #[])
  fields := #[]
  methods := #[]
  instanceTypes := #[]
  staticTypes := #[]
  resolved := Array.replicate 7 none
  statics := none }

def pool3 : Array CpInfo := pool [(1, .class_ 2), (0, u "java/lang/Comparable"), (0, .class_ 4), (0, u "java/lang/Object")] 7

/-- java/lang/Comparable -/
def k3 : Class := { plain "java/lang/Comparable" (some 0) with
  accessFlags := 1537
  interfaces := #[]
  cf := some (fileOf pool3 1 #[] #[] 1537 3 #[] #[])
  fields := #[]
  methods := #[]
  instanceTypes := #[]
  staticTypes := #[]
  resolved := Array.replicate 12 none
  statics := none }

def pool4 : Array CpInfo := pool [(2, .class_ 4), (1, u "java/lang/CharSequence"), (42, .class_ 48), (0, u "java/lang/CharSequence$1CodePointIterator"), (10, .class_ 60), (0, u "java/lang/CharSequence$1CharIterator"), (5, .class_ 67), (0, u "java/lang/Object")] 63

/-- java/lang/CharSequence -/
def k4 : Class := { plain "java/lang/CharSequence" (some 0) with
  accessFlags := 1537
  interfaces := #[]
  cf := some (fileOf pool4 2 #[.nestMembers #[47, 59]] #[] 1537 66 #[] #[])
  fields := #[]
  methods := #[]
  instanceTypes := #[]
  staticTypes := #[]
  resolved := Array.replicate 131 none
  statics := none }

def pool5 : Array CpInfo := pool [(1, .class_ 2), (0, u "java/lang/constant/Constable"), (0, .class_ 4), (0, u "java/lang/Object")] 6

/-- java/lang/constant/Constable -/
def k5 : Class := { plain "java/lang/constant/Constable" (some 0) with
  accessFlags := 1537
  interfaces := #[]
  cf := some (fileOf pool5 1 #[] #[] 1537 3 #[] #[])
  fields := #[]
  methods := #[]
  instanceTypes := #[]
  staticTypes := #[]
  resolved := Array.replicate 11 none
  statics := none }

def pool6 : Array CpInfo := pool [(1, .class_ 2), (0, u "java/lang/constant/ConstantDesc"), (0, .class_ 4), (0, u "java/lang/Object")] 32

/-- java/lang/constant/ConstantDesc -/
def k6 : Class := { plain "java/lang/constant/ConstantDesc" (some 0) with
  accessFlags := 1537
  interfaces := #[]
  cf := some (fileOf pool6 1 #[] #[] 1537 3 #[] #[])
  fields := #[]
  methods := #[]
  instanceTypes := #[]
  staticTypes := #[]
  resolved := Array.replicate 37 none
  statics := none }

def pool7 : Array CpInfo := pool [(1, .methodref 2 3), (0, .class_ 4), (0, .nameAndType 5 6), (0, u "java/lang/Object"), (0, u "<init>"), (0, u "()V"), (0, .string 8), (0, u ""), (0, .fieldref 10 11), (0, .class_ 12), (0, .nameAndType 13 14), (0, u "java/lang/String"), (0, u "value"), (0, u "[B"), (0, .fieldref 10 16), (0, .nameAndType 17 18), (0, u "coder"), (0, u "B"), (2, u "hash"), (0, u "I"), (2, u "hashIsZero"), (0, u "Z"), (0, .methodref 10 28), (0, .nameAndType 5 29), (0, u "([CIILjava/lang/Void;)V"), (8, .fieldref 10 39), (0, .nameAndType 40 26), (0, u "COMPACT_STRINGS"), (1, .class_ 44), (1, u "java/lang/StringUTF16"), (0, u "compress"), (1, .methodref 42 48), (0, .nameAndType 49 50), (0, u "coderFromArrayLen"), (0, u "([BI)B"), (56, .class_ 109), (1, u "java/lang/StringLatin1"), (32, u "()Z"), (34, .methodref 42 178), (0, .nameAndType 45 179), (0, u "([CII)[B"), (31, u "([BB)V"), (122, u "()I"), (0, .methodref 10 336), (0, .nameAndType 17 337), (0, u "()B"), (154, .methodref 10 493), (0, .nameAndType 494 142), (0, u "isLatin1"), (10, .methodref 10 506), (0, .nameAndType 507 334), (0, u "length"), (5, u "checkFromToIndex"), (7, .methodref 10 522), (0, .nameAndType 523 524), (0, u "checkBoundsBeginEnd"), (0, u "(III)V"), (16, .methodref 107 542), (0, .nameAndType 543 544), (0, u "equals"), (0, u "([B[B)Z"), (28, u "(Ljava/lang/Object;)Z"), (1, .class_ 576), (0, u "java/lang/CharSequence"), (22, u "CASE_INSENSITIVE_ORDER"), (0, u "Ljava/util/Comparator;"), (32, .methodref 10 634), (0, .nameAndType 635 636), (0, u "indexOf"), (0, u "(II)I"), (0, .methodref 107 638), (0, .nameAndType 635 639), (0, u "([BIII)I"), (41, .methodref 10 682), (0, .nameAndType 683 684), (0, u "substring"), (0, u "(II)Ljava/lang/String;"), (0, .methodref 107 686), (0, .nameAndType 687 688), (0, u "newString"), (0, u "([BII)Ljava/lang/String;"), (76, u "(I)I"), (126, u "(I)Ljava/lang/String;"), (117, u "([C)V"), (42, .fieldref 1054 1055), (0, .class_ 1056), (0, .nameAndType 1057 1058), (0, u "jdk/internal/util/Preconditions"), (0, u "SIOOBE_FORMATTER"), (0, u "Ljava/util/function/BiFunction;"), (3, .methodref 1054 1063), (0, .nameAndType 513 1064), (0, u "(IIILjava/util/function/BiFunction;)I"), (36, u "serialPersistentFields"), (0, u "[Ljava/io/ObjectStreamField;"), (0, .class_ 1104), (0, u "java/lang/String$CaseInsensitiveComparator"), (1, .class_ 1107), (0, u "java/io/Serializable"), (0, .class_ 1109), (0, u "java/lang/Comparable"), (0, .class_ 1111), (0, u "java/lang/constant/Constable"), (0, .class_ 1113), (0, u "java/lang/constant/ConstantDesc"), (2, u "serialVersionUID"), (0, u "J"), (3, u "REPL"), (0, u "C"), (2, u "LATIN1"), (1, u "UTF16")] 323

def k7m0 : Method := { name := "<init>", desc := "()V", sig := { parameters := [], returnType := none }, accessFlags := 1, code := none }
def k7c1 : Code := { maxStack := 5, maxLocals := 2, code := jdk_42_method_3_code, exceptionTable := #[], attributes := #[] }
def k7m1 : Method := { name := "<init>", desc := "([C)V", sig := { parameters := [(.array .char)], returnType := none }, accessFlags := 1, code := some k7c1 }
def k7c2 : Code := { maxStack := 2, maxLocals := 1, code := jdk_42_method_54_code, exceptionTable := #[], attributes := #[] }
def k7m2 : Method := { name := "length", desc := "()I", sig := { parameters := [], returnType := some .int }, accessFlags := 1, code := some k7c2 }
def k7c3 : Code := { maxStack := 2, maxLocals := 3, code := jdk_42_method_66_code, exceptionTable := #[], attributes := #[] }
def k7m3 : Method := { name := "equals", desc := "(Ljava/lang/Object;)Z", sig := { parameters := [(.object "java/lang/Object")], returnType := some .boolean }, accessFlags := 1, code := some k7c3 }
def k7c4 : Code := { maxStack := 3, maxLocals := 2, code := jdk_42_method_79_code, exceptionTable := #[], attributes := #[] }
def k7m4 : Method := { name := "indexOf", desc := "(I)I", sig := { parameters := [.int], returnType := some .int }, accessFlags := 1, code := some k7c4 }
def k7c5 : Code := { maxStack := 4, maxLocals := 3, code := jdk_42_method_80_code, exceptionTable := #[], attributes := #[] }
def k7m5 : Method := { name := "indexOf", desc := "(II)I", sig := { parameters := [.int, .int], returnType := some .int }, accessFlags := 1, code := some k7c5 }
def k7c6 : Code := { maxStack := 3, maxLocals := 2, code := jdk_42_method_91_code, exceptionTable := #[], attributes := #[] }
def k7m6 : Method := { name := "substring", desc := "(I)Ljava/lang/String;", sig := { parameters := [.int], returnType := some (.object "java/lang/String") }, accessFlags := 1, code := some k7c6 }
def k7c7 : Code := { maxStack := 3, maxLocals := 5, code := jdk_42_method_92_code, exceptionTable := #[], attributes := #[] }
def k7m7 : Method := { name := "substring", desc := "(II)Ljava/lang/String;", sig := { parameters := [.int, .int], returnType := some (.object "java/lang/String") }, accessFlags := 1, code := some k7c7 }
def k7c8 : Code := { maxStack := 4, maxLocals := 6, code := jdk_42_method_149_code, exceptionTable := #[], attributes := #[] }
def k7m8 : Method := { name := "<init>", desc := "([CIILjava/lang/Void;)V", sig := { parameters := [(.array .char), .int, .int, (.object "java/lang/Void")], returnType := none }, accessFlags := 2, code := some k7c8 }
def k7c9 : Code := { maxStack := 2, maxLocals := 3, code := jdk_42_method_151_code, exceptionTable := #[], attributes := #[] }
def k7m9 : Method := { name := "<init>", desc := "([BB)V", sig := { parameters := [(.array .byte), .byte], returnType := none }, accessFlags := 0, code := some k7c9 }
def k7c10 : Code := { maxStack := 1, maxLocals := 1, code := jdk_42_method_152_code, exceptionTable := #[], attributes := #[] }
def k7m10 : Method := { name := "coder", desc := "()B", sig := { parameters := [], returnType := some .byte }, accessFlags := 0, code := some k7c10 }
def k7c11 : Code := { maxStack := 1, maxLocals := 1, code := jdk_42_method_154_code, exceptionTable := #[], attributes := #[] }
def k7m11 : Method := { name := "isLatin1", desc := "()Z", sig := { parameters := [], returnType := some .boolean }, accessFlags := 0, code := some k7c11 }
def k7c12 : Code := { maxStack := 4, maxLocals := 3, code := jdk_42_method_158_code, exceptionTable := #[], attributes := #[] }
def k7m12 : Method := { name := "checkBoundsBeginEnd", desc := "(III)V", sig := { parameters := [.int, .int, .int], returnType := none }, accessFlags := 8, code := some k7c12 }
/-- java/lang/String -/
def k7 : Class := { plain "java/lang/String" (some 0) with
  accessFlags := 49
  interfaces := #[2, 3, 4, 5, 6]
  cf := some (fileOf pool7 10 #[.nestMembers #[1103]] #[{ accessFlags := 1, nameIndex := 5, descriptorIndex := 6, attributes := #[] }, { accessFlags := 1, nameIndex := 5, descriptorIndex := 1010, attributes := #[] }, { accessFlags := 1, nameIndex := 507, descriptorIndex := 334, attributes := #[] }, { accessFlags := 1, nameIndex := 543, descriptorIndex := 573, attributes := #[] }, { accessFlags := 1, nameIndex := 635, descriptorIndex := 765, attributes := #[] }, { accessFlags := 1, nameIndex := 635, descriptorIndex := 636, attributes := #[] }, { accessFlags := 1, nameIndex := 683, descriptorIndex := 892, attributes := #[] }, { accessFlags := 1, nameIndex := 683, descriptorIndex := 684, attributes := #[] }, { accessFlags := 2, nameIndex := 5, descriptorIndex := 29, attributes := #[] }, { accessFlags := 0, nameIndex := 5, descriptorIndex := 211, attributes := #[] }, { accessFlags := 0, nameIndex := 17, descriptorIndex := 337, attributes := #[] }, { accessFlags := 0, nameIndex := 494, descriptorIndex := 142, attributes := #[] }, { accessFlags := 8, nameIndex := 523, descriptorIndex := 524, attributes := #[] }] 49 2 #[1106, 1108, 575, 1110, 1112] #[{ accessFlags := 18, nameIndex := 13, descriptorIndex := 14, attributes := #[] }, { accessFlags := 18, nameIndex := 17, descriptorIndex := 18, attributes := #[] }, { accessFlags := 2, nameIndex := 21, descriptorIndex := 22, attributes := #[] }, { accessFlags := 2, nameIndex := 25, descriptorIndex := 26, attributes := #[] }, { accessFlags := 26, nameIndex := 1116, descriptorIndex := 1117, attributes := #[] }, { accessFlags := 24, nameIndex := 40, descriptorIndex := 26, attributes := #[] }, { accessFlags := 26, nameIndex := 1101, descriptorIndex := 1102, attributes := #[] }, { accessFlags := 26, nameIndex := 1121, descriptorIndex := 1122, attributes := #[] }, { accessFlags := 25, nameIndex := 599, descriptorIndex := 600, attributes := #[] }, { accessFlags := 24, nameIndex := 1125, descriptorIndex := 18, attributes := #[] }, { accessFlags := 24, nameIndex := 1127, descriptorIndex := 18, attributes := #[] }])
  fields := #[{ name := "value", type := (.array .byte), accessFlags := 18, slot := 0, constantValue := 0 }, { name := "coder", type := .byte, accessFlags := 18, slot := 1, constantValue := 0 }, { name := "hash", type := .int, accessFlags := 2, slot := 2, constantValue := 0 }, { name := "hashIsZero", type := .boolean, accessFlags := 2, slot := 3, constantValue := 0 }, { name := "serialVersionUID", type := .long, accessFlags := 26, slot := 0, constantValue := 0 }, { name := "COMPACT_STRINGS", type := .boolean, accessFlags := 24, slot := 1, constantValue := 0 }, { name := "serialPersistentFields", type := (.array (.object "java/io/ObjectStreamField")), accessFlags := 26, slot := 2, constantValue := 0 }, { name := "REPL", type := .char, accessFlags := 26, slot := 3, constantValue := 0 }, { name := "CASE_INSENSITIVE_ORDER", type := (.object "java/util/Comparator"), accessFlags := 25, slot := 4, constantValue := 0 }, { name := "LATIN1", type := .byte, accessFlags := 24, slot := 5, constantValue := 0 }, { name := "UTF16", type := .byte, accessFlags := 24, slot := 6, constantValue := 0 }]
  methods := #[k7m0, k7m1, k7m2, k7m3, k7m4, k7m5, k7m6, k7m7, k7m8, k7m9, k7m10, k7m11, k7m12]
  instanceTypes := #[(.array .byte), .byte, .int, .boolean]
  staticTypes := #[.long, .boolean, (.array (.object "java/io/ObjectStreamField")), .char, (.object "java/util/Comparator"), .byte, .byte]
  resolved := Array.replicate 1451 none
  statics := some 0 }

def pool8 : Array CpInfo := pool [(2, .class_ 4), (1, u "java/lang/Object"), (0, u "<init>"), (0, u "()V"), (1, .class_ 10), (1, u "com/example/bylint/bylint/description/UriReferences$Parts"), (0, u "of"), (2, .class_ 16), (1, u "com/example/bylint/bylint/description/UriReferences"), (13, .methodref 31 32), (0, .class_ 33), (0, .nameAndType 34 35), (0, u "java/util/Optional"), (0, u "empty"), (0, u "()Ljava/util/Optional;"), (0, .methodref 31 37), (0, .nameAndType 11 38), (0, u "(Ljava/lang/Object;)Ljava/util/Optional;"), (16, .class_ 57), (1, u "java/lang/String"), (14, u "fragment"), (0, .methodref 55 74), (0, .nameAndType 75 76), (0, u "indexOf"), (0, u "(I)I"), (2, u "substring"), (1, .methodref 55 82), (0, .nameAndType 79 83), (0, u "(I)Ljava/lang/String;"), (12, u "(Ljava/lang/String;)Ljava/util/Optional;"), (181, u "PARTS"), (0, u "Ljava/util/regex/Pattern;"), (0, u "UNRESERVED"), (0, u "Ljava/lang/String;"), (1, u "RESERVED")] 34

def k8m0 : Method := { name := "<init>", desc := "()V", sig := { parameters := [], returnType := none }, accessFlags := 2, code := none }
def k8c1 : Code := { maxStack := 3, maxLocals := 2, code := prog_9_method_6_code, exceptionTable := #[], attributes := #[] }
def k8m1 : Method := { name := "fragment", desc := "(Ljava/lang/String;)Ljava/util/Optional;", sig := { parameters := [(.object "java/lang/String")], returnType := some (.object "java/util/Optional") }, accessFlags := 8, code := some k8c1 }
/-- com/example/bylint/bylint/description/UriReferences -/
def k8 : Class := { plain "com/example/bylint/bylint/description/UriReferences" (some 0) with
  accessFlags := 32
  interfaces := #[]
  cf := some (fileOf pool8 14 #[.nestMembers #[8]] #[{ accessFlags := 2, nameIndex := 5, descriptorIndex := 6, attributes := #[] }, { accessFlags := 8, nameIndex := 72, descriptorIndex := 96, attributes := #[] }] 32 2 #[] #[{ accessFlags := 26, nameIndex := 278, descriptorIndex := 279, attributes := #[] }, { accessFlags := 26, nameIndex := 280, descriptorIndex := 281, attributes := #[] }, { accessFlags := 26, nameIndex := 283, descriptorIndex := 281, attributes := #[] }])
  fields := #[{ name := "PARTS", type := (.object "java/util/regex/Pattern"), accessFlags := 26, slot := 0, constantValue := 0 }, { name := "UNRESERVED", type := (.object "java/lang/String"), accessFlags := 26, slot := 1, constantValue := 0 }, { name := "RESERVED", type := (.object "java/lang/String"), accessFlags := 26, slot := 2, constantValue := 0 }]
  methods := #[k8m0, k8m1]
  instanceTypes := #[]
  staticTypes := #[(.object "java/util/regex/Pattern"), (.object "java/lang/String"), (.object "java/lang/String")]
  resolved := Array.replicate 318 none
  statics := none }

def pool9 : Array CpInfo := pool [(1, .class_ 2), (0, u "java/lang/String"), (1, .class_ 6), (1, u "java/lang/Object"), (0, u "<init>"), (0, u "()V"), (5, .class_ 16), (1, u "java/lang/StringLatin1"), (21, .methodref 39 40), (0, .class_ 41), (0, .nameAndType 42 43), (0, u "java/lang/Math"), (0, u "min"), (0, u "(II)I"), (44, .methodref 14 89), (0, .nameAndType 90 91), (0, u "canEncode"), (0, u "(I)Z"), (0, .methodref 39 93), (0, .nameAndType 94 43), (0, u "max"), (0, .methodref 14 96), (0, .nameAndType 97 98), (0, u "indexOfChar"), (0, u "([BIII)I"), (2, u "indexOf"), (10, .methodref 1 113), (0, .nameAndType 7 114), (0, u "([BB)V"), (6, u "$assertionsDisabled"), (0, u "Z"), (8, .class_ 133), (1, u "java/util/Arrays"), (17, .string 152), (0, u ""), (43, u "newString"), (0, u "([BII)Ljava/lang/String;"), (23, .class_ 223), (1, u "java/lang/StringLatin1$LinesSpliterator"), (8, .methodref 131 233), (0, .nameAndType 234 235), (0, u "copyOfRange"), (0, u "([BII)[B"), (45, u "equals"), (0, u "([B[B)Z"), (107, .class_ 391), (0, u "java/lang/StringLatin1$CharsSpliterator")] 3

def k9m0 : Method := { name := "<init>", desc := "()V", sig := { parameters := [], returnType := none }, accessFlags := 0, code := none }
def k9c1 : Code := { maxStack := 2, maxLocals := 1, code := jdk_43_method_4_code, exceptionTable := #[], attributes := #[] }
def k9m1 : Method := { name := "canEncode", desc := "(I)Z", sig := { parameters := [.int], returnType := some .boolean }, accessFlags := 9, code := some k9c1 }
def k9c2 : Code := { maxStack := 3, maxLocals := 3, code := jdk_43_method_13_code, exceptionTable := #[], attributes := #[] }
def k9m2 : Method := { name := "equals", desc := "([B[B)Z", sig := { parameters := [(.array .byte), (.array .byte)], returnType := some .boolean }, accessFlags := 9, code := some k9c2 }
def k9c3 : Code := { maxStack := 4, maxLocals := 4, code := jdk_43_method_22_code, exceptionTable := #[], attributes := #[] }
def k9m3 : Method := { name := "indexOf", desc := "([BIII)I", sig := { parameters := [(.array .byte), .int, .int, .int], returnType := some .int }, accessFlags := 9, code := some k9c3 }
def k9c4 : Code := { maxStack := 2, maxLocals := 6, code := jdk_43_method_23_code, exceptionTable := #[], attributes := #[] }
def k9m4 : Method := { name := "indexOfChar", desc := "([BIII)I", sig := { parameters := [(.array .byte), .int, .int, .int], returnType := some .int }, accessFlags := 10, code := some k9c4 }
def k9c5 : Code := { maxStack := 6, maxLocals := 3, code := jdk_43_method_47_code, exceptionTable := #[], attributes := #[] }
def k9m5 : Method := { name := "newString", desc := "([BII)Ljava/lang/String;", sig := { parameters := [(.array .byte), .int, .int], returnType := some (.object "java/lang/String") }, accessFlags := 9, code := some k9c5 }
/-- java/lang/StringLatin1 -/
def k9 : Class := { plain "java/lang/StringLatin1" (some 0) with
  accessFlags := 48
  interfaces := #[]
  cf := some (fileOf pool9 14 #[.nestMembers #[390, 221]] #[{ accessFlags := 0, nameIndex := 7, descriptorIndex := 8, attributes := #[] }, { accessFlags := 9, nameIndex := 90, descriptorIndex := 91, attributes := #[] }, { accessFlags := 9, nameIndex := 281, descriptorIndex := 282, attributes := #[] }, { accessFlags := 9, nameIndex := 101, descriptorIndex := 98, attributes := #[] }, { accessFlags := 10, nameIndex := 97, descriptorIndex := 98, attributes := #[] }, { accessFlags := 9, nameIndex := 196, descriptorIndex := 197, attributes := #[] }] 48 4 #[] #[{ accessFlags := 4120, nameIndex := 121, descriptorIndex := 122, attributes := #[] }])
  fields := #[{ name := "$assertionsDisabled", type := .boolean, accessFlags := 4120, slot := 0, constantValue := 0 }]
  methods := #[k9m0, k9m1, k9m2, k9m3, k9m4, k9m5]
  instanceTypes := #[]
  staticTypes := #[.boolean]
  resolved := Array.replicate 395 none
  statics := none }

def pool10 : Array CpInfo := pool [(1, .class_ 2), (0, u "java/lang/Math"), (1, .class_ 6), (1, u "java/lang/Object"), (0, u "<init>"), (0, u "()V"), (89, .class_ 100), (1, u "java/lang/Math$RandomNumberGeneratorHolder"), (71, u "negativeZeroFloatBits"), (0, u "J"), (2, u "negativeZeroDoubleBits"), (21, u "max"), (2, u "min"), (43, u "$assertionsDisabled"), (0, u "Z"), (88, u "(II)I"), (2, u "twoToTheDoubleScaleDown"), (0, u "D"), (4, u "twoToTheDoubleScaleUp"), (9, u "E"), (3, u "PI"), (2, u "TAU"), (2, u "DEGREES_TO_RADIANS"), (0, u "RADIANS_TO_DEGREES")] 94

def k10m0 : Method := { name := "<init>", desc := "()V", sig := { parameters := [], returnType := none }, accessFlags := 2, code := none }
def k10c1 : Code := { maxStack := 2, maxLocals := 2, code := jdk_29_method_65_code, exceptionTable := #[], attributes := #[] }
def k10m1 : Method := { name := "max", desc := "(II)I", sig := { parameters := [.int, .int], returnType := some .int }, accessFlags := 9, code := some k10c1 }
def k10c2 : Code := { maxStack := 2, maxLocals := 2, code := jdk_29_method_69_code, exceptionTable := #[], attributes := #[] }
def k10m2 : Method := { name := "min", desc := "(II)I", sig := { parameters := [.int, .int], returnType := some .int }, accessFlags := 9, code := some k10c2 }
/-- java/lang/Math -/
def k10 : Class := { plain "java/lang/Math" (some 0) with
  accessFlags := 49
  interfaces := #[]
  cf := some (fileOf pool10 1 #[.nestMembers #[98]] #[{ accessFlags := 2, nameIndex := 7, descriptorIndex := 8, attributes := #[] }, { accessFlags := 9, nameIndex := 198, descriptorIndex := 335, attributes := #[] }, { accessFlags := 9, nameIndex := 201, descriptorIndex := 335, attributes := #[] }] 49 4 #[] #[{ accessFlags := 25, nameIndex := 354, descriptorIndex := 339, attributes := #[] }, { accessFlags := 25, nameIndex := 358, descriptorIndex := 339, attributes := #[] }, { accessFlags := 25, nameIndex := 361, descriptorIndex := 339, attributes := #[] }, { accessFlags := 26, nameIndex := 364, descriptorIndex := 339, attributes := #[] }, { accessFlags := 26, nameIndex := 365, descriptorIndex := 339, attributes := #[] }, { accessFlags := 26, nameIndex := 172, descriptorIndex := 173, attributes := #[] }, { accessFlags := 26, nameIndex := 176, descriptorIndex := 173, attributes := #[] }, { accessFlags := 8, nameIndex := 344, descriptorIndex := 339, attributes := #[] }, { accessFlags := 8, nameIndex := 338, descriptorIndex := 339, attributes := #[] }, { accessFlags := 4120, nameIndex := 245, descriptorIndex := 246, attributes := #[] }])
  fields := #[{ name := "E", type := .double, accessFlags := 25, slot := 0, constantValue := 0 }, { name := "PI", type := .double, accessFlags := 25, slot := 1, constantValue := 0 }, { name := "TAU", type := .double, accessFlags := 25, slot := 2, constantValue := 0 }, { name := "DEGREES_TO_RADIANS", type := .double, accessFlags := 26, slot := 3, constantValue := 0 }, { name := "RADIANS_TO_DEGREES", type := .double, accessFlags := 26, slot := 4, constantValue := 0 }, { name := "negativeZeroFloatBits", type := .long, accessFlags := 26, slot := 5, constantValue := 0 }, { name := "negativeZeroDoubleBits", type := .long, accessFlags := 26, slot := 6, constantValue := 0 }, { name := "twoToTheDoubleScaleUp", type := .double, accessFlags := 8, slot := 7, constantValue := 0 }, { name := "twoToTheDoubleScaleDown", type := .double, accessFlags := 8, slot := 8, constantValue := 0 }, { name := "$assertionsDisabled", type := .boolean, accessFlags := 4120, slot := 9, constantValue := 0 }]
  methods := #[k10m0, k10m1, k10m2]
  instanceTypes := #[]
  staticTypes := #[.double, .double, .double, .double, .double, .long, .long, .double, .double, .boolean]
  resolved := Array.replicate 460 none
  statics := none }

def pool11 : Array CpInfo := pool [(1, .fieldref 2 3), (0, .class_ 4), (0, .nameAndType 5 6), (0, u "java/util/Optional"), (0, u "EMPTY"), (0, u "Ljava/util/Optional;"), (0, .methodref 8 9), (0, .class_ 10), (0, .nameAndType 11 12), (0, u "java/lang/Object"), (0, u "<init>"), (0, u "()V"), (0, .fieldref 2 14), (0, .nameAndType 15 16), (0, u "value"), (0, u "Ljava/lang/Object;"), (0, .methodref 18 19), (0, .class_ 20), (0, .nameAndType 21 22), (0, u "java/util/Objects"), (0, u "requireNonNull"), (0, u "(Ljava/lang/Object;)Ljava/lang/Object;"), (0, .methodref 2 24), (0, .nameAndType 11 25), (0, u "(Ljava/lang/Object;)V"), (20, u "()Z"), (8, u "empty"), (0, u "()Ljava/util/Optional;"), (8, u "(Ljava/lang/Object;)Ljava/util/Optional;"), (2, u "isPresent"), (4, u "get"), (0, u "()Ljava/lang/Object;"), (7, u "of")] 104

def k11c0 : Code := { maxStack := 1, maxLocals := 1, code := jdk_32_method_1_code, exceptionTable := #[], attributes := #[] }
def k11m0 : Method := { name := "empty", desc := "()Ljava/util/Optional;", sig := { parameters := [], returnType := some (.object "java/util/Optional") }, accessFlags := 9, code := some k11c0 }
def k11c1 : Code := { maxStack := 2, maxLocals := 2, code := jdk_32_method_2_code, exceptionTable := #[], attributes := #[] }
def k11m1 : Method := { name := "<init>", desc := "(Ljava/lang/Object;)V", sig := { parameters := [(.object "java/lang/Object")], returnType := none }, accessFlags := 2, code := some k11c1 }
def k11c2 : Code := { maxStack := 3, maxLocals := 1, code := jdk_32_method_3_code, exceptionTable := #[], attributes := #[] }
def k11m2 : Method := { name := "of", desc := "(Ljava/lang/Object;)Ljava/util/Optional;", sig := { parameters := [(.object "java/lang/Object")], returnType := some (.object "java/util/Optional") }, accessFlags := 9, code := some k11c2 }
def k11c3 : Code := { maxStack := 3, maxLocals := 1, code := jdk_32_method_5_code, exceptionTable := #[], attributes := #[] }
def k11m3 : Method := { name := "get", desc := "()Ljava/lang/Object;", sig := { parameters := [], returnType := some (.object "java/lang/Object") }, accessFlags := 1, code := some k11c3 }
def k11c4 : Code := { maxStack := 1, maxLocals := 1, code := jdk_32_method_6_code, exceptionTable := #[], attributes := #[] }
def k11m4 : Method := { name := "isPresent", desc := "()Z", sig := { parameters := [], returnType := some .boolean }, accessFlags := 1, code := some k11c4 }
/-- java/util/Optional -/
def k11 : Class := { plain "java/util/Optional" (some 0) with
  accessFlags := 49
  interfaces := #[]
  cf := some (fileOf pool11 2 #[] #[{ accessFlags := 9, nameIndex := 55, descriptorIndex := 56, attributes := #[] }, { accessFlags := 2, nameIndex := 11, descriptorIndex := 25, attributes := #[] }, { accessFlags := 9, nameIndex := 82, descriptorIndex := 65, attributes := #[] }, { accessFlags := 1, nameIndex := 73, descriptorIndex := 74, attributes := #[] }, { accessFlags := 1, nameIndex := 68, descriptorIndex := 46, attributes := #[] }] 49 8 #[] #[{ accessFlags := 26, nameIndex := 5, descriptorIndex := 6, attributes := #[] }, { accessFlags := 18, nameIndex := 15, descriptorIndex := 16, attributes := #[] }])
  fields := #[{ name := "EMPTY", type := (.object "java/util/Optional"), accessFlags := 26, slot := 0, constantValue := 0 }, { name := "value", type := (.object "java/lang/Object"), accessFlags := 18, slot := 0, constantValue := 0 }]
  methods := #[k11m0, k11m1, k11m2, k11m3, k11m4]
  instanceTypes := #[(.object "java/lang/Object")]
  staticTypes := #[(.object "java/util/Optional")]
  resolved := Array.replicate 187 none
  statics := some 1 }

def pool12 : Array CpInfo := pool [(6, .class_ 8), (1, u "java/lang/Object"), (0, u "<init>"), (0, u "()V"), (1, .class_ 14), (1, u "java/lang/StringUTF16"), (31, u "$assertionsDisabled"), (0, u "Z"), (13, u "HI_BYTE_SHIFT"), (0, u "I"), (2, u "LO_BYTE_SHIFT"), (49, .methodref 12 116), (0, .nameAndType 117 118), (0, u "compress"), (0, u "([CI[BII)I"), (3, u "([CII)[B"), (138, u "coderFromArrayLen"), (0, u "([BI)B"), (106, .class_ 371), (1, u "java/lang/StringUTF16$LinesSpliterator"), (58, u "MAX_LENGTH"), (196, .class_ 628), (0, u "java/lang/StringUTF16$CodePointsSpliterator"), (0, .class_ 630), (0, u "java/lang/StringUTF16$CharsSpliterator")] 4

def k12m0 : Method := { name := "<init>", desc := "()V", sig := { parameters := [], returnType := none }, accessFlags := 0, code := none }
def k12c1 : Code := { maxStack := 2, maxLocals := 2, code := jdk_52_method_15_code, exceptionTable := #[], attributes := #[] }
def k12m1 : Method := { name := "coderFromArrayLen", desc := "([BI)B", sig := { parameters := [(.array .byte), .int], returnType := some .byte }, accessFlags := 8, code := some k12c1 }
def k12c2 : Code := { maxStack := 5, maxLocals := 6, code := jdk_52_method_16_code, exceptionTable := #[], attributes := #[] }
def k12m2 : Method := { name := "compress", desc := "([CII)[B", sig := { parameters := [(.array .char), .int, .int], returnType := some (.array .byte) }, accessFlags := 9, code := some k12c2 }
def k12c3 : Code := { maxStack := 3, maxLocals := 7, code := jdk_52_method_21_code, exceptionTable := #[], attributes := #[] }
def k12m3 : Method := { name := "compress", desc := "([CI[BII)I", sig := { parameters := [(.array .char), .int, (.array .byte), .int, .int], returnType := some .int }, accessFlags := 9, code := some k12c3 }
/-- java/lang/StringUTF16 -/
def k12 : Class := { plain "java/lang/StringUTF16" (some 0) with
  accessFlags := 48
  interfaces := #[]
  cf := some (fileOf pool12 12 #[.nestMembers #[627, 629, 369]] #[{ accessFlags := 0, nameIndex := 9, descriptorIndex := 10, attributes := #[] }, { accessFlags := 8, nameIndex := 261, descriptorIndex := 262, attributes := #[] }, { accessFlags := 9, nameIndex := 117, descriptorIndex := 122, attributes := #[] }, { accessFlags := 9, nameIndex := 117, descriptorIndex := 118, attributes := #[] }] 48 6 #[] #[{ accessFlags := 26, nameIndex := 61, descriptorIndex := 62, attributes := #[] }, { accessFlags := 26, nameIndex := 65, descriptorIndex := 62, attributes := #[] }, { accessFlags := 24, nameIndex := 430, descriptorIndex := 62, attributes := #[] }, { accessFlags := 4120, nameIndex := 46, descriptorIndex := 47, attributes := #[] }])
  fields := #[{ name := "HI_BYTE_SHIFT", type := .int, accessFlags := 26, slot := 0, constantValue := 0 }, { name := "LO_BYTE_SHIFT", type := .int, accessFlags := 26, slot := 1, constantValue := 0 }, { name := "MAX_LENGTH", type := .int, accessFlags := 24, slot := 2, constantValue := 0 }, { name := "$assertionsDisabled", type := .boolean, accessFlags := 4120, slot := 3, constantValue := 0 }]
  methods := #[k12m0, k12m1, k12m2, k12m3]
  instanceTypes := #[]
  staticTypes := #[.int, .int, .int, .boolean]
  resolved := Array.replicate 635 none
  statics := none }

def pool13 : Array CpInfo := pool [(2, .class_ 4), (1, u "java/lang/Object"), (0, u "<init>"), (0, u "()V"), (17, .class_ 26), (1, u "jdk/internal/util/Preconditions"), (20, u "checkFromToIndex"), (7, .class_ 56), (0, u "jdk/internal/util/Preconditions$4"), (57, .class_ 115), (0, u "jdk/internal/util/Preconditions$1"), (7, u "SIOOBE_FORMATTER"), (0, u "Ljava/util/function/BiFunction;"), (0, .class_ 126), (0, u "jdk/internal/util/Preconditions$2"), (3, u "AIOOBE_FORMATTER"), (0, .class_ 132), (0, u "jdk/internal/util/Preconditions$3"), (3, u "IOOBE_FORMATTER"), (46, u "(IIILjava/util/function/BiFunction;)I")] 10

def k13m0 : Method := { name := "<init>", desc := "()V", sig := { parameters := [], returnType := none }, accessFlags := 1, code := none }
def k13c1 : Code := { maxStack := 4, maxLocals := 4, code := jdk_41_method_12_code, exceptionTable := #[], attributes := #[] }
def k13m1 : Method := { name := "checkFromToIndex", desc := "(IIILjava/util/function/BiFunction;)I", sig := { parameters := [.int, .int, .int, (.object "java/util/function/BiFunction")], returnType := some .int }, accessFlags := 9, code := some k13c1 }
/-- jdk/internal/util/Preconditions -/
def k13 : Class := { plain "jdk/internal/util/Preconditions" (some 0) with
  accessFlags := 33
  interfaces := #[]
  cf := some (fileOf pool13 24 #[.nestMembers #[55, 131, 125, 114]] #[{ accessFlags := 1, nameIndex := 5, descriptorIndex := 6, attributes := #[] }, { accessFlags := 9, nameIndex := 47, descriptorIndex := 183, attributes := #[] }] 33 2 #[] #[{ accessFlags := 25, nameIndex := 123, descriptorIndex := 124, attributes := #[] }, { accessFlags := 25, nameIndex := 130, descriptorIndex := 124, attributes := #[] }, { accessFlags := 25, nameIndex := 136, descriptorIndex := 124, attributes := #[] }])
  fields := #[{ name := "SIOOBE_FORMATTER", type := (.object "java/util/function/BiFunction"), accessFlags := 25, slot := 0, constantValue := 0 }, { name := "AIOOBE_FORMATTER", type := (.object "java/util/function/BiFunction"), accessFlags := 25, slot := 1, constantValue := 0 }, { name := "IOOBE_FORMATTER", type := (.object "java/util/function/BiFunction"), accessFlags := 25, slot := 2, constantValue := 0 }]
  methods := #[k13m0, k13m1]
  instanceTypes := #[]
  staticTypes := #[(.object "java/util/function/BiFunction"), (.object "java/util/function/BiFunction"), (.object "java/util/function/BiFunction")]
  resolved := Array.replicate 194 none
  statics := some 2 }

def pool14 : Array CpInfo := pool [(2, .class_ 4), (1, u "java/lang/Object"), (0, u "<init>"), (0, u "()V"), (7, .class_ 16), (1, u "java/util/Arrays"), (57, .class_ 76), (1, u "java/util/Arrays$NaturalOrder"), (36, .class_ 115), (1, u "java/util/Arrays$LegacyMergeSort"), (1, u "Z"), (21, u "copyOfRange"), (10, .methodref 151 152), (0, .class_ 153), (0, .nameAndType 154 155), (0, u "java/lang/System"), (0, u "arraycopy"), (0, u "(Ljava/lang/Object;ILjava/lang/Object;II)V"), (148, .methodref 305 306), (0, .class_ 307), (0, .nameAndType 308 309), (0, u "java/lang/Math"), (0, u "min"), (0, u "(II)I"), (29, .methodref 14 340), (0, .nameAndType 341 342), (0, u "copyOfRangeByte"), (0, u "([BII)[B"), (0, .methodref 14 344), (0, .nameAndType 345 346), (0, u "checkLength"), (0, u "(II)V"), (28, .class_ 376), (0, u "java/util/Arrays$ArrayList"), (68, u "$assertionsDisabled"), (269, u "MIN_ARRAY_SORT_GRAN"), (0, u "I"), (2, u "INSERTIONSORT_THRESHOLD"), (255, .class_ 976), (0, u "java/util/Arrays$ArrayItr")] 52

def k14m0 : Method := { name := "<init>", desc := "()V", sig := { parameters := [], returnType := none }, accessFlags := 2, code := none }
def k14c1 : Code := { maxStack := 4, maxLocals := 2, code := jdk_65_method_131_code, exceptionTable := #[], attributes := #[] }
def k14m1 : Method := { name := "checkLength", desc := "(II)V", sig := { parameters := [.int, .int], returnType := none }, accessFlags := 10, code := some k14c1 }
def k14c2 : Code := { maxStack := 3, maxLocals := 3, code := jdk_65_method_132_code, exceptionTable := #[], attributes := #[] }
def k14m2 : Method := { name := "copyOfRange", desc := "([BII)[B", sig := { parameters := [(.array .byte), .int, .int], returnType := some (.array .byte) }, accessFlags := 9, code := some k14c2 }
def k14c3 : Code := { maxStack := 6, maxLocals := 5, code := jdk_65_method_133_code, exceptionTable := #[], attributes := #[] }
def k14m3 : Method := { name := "copyOfRangeByte", desc := "([BII)[B", sig := { parameters := [(.array .byte), .int, .int], returnType := some (.array .byte) }, accessFlags := 10, code := some k14c3 }
/-- java/util/Arrays -/
def k14 : Class := { plain "java/util/Arrays" (some 0) with
  accessFlags := 49
  interfaces := #[]
  cf := some (fileOf pool14 14 #[.nestMembers #[975, 375, 113, 74]] #[{ accessFlags := 2, nameIndex := 5, descriptorIndex := 6, attributes := #[] }, { accessFlags := 10, nameIndex := 345, descriptorIndex := 346, attributes := #[] }, { accessFlags := 9, nameIndex := 139, descriptorIndex := 342, attributes := #[] }, { accessFlags := 10, nameIndex := 341, descriptorIndex := 342, attributes := #[] }] 49 2 #[] #[{ accessFlags := 26, nameIndex := 715, descriptorIndex := 716, attributes := #[] }, { accessFlags := 26, nameIndex := 719, descriptorIndex := 716, attributes := #[] }, { accessFlags := 4120, nameIndex := 445, descriptorIndex := 117, attributes := #[] }])
  fields := #[{ name := "MIN_ARRAY_SORT_GRAN", type := .int, accessFlags := 26, slot := 0, constantValue := 0 }, { name := "INSERTIONSORT_THRESHOLD", type := .int, accessFlags := 26, slot := 1, constantValue := 0 }, { name := "$assertionsDisabled", type := .boolean, accessFlags := 4120, slot := 2, constantValue := 0 }]
  methods := #[k14m0, k14m1, k14m2, k14m3]
  instanceTypes := #[]
  staticTypes := #[.int, .int, .boolean]
  resolved := Array.replicate 1029 none
  statics := none }

def pool15 : Array CpInfo := pool [(2, .class_ 4), (1, u "java/lang/Object"), (0, u "<init>"), (0, u "()V"), (1, .class_ 10), (1, u "java/lang/System"), (0, u "allowSecurityManager"), (0, u "I"), (16, u "cons"), (0, u "Ljava/io/Console;"), (77, .class_ 110), (1, u "java/lang/System$CallersHolder"), (43, u "initialErrStream"), (0, u "Ljava/io/PrintStream;"), (19, u "security"), (0, u "Ljava/lang/SecurityManager;"), (31, .class_ 209), (0, u "java/lang/System$1"), (7, u "props"), (0, u "Ljava/util/Properties;"), (2, u "lineSeparator"), (0, u "Ljava/lang/String;"), (96, .class_ 321), (1, u "java/lang/System$LoggerFinder"), (5, .class_ 328), (0, u "java/lang/System$Logger"), (67, u "err"), (2, u "out"), (91, u "notSupportedJnuEncoding"), (15, u "in"), (17, u "initialIn"), (0, u "Ljava/io/InputStream;"), (35, u "bootLayer"), (0, u "Ljava/lang/ModuleLayer;"), (99, .class_ 664), (0, u "java/lang/System$2"), (9, u "NEVER"), (2, u "MAYBE"), (49, u "arraycopy"), (0, u "(Ljava/lang/Object;ILjava/lang/Object;II)V"), (72, .class_ 802), (0, u "java/lang/System$Logger$Level")] 31

def k15m0 : Method := { name := "<init>", desc := "()V", sig := { parameters := [], returnType := none }, accessFlags := 2, code := none }
def k15m1 : Method := { name := "arraycopy", desc := "(Ljava/lang/Object;ILjava/lang/Object;II)V", sig := { parameters := [(.object "java/lang/Object"), .int, (.object "java/lang/Object"), .int, .int], returnType := none }, accessFlags := 265, code := none }
/-- java/lang/System -/
def k15 : Class := { plain "java/lang/System" (some 0) with
  accessFlags := 49
  interfaces := #[]
  cf := some (fileOf pool15 8 #[.nestMembers #[319, 327, 801, 108, 663, 208]] #[{ accessFlags := 2, nameIndex := 5, descriptorIndex := 6, attributes := #[] }, { accessFlags := 265, nameIndex := 727, descriptorIndex := 728, attributes := #[] }] 49 2 #[] #[{ accessFlags := 25, nameIndex := 507, descriptorIndex := 526, attributes := #[] }, { accessFlags := 25, nameIndex := 399, descriptorIndex := 155, attributes := #[] }, { accessFlags := 25, nameIndex := 396, descriptorIndex := 155, attributes := #[] }, { accessFlags := 10, nameIndex := 525, descriptorIndex := 526, attributes := #[] }, { accessFlags := 26, nameIndex := 674, descriptorIndex := 12, attributes := #[] }, { accessFlags := 26, nameIndex := 677, descriptorIndex := 12, attributes := #[] }, { accessFlags := 10, nameIndex := 11, descriptorIndex := 12, attributes := #[] }, { accessFlags := 74, nameIndex := 175, descriptorIndex := 176, attributes := #[] }, { accessFlags := 10, nameIndex := 491, descriptorIndex := 222, attributes := #[] }, { accessFlags := 74, nameIndex := 29, descriptorIndex := 30, attributes := #[] }, { accessFlags := 74, nameIndex := 154, descriptorIndex := 155, attributes := #[] }, { accessFlags := 10, nameIndex := 217, descriptorIndex := 218, attributes := #[] }, { accessFlags := 10, nameIndex := 221, descriptorIndex := 222, attributes := #[] }, { accessFlags := 8, nameIndex := 562, descriptorIndex := 563, attributes := #[] }])
  fields := #[{ name := "in", type := (.object "java/io/InputStream"), accessFlags := 25, slot := 0, constantValue := 0 }, { name := "out", type := (.object "java/io/PrintStream"), accessFlags := 25, slot := 1, constantValue := 0 }, { name := "err", type := (.object "java/io/PrintStream"), accessFlags := 25, slot := 2, constantValue := 0 }, { name := "initialIn", type := (.object "java/io/InputStream"), accessFlags := 10, slot := 3, constantValue := 0 }, { name := "NEVER", type := .int, accessFlags := 26, slot := 4, constantValue := 0 }, { name := "MAYBE", type := .int, accessFlags := 26, slot := 5, constantValue := 0 }, { name := "allowSecurityManager", type := .int, accessFlags := 10, slot := 6, constantValue := 0 }, { name := "security", type := (.object "java/lang/SecurityManager"), accessFlags := 74, slot := 7, constantValue := 0 }, { name := "notSupportedJnuEncoding", type := (.object "java/lang/String"), accessFlags := 10, slot := 8, constantValue := 0 }, { name := "cons", type := (.object "java/io/Console"), accessFlags := 74, slot := 9, constantValue := 0 }, { name := "initialErrStream", type := (.object "java/io/PrintStream"), accessFlags := 74, slot := 10, constantValue := 0 }, { name := "props", type := (.object "java/util/Properties"), accessFlags := 10, slot := 11, constantValue := 0 }, { name := "lineSeparator", type := (.object "java/lang/String"), accessFlags := 10, slot := 12, constantValue := 0 }, { name := "bootLayer", type := (.object "java/lang/ModuleLayer"), accessFlags := 8, slot := 13, constantValue := 0 }]
  methods := #[k15m0, k15m1]
  instanceTypes := #[]
  staticTypes := #[(.object "java/io/InputStream"), (.object "java/io/PrintStream"), (.object "java/io/PrintStream"), (.object "java/io/InputStream"), .int, .int, .int, (.object "java/lang/SecurityManager"), (.object "java/lang/String"), (.object "java/io/Console"), (.object "java/io/PrintStream"), (.object "java/util/Properties"), (.object "java/lang/String"), (.object "java/lang/ModuleLayer")]
  resolved := Array.replicate 834 none
  statics := none }

def pool16 : Array CpInfo := pool [(2, .class_ 4), (1, u "java/lang/Object"), (0, u "<init>"), (0, u "()V"), (35, .class_ 44), (1, u "java/util/Objects"), (0, u "requireNonNull"), (0, u "(Ljava/lang/Object;)Ljava/lang/Object;")] 137

def k16m0 : Method := { name := "<init>", desc := "()V", sig := { parameters := [], returnType := none }, accessFlags := 2, code := none }
def k16c1 : Code := { maxStack := 2, maxLocals := 1, code := jdk_31_method_10_code, exceptionTable := #[], attributes := #[] }
def k16m1 : Method := { name := "requireNonNull", desc := "(Ljava/lang/Object;)Ljava/lang/Object;", sig := { parameters := [(.object "java/lang/Object")], returnType := some (.object "java/lang/Object") }, accessFlags := 9, code := some k16c1 }
/-- java/util/Objects -/
def k16 : Class := { plain "java/util/Objects" (some 0) with
  accessFlags := 49
  interfaces := #[]
  cf := some (fileOf pool16 42 #[] #[{ accessFlags := 2, nameIndex := 5, descriptorIndex := 6, attributes := #[] }, { accessFlags := 9, nameIndex := 45, descriptorIndex := 46, attributes := #[] }] 49 2 #[] #[])
  fields := #[]
  methods := #[k16m0, k16m1]
  instanceTypes := #[]
  staticTypes := #[]
  resolved := Array.replicate 184 none
  statics := none }

def pool17 : Array CpInfo := pool [(9, u "<init>"), (6, .class_ 18), (1, u "java/lang/Object"), (0, u "()V"), (1, .class_ 23), (1, u "jdk/internal/util/ArraysSupport"), (0, u "LOG2_ARRAY_LONG_INDEX_SCALE"), (0, u "I"), (2, u "U"), (0, u "Ljdk/internal/misc/Unsafe;"), (8, u "BIG_ENDIAN"), (0, u "Z"), (8, u "LOG2_BYTE_BIT_SIZE"), (4, u "LOG2_ARRAY_INT_INDEX_SCALE"), (54, u "JLA"), (0, u "Ljdk/internal/access/JavaLangAccess;"), (11, u "LOG2_ARRAY_BOOLEAN_INDEX_SCALE"), (9, u "LOG2_ARRAY_BYTE_INDEX_SCALE"), (5, u "LOG2_ARRAY_CHAR_INDEX_SCALE"), (5, u "LOG2_ARRAY_SHORT_INDEX_SCALE"), (18, u "LOG2_ARRAY_FLOAT_INDEX_SCALE"), (24, u "LOG2_ARRAY_DOUBLE_INDEX_SCALE"), (89, u "T_BOOLEAN"), (2, u "T_CHAR"), (1, u "T_FLOAT"), (1, u "T_DOUBLE"), (1, u "T_BYTE"), (1, u "T_SHORT"), (1, u "T_INT"), (1, u "T_LONG"), (1, u "SOFT_MAX_ARRAY_LENGTH")] 83

def k17m0 : Method := { name := "<init>", desc := "()V", sig := { parameters := [], returnType := none }, accessFlags := 2, code := none }
/-- jdk/internal/util/ArraysSupport -/
def k17 : Class := { plain "jdk/internal/util/ArraysSupport" (some 0) with
  accessFlags := 33
  interfaces := #[]
  cf := some (fileOf pool17 21 #[] #[{ accessFlags := 2, nameIndex := 9, descriptorIndex := 19, attributes := #[] }] 33 16 #[] #[{ accessFlags := 24, nameIndex := 28, descriptorIndex := 29, attributes := #[] }, { accessFlags := 26, nameIndex := 38, descriptorIndex := 39, attributes := #[] }, { accessFlags := 25, nameIndex := 121, descriptorIndex := 25, attributes := #[] }, { accessFlags := 25, nameIndex := 131, descriptorIndex := 25, attributes := #[] }, { accessFlags := 25, nameIndex := 137, descriptorIndex := 25, attributes := #[] }, { accessFlags := 25, nameIndex := 143, descriptorIndex := 25, attributes := #[] }, { accessFlags := 25, nameIndex := 53, descriptorIndex := 25, attributes := #[] }, { accessFlags := 25, nameIndex := 24, descriptorIndex := 25, attributes := #[] }, { accessFlags := 25, nameIndex := 162, descriptorIndex := 25, attributes := #[] }, { accessFlags := 25, nameIndex := 187, descriptorIndex := 25, attributes := #[] }, { accessFlags := 26, nameIndex := 48, descriptorIndex := 25, attributes := #[] }, { accessFlags := 25, nameIndex := 277, descriptorIndex := 25, attributes := #[] }, { accessFlags := 25, nameIndex := 280, descriptorIndex := 25, attributes := #[] }, { accessFlags := 25, nameIndex := 282, descriptorIndex := 25, attributes := #[] }, { accessFlags := 25, nameIndex := 284, descriptorIndex := 25, attributes := #[] }, { accessFlags := 25, nameIndex := 286, descriptorIndex := 25, attributes := #[] }, { accessFlags := 25, nameIndex := 288, descriptorIndex := 25, attributes := #[] }, { accessFlags := 25, nameIndex := 290, descriptorIndex := 25, attributes := #[] }, { accessFlags := 25, nameIndex := 292, descriptorIndex := 25, attributes := #[] }, { accessFlags := 26, nameIndex := 108, descriptorIndex := 109, attributes := #[] }, { accessFlags := 25, nameIndex := 294, descriptorIndex := 25, attributes := #[] }])
  fields := #[{ name := "U", type := (.object "jdk/internal/misc/Unsafe"), accessFlags := 24, slot := 0, constantValue := 0 }, { name := "BIG_ENDIAN", type := .boolean, accessFlags := 26, slot := 1, constantValue := 0 }, { name := "LOG2_ARRAY_BOOLEAN_INDEX_SCALE", type := .int, accessFlags := 25, slot := 2, constantValue := 0 }, { name := "LOG2_ARRAY_BYTE_INDEX_SCALE", type := .int, accessFlags := 25, slot := 3, constantValue := 0 }, { name := "LOG2_ARRAY_CHAR_INDEX_SCALE", type := .int, accessFlags := 25, slot := 4, constantValue := 0 }, { name := "LOG2_ARRAY_SHORT_INDEX_SCALE", type := .int, accessFlags := 25, slot := 5, constantValue := 0 }, { name := "LOG2_ARRAY_INT_INDEX_SCALE", type := .int, accessFlags := 25, slot := 6, constantValue := 0 }, { name := "LOG2_ARRAY_LONG_INDEX_SCALE", type := .int, accessFlags := 25, slot := 7, constantValue := 0 }, { name := "LOG2_ARRAY_FLOAT_INDEX_SCALE", type := .int, accessFlags := 25, slot := 8, constantValue := 0 }, { name := "LOG2_ARRAY_DOUBLE_INDEX_SCALE", type := .int, accessFlags := 25, slot := 9, constantValue := 0 }, { name := "LOG2_BYTE_BIT_SIZE", type := .int, accessFlags := 26, slot := 10, constantValue := 0 }, { name := "T_BOOLEAN", type := .int, accessFlags := 25, slot := 11, constantValue := 0 }, { name := "T_CHAR", type := .int, accessFlags := 25, slot := 12, constantValue := 0 }, { name := "T_FLOAT", type := .int, accessFlags := 25, slot := 13, constantValue := 0 }, { name := "T_DOUBLE", type := .int, accessFlags := 25, slot := 14, constantValue := 0 }, { name := "T_BYTE", type := .int, accessFlags := 25, slot := 15, constantValue := 0 }, { name := "T_SHORT", type := .int, accessFlags := 25, slot := 16, constantValue := 0 }, { name := "T_INT", type := .int, accessFlags := 25, slot := 17, constantValue := 0 }, { name := "T_LONG", type := .int, accessFlags := 25, slot := 18, constantValue := 0 }, { name := "JLA", type := (.object "jdk/internal/access/JavaLangAccess"), accessFlags := 26, slot := 19, constantValue := 0 }, { name := "SOFT_MAX_ARRAY_LENGTH", type := .int, accessFlags := 25, slot := 20, constantValue := 0 }]
  methods := #[k17m0]
  instanceTypes := #[]
  staticTypes := #[(.object "jdk/internal/misc/Unsafe"), .boolean, .int, .int, .int, .int, .int, .int, .int, .int, .int, .int, .int, .int, .int, .int, .int, .int, .int, (.object "jdk/internal/access/JavaLangAccess"), .int]
  resolved := Array.replicate 378 none
  statics := none }

def pool18 : Array CpInfo := pool [(1, u "java/lang/Cloneable"), (0, .class_ 1), (0, u "java/lang/Object"), (0, .class_ 3)] 3

/-- java/lang/Cloneable -/
def k18 : Class := { plain "java/lang/Cloneable" (some 0) with
  accessFlags := 1537
  interfaces := #[]
  cf := some (fileOf pool18 2 #[] #[] 1537 4 #[] #[])
  fields := #[]
  methods := #[]
  instanceTypes := #[]
  staticTypes := #[]
  resolved := Array.replicate 8 none
  statics := none }

/-- the primitive byte -/
def k19 : Class := { plain "byte" none with kind := .primitive 'B', accessFlags := 0x411 }
/-- [B -/
def k20 : Class := { plain "[B" (some 0) with kind := .array 19 .byte, interfaces := #[18, 2], accessFlags := 1041 }

/-- the primitive char -/
def k21 : Class := { plain "char" none with kind := .primitive 'C', accessFlags := 0x411 }
/-- [C -/
def k22 : Class := { plain "[C" (some 0) with kind := .array 21 .char, interfaces := #[18, 2], accessFlags := 1041 }

/-- the primitive int -/
def k23 : Class := { plain "int" none with kind := .primitive 'I', accessFlags := 0x411 }
/-- [I -/
def k24 : Class := { plain "[I" (some 0) with kind := .array 23 .int, interfaces := #[18, 2], accessFlags := 1041 }

def heap : Heap := #[{ cls := 7, slots := #[.long 0, .int 1, .null, .int 0, .null, .int 0, .int 0], vm := .statics 7 },
  { cls := 11, slots := #[.ref 3], vm := .statics 11 },
  { cls := 13, slots := #[.null, .null, .null], vm := .statics 13 },
  { cls := 11, slots := #[.null], vm := .none }]
def classes : Array Class := #[k0, k1, k2, k3, k4, k5, k6, k7, k8, k9, k10, k11, k12, k13, k14, k15, k16, k17, k18, k19, k20, k21, k22, k23, k24]
def interned : List (Array UInt16 × Addr) := []
def slotsUsed : Nat := 12
def theMethod : MethodId := ⟨1, 1⟩
def args0 : Array Value := #[.int 5, .int 5, .int 5, .int 5, .int 5]
def aboutOver (below : List Frame) : State where
  vm := { classes := classes, interned := interned.toArray }
  heap := heap
  slotsUsed := slotsUsed
  threads := #[{ frames := .invoking theMethod args0 :: below }]
def below0 : List Frame := [.native { method := ⟨0, 0⟩, args := #[] }]
def about1 : State := aboutOver below0
def p0 : Program := .bare "" "" ""
def e0 : Env := launch0.env 0 0 0
theorem w_frames : about1.frames = Frame.invoking theMethod args0 :: below0 := rfl
set_option maxRecDepth 65536 in
theorem w_args : argsFit about1.vm theMethod args0 = true := by decide +kernel
set_option maxRecDepth 65536 in
theorem w_heap : heapFits about1 = true := by decide +kernel
set_option maxRecDepth 65536 in
theorem w_runnable : about1.curStatus? = some .runnable := by decide +kernel
set_option maxRecDepth 65536 in
theorem w_alone : about1.alone = true := by decide +kernel
set_option maxRecDepth 65536 in
theorem w_named : about1.methodNamed? x = some theMethod := by decide +kernel
set_option maxRecDepth 65536 in
theorem w_hears : about1.hears theMethod below0 = true := by decide +kernel
set_option maxRecDepth 65536 in
theorem w_ripe : about1.ripe theMethod args0 below0 = true := by decide +kernel
theorem w_running : about1.status = .running := rfl
set_option maxRecDepth 65536 in
theorem w_room : about1.hasRoom e0.platform room_1 = true :=
  launch0.hasRoom_least _ room_1 (by decide +kernel) (by decide +kernel) (by decide +kernel) (by decide +kernel) (by decide +kernel) (by decide +kernel)
theorem allAtoms_all (ts : List Jvm.Cond) (a : Array Jvm.Value) (st : Jvm.State) : (allAtoms ts).before a st = ts.all (fun c => c.before a st) := by
  induction ts with
  | nil => rfl
  | cons c t ih =>
    show (Jvm.Cond.and c (allAtoms t)).before a st = _
    rw [Jvm.Cond.before_and, ih, List.all_cons]
def words1 : List Jvm.Cond := Jvm.Cond.code x code maxLocals ret :: tables_1
/-- a 'code' word, met by the world's own term for the bytes: nothing is compared byte by byte -/
theorem code_word {y : MethodName} {bytes : ByteArray} {mx : Nat} {rt : Option FieldType} {a : Array Value} {s : State} {m : MethodId} {meth : Method} {c : Code} (h1 : s.methodNamed? y = some m) (h2 : s.vm.method? m = some meth) (h3 : meth.code = some c) (h4 : c.code = bytes)
    (h5 : (c.maxLocals == mx && c.exceptionTable.isEmpty && decide (c.maxStack ≤ mostOperands) && decide (meth.sig.returnType = rt) && !meth.locks && decide (parseMethodDescriptor y.desc = some meth.sig)) = true) : (Jvm.Cond.code y bytes mx rt).before a s = true := by
  simp only [Bool.and_eq_true, beq_iff_eq, Bool.not_eq_true', decide_eq_true_eq] at h5
  obtain ⟨⟨⟨⟨⟨g1, g2⟩, g3⟩, g4⟩, g5⟩, g6⟩ := h5
  simp [Cond.before, Cond.holds, Cond.value, h1, h2, h3, h4, g1, g2, g3, g4, g5, g6]
def isCode : Jvm.Cond → Bool
  | .code _ _ _ _ => true
  | _ => false
theorem all_split {L : List Jvm.Cond} {P : Jvm.Cond → Bool} (h1 : L.all (fun c => isCode c || P c) = true) (h2 : ∀ c ∈ L.filter isCode, P c = true) : L.all P = true := by
  refine List.all_eq_true.mpr fun c hc => ?_
  have h := List.all_eq_true.mp h1 c hc
  rcases Bool.eq_false_or_eq_true (isCode c) with hi | hi
  · exact h2 c (List.mem_filter.mpr ⟨hc, hi⟩)
  · simpa [hi] using h
set_option maxRecDepth 65536 in
theorem w_c0 : (Jvm.Cond.code x code maxLocals ret).before args0 about1 = true := code_word (m := ⟨1, 1⟩) (meth := k1m1) (c := k1c1) (by decide +kernel) rfl rfl rfl (by decide +kernel)
set_option maxRecDepth 65536 in
theorem w_c1 : (Jvm.Cond.code ({ cls := "com/example/bylint/bylint/description/UriReferencesFragmentPinLaw", name := "ch", desc := "(I)C" } : Jvm.MethodName) method_3_code (1 : Nat) (Option.some Jvm.ClassFile.FieldType.char)).before args0 about1 = true := code_word (m := ⟨1, 2⟩) (meth := k1m2) (c := k1c2) (by decide +kernel) rfl rfl rfl (by decide +kernel)
set_option maxRecDepth 65536 in
theorem w_c2 : (Jvm.Cond.code ({ cls := "com/example/bylint/bylint/description/UriReferencesFragmentPinLaw", name := "str", desc := "(ICCCC)Ljava/lang/String;" } : Jvm.MethodName) method_5_code (5 : Nat) (Option.some (Jvm.ClassFile.FieldType.object "java/lang/String"))).before args0 about1 = true := code_word (m := ⟨1, 4⟩) (meth := k1m4) (c := k1c4) (by decide +kernel) rfl rfl rfl (by decide +kernel)
set_option maxRecDepth 65536 in
theorem w_c3 : (Jvm.Cond.code ({ cls := "java/lang/String", name := "<init>", desc := "([C)V" } : Jvm.MethodName) jdk_42_method_3_code (2 : Nat) (Option.none : Option Jvm.ClassFile.FieldType)).before args0 about1 = true := code_word (m := ⟨7, 1⟩) (meth := k7m1) (c := k7c1) (by decide +kernel) rfl rfl rfl (by decide +kernel)
set_option maxRecDepth 65536 in
theorem w_c4 : (Jvm.Cond.code ({ cls := "java/lang/String", name := "<init>", desc := "([CIILjava/lang/Void;)V" } : Jvm.MethodName) jdk_42_method_149_code (6 : Nat) (Option.none : Option Jvm.ClassFile.FieldType)).before args0 about1 = true := code_word (m := ⟨7, 8⟩) (meth := k7m8) (c := k7c8) (by decide +kernel) rfl rfl rfl (by decide +kernel)
set_option maxRecDepth 65536 in
theorem w_c5 : (Jvm.Cond.code ({ cls := "java/lang/Object", name := "<init>", desc := "()V" } : Jvm.MethodName) object_method_1_code (1 : Nat) (Option.none : Option Jvm.ClassFile.FieldType)).before args0 about1 = true := code_word (m := ⟨0, 0⟩) (meth := k0m0) (c := k0c0) (by decide +kernel) rfl rfl rfl (by decide +kernel)
set_option maxRecDepth 65536 in
theorem w_c6 : (Jvm.Cond.code ({ cls := "com/example/bylint/bylint/description/UriReferences", name := "fragment", desc := "(Ljava/lang/String;)Ljava/util/Optional;" } : Jvm.MethodName) prog_9_method_6_code (2 : Nat) (Option.some (Jvm.ClassFile.FieldType.object "java/util/Optional"))).before args0 about1 = true := code_word (m := ⟨8, 1⟩) (meth := k8m1) (c := k8c1) (by decide +kernel) rfl rfl rfl (by decide +kernel)
set_option maxRecDepth 65536 in
theorem w_c7 : (Jvm.Cond.code ({ cls := "java/lang/String", name := "indexOf", desc := "(I)I" } : Jvm.MethodName) jdk_42_method_79_code (2 : Nat) (Option.some Jvm.ClassFile.FieldType.int)).before args0 about1 = true := code_word (m := ⟨7, 4⟩) (meth := k7m4) (c := k7c4) (by decide +kernel) rfl rfl rfl (by decide +kernel)
set_option maxRecDepth 65536 in
theorem w_c8 : (Jvm.Cond.code ({ cls := "java/lang/String", name := "indexOf", desc := "(II)I" } : Jvm.MethodName) jdk_42_method_80_code (3 : Nat) (Option.some Jvm.ClassFile.FieldType.int)).before args0 about1 = true := code_word (m := ⟨7, 5⟩) (meth := k7m5) (c := k7c5) (by decide +kernel) rfl rfl rfl (by decide +kernel)
set_option maxRecDepth 65536 in
theorem w_c9 : (Jvm.Cond.code ({ cls := "java/lang/String", name := "isLatin1", desc := "()Z" } : Jvm.MethodName) jdk_42_method_154_code (1 : Nat) (Option.some Jvm.ClassFile.FieldType.boolean)).before args0 about1 = true := code_word (m := ⟨7, 11⟩) (meth := k7m11) (c := k7c11) (by decide +kernel) rfl rfl rfl (by decide +kernel)
set_option maxRecDepth 65536 in
theorem w_c10 : (Jvm.Cond.code ({ cls := "java/lang/String", name := "length", desc := "()I" } : Jvm.MethodName) jdk_42_method_54_code (1 : Nat) (Option.some Jvm.ClassFile.FieldType.int)).before args0 about1 = true := code_word (m := ⟨7, 2⟩) (meth := k7m2) (c := k7c2) (by decide +kernel) rfl rfl rfl (by decide +kernel)
set_option maxRecDepth 65536 in
theorem w_c11 : (Jvm.Cond.code ({ cls := "java/lang/String", name := "coder", desc := "()B" } : Jvm.MethodName) jdk_42_method_152_code (1 : Nat) (Option.some Jvm.ClassFile.FieldType.byte)).before args0 about1 = true := code_word (m := ⟨7, 10⟩) (meth := k7m10) (c := k7c10) (by decide +kernel) rfl rfl rfl (by decide +kernel)
set_option maxRecDepth 65536 in
theorem w_c12 : (Jvm.Cond.code ({ cls := "java/lang/StringLatin1", name := "indexOf", desc := "([BIII)I" } : Jvm.MethodName) jdk_43_method_22_code (4 : Nat) (Option.some Jvm.ClassFile.FieldType.int)).before args0 about1 = true := code_word (m := ⟨9, 3⟩) (meth := k9m3) (c := k9c3) (by decide +kernel) rfl rfl rfl (by decide +kernel)
set_option maxRecDepth 65536 in
theorem w_c13 : (Jvm.Cond.code ({ cls := "java/lang/StringLatin1", name := "canEncode", desc := "(I)Z" } : Jvm.MethodName) jdk_43_method_4_code (1 : Nat) (Option.some Jvm.ClassFile.FieldType.boolean)).before args0 about1 = true := code_word (m := ⟨9, 1⟩) (meth := k9m1) (c := k9c1) (by decide +kernel) rfl rfl rfl (by decide +kernel)
set_option maxRecDepth 65536 in
theorem w_c14 : (Jvm.Cond.code ({ cls := "java/lang/Math", name := "max", desc := "(II)I" } : Jvm.MethodName) jdk_29_method_65_code (2 : Nat) (Option.some Jvm.ClassFile.FieldType.int)).before args0 about1 = true := code_word (m := ⟨10, 1⟩) (meth := k10m1) (c := k10c1) (by decide +kernel) rfl rfl rfl (by decide +kernel)
set_option maxRecDepth 65536 in
theorem w_c15 : (Jvm.Cond.code ({ cls := "java/lang/Math", name := "min", desc := "(II)I" } : Jvm.MethodName) jdk_29_method_69_code (2 : Nat) (Option.some Jvm.ClassFile.FieldType.int)).before args0 about1 = true := code_word (m := ⟨10, 2⟩) (meth := k10m2) (c := k10c2) (by decide +kernel) rfl rfl rfl (by decide +kernel)
set_option maxRecDepth 65536 in
theorem w_c16 : (Jvm.Cond.code ({ cls := "java/util/Optional", name := "empty", desc := "()Ljava/util/Optional;" } : Jvm.MethodName) jdk_32_method_1_code (1 : Nat) (Option.some (Jvm.ClassFile.FieldType.object "java/util/Optional"))).before args0 about1 = true := code_word (m := ⟨11, 0⟩) (meth := k11m0) (c := k11c0) (by decide +kernel) rfl rfl rfl (by decide +kernel)
set_option maxRecDepth 65536 in
theorem w_c17 : (Jvm.Cond.code ({ cls := "java/util/Optional", name := "isPresent", desc := "()Z" } : Jvm.MethodName) jdk_32_method_6_code (1 : Nat) (Option.some Jvm.ClassFile.FieldType.boolean)).before args0 about1 = true := code_word (m := ⟨11, 4⟩) (meth := k11m4) (c := k11c4) (by decide +kernel) rfl rfl rfl (by decide +kernel)
set_option maxRecDepth 65536 in
theorem w_c18 : (Jvm.Cond.code ({ cls := "java/lang/StringUTF16", name := "compress", desc := "([CII)[B" } : Jvm.MethodName) jdk_52_method_16_code (6 : Nat) (Option.some (Jvm.ClassFile.FieldType.array Jvm.ClassFile.FieldType.byte))).before args0 about1 = true := code_word (m := ⟨12, 2⟩) (meth := k12m2) (c := k12c2) (by decide +kernel) rfl rfl rfl (by decide +kernel)
set_option maxRecDepth 65536 in
theorem w_c19 : (Jvm.Cond.code ({ cls := "java/lang/StringUTF16", name := "compress", desc := "([CI[BII)I" } : Jvm.MethodName) jdk_52_method_21_code (7 : Nat) (Option.some Jvm.ClassFile.FieldType.int)).before args0 about1 = true := code_word (m := ⟨12, 3⟩) (meth := k12m3) (c := k12c3) (by decide +kernel) rfl rfl rfl (by decide +kernel)
set_option maxRecDepth 65536 in
theorem w_c20 : (Jvm.Cond.code ({ cls := "java/lang/StringUTF16", name := "coderFromArrayLen", desc := "([BI)B" } : Jvm.MethodName) jdk_52_method_15_code (2 : Nat) (Option.some Jvm.ClassFile.FieldType.byte)).before args0 about1 = true := code_word (m := ⟨12, 1⟩) (meth := k12m1) (c := k12c1) (by decide +kernel) rfl rfl rfl (by decide +kernel)
set_option maxRecDepth 65536 in
theorem w_c21 : (Jvm.Cond.code ({ cls := "java/lang/StringLatin1", name := "indexOfChar", desc := "([BIII)I" } : Jvm.MethodName) jdk_43_method_23_code (6 : Nat) (Option.some Jvm.ClassFile.FieldType.int)).before args0 about1 = true := code_word (m := ⟨9, 4⟩) (meth := k9m4) (c := k9c4) (by decide +kernel) rfl rfl rfl (by decide +kernel)
set_option maxRecDepth 65536 in
theorem w_c22 : (Jvm.Cond.code ({ cls := "java/lang/String", name := "substring", desc := "(I)Ljava/lang/String;" } : Jvm.MethodName) jdk_42_method_91_code (2 : Nat) (Option.some (Jvm.ClassFile.FieldType.object "java/lang/String"))).before args0 about1 = true := code_word (m := ⟨7, 6⟩) (meth := k7m6) (c := k7c6) (by decide +kernel) rfl rfl rfl (by decide +kernel)
set_option maxRecDepth 65536 in
theorem w_c23 : (Jvm.Cond.code ({ cls := "java/lang/String", name := "substring", desc := "(II)Ljava/lang/String;" } : Jvm.MethodName) jdk_42_method_92_code (5 : Nat) (Option.some (Jvm.ClassFile.FieldType.object "java/lang/String"))).before args0 about1 = true := code_word (m := ⟨7, 7⟩) (meth := k7m7) (c := k7c7) (by decide +kernel) rfl rfl rfl (by decide +kernel)
set_option maxRecDepth 65536 in
theorem w_c24 : (Jvm.Cond.code ({ cls := "java/lang/String", name := "checkBoundsBeginEnd", desc := "(III)V" } : Jvm.MethodName) jdk_42_method_158_code (3 : Nat) (Option.none : Option Jvm.ClassFile.FieldType)).before args0 about1 = true := code_word (m := ⟨7, 12⟩) (meth := k7m12) (c := k7c12) (by decide +kernel) rfl rfl rfl (by decide +kernel)
set_option maxRecDepth 65536 in
theorem w_c25 : (Jvm.Cond.code ({ cls := "jdk/internal/util/Preconditions", name := "checkFromToIndex", desc := "(IIILjava/util/function/BiFunction;)I" } : Jvm.MethodName) jdk_41_method_12_code (4 : Nat) (Option.some Jvm.ClassFile.FieldType.int)).before args0 about1 = true := code_word (m := ⟨13, 1⟩) (meth := k13m1) (c := k13c1) (by decide +kernel) rfl rfl rfl (by decide +kernel)
set_option maxRecDepth 65536 in
theorem w_c26 : (Jvm.Cond.code ({ cls := "java/lang/StringLatin1", name := "newString", desc := "([BII)Ljava/lang/String;" } : Jvm.MethodName) jdk_43_method_47_code (3 : Nat) (Option.some (Jvm.ClassFile.FieldType.object "java/lang/String"))).before args0 about1 = true := code_word (m := ⟨9, 5⟩) (meth := k9m5) (c := k9c5) (by decide +kernel) rfl rfl rfl (by decide +kernel)
set_option maxRecDepth 65536 in
theorem w_c27 : (Jvm.Cond.code ({ cls := "java/util/Arrays", name := "copyOfRange", desc := "([BII)[B" } : Jvm.MethodName) jdk_65_method_132_code (3 : Nat) (Option.some (Jvm.ClassFile.FieldType.array Jvm.ClassFile.FieldType.byte))).before args0 about1 = true := code_word (m := ⟨14, 2⟩) (meth := k14m2) (c := k14c2) (by decide +kernel) rfl rfl rfl (by decide +kernel)
set_option maxRecDepth 65536 in
theorem w_c28 : (Jvm.Cond.code ({ cls := "java/util/Arrays", name := "copyOfRangeByte", desc := "([BII)[B" } : Jvm.MethodName) jdk_65_method_133_code (5 : Nat) (Option.some (Jvm.ClassFile.FieldType.array Jvm.ClassFile.FieldType.byte))).before args0 about1 = true := code_word (m := ⟨14, 3⟩) (meth := k14m3) (c := k14c3) (by decide +kernel) rfl rfl rfl (by decide +kernel)
set_option maxRecDepth 65536 in
theorem w_c29 : (Jvm.Cond.code ({ cls := "java/util/Arrays", name := "checkLength", desc := "(II)V" } : Jvm.MethodName) jdk_65_method_131_code (2 : Nat) (Option.none : Option Jvm.ClassFile.FieldType)).before args0 about1 = true := code_word (m := ⟨14, 1⟩) (meth := k14m1) (c := k14c1) (by decide +kernel) rfl rfl rfl (by decide +kernel)
set_option maxRecDepth 65536 in
theorem w_c30 : (Jvm.Cond.code ({ cls := "java/lang/String", name := "<init>", desc := "([BB)V" } : Jvm.MethodName) jdk_42_method_151_code (3 : Nat) (Option.none : Option Jvm.ClassFile.FieldType)).before args0 about1 = true := code_word (m := ⟨7, 9⟩) (meth := k7m9) (c := k7c9) (by decide +kernel) rfl rfl rfl (by decide +kernel)
set_option maxRecDepth 65536 in
theorem w_c31 : (Jvm.Cond.code ({ cls := "java/util/Optional", name := "of", desc := "(Ljava/lang/Object;)Ljava/util/Optional;" } : Jvm.MethodName) jdk_32_method_3_code (1 : Nat) (Option.some (Jvm.ClassFile.FieldType.object "java/util/Optional"))).before args0 about1 = true := code_word (m := ⟨11, 2⟩) (meth := k11m2) (c := k11c2) (by decide +kernel) rfl rfl rfl (by decide +kernel)
set_option maxRecDepth 65536 in
theorem w_c32 : (Jvm.Cond.code ({ cls := "java/util/Objects", name := "requireNonNull", desc := "(Ljava/lang/Object;)Ljava/lang/Object;" } : Jvm.MethodName) jdk_31_method_10_code (1 : Nat) (Option.some (Jvm.ClassFile.FieldType.object "java/lang/Object"))).before args0 about1 = true := code_word (m := ⟨16, 1⟩) (meth := k16m1) (c := k16c1) (by decide +kernel) rfl rfl rfl (by decide +kernel)
set_option maxRecDepth 65536 in
theorem w_c33 : (Jvm.Cond.code ({ cls := "java/util/Optional", name := "<init>", desc := "(Ljava/lang/Object;)V" } : Jvm.MethodName) jdk_32_method_2_code (2 : Nat) (Option.none : Option Jvm.ClassFile.FieldType)).before args0 about1 = true := code_word (m := ⟨11, 1⟩) (meth := k11m1) (c := k11c1) (by decide +kernel) rfl rfl rfl (by decide +kernel)
set_option maxRecDepth 65536 in
theorem w_c34 : (Jvm.Cond.code ({ cls := "com/example/bylint/bylint/description/UriReferencesFragmentPinLaw", name := "at", desc := "([CI)C" } : Jvm.MethodName) method_4_code (2 : Nat) (Option.some Jvm.ClassFile.FieldType.char)).before args0 about1 = true := code_word (m := ⟨1, 3⟩) (meth := k1m3) (c := k1c3) (by decide +kernel) rfl rfl rfl (by decide +kernel)
set_option maxRecDepth 65536 in
theorem w_c35 : (Jvm.Cond.code ({ cls := "java/util/Optional", name := "get", desc := "()Ljava/lang/Object;" } : Jvm.MethodName) jdk_32_method_5_code (1 : Nat) (Option.some (Jvm.ClassFile.FieldType.object "java/lang/Object"))).before args0 about1 = true := code_word (m := ⟨11, 3⟩) (meth := k11m3) (c := k11c3) (by decide +kernel) rfl rfl rfl (by decide +kernel)
set_option maxRecDepth 65536 in
theorem w_c36 : (Jvm.Cond.code ({ cls := "java/lang/String", name := "equals", desc := "(Ljava/lang/Object;)Z" } : Jvm.MethodName) jdk_42_method_66_code (3 : Nat) (Option.some Jvm.ClassFile.FieldType.boolean)).before args0 about1 = true := code_word (m := ⟨7, 3⟩) (meth := k7m3) (c := k7c3) (by decide +kernel) rfl rfl rfl (by decide +kernel)
set_option maxRecDepth 65536 in
theorem w_c37 : (Jvm.Cond.code ({ cls := "java/lang/StringLatin1", name := "equals", desc := "([B[B)Z" } : Jvm.MethodName) jdk_43_method_13_code (3 : Nat) (Option.some Jvm.ClassFile.FieldType.boolean)).before args0 about1 = true := code_word (m := ⟨9, 2⟩) (meth := k9m2) (c := k9c2) (by decide +kernel) rfl rfl rfl (by decide +kernel)
def codes1 : List Jvm.Cond := [Jvm.Cond.code x code maxLocals ret, Jvm.Cond.code ({ cls := "com/example/bylint/bylint/description/UriReferencesFragmentPinLaw", name := "ch", desc := "(I)C" } : Jvm.MethodName) method_3_code (1 : Nat) (Option.some Jvm.ClassFile.FieldType.char), Jvm.Cond.code ({ cls := "com/example/bylint/bylint/description/UriReferencesFragmentPinLaw", name := "str", desc := "(ICCCC)Ljava/lang/String;" } : Jvm.MethodName) method_5_code (5 : Nat) (Option.some (Jvm.ClassFile.FieldType.object "java/lang/String")), Jvm.Cond.code ({ cls := "java/lang/String", name := "<init>", desc := "([C)V" } : Jvm.MethodName) jdk_42_method_3_code (2 : Nat) (Option.none : Option Jvm.ClassFile.FieldType), Jvm.Cond.code ({ cls := "java/lang/String", name := "<init>", desc := "([CIILjava/lang/Void;)V" } : Jvm.MethodName) jdk_42_method_149_code (6 : Nat) (Option.none : Option Jvm.ClassFile.FieldType), Jvm.Cond.code ({ cls := "java/lang/Object", name := "<init>", desc := "()V" } : Jvm.MethodName) object_method_1_code (1 : Nat) (Option.none : Option Jvm.ClassFile.FieldType), Jvm.Cond.code ({ cls := "com/example/bylint/bylint/description/UriReferences", name := "fragment", desc := "(Ljava/lang/String;)Ljava/util/Optional;" } : Jvm.MethodName) prog_9_method_6_code (2 : Nat) (Option.some (Jvm.ClassFile.FieldType.object "java/util/Optional")), Jvm.Cond.code ({ cls := "java/lang/String", name := "indexOf", desc := "(I)I" } : Jvm.MethodName) jdk_42_method_79_code (2 : Nat) (Option.some Jvm.ClassFile.FieldType.int), Jvm.Cond.code ({ cls := "java/lang/String", name := "indexOf", desc := "(II)I" } : Jvm.MethodName) jdk_42_method_80_code (3 : Nat) (Option.some Jvm.ClassFile.FieldType.int), Jvm.Cond.code ({ cls := "java/lang/String", name := "isLatin1", desc := "()Z" } : Jvm.MethodName) jdk_42_method_154_code (1 : Nat) (Option.some Jvm.ClassFile.FieldType.boolean), Jvm.Cond.code ({ cls := "java/lang/String", name := "length", desc := "()I" } : Jvm.MethodName) jdk_42_method_54_code (1 : Nat) (Option.some Jvm.ClassFile.FieldType.int), Jvm.Cond.code ({ cls := "java/lang/String", name := "coder", desc := "()B" } : Jvm.MethodName) jdk_42_method_152_code (1 : Nat) (Option.some Jvm.ClassFile.FieldType.byte), Jvm.Cond.code ({ cls := "java/lang/StringLatin1", name := "indexOf", desc := "([BIII)I" } : Jvm.MethodName) jdk_43_method_22_code (4 : Nat) (Option.some Jvm.ClassFile.FieldType.int), Jvm.Cond.code ({ cls := "java/lang/StringLatin1", name := "canEncode", desc := "(I)Z" } : Jvm.MethodName) jdk_43_method_4_code (1 : Nat) (Option.some Jvm.ClassFile.FieldType.boolean), Jvm.Cond.code ({ cls := "java/lang/Math", name := "max", desc := "(II)I" } : Jvm.MethodName) jdk_29_method_65_code (2 : Nat) (Option.some Jvm.ClassFile.FieldType.int), Jvm.Cond.code ({ cls := "java/lang/Math", name := "min", desc := "(II)I" } : Jvm.MethodName) jdk_29_method_69_code (2 : Nat) (Option.some Jvm.ClassFile.FieldType.int), Jvm.Cond.code ({ cls := "java/util/Optional", name := "empty", desc := "()Ljava/util/Optional;" } : Jvm.MethodName) jdk_32_method_1_code (1 : Nat) (Option.some (Jvm.ClassFile.FieldType.object "java/util/Optional")), Jvm.Cond.code ({ cls := "java/util/Optional", name := "isPresent", desc := "()Z" } : Jvm.MethodName) jdk_32_method_6_code (1 : Nat) (Option.some Jvm.ClassFile.FieldType.boolean), Jvm.Cond.code ({ cls := "java/lang/StringUTF16", name := "compress", desc := "([CII)[B" } : Jvm.MethodName) jdk_52_method_16_code (6 : Nat) (Option.some (Jvm.ClassFile.FieldType.array Jvm.ClassFile.FieldType.byte)), Jvm.Cond.code ({ cls := "java/lang/StringUTF16", name := "compress", desc := "([CI[BII)I" } : Jvm.MethodName) jdk_52_method_21_code (7 : Nat) (Option.some Jvm.ClassFile.FieldType.int), Jvm.Cond.code ({ cls := "java/lang/StringUTF16", name := "coderFromArrayLen", desc := "([BI)B" } : Jvm.MethodName) jdk_52_method_15_code (2 : Nat) (Option.some Jvm.ClassFile.FieldType.byte), Jvm.Cond.code ({ cls := "java/lang/StringLatin1", name := "indexOfChar", desc := "([BIII)I" } : Jvm.MethodName) jdk_43_method_23_code (6 : Nat) (Option.some Jvm.ClassFile.FieldType.int), Jvm.Cond.code ({ cls := "java/lang/String", name := "substring", desc := "(I)Ljava/lang/String;" } : Jvm.MethodName) jdk_42_method_91_code (2 : Nat) (Option.some (Jvm.ClassFile.FieldType.object "java/lang/String")), Jvm.Cond.code ({ cls := "java/lang/String", name := "substring", desc := "(II)Ljava/lang/String;" } : Jvm.MethodName) jdk_42_method_92_code (5 : Nat) (Option.some (Jvm.ClassFile.FieldType.object "java/lang/String")), Jvm.Cond.code ({ cls := "java/lang/String", name := "checkBoundsBeginEnd", desc := "(III)V" } : Jvm.MethodName) jdk_42_method_158_code (3 : Nat) (Option.none : Option Jvm.ClassFile.FieldType), Jvm.Cond.code ({ cls := "jdk/internal/util/Preconditions", name := "checkFromToIndex", desc := "(IIILjava/util/function/BiFunction;)I" } : Jvm.MethodName) jdk_41_method_12_code (4 : Nat) (Option.some Jvm.ClassFile.FieldType.int), Jvm.Cond.code ({ cls := "java/lang/StringLatin1", name := "newString", desc := "([BII)Ljava/lang/String;" } : Jvm.MethodName) jdk_43_method_47_code (3 : Nat) (Option.some (Jvm.ClassFile.FieldType.object "java/lang/String")), Jvm.Cond.code ({ cls := "java/util/Arrays", name := "copyOfRange", desc := "([BII)[B" } : Jvm.MethodName) jdk_65_method_132_code (3 : Nat) (Option.some (Jvm.ClassFile.FieldType.array Jvm.ClassFile.FieldType.byte)), Jvm.Cond.code ({ cls := "java/util/Arrays", name := "copyOfRangeByte", desc := "([BII)[B" } : Jvm.MethodName) jdk_65_method_133_code (5 : Nat) (Option.some (Jvm.ClassFile.FieldType.array Jvm.ClassFile.FieldType.byte)), Jvm.Cond.code ({ cls := "java/util/Arrays", name := "checkLength", desc := "(II)V" } : Jvm.MethodName) jdk_65_method_131_code (2 : Nat) (Option.none : Option Jvm.ClassFile.FieldType), Jvm.Cond.code ({ cls := "java/lang/String", name := "<init>", desc := "([BB)V" } : Jvm.MethodName) jdk_42_method_151_code (3 : Nat) (Option.none : Option Jvm.ClassFile.FieldType), Jvm.Cond.code ({ cls := "java/util/Optional", name := "of", desc := "(Ljava/lang/Object;)Ljava/util/Optional;" } : Jvm.MethodName) jdk_32_method_3_code (1 : Nat) (Option.some (Jvm.ClassFile.FieldType.object "java/util/Optional")), Jvm.Cond.code ({ cls := "java/util/Objects", name := "requireNonNull", desc := "(Ljava/lang/Object;)Ljava/lang/Object;" } : Jvm.MethodName) jdk_31_method_10_code (1 : Nat) (Option.some (Jvm.ClassFile.FieldType.object "java/lang/Object")), Jvm.Cond.code ({ cls := "java/util/Optional", name := "<init>", desc := "(Ljava/lang/Object;)V" } : Jvm.MethodName) jdk_32_method_2_code (2 : Nat) (Option.none : Option Jvm.ClassFile.FieldType), Jvm.Cond.code ({ cls := "com/example/bylint/bylint/description/UriReferencesFragmentPinLaw", name := "at", desc := "([CI)C" } : Jvm.MethodName) method_4_code (2 : Nat) (Option.some Jvm.ClassFile.FieldType.char), Jvm.Cond.code ({ cls := "java/util/Optional", name := "get", desc := "()Ljava/lang/Object;" } : Jvm.MethodName) jdk_32_method_5_code (1 : Nat) (Option.some (Jvm.ClassFile.FieldType.object "java/lang/Object")), Jvm.Cond.code ({ cls := "java/lang/String", name := "equals", desc := "(Ljava/lang/Object;)Z" } : Jvm.MethodName) jdk_42_method_66_code (3 : Nat) (Option.some Jvm.ClassFile.FieldType.boolean), Jvm.Cond.code ({ cls := "java/lang/StringLatin1", name := "equals", desc := "([B[B)Z" } : Jvm.MethodName) jdk_43_method_13_code (3 : Nat) (Option.some Jvm.ClassFile.FieldType.boolean)]
set_option maxRecDepth 65536 in
theorem codes_eq : words1.filter isCode = codes1 := rfl
theorem w_codes : ∀ c ∈ words1.filter isCode, c.before args0 about1 = true := by
  rw [codes_eq]
  intro c hc
  simp only [codes1, List.mem_cons, List.not_mem_nil, or_false] at hc
  rcases hc with rfl | rfl | rfl | rfl | rfl | rfl | rfl | rfl | rfl | rfl | rfl | rfl | rfl | rfl | rfl | rfl | rfl | rfl | rfl | rfl | rfl | rfl | rfl | rfl | rfl | rfl | rfl | rfl | rfl | rfl | rfl | rfl | rfl | rfl | rfl | rfl | rfl | rfl
  · exact w_c0
  · exact w_c1
  · exact w_c2
  · exact w_c3
  · exact w_c4
  · exact w_c5
  · exact w_c6
  · exact w_c7
  · exact w_c8
  · exact w_c9
  · exact w_c10
  · exact w_c11
  · exact w_c12
  · exact w_c13
  · exact w_c14
  · exact w_c15
  · exact w_c16
  · exact w_c17
  · exact w_c18
  · exact w_c19
  · exact w_c20
  · exact w_c21
  · exact w_c22
  · exact w_c23
  · exact w_c24
  · exact w_c25
  · exact w_c26
  · exact w_c27
  · exact w_c28
  · exact w_c29
  · exact w_c30
  · exact w_c31
  · exact w_c32
  · exact w_c33
  · exact w_c34
  · exact w_c35
  · exact w_c36
  · exact w_c37
set_option maxRecDepth 65536 in
theorem w_t1 : (words1.take 24).all (fun c => isCode c || c.before args0 about1) = true := by decide +kernel
set_option maxRecDepth 65536 in
theorem w_t2 : ((words1.drop 24).take 24).all (fun c => isCode c || c.before args0 about1) = true := by decide +kernel
set_option maxRecDepth 65536 in
theorem w_t3 : (((words1.drop 24).drop 24).take 24).all (fun c => isCode c || c.before args0 about1) = true := by decide +kernel
set_option maxRecDepth 65536 in
theorem w_t4 : ((((words1.drop 24).drop 24).drop 24).take 24).all (fun c => isCode c || c.before args0 about1) = true := by decide +kernel
set_option maxRecDepth 65536 in
theorem w_t5 : (((((words1.drop 24).drop 24).drop 24).drop 24).take 24).all (fun c => isCode c || c.before args0 about1) = true := by decide +kernel
set_option maxRecDepth 65536 in
theorem w_t6 : ((((((words1.drop 24).drop 24).drop 24).drop 24).drop 24).take 24).all (fun c => isCode c || c.before args0 about1) = true := by decide +kernel
set_option maxRecDepth 65536 in
theorem w_t7 : (((((((words1.drop 24).drop 24).drop 24).drop 24).drop 24).drop 24).take 24).all (fun c => isCode c || c.before args0 about1) = true := by decide +kernel
set_option maxRecDepth 65536 in
theorem w_t8 : (((((((words1.drop 24).drop 24).drop 24).drop 24).drop 24).drop 24).drop 24).all (fun c => isCode c || c.before args0 about1) = true := by decide +kernel
theorem w_tables : (allAtoms (Jvm.Cond.code x code maxLocals ret :: tables_1)).before args0 about1 = true := by
  rw [allAtoms_all]
  show words1.all (fun c => c.before args0 about1) = true
  refine all_split ?_ w_codes
  rw [← List.take_append_drop 24 words1, List.all_append, w_t1, ← List.take_append_drop 24 (words1.drop 24), List.all_append, w_t2, ← List.take_append_drop 24 ((words1.drop 24).drop 24), List.all_append, w_t3, ← List.take_append_drop 24 (((words1.drop 24).drop 24).drop 24), List.all_append, w_t4, ← List.take_append_drop 24 ((((words1.drop 24).drop 24).drop 24).drop 24), List.all_append, w_t5, ← List.take_append_drop 24 (((((words1.drop 24).drop 24).drop 24).drop 24).drop 24), List.all_append, w_t6, ← List.take_append_drop 24 ((((((words1.drop 24).drop 24).drop 24).drop 24).drop 24).drop 24), List.all_append, w_t7, w_t8]
  rfl
set_option maxRecDepth 65536 in
theorem w_rest : rest_1_c.before args0 about1 = true := by decide +kernel
set_option maxRecDepth 65536 in
theorem w_case : (Jvm.Cond.and given_1 narrow_1).before args0 about1 = true := by decide +kernel
set_option maxRecDepth 65536 in
theorem w_consts : constsHeld consts_1 about1 := Jvm.Lit.constsHeldB_iff.mp (by decide +kernel)
theorem w_applies : (headSpec (Jvm.Cond.code x code maxLocals ret :: tables_1) room_1).applies x e0.platform about1 = true :=
  (Spec.applies_iff w_frames).mpr ⟨w_running, w_runnable, w_alone, w_named, w_hears, w_ripe, w_room, w_tables⟩
theorem atStart : AtStart classFile x code maxLocals ret World_1 tables_1 room_1 Calls_1 rest_1 Pre_1 launch0 p0 e0 about1 theMethod args0 below0 :=
  ⟨lists_1, trivial, launch0.admits_env _ _ _, launch0.least_env, fairChoices_fair.cas, fairChoices_fair.clock, w_frames, w_args, w_heap, w_applies, ⟨w_consts, trivial⟩, w_rest, w_case⟩
end start1
theorem witness_1 : WitnessClaimed_1 := ⟨start1.p0, start1.e0, start1.about1, start1.theMethod, start1.args0, start1.below0, start1.atStart⟩
end Jvm.Pilot.@@N@@
