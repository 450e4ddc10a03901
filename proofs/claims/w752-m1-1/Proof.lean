import JvmDerived
import JvmDerived.Pilot.@@N@@Statement
import JvmDerived.Pilot.@@N@@Code
set_option linter.unusedVariables false
set_option linter.unusedSimpArgs false
namespace Jvm.Pilot.@@N@@
open Jvm Jvm.ClassFile Sem Op Lib Jvm.Free Jvm.Stand Jvm.LawKit Jvm.RoadKit Bundle Jvm.Pilot.@@N@@.Jvm.D
/-! THE OWN LAYER (printed by own/gen_layer.py): Wp: from this pc, with these locals, this operand stack and these new objects, the body comes to its return and Q holds of what it returns and of the new objects then -/
def locL : List Value → List Slot
  | [] => []
  | v :: vs => (if v.category = 2 then [.val v, .second] else [.val v]) ++ locL vs
theorem entry_fold (as' : List Value) : ∀ acc : Array Slot, as'.foldl (fun acc v => if v.category = 2 then (acc.push (.val v)).push .second else acc.push (.val v)) acc = acc ++ (locL as').toArray := by
  induction as' with
  | nil => intro acc; simp [locL]
  | cons v vs ih =>
    intro acc
    rw [List.foldl_cons, ih, locL]
    by_cases h : v.category = 2
    · simp [h]
    · simp [h]
theorem entry_loc (m : MethodId) (as' : List Value) (maxL : Nat) : entryFrame m as'.toArray maxL = mkF m 0 (locL as' ++ List.replicate (maxL - (locL as').length) Slot.unset).toArray [] := by
  have e : (as'.toArray.foldl (fun (acc : Array Slot) v => if v.category = 2 then (acc.push (.val v)).push .second else acc.push (.val v)) #[]) = (locL as').toArray := by
    rw [← Array.foldl_toList]
    show as'.foldl _ _ = _
    rw [entry_fold]; simp
  show mkF m 0 (argsToLocals as'.toArray maxL) [] = _
  unfold argsToLocals
  simp only [e]
  congr 1
  simp
abbrev OSig := List (String × String × String)
abbrev ObjB := (String × OSig × List Value) ⊕ ((FieldType × List Int32) ⊕ (List Int64 ⊕ (String × FieldType × List Value)))
/-- an object of the walk: true: made by it (it may be written); false: only read -/
abbrev Obj := Bool × ObjB
abbrev oI (C : String) (sg : OSig) (vs : List Value) : Obj := (true, .inl (C, sg, vs))
abbrev oA (ty : FieldType) (xs : List Int32) : Obj := (true, .inr (.inl (ty, xs)))
abbrev oJ (xs : List Int64) : Obj := (true, .inr (.inr (.inl xs)))
abbrev oR (C : String) (ty : FieldType) (vs : List Value) : Obj := (true, .inr (.inr (.inr (C, ty, vs))))
abbrev fI (C : String) (sg : OSig) (vs : List Value) : Obj := (false, .inl (C, sg, vs))
abbrev fA (ty : FieldType) (xs : List Int32) : Obj := (false, .inr (.inl (ty, xs)))
abbrev OH := List (Addr × Obj)
def Slo (Z : State) (sg : OSig) : Prop := sg.Pairwise fun f g => Jvm.RoadKit.slotOf Z f.1 f.2.1 f.2.2 ≠ Jvm.RoadKit.slotOf Z g.1 g.2.1 g.2.2
def OvrT (Z : State) (cA : ClassId) (C : String) (ty : FieldType) : Prop := ∃ (k : Class) (comp : ClassId), Z.vm.classes[cA]? = some k ∧ k.kind = .array comp ty ∧ Z.vm.findClass C = some comp
def Sat (Z : State) (h : Heap) (a : Addr) : ObjB → Prop
  | .inl (C, sg, vs) => Exa Z h a C ∧ Slo Z sg ∧ ∀ (i : Nat) (f : String × String × String) (v : Value), sg[i]? = some f → vs[i]? = some v → Fld Z h a f.1 f.2.1 f.2.2 v
  | .inr (.inl (ty, xs)) => (ty = .byte ∨ Exa Z h a ("[" ++ ty.toString)) ∧ ∃ c : Cell, Arr Z h a c ty ∧ c.slots = (xs.map Value.int).toArray ∧ ∀ x ∈ xs, fits ty (.int x) = true
  | .inr (.inr (.inl xs)) => Exa Z h a "[J" ∧ ∃ c : Cell, Arr Z h a c .long ∧ c.slots = (xs.map Value.long).toArray
  | .inr (.inr (.inr (C, ty, vs))) => Exa Z h a ("[" ++ ty.toString) ∧ ∃ c : Cell, Arr Z h a c ty ∧ OvrT Z c.cls C ty ∧ c.slots = vs.toArray ∧ ∀ v ∈ vs, v.isRef = true
def Hp (Z : State) (h : Heap) (H : OH) : Prop := Ext Z.heap h ∧ (∀ x ∈ H, (x.2.1 = true → Z.heap.size ≤ x.1) ∧ Sat Z h x.1 x.2.2) ∧ H.Pairwise fun x y => (x.2.1 = true ∨ y.2.1 = true) → x.1 ≠ y.1
theorem Sat.ext {Z : State} {h h' : Heap} {a : Addr} (E : Ext h h') : ∀ {o : ObjB}, Sat Z h a o → Sat Z h' a o
  | .inl (C, sg, vs), ⟨h1, h2, h3⟩ => ⟨h1.ext E, h2, fun i f v q r => (h3 i f v q r).ext E⟩
  | .inr (.inl (ty, xs)), ⟨q, c, h1, h2⟩ => ⟨q.imp id (·.ext E), c, h1.ext E, h2⟩
  | .inr (.inr (.inl xs)), ⟨q, c, h1, h2⟩ => ⟨q.ext E, c, h1.ext E, h2⟩
  | .inr (.inr (.inr (C, ty, vs))), ⟨q, c, h1, h2⟩ => ⟨q.ext E, c, h1.ext E, h2⟩
theorem Sat.other {Z : State} {h h' : Heap} {a b : Addr} {sl : Nat} {v : Value} (W : Wr h h' a sl v) (ne : b ≠ a) : ∀ {o : ObjB}, Sat Z h b o → Sat Z h' b o
  | .inl (C, sg, vs), ⟨h1, h2, h3⟩ => ⟨h1.wr W, h2, fun i f v q r => (h3 i f v q r).other W (Or.inl ne)⟩
  | .inr (.inl (ty, xs)), ⟨q, c, h1, h2⟩ => ⟨q.imp id (·.wr W), c, h1.other W ne, h2⟩
  | .inr (.inr (.inl xs)), ⟨q, c, h1, h2⟩ => ⟨q.wr W, c, h1.other W ne, h2⟩
  | .inr (.inr (.inr (C, ty, vs))), ⟨q, c, h1, h2⟩ => ⟨q.wr W, c, h1.other W ne, h2⟩
theorem Sat.lt {Z : State} {h : Heap} {a : Addr} : ∀ {o : ObjB}, Sat Z h a o → a < h.size
  | .inl (C, sg, vs), ⟨h1, h2, h3⟩ => h1.lt
  | .inr (.inl (ty, xs)), ⟨_, c, h1, _⟩ => h1.lt
  | .inr (.inr (.inl xs)), ⟨q, _⟩ => q.lt
  | .inr (.inr (.inr (C, ty, vs))), ⟨q, _⟩ => q.lt
theorem Hp.nil (Z : State) : Hp Z Z.heap [] := ⟨⟨Nat.le_refl _, fun _ _ q => q⟩, (fun _ q => nomatch q), List.Pairwise.nil⟩
theorem ext_trans {h h1 h2 : Heap} (E : Ext h h1) (E' : Ext h1 h2) : Ext h h2 := ⟨Nat.le_trans E.1 E'.1, fun a c q => E'.2 a c (E.2 a c q)⟩
theorem Hp.ext {Z : State} {h h' : Heap} {H : OH} (P : Hp Z h H) (E : Ext h h') : Hp Z h' H := ⟨ext_trans P.1 E, fun x q => ⟨(P.2.1 x q).1, (P.2.1 x q).2.ext E⟩, P.2.2⟩
theorem Hp.cons {Z : State} {h h' : Heap} {H : OH} (P : Hp Z h H) (E : Ext h h') {fl : Bool} {o : ObjB} (S : Sat Z h' h.size o) : Hp Z h' ((h.size, (fl, o)) :: H) :=
  ⟨ext_trans P.1 E, fun x q => (List.mem_cons.mp q).elim (fun e => by subst e; exact ⟨fun _ => P.1.1, S⟩) fun q => ⟨(P.2.1 x q).1, (P.2.1 x q).2.ext E⟩,
    List.Pairwise.cons (fun y q _ e => absurd ((P.2.1 y q).2.lt) (by rw [← e]; exact Nat.lt_irrefl _)) P.2.2⟩
theorem Hp.at {Z : State} {h : Heap} {H : OH} (P : Hp Z h H) {i : Nat} {x : Addr × Obj} (q : H[i]? = some x) : (x.2.1 = true → Z.heap.size ≤ x.1) ∧ Sat Z h x.1 x.2.2 := P.2.1 x (List.mem_of_getElem? q)
theorem Hp.ne {Z : State} {h : Heap} {H : OH} (P : Hp Z h H) {i j : Nat} {x y : Addr × Obj} (q : H[i]? = some x) (r : H[j]? = some y) (ht : x.2.1 = true ∨ y.2.1 = true) (ij : i ≠ j) : x.1 ≠ y.1 := by
  have hP := List.pairwise_iff_getElem.mp P.2.2
  obtain ⟨hi, rfl⟩ := List.getElem?_eq_some_iff.mp q
  obtain ⟨hj, rfl⟩ := List.getElem?_eq_some_iff.mp r
  rcases Nat.lt_or_gt_of_ne ij with u | u
  · exact hP i j hi hj u ht
  · exact fun e => hP j i hj hi u ht.symm e.symm
theorem Hp.set {Z : State} {h h' : Heap} {H : OH} (P : Hp Z h H) {i : Nat} {a : Addr} {o o' : ObjB} (q : H[i]? = some (a, (true, o))) {sl : Nat} {v : Value} (W : Wr h h' a sl v) (S : Sat Z h' a o') : Hp Z h' (H.set i (a, (true, o'))) := by
  have g : Z.heap.size ≤ a := (P.at q).1 rfl
  obtain ⟨hi, hq⟩ := List.getElem?_eq_some_iff.mp q
  refine ⟨⟨by rw [W.size]; exact P.1.1, fun b c r => ?_⟩, fun x hx => ?_, ?_⟩
  · obtain ⟨c', e1, -, -, -, e5, -⟩ := wr_at W (P.1.2 b c r)
    have : b < Z.heap.size := (Array.getElem?_eq_some_iff.mp r).1
    rw [← e5 (by rintro rfl; exact absurd this (Nat.not_lt.mpr g))]; exact e1
  · obtain ⟨n, hn⟩ := List.getElem?_of_mem hx
    rw [List.getElem?_set] at hn
    split at hn
    · have e0 : (a, (true, o')) = x := by simpa [hi] using hn
      subst e0; exact ⟨fun _ => g, S⟩
    · rename_i ne
      exact ⟨(P.at hn).1, (P.at hn).2.other W (P.ne hn q (Or.inr rfl) (Ne.symm ne))⟩
  · have e : (H.set i (a, (true, o'))).map (fun x => (x.1, x.2.1)) = H.map (fun x => (x.1, x.2.1)) := by
      rw [List.map_set]
      refine List.ext_getElem? fun n => ?_
      rw [List.getElem?_set]
      split
      · rename_i e; subst e
        simp [hi, hq]
      · rfl
    have h1 : (H.map (fun x => (x.1, x.2.1))).Pairwise (fun u v => (u.2 = true ∨ v.2 = true) → u.1 ≠ v.1) := List.pairwise_map.mpr P.2.2
    rw [← e] at h1
    exact List.pairwise_map.mp h1
theorem Hp.pick {Z : State} {h : Heap} {H : OH} (P : Hp Z h H) (is : List Nat) (hn : is.Nodup) : Hp Z h (is.filterMap fun i => H[i]?) := by
  refine ⟨P.1, fun x hx => ?_, ?_⟩
  · obtain ⟨i, -, q⟩ := List.mem_filterMap.mp hx
    exact P.at q
  · refine List.pairwise_filterMap.mpr (hn.imp fun {i j} ne x hx y hy ht => P.ne hx hy ht ne)
/-- what an instruction says: its constructor, its length, the next pc -/
def Dc (bytes : ByteArray) (pc : Nat) (i : Instr) (n pc' : Nat) : Prop := decode bytes pc = .ok (i, n) ∧ pc + n = pc'
def Tg (pc : Nat) (o : Int) (pc' : Nat) : Prop := 0 ≤ (pc : Int) + o ∧ ((pc : Int) + o).toNat = pc'
/-- the walk's mode: none: it loads no String constant; some none: it may; some (some Ts): it has loaded these texts and no others -/
abbrev Md := Option (Option (List String))
def MdOk (b : Md) (Z s : State) (vm0 : Vm) : Prop := ∀ Ts, b = some (some Ts) → s.heap = Z.heap ∧ Jvm.RoadKit.IB Z vm0 Ts
def Wp (b : Md) (l : Launch) (Z : State) (own nm : String) (bytes : ByteArray) (maxL : Nat) (ret : Option FieldType) (R : Room) (H : OH) (k j : Nat) (pc : Nat) (Ls : Array Slot) (st : List Value) (Q : Option Value → OH → Prop) : Prop :=
  ∀ (p : Program) (e : Env) (s : State) (vm0 : Vm) (k0 : Nat) (m : MethodId) (args : Array Value) (below : List Frame) (meth : Method) (c : Code) (T : State) (L : List Loc),
    p.tables.exec = Jvm.exec → Z.Warmed39 vm0 → s.Since vm0 k0 → k0 ≤ T.heap.size → c.code = bytes → c.maxLocals = maxL → vm0.findClass own = some m.cls → meth.name = nm → meth.sig.returnType = ret →
    Stand p l e R (s.setVm vm0) m args below meth c T L k j → Fr Z.heap.size L → Hp Z T.heap H → MdOk b Z s vm0 →
    ∃ (T' : State) (v : Option Value) (L' : List Loc) (k' j' : Nat) (vm1 : Vm) (k1 : Nat) (H' : OH),
      (s.Since vm1 k1 ∧ k1 ≤ T'.heap.size ∧ (b = none → vm1 = vm0)) ∧ Stand p l e R (s.setVm vm1) m args below meth c T' L' k' j' ∧ (k' ≤ R.cells ∧ j' ≤ R.slots ∧ T.heap.size ≤ T'.heap.size) ∧ Fr Z.heap.size L' ∧ Hp Z T'.heap H' ∧ (ret = none → v = none) ∧ Q v H' ∧
      ∀ fs, (∀ (f : JFrame) (acts : List Action), f.method = m → f.locked = none → f.entered = [] → (doReturn e (T'.setTop f) acts v).1 = T'.setFrames fs) → Steps p.tables e below (T.setTop (mkF m pc Ls st)) (T'.setFrames fs)
section Own
variable {b : Md} {l : Launch} {Z : State} {a0 : Array Value} {own nm : String} {bytes : ByteArray} {maxL : Nat} {ret : Option FieldType} {R : Room} {H : OH} {k j pc pc' : Nat} {Ls : Array Slot} {st : List Value} {Q : Option Value → OH → Prop}
theorem Wp.stepH
    (hs : ∀ (p : Program) (e : Env) (s : State) (m : MethodId) (args : Array Value) (below : List Frame) (meth : Method) (c : Code) (T : State) (L : List Loc),
      p.tables.exec = Jvm.exec → Z.Warmed39 s.vm → c.code = bytes → c.maxLocals = maxL → s.vm.findClass own = some m.cls → meth.name = nm → meth.sig.returnType = ret →
      Stand p l e R s m args below meth c T L k j → Fr Z.heap.size L → Hp Z T.heap H →
      ∃ (T' : State) (L' : List Loc) (k' j' : Nat) (H' : OH) (pc' : Nat) (Ls' : Array Slot) (st' : List Value), Stand p l e R s m args below meth c T' L' k' j' ∧ T.heap.size ≤ T'.heap.size ∧ Fr Z.heap.size L' ∧ Hp Z T'.heap H' ∧ Wp b l Z own nm bytes maxL ret R H' k' j' pc' Ls' st' Q ∧
        ∀ target, Steps p.tables e below (T'.setTop (mkF m pc' Ls' st')) target → Steps p.tables e below (T.setTop (mkF m pc Ls st)) target) :
    Wp b l Z own nm bytes maxL ret R H k j pc Ls st Q := by
  intro p e s vm0 k0 m args below meth c T L hx hZ hS hk hby hml hown hnm hret X N hH hB
  obtain ⟨T', L', k', j', H', pc', Ls', st', X', hsz, N', hH', hr, stp⟩ := hs p e (s.setVm vm0) m args below meth c T L hx hZ hby hml hown hnm hret X N hH
  obtain ⟨T2, v, L2, k2, j2, vm1, k1, H2, r1, r2, ⟨r3, r4, r5⟩, r6, r7, r8, r9, r10⟩ := hr p e s vm0 k0 m args below meth c T' L' hx hZ hS (Nat.le_trans hk hsz) hby hml hown hnm hret X' N' hH' hB
  exact ⟨T2, v, L2, k2, j2, vm1, k1, H2, r1, r2, ⟨r3, r4, Nat.le_trans hsz r5⟩, r6, r7, r8, r9, fun fs hl => stp _ (r10 fs hl)⟩
theorem Wp.step {Ls' : Array Slot} {st' : List Value}
    (hs : ∀ (p : Program) (e : Env) (s : State) (m : MethodId) (args : Array Value) (below : List Frame) (meth : Method) (c : Code) (T : State) (L : List Loc),
      p.tables.exec = Jvm.exec → Z.Warmed39 s.vm → c.code = bytes → s.vm.findClass own = some m.cls → Stand p l e R s m args below meth c T L k j → Hp Z T.heap H →
        ∀ target, Steps p.tables e below (T.setTop (mkF m pc' Ls' st')) target → Steps p.tables e below (T.setTop (mkF m pc Ls st)) target)
    (hr : Wp b l Z own nm bytes maxL ret R H k j pc' Ls' st' Q) : Wp b l Z own nm bytes maxL ret R H k j pc Ls st Q :=
  Wp.stepH fun p e s m args below meth c T L hx hZ hby hml hown hnm hret X N hH => ⟨T, L, k, j, H, pc', Ls', st', X, Nat.le_refl _, N, hH, hr, hs p e s m args below meth c T L hx hZ hby hown X hH⟩
theorem Wp.know {P : Prop} (hp : ∀ h, Hp Z h H → P) (hr : P → Wp b l Z own nm bytes maxL ret R H k j pc Ls st Q) : Wp b l Z own nm bytes maxL ret R H k j pc Ls st Q :=
  fun p e s vm0 k0 m args below meth c T L hx hZ hS hk hby hml hown hnm hret X N hH hB => hr (hp _ hH) p e s vm0 k0 m args below meth c T L hx hZ hS hk hby hml hown hnm hret X N hH hB
theorem Wp.pick (is : List Nat) (hn : is.Nodup) (hr : Wp b l Z own nm bytes maxL ret R (is.filterMap fun i => H[i]?) k j pc Ls st Q) : Wp b l Z own nm bytes maxL ret R H k j pc Ls st Q :=
  Wp.stepH fun p e s m args below meth c T L hx hZ hby hml hown hnm hret X N hH => ⟨T, L, k, j, _, pc, Ls, st, X, Nat.le_refl _, N, hH.pick is hn, hr, fun _ q => q⟩
theorem Wp.more {k' j' : Nat} (hk : k ≤ k') (hj : j ≤ j') (hr : Wp b l Z own nm bytes maxL ret R H k' j' pc Ls st Q) : Wp b l Z own nm bytes maxL ret R H k j pc Ls st Q :=
  Wp.stepH fun p e s m args below meth c T L hx hZ hby hml hown hnm hret X N hH => ⟨T, L, k', j', H, pc, Ls, st, X.more hk hj, Nat.le_refl _, N, hH, hr, fun _ q => q⟩
theorem Wp.mono {Q' : Option Value → OH → Prop} (hr : Wp b l Z own nm bytes maxL ret R H k j pc Ls st Q') (hq : ∀ v H', Q' v H' → Q v H') : Wp b l Z own nm bytes maxL ret R H k j pc Ls st Q :=
  fun p e s vm0 k0 m args below meth c T L hx hZ hS hk hby hml hown hnm hret X N hH hB => by
    obtain ⟨T2, v, L2, k2, j2, vm1, k1, H2, r1, r2, r3, r6, r7, r8, r9, r10⟩ := hr p e s vm0 k0 m args below meth c T L hx hZ hS hk hby hml hown hnm hret X N hH hB
    exact ⟨T2, v, L2, k2, j2, vm1, k1, H2, r1, r2, r3, r6, r7, r8, hq _ _ r9, r10⟩
theorem wp_iadd {x y : Int32} (hd : Dc bytes pc (.iadd) 1 pc')  (hr : Wp b l Z own nm bytes maxL ret R H k j pc' Ls (.int (x + y) :: st) Q) : Wp b l Z own nm bytes maxL ret R H k j pc Ls (.int y :: .int x :: st) Q := by
  obtain ⟨hd, rfl⟩ := hd
  exact Wp.step (fun p e s m args below meth c T L hx hZ hby hown X hH target ht => XS.iadd X.here hx rfl (hb hby hd) rfl ht) hr
theorem wp_isub {x y : Int32} (hd : Dc bytes pc (.isub) 1 pc')  (hr : Wp b l Z own nm bytes maxL ret R H k j pc' Ls (.int (x - y) :: st) Q) : Wp b l Z own nm bytes maxL ret R H k j pc Ls (.int y :: .int x :: st) Q := by
  obtain ⟨hd, rfl⟩ := hd
  exact Wp.step (fun p e s m args below meth c T L hx hZ hby hown X hH target ht => XS.isub X.here hx rfl (hb hby hd) rfl ht) hr
theorem wp_iand {x y : Int32} (hd : Dc bytes pc (.iand) 1 pc')  (hr : Wp b l Z own nm bytes maxL ret R H k j pc' Ls (.int (x &&& y) :: st) Q) : Wp b l Z own nm bytes maxL ret R H k j pc Ls (.int y :: .int x :: st) Q := by
  obtain ⟨hd, rfl⟩ := hd
  exact Wp.step (fun p e s m args below meth c T L hx hZ hby hown X hH target ht => XS.iand X.here hx rfl (hb hby hd) rfl ht) hr
theorem wp_imul {x y : Int32} (hd : Dc bytes pc (.imul) 1 pc')  (hr : Wp b l Z own nm bytes maxL ret R H k j pc' Ls (.int (x * y) :: st) Q) : Wp b l Z own nm bytes maxL ret R H k j pc Ls (.int y :: .int x :: st) Q := by
  obtain ⟨hd, rfl⟩ := hd
  exact Wp.step (fun p e s m args below meth c T L hx hZ hby hown X hH target ht => XS.imul X.here hx rfl (hb hby hd) rfl ht) hr
theorem wp_ixor {x y : Int32} (hd : Dc bytes pc (.ixor) 1 pc')  (hr : Wp b l Z own nm bytes maxL ret R H k j pc' Ls (.int (x ^^^ y) :: st) Q) : Wp b l Z own nm bytes maxL ret R H k j pc Ls (.int y :: .int x :: st) Q := by
  obtain ⟨hd, rfl⟩ := hd
  exact Wp.step (fun p e s m args below meth c T L hx hZ hby hown X hH target ht => XT.ixor X.here hx rfl (hb hby hd) rfl ht) hr
theorem wp_ior {x y : Int32} (hd : Dc bytes pc (.ior) 1 pc')  (hr : Wp b l Z own nm bytes maxL ret R H k j pc' Ls (.int (x ||| y) :: st) Q) : Wp b l Z own nm bytes maxL ret R H k j pc Ls (.int y :: .int x :: st) Q := by
  obtain ⟨hd, rfl⟩ := hd
  exact Wp.step (fun p e s m args below meth c T L hx hZ hby hown X hH target ht => XT.ior X.here hx rfl (hb hby hd) rfl ht) hr
theorem wp_ishl {x y : Int32} (hd : Dc bytes pc (.ishl) 1 pc')  (hr : Wp b l Z own nm bytes maxL ret R H k j pc' Ls (.int (x <<< (y &&& 31)) :: st) Q) : Wp b l Z own nm bytes maxL ret R H k j pc Ls (.int y :: .int x :: st) Q := by
  obtain ⟨hd, rfl⟩ := hd
  exact Wp.step (fun p e s m args below meth c T L hx hZ hby hown X hH target ht => XT.ishl X.here hx rfl (hb hby hd) rfl ht) hr
theorem wp_ishr {x y : Int32} (hd : Dc bytes pc (.ishr) 1 pc')  (hr : Wp b l Z own nm bytes maxL ret R H k j pc' Ls (.int (x >>> (y &&& 31)) :: st) Q) : Wp b l Z own nm bytes maxL ret R H k j pc Ls (.int y :: .int x :: st) Q := by
  obtain ⟨hd, rfl⟩ := hd
  exact Wp.step (fun p e s m args below meth c T L hx hZ hby hown X hH target ht => XT.ishr X.here hx rfl (hb hby hd) rfl ht) hr
theorem wp_iushr {x y : Int32} (hd : Dc bytes pc (.iushr) 1 pc')  (hr : Wp b l Z own nm bytes maxL ret R H k j pc' Ls (.int (XT.ushr x y) :: st) Q) : Wp b l Z own nm bytes maxL ret R H k j pc Ls (.int y :: .int x :: st) Q := by
  obtain ⟨hd, rfl⟩ := hd
  exact Wp.step (fun p e s m args below meth c T L hx hZ hby hown X hH target ht => XT.iushr X.here hx rfl (hb hby hd) rfl ht) hr
theorem wp_idiv {x y : Int32} (hd : Dc bytes pc (.idiv) 1 pc') (hy : y ≠ 0) (hr : Wp b l Z own nm bytes maxL ret R H k j pc' Ls (.int (x / y) :: st) Q) : Wp b l Z own nm bytes maxL ret R H k j pc Ls (.int y :: .int x :: st) Q := by
  obtain ⟨hd, rfl⟩ := hd
  exact Wp.step (fun p e s m args below meth c T L hx hZ hby hown X hH target ht => XS.idiv X.here hx rfl (hb hby hd) rfl hy ht) hr
theorem wp_irem {x y : Int32} (hd : Dc bytes pc (.irem) 1 pc') (hy : y ≠ 0) (hr : Wp b l Z own nm bytes maxL ret R H k j pc' Ls (.int (x % y) :: st) Q) : Wp b l Z own nm bytes maxL ret R H k j pc Ls (.int y :: .int x :: st) Q := by
  obtain ⟨hd, rfl⟩ := hd
  exact Wp.step (fun p e s m args below meth c T L hx hZ hby hown X hH target ht => iremM X hx rfl (hb hby hd) rfl hy ht) hr
theorem wp_ineg {x : Int32} (hd : Dc bytes pc (.ineg) 1 pc')  (hr : Wp b l Z own nm bytes maxL ret R H k j pc' Ls (.int (-x) :: st) Q) : Wp b l Z own nm bytes maxL ret R H k j pc Ls (.int x :: st) Q := by
  obtain ⟨hd, rfl⟩ := hd
  exact Wp.step (fun p e s m args below meth c T L hx hZ hby hown X hH target ht => XS.ineg X.here hx rfl (hb hby hd) rfl ht) hr
theorem wp_ladd {x y : Int64} (hd : Dc bytes pc (.ladd) 1 pc')  (hr : Wp b l Z own nm bytes maxL ret R H k j pc' Ls (.long (x + y) :: st) Q) : Wp b l Z own nm bytes maxL ret R H k j pc Ls (.long y :: .long x :: st) Q := by
  obtain ⟨hd, rfl⟩ := hd
  exact Wp.step (fun p e s m args below meth c T L hx hZ hby hown X hH target ht => XT.ladd X.here hx rfl (hb hby hd) rfl ht) hr
theorem wp_lsub {x y : Int64} (hd : Dc bytes pc (.lsub) 1 pc')  (hr : Wp b l Z own nm bytes maxL ret R H k j pc' Ls (.long (x - y) :: st) Q) : Wp b l Z own nm bytes maxL ret R H k j pc Ls (.long y :: .long x :: st) Q := by
  obtain ⟨hd, rfl⟩ := hd
  exact Wp.step (fun p e s m args below meth c T L hx hZ hby hown X hH target ht => XT.lsub X.here hx rfl (hb hby hd) rfl ht) hr
theorem wp_lmul {x y : Int64} (hd : Dc bytes pc (.lmul) 1 pc')  (hr : Wp b l Z own nm bytes maxL ret R H k j pc' Ls (.long (x * y) :: st) Q) : Wp b l Z own nm bytes maxL ret R H k j pc Ls (.long y :: .long x :: st) Q := by
  obtain ⟨hd, rfl⟩ := hd
  exact Wp.step (fun p e s m args below meth c T L hx hZ hby hown X hH target ht => XT.lmul X.here hx rfl (hb hby hd) rfl ht) hr
theorem wp_land {x y : Int64} (hd : Dc bytes pc (.land) 1 pc')  (hr : Wp b l Z own nm bytes maxL ret R H k j pc' Ls (.long (x &&& y) :: st) Q) : Wp b l Z own nm bytes maxL ret R H k j pc Ls (.long y :: .long x :: st) Q := by
  obtain ⟨hd, rfl⟩ := hd
  exact Wp.step (fun p e s m args below meth c T L hx hZ hby hown X hH target ht => XT.land X.here hx rfl (hb hby hd) rfl ht) hr
theorem wp_lor {x y : Int64} (hd : Dc bytes pc (.lor) 1 pc')  (hr : Wp b l Z own nm bytes maxL ret R H k j pc' Ls (.long (x ||| y) :: st) Q) : Wp b l Z own nm bytes maxL ret R H k j pc Ls (.long y :: .long x :: st) Q := by
  obtain ⟨hd, rfl⟩ := hd
  exact Wp.step (fun p e s m args below meth c T L hx hZ hby hown X hH target ht => XT.lor X.here hx rfl (hb hby hd) rfl ht) hr
theorem wp_lxor {x y : Int64} (hd : Dc bytes pc (.lxor) 1 pc')  (hr : Wp b l Z own nm bytes maxL ret R H k j pc' Ls (.long (x ^^^ y) :: st) Q) : Wp b l Z own nm bytes maxL ret R H k j pc Ls (.long y :: .long x :: st) Q := by
  obtain ⟨hd, rfl⟩ := hd
  exact Wp.step (fun p e s m args below meth c T L hx hZ hby hown X hH target ht => XT.lxor X.here hx rfl (hb hby hd) rfl ht) hr
theorem wp_lshl {x : Int64} {y : Int32} (hd : Dc bytes pc (.lshl) 1 pc')  (hr : Wp b l Z own nm bytes maxL ret R H k j pc' Ls (.long (x <<< (y.toInt64 &&& 63)) :: st) Q) : Wp b l Z own nm bytes maxL ret R H k j pc Ls (.int y :: .long x :: st) Q := by
  obtain ⟨hd, rfl⟩ := hd
  exact Wp.step (fun p e s m args below meth c T L hx hZ hby hown X hH target ht => XT.lshl X.here hx rfl (hb hby hd) rfl ht) hr
theorem wp_lshr {x : Int64} {y : Int32} (hd : Dc bytes pc (.lshr) 1 pc')  (hr : Wp b l Z own nm bytes maxL ret R H k j pc' Ls (.long (x >>> (y.toInt64 &&& 63)) :: st) Q) : Wp b l Z own nm bytes maxL ret R H k j pc Ls (.int y :: .long x :: st) Q := by
  obtain ⟨hd, rfl⟩ := hd
  exact Wp.step (fun p e s m args below meth c T L hx hZ hby hown X hH target ht => XT.lshr X.here hx rfl (hb hby hd) rfl ht) hr
theorem wp_lushr {x : Int64} {y : Int32} (hd : Dc bytes pc (.lushr) 1 pc')  (hr : Wp b l Z own nm bytes maxL ret R H k j pc' Ls (.long (XT.ushrL x y) :: st) Q) : Wp b l Z own nm bytes maxL ret R H k j pc Ls (.int y :: .long x :: st) Q := by
  obtain ⟨hd, rfl⟩ := hd
  exact Wp.step (fun p e s m args below meth c T L hx hZ hby hown X hH target ht => XT.lushr X.here hx rfl (hb hby hd) rfl ht) hr
theorem wp_ldiv {x y : Int64} (hd : Dc bytes pc (.ldiv) 1 pc') (hy : y ≠ 0) (hr : Wp b l Z own nm bytes maxL ret R H k j pc' Ls (.long (x / y) :: st) Q) : Wp b l Z own nm bytes maxL ret R H k j pc Ls (.long y :: .long x :: st) Q := by
  obtain ⟨hd, rfl⟩ := hd
  exact Wp.step (fun p e s m args below meth c T L hx hZ hby hown X hH target ht => XT.ldiv X.here hx rfl (hb hby hd) rfl hy ht) hr
theorem wp_lrem {x y : Int64} (hd : Dc bytes pc (.lrem) 1 pc') (hy : y ≠ 0) (hr : Wp b l Z own nm bytes maxL ret R H k j pc' Ls (.long (x - (x / y) * y) :: st) Q) : Wp b l Z own nm bytes maxL ret R H k j pc Ls (.long y :: .long x :: st) Q := by
  obtain ⟨hd, rfl⟩ := hd
  exact Wp.step (fun p e s m args below meth c T L hx hZ hby hown X hH target ht => XT.lrem X.here hx rfl (hb hby hd) rfl hy ht) hr
theorem wp_lneg {x : Int64} (hd : Dc bytes pc (.lneg) 1 pc')  (hr : Wp b l Z own nm bytes maxL ret R H k j pc' Ls (.long (-x) :: st) Q) : Wp b l Z own nm bytes maxL ret R H k j pc Ls (.long x :: st) Q := by
  obtain ⟨hd, rfl⟩ := hd
  exact Wp.step (fun p e s m args below meth c T L hx hZ hby hown X hH target ht => XT.lneg X.here hx rfl (hb hby hd) rfl ht) hr
theorem wp_i2l {x : Int32} (hd : Dc bytes pc (.i2l) 1 pc')  (hr : Wp b l Z own nm bytes maxL ret R H k j pc' Ls (.long x.toInt64 :: st) Q) : Wp b l Z own nm bytes maxL ret R H k j pc Ls (.int x :: st) Q := by
  obtain ⟨hd, rfl⟩ := hd
  exact Wp.step (fun p e s m args below meth c T L hx hZ hby hown X hH target ht => XT.i2l X.here hx rfl (hb hby hd) rfl ht) hr
theorem wp_l2i {x : Int64} (hd : Dc bytes pc (.l2i) 1 pc')  (hr : Wp b l Z own nm bytes maxL ret R H k j pc' Ls (.int x.toInt32 :: st) Q) : Wp b l Z own nm bytes maxL ret R H k j pc Ls (.long x :: st) Q := by
  obtain ⟨hd, rfl⟩ := hd
  exact Wp.step (fun p e s m args below meth c T L hx hZ hby hown X hH target ht => XT.l2i X.here hx rfl (hb hby hd) rfl ht) hr
theorem wp_i2b {x : Int32} (hd : Dc bytes pc (.i2b) 1 pc')  (hr : Wp b l Z own nm bytes maxL ret R H k j pc' Ls (.int x.toInt8.toInt32 :: st) Q) : Wp b l Z own nm bytes maxL ret R H k j pc Ls (.int x :: st) Q := by
  obtain ⟨hd, rfl⟩ := hd
  exact Wp.step (fun p e s m args below meth c T L hx hZ hby hown X hH target ht => XT.i2b X.here hx rfl (hb hby hd) rfl ht) hr
theorem wp_i2c {x : Int32} (hd : Dc bytes pc (.i2c) 1 pc')  (hr : Wp b l Z own nm bytes maxL ret R H k j pc' Ls (.int x.toUInt32.toUInt16.toUInt32.toInt32 :: st) Q) : Wp b l Z own nm bytes maxL ret R H k j pc Ls (.int x :: st) Q := by
  obtain ⟨hd, rfl⟩ := hd
  exact Wp.step (fun p e s m args below meth c T L hx hZ hby hown X hH target ht => XT.i2c X.here hx rfl (hb hby hd) rfl ht) hr
theorem wp_i2s {x : Int32} (hd : Dc bytes pc (.i2s) 1 pc')  (hr : Wp b l Z own nm bytes maxL ret R H k j pc' Ls (.int x.toInt16.toInt32 :: st) Q) : Wp b l Z own nm bytes maxL ret R H k j pc Ls (.int x :: st) Q := by
  obtain ⟨hd, rfl⟩ := hd
  exact Wp.step (fun p e s m args below meth c T L hx hZ hby hown X hH target ht => XT.i2s X.here hx rfl (hb hby hd) rfl ht) hr
theorem wp_lcmp {x y : Int64} (hd : Dc bytes pc (.lcmp) 1 pc')  (hr : Wp b l Z own nm bytes maxL ret R H k j pc' Ls (.int (XT.cmpL x y) :: st) Q) : Wp b l Z own nm bytes maxL ret R H k j pc Ls (.long y :: .long x :: st) Q := by
  obtain ⟨hd, rfl⟩ := hd
  exact Wp.step (fun p e s m args below meth c T L hx hZ hby hown X hH target ht => XT.lcmp X.here hx rfl (hb hby hd) rfl ht) hr
theorem wp_iload_n {n : Fin 4} {v : Int32} (hd : Dc bytes pc (.iload_n n) 1 pc') (hl : Ls[n.val]? = some (.val (.int v))) (hr : Wp b l Z own nm bytes maxL ret R H k j pc' Ls (.int v :: st) Q) : Wp b l Z own nm bytes maxL ret R H k j pc Ls st Q := by
  obtain ⟨hd, rfl⟩ := hd
  exact Wp.step (fun p e s m args below meth c T L hx hZ hby hown X hH target ht => XS.iloadN X.here hx rfl (hb hby hd) hl ht) hr
theorem wp_iload {n : Nat} {v : Int32} (hd : Dc bytes pc (.iload n) 2 pc') (hl : Ls[n]? = some (.val (.int v))) (hr : Wp b l Z own nm bytes maxL ret R H k j pc' Ls (.int v :: st) Q) : Wp b l Z own nm bytes maxL ret R H k j pc Ls st Q := by
  obtain ⟨hd, rfl⟩ := hd
  exact Wp.step (fun p e s m args below meth c T L hx hZ hby hown X hH target ht => XS.iload X.here hx rfl (hb hby hd) hl ht) hr
theorem wp_lload_n {n : Fin 4} {v : Int64} (hd : Dc bytes pc (.lload_n n) 1 pc') (hl : Ls[n.val]? = some (.val (.long v))) (hr : Wp b l Z own nm bytes maxL ret R H k j pc' Ls (.long v :: st) Q) : Wp b l Z own nm bytes maxL ret R H k j pc Ls st Q := by
  obtain ⟨hd, rfl⟩ := hd
  exact Wp.step (fun p e s m args below meth c T L hx hZ hby hown X hH target ht => XT.lloadN X.here hx rfl (hb hby hd) hl ht) hr
theorem wp_lload {n : Nat} {v : Int64} (hd : Dc bytes pc (.lload n) 2 pc') (hl : Ls[n]? = some (.val (.long v))) (hr : Wp b l Z own nm bytes maxL ret R H k j pc' Ls (.long v :: st) Q) : Wp b l Z own nm bytes maxL ret R H k j pc Ls st Q := by
  obtain ⟨hd, rfl⟩ := hd
  exact Wp.step (fun p e s m args below meth c T L hx hZ hby hown X hH target ht => XT.lload X.here hx rfl (hb hby hd) hl ht) hr
theorem wp_aload_n {n : Fin 4} {v : Value} (hd : Dc bytes pc (.aload_n n) 1 pc') (hl : Ls[n.val]? = some (.val v)) (hv : v.isRef = true) (hr : Wp b l Z own nm bytes maxL ret R H k j pc' Ls (v :: st) Q) : Wp b l Z own nm bytes maxL ret R H k j pc Ls st Q := by
  obtain ⟨hd, rfl⟩ := hd
  exact Wp.step (fun p e s m args below meth c T L hx hZ hby hown X hH target ht => XS.aloadN X.here hx rfl (hb hby hd) hl hv ht) hr
theorem wp_aload {n : Nat} {v : Value} (hd : Dc bytes pc (.aload n) 2 pc') (hl : Ls[n]? = some (.val v)) (hv : v.isRef = true) (hr : Wp b l Z own nm bytes maxL ret R H k j pc' Ls (v :: st) Q) : Wp b l Z own nm bytes maxL ret R H k j pc Ls st Q := by
  obtain ⟨hd, rfl⟩ := hd
  exact Wp.step (fun p e s m args below meth c T L hx hZ hby hown X hH target ht => XS.aload X.here hx rfl (hb hby hd) hl hv ht) hr
theorem wp_istore_n {n : Fin 4} {x : Int32} (Ls' : Array Slot) (hd : Dc bytes pc (.istore_n n) 1 pc') (hl : storeLocals Ls n.val (.int x) = some Ls') (hr : Wp b l Z own nm bytes maxL ret R H k j pc' Ls' st Q) : Wp b l Z own nm bytes maxL ret R H k j pc Ls (.int x :: st) Q := by
  obtain ⟨hd, rfl⟩ := hd
  exact Wp.step (fun p e s m args below meth c T L hx hZ hby hown X hH target ht => XS.istoreN X.here hx rfl (hb hby hd) rfl hl ht) hr
theorem wp_istore {n : Nat} {x : Int32} (Ls' : Array Slot) (hd : Dc bytes pc (.istore n) 2 pc') (hl : storeLocals Ls n (.int x) = some Ls') (hr : Wp b l Z own nm bytes maxL ret R H k j pc' Ls' st Q) : Wp b l Z own nm bytes maxL ret R H k j pc Ls (.int x :: st) Q := by
  obtain ⟨hd, rfl⟩ := hd
  exact Wp.step (fun p e s m args below meth c T L hx hZ hby hown X hH target ht => XS.istore X.here hx rfl (hb hby hd) rfl hl ht) hr
theorem wp_lstore_n {n : Fin 4} {x : Int64} (Ls' : Array Slot) (hd : Dc bytes pc (.lstore_n n) 1 pc') (hl : storeLocals Ls n.val (.long x) = some Ls') (hr : Wp b l Z own nm bytes maxL ret R H k j pc' Ls' st Q) : Wp b l Z own nm bytes maxL ret R H k j pc Ls (.long x :: st) Q := by
  obtain ⟨hd, rfl⟩ := hd
  exact Wp.step (fun p e s m args below meth c T L hx hZ hby hown X hH target ht => XT.lstoreN X.here hx rfl (hb hby hd) rfl hl ht) hr
theorem wp_lstore {n : Nat} {x : Int64} (Ls' : Array Slot) (hd : Dc bytes pc (.lstore n) 2 pc') (hl : storeLocals Ls n (.long x) = some Ls') (hr : Wp b l Z own nm bytes maxL ret R H k j pc' Ls' st Q) : Wp b l Z own nm bytes maxL ret R H k j pc Ls (.long x :: st) Q := by
  obtain ⟨hd, rfl⟩ := hd
  exact Wp.step (fun p e s m args below meth c T L hx hZ hby hown X hH target ht => XT.lstore X.here hx rfl (hb hby hd) rfl hl ht) hr
theorem wp_astore_n {n : Fin 4} {x : Value} (Ls' : Array Slot) (hd : Dc bytes pc (.astore_n n) 1 pc') (hv : x.isRef = true) (hl : storeLocals Ls n.val x = some Ls') (hr : Wp b l Z own nm bytes maxL ret R H k j pc' Ls' st Q) : Wp b l Z own nm bytes maxL ret R H k j pc Ls (x :: st) Q := by
  obtain ⟨hd, rfl⟩ := hd
  exact Wp.step (fun p e s m args below meth c T L hx hZ hby hown X hH target ht => XS.astoreN X.here hx rfl (hb hby hd) rfl hv hl ht) hr
theorem wp_astore {n : Nat} {x : Value} (Ls' : Array Slot) (hd : Dc bytes pc (.astore n) 2 pc') (hv : x.isRef = true) (hl : storeLocals Ls n x = some Ls') (hr : Wp b l Z own nm bytes maxL ret R H k j pc' Ls' st Q) : Wp b l Z own nm bytes maxL ret R H k j pc Ls (x :: st) Q := by
  obtain ⟨hd, rfl⟩ := hd
  exact Wp.step (fun p e s m args below meth c T L hx hZ hby hown X hH target ht => XS.astore X.here hx rfl (hb hby hd) rfl hv hl ht) hr
theorem wp_iinc {n : Nat} {c : Int} {x : Int32} (v : Int32) (Ls' : Array Slot) (hd : Dc bytes pc (.iinc n c) 3 pc') (hv : Int32.ofInt c = v) (hl : Ls[n]? = some (.val (.int x))) (hl' : storeLocals Ls n (.int (x + v)) = some Ls') (hr : Wp b l Z own nm bytes maxL ret R H k j pc' Ls' st Q) : Wp b l Z own nm bytes maxL ret R H k j pc Ls st Q := by
  obtain ⟨hd, rfl⟩ := hd
  exact Wp.step (fun p e s m args below meth c T L hx hZ hby hown X hH target ht => XT.iincV X.here hx rfl v (hb hby hd) hv hl hl' ht) hr
theorem wp_iconst {i : Int} (v : Int32) (hd : Dc bytes pc (.iconst i) 1 pc') (hv : Int32.ofInt i = v) (hr : Wp b l Z own nm bytes maxL ret R H k j pc' Ls (.int v :: st) Q) : Wp b l Z own nm bytes maxL ret R H k j pc Ls st Q := by
  obtain ⟨hd, rfl⟩ := hd
  exact Wp.step (fun p e s m args below meth c T L hx hZ hby hown X hH target ht => XT.iconstV X.here hx rfl v (hb hby hd) hv ht) hr
theorem wp_bipush {i : Int} (v : Int32) (hd : Dc bytes pc (.bipush i) 2 pc') (hv : (Int8.ofInt i).toInt32 = v) (hr : Wp b l Z own nm bytes maxL ret R H k j pc' Ls (.int v :: st) Q) : Wp b l Z own nm bytes maxL ret R H k j pc Ls st Q := by
  obtain ⟨hd, rfl⟩ := hd
  exact Wp.step (fun p e s m args below meth c T L hx hZ hby hown X hH target ht => XT.bipushV X.here hx rfl v (hb hby hd) hv ht) hr
theorem wp_sipush {i : Int} (v : Int32) (hd : Dc bytes pc (.sipush i) 3 pc') (hv : (Int16.ofInt i).toInt32 = v) (hr : Wp b l Z own nm bytes maxL ret R H k j pc' Ls (.int v :: st) Q) : Wp b l Z own nm bytes maxL ret R H k j pc Ls st Q := by
  obtain ⟨hd, rfl⟩ := hd
  exact Wp.step (fun p e s m args below meth c T L hx hZ hby hown X hH target ht => XT.sipushV X.here hx rfl v (hb hby hd) hv ht) hr
theorem wp_lconst {i : Fin 2} (v : Int64) (hd : Dc bytes pc (.lconst i) 1 pc') (hv : Int64.ofNat i = v) (hr : Wp b l Z own nm bytes maxL ret R H k j pc' Ls (.long v :: st) Q) : Wp b l Z own nm bytes maxL ret R H k j pc Ls st Q := by
  obtain ⟨hd, rfl⟩ := hd
  exact Wp.step (fun p e s m args below meth c T L hx hZ hby hown X hH target ht => XT.lconstV X.here hx rfl v (hb hby hd) hv ht) hr
theorem wp_aconst_null  (hd : Dc bytes pc (.aconst_null) 1 pc')  (hr : Wp b l Z own nm bytes maxL ret R H k j pc' Ls (.null :: st) Q) : Wp b l Z own nm bytes maxL ret R H k j pc Ls st Q := by
  obtain ⟨hd, rfl⟩ := hd
  exact Wp.step (fun p e s m args below meth c T L hx hZ hby hown X hH target ht => XS.aconstNull X.here hx rfl (hb hby hd)  ht) hr
theorem wp_dup {x : Value} (hd : Dc bytes pc (.dup) 1 pc') (hc : x.category = 1) (hr : Wp b l Z own nm bytes maxL ret R H k j pc' Ls (x :: x :: st) Q) : Wp b l Z own nm bytes maxL ret R H k j pc Ls (x :: st) Q := by
  obtain ⟨hd, rfl⟩ := hd
  exact Wp.step (fun p e s m args below meth c T L hx hZ hby hown X hH target ht => XS.dup X.here hx rfl (hb hby hd) rfl hc ht) hr
theorem wp_pop {x : Value} (hd : Dc bytes pc (.pop) 1 pc') (hc : x.category = 1) (hr : Wp b l Z own nm bytes maxL ret R H k j pc' Ls st Q) : Wp b l Z own nm bytes maxL ret R H k j pc Ls (x :: st) Q := by
  obtain ⟨hd, rfl⟩ := hd
  exact Wp.step (fun p e s m args below meth c T L hx hZ hby hown X hH target ht => XT.pop X.here hx rfl (hb hby hd) rfl hc ht) hr
theorem wp_dup_x1 {x y : Value} (hd : Dc bytes pc (.dup_x1) 1 pc') (hc : x.category = 1) (hc' : y.category = 1) (hr : Wp b l Z own nm bytes maxL ret R H k j pc' Ls (x :: y :: x :: st) Q) : Wp b l Z own nm bytes maxL ret R H k j pc Ls (x :: y :: st) Q := by
  obtain ⟨hd, rfl⟩ := hd
  exact Wp.step (fun p e s m args below meth c T L hx hZ hby hown X hH target ht => XT.dupX1 X.here hx rfl (hb hby hd) rfl hc hc' ht) hr
theorem wp_dup2 {x y : Value} (hd : Dc bytes pc (.dup2) 1 pc') (hc : x.category = 1) (hc' : y.category = 1) (hr : Wp b l Z own nm bytes maxL ret R H k j pc' Ls (x :: y :: x :: y :: st) Q) : Wp b l Z own nm bytes maxL ret R H k j pc Ls (x :: y :: st) Q := by
  obtain ⟨hd, rfl⟩ := hd
  exact Wp.step (fun p e s m args below meth c T L hx hZ hby hown X hH target ht => XT.dup2 X.here hx rfl (hb hby hd) rfl hc hc' ht) hr
theorem wp_dup2L {x : Int64} (hd : Dc bytes pc (.dup2) 1 pc')  (hr : Wp b l Z own nm bytes maxL ret R H k j pc' Ls (.long x :: .long x :: st) Q) : Wp b l Z own nm bytes maxL ret R H k j pc Ls (.long x :: st) Q := by
  obtain ⟨hd, rfl⟩ := hd
  exact Wp.step (fun p e s m args below meth c T L hx hZ hby hown X hH target ht => XT.dup2L X.here hx rfl (hb hby hd) rfl ht) hr
theorem wp_ldcI {i : Nat} {v : Int32} (hd : Dc bytes pc (.ldc i) 2 pc') (w : (Cond.constant own i v).before a0 Z = true) (hr : Wp b l Z own nm bytes maxL ret R H k j pc' Ls (.int v :: st) Q) : Wp b l Z own nm bytes maxL ret R H k j pc Ls st Q := by
  obtain ⟨hd, rfl⟩ := hd
  exact Wp.step (fun p e s m args below meth c T L hx hZ hby hown X hH target ht => Jvm.Stand.ldcI X hx hown (mvT hZ w) rfl (hb hby hd) ht) hr
theorem wp_ldcWI {i : Nat} {v : Int32} (hd : Dc bytes pc (.ldc_w i) 3 pc') (w : (Cond.constant own i v).before a0 Z = true) (hr : Wp b l Z own nm bytes maxL ret R H k j pc' Ls (.int v :: st) Q) : Wp b l Z own nm bytes maxL ret R H k j pc Ls st Q := by
  obtain ⟨hd, rfl⟩ := hd
  exact Wp.step (fun p e s m args below meth c T L hx hZ hby hown X hH target ht => Jvm.Stand.ldcWI X hx hown (mvT hZ w) rfl (hb hby hd) ht) hr
theorem wp_ldc2J {i : Nat} {v : Int64} (hd : Dc bytes pc (.ldc2_w i) 3 pc') (w : (Cond.constantLong own i v).before a0 Z = true) (hr : Wp b l Z own nm bytes maxL ret R H k j pc' Ls (.long v :: st) Q) : Wp b l Z own nm bytes maxL ret R H k j pc Ls st Q := by
  obtain ⟨hd, rfl⟩ := hd
  exact Wp.step (fun p e s m args below meth c T L hx hZ hby hown X hH target ht => Jvm.Stand.ldc2J X hx hown (mvT hZ w) rfl (hb hby hd) ht) hr
theorem wp_instNull {i : Nat} (hd : Dc bytes pc (.instanceof i) 3 pc')  (hr : Wp b l Z own nm bytes maxL ret R H k j pc' Ls (.int 0 :: st) Q) : Wp b l Z own nm bytes maxL ret R H k j pc Ls (.null :: st) Q := by
  obtain ⟨hd, rfl⟩ := hd
  exact Wp.step (fun p e s m args below meth c T L hx hZ hby hown X hH target ht => X.instanceofNull hx (g := mkF m pc Ls (.null :: st)) rfl rfl (hb hby hd) _ ht) hr
theorem wp_castNull {i : Nat} (hd : Dc bytes pc (.checkcast i) 3 pc')  (hr : Wp b l Z own nm bytes maxL ret R H k j pc' Ls (.null :: st) Q) : Wp b l Z own nm bytes maxL ret R H k j pc Ls (.null :: st) Q := by
  obtain ⟨hd, rfl⟩ := hd
  exact Wp.step (fun p e s m args below meth c T L hx hZ hby hown X hH target ht => X.checkcastNull hx (g := mkF m pc Ls (.null :: st)) rfl rfl (hb hby hd) _ ht) hr
theorem wp_goto {o : Int} {n pc'' : Nat} (hd : Dc bytes pc (.goto o) 3 n) (ht : Tg pc o pc'') (hr : Wp b l Z own nm bytes maxL ret R H k j pc'' Ls st Q) : Wp b l Z own nm bytes maxL ret R H k j pc Ls st Q :=
  Wp.step (fun p e s m args below meth c T L hx hZ hby hown X hH target h => XS.goto X.here hx rfl rfl (hb hby hd.1) ht.1 ht.2 h) hr
theorem wp_icmp {cd : ClassFile.Cond} {o : Int} {x y : Int32} {pc'' : Nat} (hd : Dc bytes pc (.if_icmp cd o) 3 pc') (ht : Tg pc o pc'') (hy : if_icmp.holds cd x y = true → Wp b l Z own nm bytes maxL ret R H k j pc'' Ls st Q) (hn : if_icmp.holds cd x y = false → Wp b l Z own nm bytes maxL ret R H k j pc' Ls st Q) : Wp b l Z own nm bytes maxL ret R H k j pc Ls (.int y :: .int x :: st) Q := by
  obtain ⟨hd, rfl⟩ := hd
  cases hc : if_icmp.holds cd x y with
  | true => exact Wp.step (fun p e s m args below meth c T L hx hZ hby hown X hH target h => XS.icmpYes X.here hx rfl rfl (hb hby hd) rfl hc ht.1 ht.2 h) (hy hc)
  | false => exact Wp.step (fun p e s m args below meth c T L hx hZ hby hown X hH target h => XS.icmpNo X.here hx rfl (hb hby hd) rfl hc h) (hn hc)
theorem wp_if {cd : ClassFile.Cond} {o : Int} {x : Int32} {pc'' : Nat} (hd : Dc bytes pc (.ifCond cd o) 3 pc') (ht : Tg pc o pc'') (hy : ifCond.holds cd x = true → Wp b l Z own nm bytes maxL ret R H k j pc'' Ls st Q) (hn : ifCond.holds cd x = false → Wp b l Z own nm bytes maxL ret R H k j pc' Ls st Q) : Wp b l Z own nm bytes maxL ret R H k j pc Ls (.int x :: st) Q := by
  obtain ⟨hd, rfl⟩ := hd
  cases hc : ifCond.holds cd x with
  | true => exact Wp.step (fun p e s m args below meth c T L hx hZ hby hown X hH target h => XS.ifYes X.here hx rfl rfl (hb hby hd) rfl hc ht.1 ht.2 h) (hy hc)
  | false => exact Wp.step (fun p e s m args below meth c T L hx hZ hby hown X hH target h => XS.ifNo X.here hx rfl (hb hby hd) rfl hc h) (hn hc)
theorem icmp_holds (cd : ClassFile.Cond) (x y : Int32) : (if_icmp.holds .eq x y = decide (x = y)) ∧ (if_icmp.holds .ne x y = !decide (x = y)) ∧ (if_icmp.holds .lt x y = decide (x < y)) ∧ (if_icmp.holds .ge x y = !decide (x < y)) ∧ (if_icmp.holds .gt x y = decide (y < x)) ∧ (if_icmp.holds .le x y = !decide (y < x)) := by
  refine ⟨?_, ?_, ?_, ?_, ?_, ?_⟩
  · by_cases h : x = y <;> simp [h, if_icmp.holds]
  · by_cases h : x = y <;> simp [h, if_icmp.holds]
  · by_cases h : x < y <;> simp [h, if_icmp.holds]
  · by_cases h : x < y
    · simp [h, (tlt h).2.1]
    · simp [h, (flt h).2.1]
  · by_cases h : y < x
    · simp [h, (tlt h).2.2.1]
    · simp [h, (flt h).2.2.1]
  · by_cases h : y < x
    · simp [h, (tlt h).2.2.2]
    · simp [h, (flt h).2.2.2]
theorem wp_icmp_eq {o : Int} {x y : Int32} {pc'' : Nat} (hd : Dc bytes pc (.if_icmp .eq o) 3 pc') (ht : Tg pc o pc'') (hy : x = y → Wp b l Z own nm bytes maxL ret R H k j pc'' Ls st Q) (hn : ¬ x = y → Wp b l Z own nm bytes maxL ret R H k j pc' Ls st Q) : Wp b l Z own nm bytes maxL ret R H k j pc Ls (.int y :: .int x :: st) Q :=
  wp_icmp hd ht (fun h => hy (by rw [(icmp_holds .eq x y).1] at h; simpa using h)) (fun h => hn (by rw [(icmp_holds .eq x y).1] at h; simpa using h))
theorem wp_if_eq {o : Int} {x : Int32} {pc'' : Nat} (hd : Dc bytes pc (.ifCond .eq o) 3 pc') (ht : Tg pc o pc'') (hy : x = 0 → Wp b l Z own nm bytes maxL ret R H k j pc'' Ls st Q) (hn : ¬ x = 0 → Wp b l Z own nm bytes maxL ret R H k j pc' Ls st Q) : Wp b l Z own nm bytes maxL ret R H k j pc Ls (.int x :: st) Q :=
  wp_if hd ht (fun h => hy (by rw [if0, (icmp_holds .eq x 0).1] at h; simpa using h)) (fun h => hn (by rw [if0, (icmp_holds .eq x 0).1] at h; simpa using h))
theorem wp_icmp_ne {o : Int} {x y : Int32} {pc'' : Nat} (hd : Dc bytes pc (.if_icmp .ne o) 3 pc') (ht : Tg pc o pc'') (hy : ¬ x = y → Wp b l Z own nm bytes maxL ret R H k j pc'' Ls st Q) (hn : x = y → Wp b l Z own nm bytes maxL ret R H k j pc' Ls st Q) : Wp b l Z own nm bytes maxL ret R H k j pc Ls (.int y :: .int x :: st) Q :=
  wp_icmp hd ht (fun h => hy (by rw [(icmp_holds .eq x y).2.1] at h; simpa using h)) (fun h => hn (by rw [(icmp_holds .eq x y).2.1] at h; simpa using h))
theorem wp_if_ne {o : Int} {x : Int32} {pc'' : Nat} (hd : Dc bytes pc (.ifCond .ne o) 3 pc') (ht : Tg pc o pc'') (hy : ¬ x = 0 → Wp b l Z own nm bytes maxL ret R H k j pc'' Ls st Q) (hn : x = 0 → Wp b l Z own nm bytes maxL ret R H k j pc' Ls st Q) : Wp b l Z own nm bytes maxL ret R H k j pc Ls (.int x :: st) Q :=
  wp_if hd ht (fun h => hy (by rw [if0, (icmp_holds .eq x 0).2.1] at h; simpa using h)) (fun h => hn (by rw [if0, (icmp_holds .eq x 0).2.1] at h; simpa using h))
theorem wp_icmp_lt {o : Int} {x y : Int32} {pc'' : Nat} (hd : Dc bytes pc (.if_icmp .lt o) 3 pc') (ht : Tg pc o pc'') (hy : x < y → Wp b l Z own nm bytes maxL ret R H k j pc'' Ls st Q) (hn : ¬ x < y → Wp b l Z own nm bytes maxL ret R H k j pc' Ls st Q) : Wp b l Z own nm bytes maxL ret R H k j pc Ls (.int y :: .int x :: st) Q :=
  wp_icmp hd ht (fun h => hy (by rw [(icmp_holds .eq x y).2.2.1] at h; simpa using h)) (fun h => hn (by rw [(icmp_holds .eq x y).2.2.1] at h; simpa using h))
theorem wp_if_lt {o : Int} {x : Int32} {pc'' : Nat} (hd : Dc bytes pc (.ifCond .lt o) 3 pc') (ht : Tg pc o pc'') (hy : x < 0 → Wp b l Z own nm bytes maxL ret R H k j pc'' Ls st Q) (hn : ¬ x < 0 → Wp b l Z own nm bytes maxL ret R H k j pc' Ls st Q) : Wp b l Z own nm bytes maxL ret R H k j pc Ls (.int x :: st) Q :=
  wp_if hd ht (fun h => hy (by rw [if0, (icmp_holds .eq x 0).2.2.1] at h; simpa using h)) (fun h => hn (by rw [if0, (icmp_holds .eq x 0).2.2.1] at h; simpa using h))
theorem wp_icmp_ge {o : Int} {x y : Int32} {pc'' : Nat} (hd : Dc bytes pc (.if_icmp .ge o) 3 pc') (ht : Tg pc o pc'') (hy : ¬ x < y → Wp b l Z own nm bytes maxL ret R H k j pc'' Ls st Q) (hn : x < y → Wp b l Z own nm bytes maxL ret R H k j pc' Ls st Q) : Wp b l Z own nm bytes maxL ret R H k j pc Ls (.int y :: .int x :: st) Q :=
  wp_icmp hd ht (fun h => hy (by rw [(icmp_holds .eq x y).2.2.2.1] at h; simpa using h)) (fun h => hn (by rw [(icmp_holds .eq x y).2.2.2.1] at h; simpa using h))
theorem wp_if_ge {o : Int} {x : Int32} {pc'' : Nat} (hd : Dc bytes pc (.ifCond .ge o) 3 pc') (ht : Tg pc o pc'') (hy : ¬ x < 0 → Wp b l Z own nm bytes maxL ret R H k j pc'' Ls st Q) (hn : x < 0 → Wp b l Z own nm bytes maxL ret R H k j pc' Ls st Q) : Wp b l Z own nm bytes maxL ret R H k j pc Ls (.int x :: st) Q :=
  wp_if hd ht (fun h => hy (by rw [if0, (icmp_holds .eq x 0).2.2.2.1] at h; simpa using h)) (fun h => hn (by rw [if0, (icmp_holds .eq x 0).2.2.2.1] at h; simpa using h))
theorem wp_icmp_gt {o : Int} {x y : Int32} {pc'' : Nat} (hd : Dc bytes pc (.if_icmp .gt o) 3 pc') (ht : Tg pc o pc'') (hy : y < x → Wp b l Z own nm bytes maxL ret R H k j pc'' Ls st Q) (hn : ¬ y < x → Wp b l Z own nm bytes maxL ret R H k j pc' Ls st Q) : Wp b l Z own nm bytes maxL ret R H k j pc Ls (.int y :: .int x :: st) Q :=
  wp_icmp hd ht (fun h => hy (by rw [(icmp_holds .eq x y).2.2.2.2.1] at h; simpa using h)) (fun h => hn (by rw [(icmp_holds .eq x y).2.2.2.2.1] at h; simpa using h))
theorem wp_if_gt {o : Int} {x : Int32} {pc'' : Nat} (hd : Dc bytes pc (.ifCond .gt o) 3 pc') (ht : Tg pc o pc'') (hy : 0 < x → Wp b l Z own nm bytes maxL ret R H k j pc'' Ls st Q) (hn : ¬ 0 < x → Wp b l Z own nm bytes maxL ret R H k j pc' Ls st Q) : Wp b l Z own nm bytes maxL ret R H k j pc Ls (.int x :: st) Q :=
  wp_if hd ht (fun h => hy (by rw [if0, (icmp_holds .eq x 0).2.2.2.2.1] at h; simpa using h)) (fun h => hn (by rw [if0, (icmp_holds .eq x 0).2.2.2.2.1] at h; simpa using h))
theorem wp_icmp_le {o : Int} {x y : Int32} {pc'' : Nat} (hd : Dc bytes pc (.if_icmp .le o) 3 pc') (ht : Tg pc o pc'') (hy : ¬ y < x → Wp b l Z own nm bytes maxL ret R H k j pc'' Ls st Q) (hn : y < x → Wp b l Z own nm bytes maxL ret R H k j pc' Ls st Q) : Wp b l Z own nm bytes maxL ret R H k j pc Ls (.int y :: .int x :: st) Q :=
  wp_icmp hd ht (fun h => hy (by rw [(icmp_holds .eq x y).2.2.2.2.2] at h; simpa using h)) (fun h => hn (by rw [(icmp_holds .eq x y).2.2.2.2.2] at h; simpa using h))
theorem wp_if_le {o : Int} {x : Int32} {pc'' : Nat} (hd : Dc bytes pc (.ifCond .le o) 3 pc') (ht : Tg pc o pc'') (hy : ¬ 0 < x → Wp b l Z own nm bytes maxL ret R H k j pc'' Ls st Q) (hn : 0 < x → Wp b l Z own nm bytes maxL ret R H k j pc' Ls st Q) : Wp b l Z own nm bytes maxL ret R H k j pc Ls (.int x :: st) Q :=
  wp_if hd ht (fun h => hy (by rw [if0, (icmp_holds .eq x 0).2.2.2.2.2] at h; simpa using h)) (fun h => hn (by rw [if0, (icmp_holds .eq x 0).2.2.2.2.2] at h; simpa using h))
theorem cmpL_0 (x y : Int64) : (XT.cmpL x y = 0 ↔ x = y) ∧ (XT.cmpL x y < 0 ↔ x < y) ∧ (0 < XT.cmpL x y ↔ y < x) := by
  unfold XT.cmpL
  by_cases h1 : y < x
  · have h2 : ¬ x = y := by rintro rfl; exact absurd h1 (by simp [Int64.lt_iff_toInt_lt])
    have h3 : ¬ x < y := by rw [Int64.lt_iff_toInt_lt] at h1 ⊢; omega
    simp [h1, h2, h3]
  · by_cases h2 : x = y
    · subst h2; simp [Int64.lt_iff_toInt_lt]
    · have h3 : x < y := by rw [Int64.lt_iff_toInt_lt] at h1 ⊢; have := mt Int64.toInt_inj.mp h2; omega
      simp [h1, h2, h3]
theorem wp_lcmp_eq {o : Int} {x y : Int64} {pc1 pc'' : Nat} (hd0 : Dc bytes pc .lcmp 1 pc1) (hd : Dc bytes pc1 (.ifCond .eq o) 3 pc') (ht : Tg pc1 o pc'') (hy : x = y → Wp b l Z own nm bytes maxL ret R H k j pc'' Ls st Q) (hn : ¬ x = y → Wp b l Z own nm bytes maxL ret R H k j pc' Ls st Q) : Wp b l Z own nm bytes maxL ret R H k j pc Ls (.long y :: .long x :: st) Q :=
  wp_lcmp hd0 (wp_if_eq hd ht (fun h => hy (by rw [(cmpL_0 x y).1] at h; exact h)) (fun h => hn (by rw [(cmpL_0 x y).1] at h; exact h)))
theorem wp_lcmp_ne {o : Int} {x y : Int64} {pc1 pc'' : Nat} (hd0 : Dc bytes pc .lcmp 1 pc1) (hd : Dc bytes pc1 (.ifCond .ne o) 3 pc') (ht : Tg pc1 o pc'') (hy : ¬ x = y → Wp b l Z own nm bytes maxL ret R H k j pc'' Ls st Q) (hn : x = y → Wp b l Z own nm bytes maxL ret R H k j pc' Ls st Q) : Wp b l Z own nm bytes maxL ret R H k j pc Ls (.long y :: .long x :: st) Q :=
  wp_lcmp hd0 (wp_if_ne hd ht (fun h => hy (by rw [(cmpL_0 x y).1] at h; exact h)) (fun h => hn (by rw [(cmpL_0 x y).1] at h; exact h)))
theorem wp_lcmp_lt {o : Int} {x y : Int64} {pc1 pc'' : Nat} (hd0 : Dc bytes pc .lcmp 1 pc1) (hd : Dc bytes pc1 (.ifCond .lt o) 3 pc') (ht : Tg pc1 o pc'') (hy : x < y → Wp b l Z own nm bytes maxL ret R H k j pc'' Ls st Q) (hn : ¬ x < y → Wp b l Z own nm bytes maxL ret R H k j pc' Ls st Q) : Wp b l Z own nm bytes maxL ret R H k j pc Ls (.long y :: .long x :: st) Q :=
  wp_lcmp hd0 (wp_if_lt hd ht (fun h => hy (by rw [(cmpL_0 x y).2.1] at h; exact h)) (fun h => hn (by rw [(cmpL_0 x y).2.1] at h; exact h)))
theorem wp_lcmp_ge {o : Int} {x y : Int64} {pc1 pc'' : Nat} (hd0 : Dc bytes pc .lcmp 1 pc1) (hd : Dc bytes pc1 (.ifCond .ge o) 3 pc') (ht : Tg pc1 o pc'') (hy : ¬ x < y → Wp b l Z own nm bytes maxL ret R H k j pc'' Ls st Q) (hn : x < y → Wp b l Z own nm bytes maxL ret R H k j pc' Ls st Q) : Wp b l Z own nm bytes maxL ret R H k j pc Ls (.long y :: .long x :: st) Q :=
  wp_lcmp hd0 (wp_if_ge hd ht (fun h => hy (by rw [(cmpL_0 x y).2.1] at h; exact h)) (fun h => hn (by rw [(cmpL_0 x y).2.1] at h; exact h)))
theorem wp_lcmp_gt {o : Int} {x y : Int64} {pc1 pc'' : Nat} (hd0 : Dc bytes pc .lcmp 1 pc1) (hd : Dc bytes pc1 (.ifCond .gt o) 3 pc') (ht : Tg pc1 o pc'') (hy : y < x → Wp b l Z own nm bytes maxL ret R H k j pc'' Ls st Q) (hn : ¬ y < x → Wp b l Z own nm bytes maxL ret R H k j pc' Ls st Q) : Wp b l Z own nm bytes maxL ret R H k j pc Ls (.long y :: .long x :: st) Q :=
  wp_lcmp hd0 (wp_if_gt hd ht (fun h => hy (by rw [(cmpL_0 x y).2.2] at h; exact h)) (fun h => hn (by rw [(cmpL_0 x y).2.2] at h; exact h)))
theorem wp_lcmp_le {o : Int} {x y : Int64} {pc1 pc'' : Nat} (hd0 : Dc bytes pc .lcmp 1 pc1) (hd : Dc bytes pc1 (.ifCond .le o) 3 pc') (ht : Tg pc1 o pc'') (hy : ¬ y < x → Wp b l Z own nm bytes maxL ret R H k j pc'' Ls st Q) (hn : y < x → Wp b l Z own nm bytes maxL ret R H k j pc' Ls st Q) : Wp b l Z own nm bytes maxL ret R H k j pc Ls (.long y :: .long x :: st) Q :=
  wp_lcmp hd0 (wp_if_le hd ht (fun h => hy (by rw [(cmpL_0 x y).2.2] at h; exact h)) (fun h => hn (by rw [(cmpL_0 x y).2.2] at h; exact h)))
theorem wp_ifnull_y {o : Int} {n pc'' : Nat} (hd : Dc bytes pc (.ifnull o) 3 n) (ht : Tg pc o pc'') (hr : Wp b l Z own nm bytes maxL ret R H k j pc'' Ls st Q) : Wp b l Z own nm bytes maxL ret R H k j pc Ls (.null :: st) Q :=
  Wp.step (fun p e s m args below meth c T L hx hZ hby hown X hH target h => XS.ifnullYes X.here hx rfl rfl (hb hby hd.1) rfl ht.1 ht.2 h) hr
theorem wp_ifnull_n {o : Int} {x : Addr} (hd : Dc bytes pc (.ifnull o) 3 pc') (hr : Wp b l Z own nm bytes maxL ret R H k j pc' Ls st Q) : Wp b l Z own nm bytes maxL ret R H k j pc Ls (.ref x :: st) Q := by
  obtain ⟨hd, rfl⟩ := hd
  exact Wp.step (fun p e s m args below meth c T L hx hZ hby hown X hH target h => XS.ifnullNo X.here hx rfl (hb hby hd) rfl h) hr
theorem wp_ifnonnull_y {o : Int} {x : Addr} {n pc'' : Nat} (hd : Dc bytes pc (.ifnonnull o) 3 n) (ht : Tg pc o pc'') (hr : Wp b l Z own nm bytes maxL ret R H k j pc'' Ls st Q) : Wp b l Z own nm bytes maxL ret R H k j pc Ls (.ref x :: st) Q :=
  Wp.step (fun p e s m args below meth c T L hx hZ hby hown X hH target h => XT.ifnonnullYes X.here hx rfl rfl (hb hby hd.1) rfl ht.1 ht.2 h) hr
theorem wp_ifnonnull_n {o : Int} (hd : Dc bytes pc (.ifnonnull o) 3 pc') (hr : Wp b l Z own nm bytes maxL ret R H k j pc' Ls st Q) : Wp b l Z own nm bytes maxL ret R H k j pc Ls (.null :: st) Q := by
  obtain ⟨hd, rfl⟩ := hd
  exact Wp.step (fun p e s m args below meth c T L hx hZ hby hown X hH target h => XT.ifnonnullNo X.here hx rfl (hb hby hd) rfl h) hr
theorem wp_acmp {cd : ClassFile.ACond} {o : Int} {x y : Value} {pc'' : Nat} (hd : Dc bytes pc (.if_acmp cd o) 3 pc') (ht : Tg pc o pc'') (h1 : x.isRef = true) (h2 : y.isRef = true) (hy : acV cd (decide (x = y)) = true → Wp b l Z own nm bytes maxL ret R H k j pc'' Ls st Q) (hn : acV cd (decide (x = y)) = false → Wp b l Z own nm bytes maxL ret R H k j pc' Ls st Q) : Wp b l Z own nm bytes maxL ret R H k j pc Ls (y :: x :: st) Q := by
  obtain ⟨hd, rfl⟩ := hd
  cases hc : acV cd (decide (x = y)) with
  | true => exact Wp.step (fun p e s m args below meth c T L hx hZ hby hown X hH target h => acmp X hx rfl h1 h2 (pc0 := pc) rfl (hb hby hd) rfl rfl ht.1 (by rw [if_pos hc]; exact ht.2.symm) h) (hy hc)
  | false => exact Wp.step (fun p e s m args below meth c T L hx hZ hby hown X hH target h => acmp X hx rfl h1 h2 (pc0 := pc) rfl (hb hby hd) rfl rfl ht.1 (by rw [hc]; rfl) h) (hn hc)
theorem wp_acmp_eq {o : Int} {x y : Value} {pc'' : Nat} (hd : Dc bytes pc (.if_acmp .eq o) 3 pc') (ht : Tg pc o pc'') (h1 : x.isRef = true) (h2 : y.isRef = true) (hy : x = y → Wp b l Z own nm bytes maxL ret R H k j pc'' Ls st Q) (hn : ¬ x = y → Wp b l Z own nm bytes maxL ret R H k j pc' Ls st Q) : Wp b l Z own nm bytes maxL ret R H k j pc Ls (y :: x :: st) Q :=
  wp_acmp hd ht h1 h2 (fun h => hy (by simpa [acV] using h)) (fun h => hn (by simpa [acV] using h))
theorem wp_acmp_ne {o : Int} {x y : Value} {pc'' : Nat} (hd : Dc bytes pc (.if_acmp .ne o) 3 pc') (ht : Tg pc o pc'') (h1 : x.isRef = true) (h2 : y.isRef = true) (hy : ¬ x = y → Wp b l Z own nm bytes maxL ret R H k j pc'' Ls st Q) (hn : x = y → Wp b l Z own nm bytes maxL ret R H k j pc' Ls st Q) : Wp b l Z own nm bytes maxL ret R H k j pc Ls (y :: x :: st) Q :=
  wp_acmp hd ht h1 h2 (fun h => hy (by simpa [acV] using h)) (fun h => hn (by simpa [acV] using h))
theorem wp_return  (hd : Dc bytes pc .return_ 1 pc') (hr : ret = none) (hk : k ≤ R.cells) (hj : j ≤ R.slots) (hQ : Q none H) : Wp b l Z own nm bytes maxL ret R H k j pc Ls [] Q :=
  fun p e s vm0 k0 m args below meth c T L hx hZ hS hkz hby hml hown hnm hret X N hH hB => ⟨T, none, L, k, j, vm0, k0, H, ⟨hS, hkz, fun _ => rfl⟩, X, ⟨hk, hj, Nat.le_refl _⟩, N, hH, fun h => by first | rfl | (rw [hr] at h; cases h), hQ, fun fs hl => X.returnOut hx (hret.trans hr) (hb hby hd.1) hl⟩
theorem wp_ireturn {x : Int32} (hd : Dc bytes pc .ireturn 1 pc') (hr : ret = some .int) (hk : k ≤ R.cells) (hj : j ≤ R.slots) (hQ : Q (some (.int x)) H) : Wp b l Z own nm bytes maxL ret R H k j pc Ls (.int x :: st) Q :=
  fun p e s vm0 k0 m args below meth c T L hx hZ hS hkz hby hml hown hnm hret X N hH hB => ⟨T, (some (.int x)), L, k, j, vm0, k0, H, ⟨hS, hkz, fun _ => rfl⟩, X, ⟨hk, hj, Nat.le_refl _⟩, N, hH, fun h => by first | rfl | (rw [hr] at h; cases h), hQ, fun fs hl => retOut X hx (hret.trans hr) rfl (Or.inl ⟨rfl, Or.inl rfl, x, rfl⟩) (hb hby hd.1) hl⟩
theorem wp_ireturnN {x : Int32} {t : FieldType} (hd : Dc bytes pc .ireturn 1 pc') (hr : ret = some t) (ht : t = .boolean ∨ t = .byte ∨ t = .char ∨ t = .short) (hk : k ≤ R.cells) (hj : j ≤ R.slots) (hQ : Q (some (.int (nar t x))) H) : Wp b l Z own nm bytes maxL ret R H k j pc Ls (.int x :: st) Q :=
  fun p e s vm0 k0 m args below meth c T L hx hZ hS hkz hby hml hown hnm hret X N hH hB => ⟨T, (some (.int (nar t x))), L, k, j, vm0, k0, H, ⟨hS, hkz, fun _ => rfl⟩, X, ⟨hk, hj, Nat.le_refl _⟩, N, hH, fun h => by first | rfl | (rw [hr] at h; cases h), hQ, fun fs hl => retN X hx (hret.trans hr) ht (hb hby hd.1) hl⟩
theorem wp_lreturn {x : Int64} (hd : Dc bytes pc .lreturn 1 pc') (hr : ret = some .long) (hk : k ≤ R.cells) (hj : j ≤ R.slots) (hQ : Q (some (.long x)) H) : Wp b l Z own nm bytes maxL ret R H k j pc Ls (.long x :: st) Q :=
  fun p e s vm0 k0 m args below meth c T L hx hZ hS hkz hby hml hown hnm hret X N hH hB => ⟨T, (some (.long x)), L, k, j, vm0, k0, H, ⟨hS, hkz, fun _ => rfl⟩, X, ⟨hk, hj, Nat.le_refl _⟩, N, hH, fun h => by first | rfl | (rw [hr] at h; cases h), hQ, fun fs hl => retOut X hx (hret.trans hr) rfl (Or.inr (Or.inl ⟨rfl, rfl, x, rfl⟩)) (hb hby hd.1) hl⟩
theorem wp_areturn {x : Value} {t : FieldType} (hd : Dc bytes pc .areturn 1 pc') (hr : ret = some t) (ht : t.isReference = true) (hn : narrow t x = x) (hv : x.isRef = true) (hk : k ≤ R.cells) (hj : j ≤ R.slots) (hQ : Q (some x) H) : Wp b l Z own nm bytes maxL ret R H k j pc Ls (x :: st) Q :=
  fun p e s vm0 k0 m args below meth c T L hx hZ hS hkz hby hml hown hnm hret X N hH hB => ⟨T, (some x), L, k, j, vm0, k0, H, ⟨hS, hkz, fun _ => rfl⟩, X, ⟨hk, hj, Nat.le_refl _⟩, N, hH, fun h => by first | rfl | (rw [hr] at h; cases h), hQ, fun fs hl => retOut X hx (hret.trans hr) hn (Or.inr (Or.inr (Or.inr (Or.inr ⟨rfl, ht, hv⟩)))) (hb hby hd.1) hl⟩
def FldAt (Z : State) (H : OH) (a : Addr) (O n d : String) (v : Value) : Prop := ∀ h, Hp Z h H → Fld Z h a O n d v
def ExaAt (Z : State) (H : OH) (a : Addr) (C : String) : Prop := ∀ h, Hp Z h H → Exa Z h a C
theorem fld_new {i fi : Nat} {a : Addr} {fl : Bool} {C O n d : String} {sg : OSig} {vs : List Value} {v : Value} (hi : H[i]? = some (a, (fl, .inl (C, sg, vs)))) (hf : sg[fi]? = some (O, n, d)) (hv : vs[fi]? = some v) : FldAt Z H a O n d v := fun h P => (P.at hi).2.2.2 fi _ v hf hv
theorem fld_old {a : Addr} {O n d : String} {v : Value} (F : Fld Z Z.heap a O n d v) : FldAt Z H a O n d v := fun h P => F.ext P.1
theorem exa_new {i : Nat} {a : Addr} {fl : Bool} {C : String} {sg : OSig} {vs : List Value} (hi : H[i]? = some (a, (fl, .inl (C, sg, vs)))) : ExaAt Z H a C := fun h P => (P.at hi).2.1
theorem exa_old {a : Addr} {C : String} (F : Exa Z Z.heap a C) : ExaAt Z H a C := fun h P => F.ext P.1
theorem wp_getfield {a : Addr} {O n d : String} {v : Value} {idx : Nat} (hd : Dc bytes pc (.getfield idx) 3 pc') (w : (Cond.fieldLink own idx O n d).before a0 Z = true) (F : FldAt Z H a O n d v) (hr : Wp b l Z own nm bytes maxL ret R H k j pc' Ls (v :: st) Q) : Wp b l Z own nm bytes maxL ret R H k j pc Ls (.ref a :: st) Q := by
  obtain ⟨hd, rfl⟩ := hd
  refine Wp.stepH fun p e s m args below meth c T L hx hZ hby hml hown hnm hret X N hH => ?_
  obtain ⟨T', X', e', stp⟩ := getF X hx hZ hown (host := "") (Or.inl w) Via.refl rfl (F _ hH) (g := mkF m pc Ls (.ref a :: st)) rfl rfl (hb hby hd)
  exact ⟨T', L, k, j, H, _, Ls, v :: st, X', by rw [e']; exact Nat.le_refl _, N, by rw [e']; exact hH, hr, stp⟩
theorem wp_getfieldVia {a : Addr} {R0 O n d : String} {v : Value} {idx : Nat} (hd : Dc bytes pc (.getfield idx) 3 pc') (w : (Cond.fieldLink own idx R0 n d).before a0 Z = true) (via : Via Z R0 O n d) (F : FldAt Z H a O n d v) (hr : Wp b l Z own nm bytes maxL ret R H k j pc' Ls (v :: st) Q) : Wp b l Z own nm bytes maxL ret R H k j pc Ls (.ref a :: st) Q := by
  obtain ⟨hd, rfl⟩ := hd
  refine Wp.stepH fun p e s m args below meth c T L hx hZ hby hml hown hnm hret X N hH => ?_
  obtain ⟨T', X', e', stp⟩ := getF X hx hZ hown (host := "") (Or.inl w) via rfl (F _ hH) (g := mkF m pc Ls (.ref a :: st)) rfl rfl (hb hby hd)
  exact ⟨T', L, k, j, H, _, Ls, v :: st, X', by rw [e']; exact Nat.le_refl _, N, by rw [e']; exact hH, hr, stp⟩
theorem wp_getstatic {O n d : String} {v : Value} {idx : Nat} (hd : Dc bytes pc (.getstatic idx) 3 pc') (w : (Cond.fieldLink own idx O n d).before a0 Z = true) (F : Sta Z Z.heap O n d v) (hr : Wp b l Z own nm bytes maxL ret R H k j pc' Ls (v :: st) Q) : Wp b l Z own nm bytes maxL ret R H k j pc Ls st Q := by
  obtain ⟨hd, rfl⟩ := hd
  refine Wp.stepH fun p e s m args below meth c T L hx hZ hby hml hown hnm hret X N hH => ?_
  obtain ⟨T', X', e', stp⟩ := getS (host := "") X hx hZ hown w Via.refl rfl (F.ext hH.1) (g := mkF m pc Ls st) rfl (hb hby hd)
  exact ⟨T', L, k, j, H, _, Ls, v :: st, X', by rw [e']; exact Nat.le_refl _, N, by rw [e']; exact hH, hr, stp⟩
theorem Sat.put {h h' : Heap} {a : Addr} {C O n d : String} {sg : OSig} {vs : List Value} {fi : Nat} {v : Value} (S : Sat Z h a (.inl (C, sg, vs))) (hf : sg[fi]? = some (O, n, d)) (W : Wr h h' a (Jvm.RoadKit.slotOf Z O n d) v) : Sat Z h' a (.inl (C, sg, vs.set fi v)) := by
  obtain ⟨S1, S2, S3⟩ := S
  refine ⟨S1.wr W, S2, fun i f u q r => ?_⟩
  rw [List.getElem?_set] at r
  split at r
  · rename_i e; subst e
    split at r
    · rename_i hlt
      cases r
      cases hf.symm.trans q
      exact (S3 fi _ _ hf (List.getElem?_eq_getElem hlt)).same W
    · cases r
  · rename_i ne
    refine (S3 i f u q r).other W (Or.inr ?_)
    have hP := List.pairwise_iff_getElem.mp S2
    obtain ⟨h1, e1⟩ := List.getElem?_eq_some_iff.mp q
    obtain ⟨h2, e2⟩ := List.getElem?_eq_some_iff.mp hf
    rcases Nat.lt_or_gt_of_ne ne with u | u
    · have := hP fi i h2 h1 u; rw [e1, e2] at this; exact Ne.symm this
    · have := hP i fi h1 h2 u; rw [e1, e2] at this; exact this
theorem wp_putfield {i fi kk : Nat} {a : Addr} {C O n d : String} {sg : OSig} {vs : List Value} {v old : Value} {ty : FieldType} {idx : Nat} (hd : Dc bytes pc (.putfield idx) 3 pc') (w : (Cond.fieldLink own idx O n d).before a0 Z = true) (hi : H[i]? = some (a, oI C sg vs)) (hf : sg[fi]? = some (O, n, d)) (ho : vs[fi]? = some old) (L0 : (Cond.lays C O n d).before a0 Z = true ∨ ((Cond.laysFinal C O n d).before a0 Z = true ∧ own = O ∧ nm = "<init>")) (wi : (Cond.instantiable C kk).before a0 Z = true) (hty : parseFieldDescriptor d = some ty) (hn : narrow ty v = v) (hfit : fits ty v = true) (hr : Wp b l Z own nm bytes maxL ret R (H.set i (a, oI C sg (vs.set fi v))) k j pc' Ls st Q) : Wp b l Z own nm bytes maxL ret R H k j pc Ls (v :: .ref a :: st) Q := by
  obtain ⟨hd, rfl⟩ := hd
  refine Wp.stepH fun p e s m args below meth c T L hx hZ hby hml hown hnm hret X N hH => ?_
  have S := (hH.at hi).2
  obtain ⟨T', h', X', e', W', stp⟩ := putF X hx hZ hown (host := "") (Or.inl w) Via.refl rfl (S.2.2 fi _ _ hf ho) S.1 (L0.imp id fun q => ⟨q.1, q.2.1, hnm.trans q.2.2⟩) wi hty hn hfit (g := mkF m pc Ls (v :: .ref a :: st)) rfl rfl (hb hby hd)
  subst e'
  exact ⟨T', _, k, j, _, _, Ls, st, X', by rw [W'.size]; exact Nat.le_refl _, Fr.snoc X' N ((hH.at hi).1 rfl), hH.set hi W' (S.put hf W'), hr, stp⟩
def Dfl : OSig → List Value → Prop
  | [], [] => True
  | f :: sg, v :: vs => (∃ ty, parseFieldDescriptor f.2.2 = some ty ∧ defaultValue ty = v) ∧ Dfl sg vs
  | _, _ => False
theorem Dfl.at : ∀ {sg : OSig} {vs : List Value}, Dfl sg vs → ∀ (i : Nat) (f : String × String × String) (v : Value), sg[i]? = some f → vs[i]? = some v → ∃ ty, parseFieldDescriptor f.2.2 = some ty ∧ defaultValue ty = v
  | [], [], _, i, f, v, q, _ => by simp at q
  | f :: sg, v :: vs, D, 0, f', v', q, r => by simp at q r; subst q r; exact D.1
  | f :: sg, v :: vs, D, i + 1, f', v', q, r => D.2.at i f' v' (by simpa using q) (by simpa using r)
  | [], _ :: _, D, _, _, _, _, _ => D.elim
  | _ :: _, [], D, _, _, _, _, _ => D.elim
theorem Dfl.parse : ∀ {sg : OSig} {vs : List Value}, Dfl sg vs → ∀ f ∈ sg, ∃ ty, parseFieldDescriptor f.2.2 = some ty
  | [], [], _, f, q => by simp at q
  | g :: sg, v :: vs, D, f, q => (List.mem_cons.mp q).elim (fun e => by subst e; exact ⟨D.1.choose, D.1.choose_spec.1⟩) (D.2.parse f)
  | [], _ :: _, D, _, _ => D.elim
  | _ :: _, [], D, _, _ => D.elim
theorem slo_of {C : String} {sg : OSig} {vs : List Value} (D : Dfl sg vs) (hL : ∀ f ∈ sg, Laid Z a0 C f.1 f.2.1 f.2.2) (hn : (sg.map fun f => f.2.1).Nodup) : Slo Z sg := by
  have h1 : sg.Pairwise fun f g => f.2.1 ≠ g.2.1 := List.pairwise_map.mp hn
  refine List.Pairwise.imp_of_mem (fun {f g} hf hg ne => ?_) h1
  obtain ⟨t, ht⟩ := D.parse f hf
  obtain ⟨t', ht'⟩ := D.parse g hg
  exact slot_ne (hL f hf) (hL g hg) ne ht ht'
theorem all_nil {α : Type} {P : α → Prop} : ∀ x ∈ ([] : List α), P x := fun _ q => nomatch q
theorem all_cons {α : Type} {P : α → Prop} {y : α} {L : List α} (q : P y) (r : ∀ x ∈ L, P x) : ∀ x ∈ y :: L, P x := fun x z => (List.mem_cons.mp z).elim (fun u => u ▸ q) (r x)
theorem wp_new {C : String} {idx n : Nat} (sg : OSig) (vs : List Value) (hd : Dc bytes pc (.new idx) 3 pc') (w : (Cond.classLink own idx C).before a0 Z = true) (wi : (Cond.instantiable C n).before a0 Z = true) (wz : (Cond.initialized C).before a0 Z = true) (hL : ∀ f ∈ sg, Laid Z a0 C f.1 f.2.1 f.2.2) (hn : (sg.map fun f => f.2.1).Nodup) (D : Dfl sg vs) (hc : k + 1 ≤ R.cells) (hl : j + n ≤ R.slots) (hr : ∀ a, Wp b l Z own nm bytes maxL ret R ((a, oI C sg vs) :: H) (k + 1) (j + n) pc' Ls (.ref a :: st) Q) : Wp b l Z own nm bytes maxL ret R H k j pc Ls st Q := by
  obtain ⟨hd, rfl⟩ := hd
  refine Wp.stepH fun p e s m args below meth c T L hx hZ hby hml hown hnm hret X N hH => ?_
  obtain ⟨T', h', X', e', E', A', D', -, stp⟩ := newO X hx hZ hown w wi wz rfl (g := mkF m pc Ls st) rfl (hb hby hd) hc hl
  subst e'
  refine ⟨T', L, _, _, _, _, Ls, _, X', E'.1, N, hH.cons E' (o := .inl (C, sg, vs)) ⟨A', slo_of D hL hn, fun i f v q r => ?_⟩, hr _, stp⟩
  obtain ⟨ty, t1, t2⟩ := D.at i f v q r
  rw [← t2]
  exact D' (hL f (List.mem_of_getElem? q)) t1
theorem wp_initO {a : Addr} {idx : Nat} (hd : Dc bytes pc (.invokespecial idx) 3 pc') (w1 : (Cond.methodLink own idx Lib.objectInit).before a0 Z = true) (w2 : (Cond.instanceMethod Lib.objectInit).before a0 Z = true) (w3 : (Cond.code Lib.objectInit ⟨#[0xb1]⟩ 1 none).before a0 Z = true) (hsz : Ls.size = maxL) (hf : 1 ≤ R.frames) (hl : (st.map fun v => v.category).sum + 12 ≤ R.locals) (hr : Wp b l Z own nm bytes maxL ret R H k j pc' Ls st Q) : Wp b l Z own nm bytes maxL ret R H k j pc Ls (.ref a :: st) Q := by
  obtain ⟨hd, rfl⟩ := hd
  refine Wp.stepH fun p e s m args below meth c T L hx hZ hby hml hown hnm hret X N hH => ?_
  obtain ⟨T', X', e', stp⟩ := initO X hx hZ hown w1 w2 w3 rfl (g := mkF m pc Ls (.ref a :: st)) rfl (by rw [hml]; exact hsz) rfl (hb hby hd) hf (W := (st.map fun v => v.category).sum) (by show 2 * 0 + _ ≤ _; omega) hl
  exact ⟨T', L, k, j, H, _, Ls, st, X', by rw [e']; exact Nat.le_refl _, N, by rw [e']; exact hH, hr, stp⟩
theorem wp_newarrayI {aty : ArrayType} {ty : FieldType} {n : Int32} (cnt cap : Nat) (hd : Dc bytes pc (.newarray aty) 2 pc') (hty : newarray.typeOf aty = ty) (hdef : defaultValue ty = .int 0) (hfz : fits ty (.int 0) = true) (w : (Cond.arrayClass ty).before a0 Z = true) (hn : ¬ n < 0) (hcnt : n.toNatClampNeg = cnt) (hcap : cnt ≤ cap) (hb8 : cap * 8 ≤ 536870912) (hc : k + 1 ≤ R.cells) (hl : j + cap ≤ R.slots) (hr : ∀ a, Wp b l Z own nm bytes maxL ret R ((a, oA ty (List.replicate cnt 0)) :: H) (k + 1) (j + cap) pc' Ls (.ref a :: st) Q) : Wp b l Z own nm bytes maxL ret R H k j pc Ls (.int n :: st) Q := by
  obtain ⟨hd, rfl⟩ := hd
  subst hty
  refine Wp.stepH fun p e s m args below meth c T L hx hZ hby hml hown hnm hret X N hH => ?_
  obtain ⟨T', h', cA, X', e', E', A', B', stp⟩ := newPE X hx hZ w rfl (g := mkF m pc Ls (.int n :: st)) rfl (hb hby hd) rfl hn (cap := cap) (by rw [hcnt]; exact hcap) hb8 hc hl rfl
  subst e'
  refine ⟨T', L, _, _, _, _, Ls, _, X', E'.1, N, hH.cons E' (o := .inr (.inl (_, List.replicate cnt 0))) ⟨Or.inr B', _, A', ?_, fun x hx => ?_⟩, hr _, stp⟩
  · simp [newA, hcnt, hdef]
  · rw [(List.mem_replicate.mp hx).2]; exact hfz
set_option maxHeartbeats 1000000 in
theorem wp_newarrayJ {n : Int32} (cnt cap : Nat) (hd : Dc bytes pc (.newarray .long) 2 pc') (w : (Cond.arrayClass .long).before a0 Z = true) (hn : ¬ n < 0) (hcnt : n.toNatClampNeg = cnt) (hcap : cnt ≤ cap) (hb8 : cap * 8 ≤ 536870912) (hc : k + 1 ≤ R.cells) (hl : j + cap ≤ R.slots) (hr : ∀ a, Wp b l Z own nm bytes maxL ret R ((a, oJ (List.replicate cnt 0)) :: H) (k + 1) (j + cap) pc' Ls (.ref a :: st) Q) : Wp b l Z own nm bytes maxL ret R H k j pc Ls (.int n :: st) Q := by
  obtain ⟨hd, rfl⟩ := hd
  refine Wp.stepH fun p e s m args below meth c T L hx hZ hby hml hown hnm hret X N hH => ?_
  obtain ⟨T', h', cA, X', e', E', A', B', stp⟩ := newPE (aty := .long) (ad := "[J") X hx hZ w rfl (g := mkF m pc Ls (.int n :: st)) rfl (hb hby hd) rfl hn (cap := cap) (by rw [hcnt]; exact hcap) hb8 hc hl rfl
  subst e'
  refine ⟨T', L, _, _, _, _, Ls, _, X', E'.1, N, hH.cons E' (o := .inr (.inr (.inl (List.replicate cnt 0)))) ⟨B', _, A', ?_⟩, hr _, stp⟩
  simp [newA, hcnt, defaultValue, newarray.typeOf]
theorem in_of {j : Int32} {xs : List Value} {c : Cell} {v : Value} (hs : c.slots = xs.toArray) (hj : ¬ j < 0) (hv : xs[j.toNatClampNeg]? = some v) : ¬ (j < 0 ∨ c.slots.size ≤ j.toNatClampNeg) ∧ c.slots[j.toNatClampNeg]? = some v := by
  have h1 := (List.getElem?_eq_some_iff.mp hv).1
  refine ⟨fun q => q.elim hj fun r => ?_, by rw [hs]; simpa using hv⟩
  rw [hs] at r; simp at r; omega
theorem setSlot_list {c : Cell} {xs : List Value} {n : Nat} {v : Value} (hs : c.slots = xs.toArray) : (c.setSlot n v).slots = (xs.set n v).toArray := by simp [Cell.setSlot, hs]
theorem wp_iaload {i : Nat} {a : Addr} {fl : Bool} {xs : List Int32} {n x : Int32} (m : Nat) (hd : Dc bytes pc .iaload 1 pc') (hi : H[i]? = some (a, (fl, .inr (.inl (.int, xs))))) (hn : ¬ n < 0) (hm : n.toNatClampNeg = m) (hv : xs[m]? = some x) (hr : Wp b l Z own nm bytes maxL ret R H k j pc' Ls (.int x :: st) Q) : Wp b l Z own nm bytes maxL ret R H k j pc Ls (.int n :: .ref a :: st) Q := by
  obtain ⟨hd, rfl⟩ := hd
  refine Wp.step (fun p e s m args below meth c T L hx hZ hby hown X hH target h => ?_) hr
  obtain ⟨-, cl, A, hs, -⟩ := (hH.at hi).2
  obtain ⟨h1, h2⟩ := in_of hs hn (v := .int x) (by rw [hm]; simpa using hv)
  exact X.iaload hx A.1 (State.isArrayOf_alike hZ.alike A.2.1) A.2.2 h1 h2 (g := mkF m pc Ls (.int n :: .ref a :: st)) rfl rfl (hb hby hd) _ h
theorem wp_caload {i : Nat} {a : Addr} {fl : Bool} {xs : List Int32} {n x : Int32} (m : Nat) (hd : Dc bytes pc .caload 1 pc') (hi : H[i]? = some (a, (fl, .inr (.inl (.char, xs))))) (hn : ¬ n < 0) (hm : n.toNatClampNeg = m) (hv : xs[m]? = some x) (hr : Wp b l Z own nm bytes maxL ret R H k j pc' Ls (.int x :: st) Q) : Wp b l Z own nm bytes maxL ret R H k j pc Ls (.int n :: .ref a :: st) Q := by
  obtain ⟨hd, rfl⟩ := hd
  refine Wp.step (fun p e s m args below meth c T L hx hZ hby hown X hH target h => ?_) hr
  obtain ⟨-, cl, A, hs, -⟩ := (hH.at hi).2
  obtain ⟨h1, h2⟩ := in_of hs hn (v := .int x) (by rw [hm]; simpa using hv)
  exact X.caload hx A.1 (State.isArrayOf_alike hZ.alike A.2.1) A.2.2 h1 h2 (g := mkF m pc Ls (.int n :: .ref a :: st)) rfl rfl (hb hby hd) _ h
theorem wp_saload {i : Nat} {a : Addr} {fl : Bool} {xs : List Int32} {n x : Int32} (m : Nat) (hd : Dc bytes pc .saload 1 pc') (hi : H[i]? = some (a, (fl, .inr (.inl (.short, xs))))) (hn : ¬ n < 0) (hm : n.toNatClampNeg = m) (hv : xs[m]? = some x) (hr : Wp b l Z own nm bytes maxL ret R H k j pc' Ls (.int x :: st) Q) : Wp b l Z own nm bytes maxL ret R H k j pc Ls (.int n :: .ref a :: st) Q := by
  obtain ⟨hd, rfl⟩ := hd
  refine Wp.step (fun p e s m args below meth c T L hx hZ hby hown X hH target h => ?_) hr
  obtain ⟨-, cl, A, hs, -⟩ := (hH.at hi).2
  obtain ⟨h1, h2⟩ := in_of hs hn (v := .int x) (by rw [hm]; simpa using hv)
  exact X.saload hx A.1 (State.isArrayOf_alike hZ.alike A.2.1) A.2.2 h1 h2 (g := mkF m pc Ls (.int n :: .ref a :: st)) rfl rfl (hb hby hd) _ h
theorem wp_baload {i : Nat} {a : Addr} {fl : Bool} {xs : List Int32} {n x : Int32} (m : Nat) (hd : Dc bytes pc .baload 1 pc') (hi : H[i]? = some (a, (fl, .inr (.inl (.byte, xs))))) (hn : ¬ n < 0) (hm : n.toNatClampNeg = m) (hv : xs[m]? = some x) (hr : Wp b l Z own nm bytes maxL ret R H k j pc' Ls (.int x :: st) Q) : Wp b l Z own nm bytes maxL ret R H k j pc Ls (.int n :: .ref a :: st) Q := by
  obtain ⟨hd, rfl⟩ := hd
  refine Wp.step (fun p e s m args below meth c T L hx hZ hby hown X hH target h => ?_) hr
  obtain ⟨-, cl, A, hs, -⟩ := (hH.at hi).2
  obtain ⟨h1, h2⟩ := in_of hs hn (v := .int x) (by rw [hm]; simpa using hv)
  exact X.baloadBytes hx A.1 (State.isArrayOf_alike hZ.alike A.2.1) A.2.2 h1 h2 (g := mkF m pc Ls (.int n :: .ref a :: st)) rfl rfl (hb hby hd) _ h
theorem wp_zaload {i : Nat} {a : Addr} {fl : Bool} {xs : List Int32} {n x : Int32} (m : Nat) (hd : Dc bytes pc .baload 1 pc') (hi : H[i]? = some (a, (fl, .inr (.inl (.boolean, xs))))) (hn : ¬ n < 0) (hm : n.toNatClampNeg = m) (hv : xs[m]? = some x) (hr : Wp b l Z own nm bytes maxL ret R H k j pc' Ls (.int x :: st) Q) : Wp b l Z own nm bytes maxL ret R H k j pc Ls (.int n :: .ref a :: st) Q := by
  obtain ⟨hd, rfl⟩ := hd
  refine Wp.step (fun p e s m args below meth c T L hx hZ hby hown X hH target h => ?_) hr
  obtain ⟨-, cl, A, hs, -⟩ := (hH.at hi).2
  obtain ⟨h1, h2⟩ := in_of hs hn (v := .int x) (by rw [hm]; simpa using hv)
  exact X.baloadBooleans hx A.1 (State.isArrayOf_alike hZ.alike A.2.1) A.2.2 h1 h2 (g := mkF m pc Ls (.int n :: .ref a :: st)) rfl rfl (hb hby hd) _ h
theorem wp_laload {i : Nat} {a : Addr} {xs : List Int64} {n : Int32} {x : Int64} (m : Nat) (hd : Dc bytes pc .laload 1 pc') (hi : H[i]? = some (a, oJ xs)) (hn : ¬ n < 0) (hm : n.toNatClampNeg = m) (hv : xs[m]? = some x) (hr : Wp b l Z own nm bytes maxL ret R H k j pc' Ls (.long x :: st) Q) : Wp b l Z own nm bytes maxL ret R H k j pc Ls (.int n :: .ref a :: st) Q := by
  obtain ⟨hd, rfl⟩ := hd
  refine Wp.step (fun p e s m args below meth c T L hx hZ hby hown X hH target h => ?_) hr
  obtain ⟨Eq, cl, A, hs⟩ := (hH.at hi).2
  obtain ⟨h1, h2⟩ := in_of hs hn (v := .long x) (by rw [hm]; simpa using hv)
  exact X.laload hx A.1 (State.isArrayOf_alike hZ.alike A.2.1) A.2.2 h1 h2 (g := mkF m pc Ls (.int n :: .ref a :: st)) rfl rfl (hb hby hd) _ h
theorem wp_aaload {i : Nat} {a : Addr} {C : String} {ty : FieldType} {xs : List Value} {n : Int32} {x : Value} (m : Nat) (hd : Dc bytes pc .aaload 1 pc') (hi : H[i]? = some (a, oR C ty xs)) (hty : ty.isReference = true) (hn : ¬ n < 0) (hm : n.toNatClampNeg = m) (hv : xs[m]? = some x) (hr : Wp b l Z own nm bytes maxL ret R H k j pc' Ls (x :: st) Q) : Wp b l Z own nm bytes maxL ret R H k j pc Ls (.int n :: .ref a :: st) Q := by
  obtain ⟨hd, rfl⟩ := hd
  refine Wp.step (fun p e s m args below meth c T L hx hZ hby hown X hH target h => ?_) hr
  obtain ⟨-, cl, A, -, hs, -⟩ := (hH.at hi).2
  obtain ⟨h1, h2⟩ := in_of hs hn (hm.symm ▸ hv)
  exact X.aaload hx A.1 (State.isArrayOf_alike hZ.alike A.2.1) hty A.2.2 h1 h2 (g := mkF m pc Ls (.int n :: .ref a :: st)) rfl rfl (hb hby hd) _ h
theorem wp_lengthI {i : Nat} {a : Addr} {fl : Bool} {ty : FieldType} {xs : List Int32} (n : Int32) (hd : Dc bytes pc .arraylength 1 pc') (hi : H[i]? = some (a, (fl, .inr (.inl (ty, xs))))) (hn : xs.length.toInt32 = n) (hr : Wp b l Z own nm bytes maxL ret R H k j pc' Ls (.int n :: st) Q) : Wp b l Z own nm bytes maxL ret R H k j pc Ls (.ref a :: st) Q := by
  obtain ⟨hd, rfl⟩ := hd
  refine Wp.step (fun p e s m args below meth c T L hx hZ hby hown X hH target h => ?_) hr
  obtain ⟨-, cl, A, hs, -⟩ := (hH.at hi).2
  refine X.arraylength hx A.1 (State.isArrayOf_alike hZ.alike A.2.1) (g := mkF m pc Ls (.ref a :: st)) rfl rfl (hb hby hd) _ ?_
  have e1 : cl.slots.size.toInt32 = n := by rw [hs]; simpa using hn
  rw [e1]; exact h
theorem wp_lengthJ {i : Nat} {a : Addr} {xs : List Int64} (n : Int32) (hd : Dc bytes pc .arraylength 1 pc') (hi : H[i]? = some (a, oJ xs)) (hn : xs.length.toInt32 = n) (hr : Wp b l Z own nm bytes maxL ret R H k j pc' Ls (.int n :: st) Q) : Wp b l Z own nm bytes maxL ret R H k j pc Ls (.ref a :: st) Q := by
  obtain ⟨hd, rfl⟩ := hd
  refine Wp.step (fun p e s m args below meth c T L hx hZ hby hown X hH target h => ?_) hr
  obtain ⟨-, cl, A, hs⟩ := (hH.at hi).2
  refine X.arraylength hx A.1 (State.isArrayOf_alike hZ.alike A.2.1) (g := mkF m pc Ls (.ref a :: st)) rfl rfl (hb hby hd) _ ?_
  have e1 : cl.slots.size.toInt32 = n := by rw [hs]; simpa using hn
  rw [e1]; exact h
theorem wp_lengthR {i : Nat} {a : Addr} {C : String} {ty : FieldType} {xs : List Value} (n : Int32) (hd : Dc bytes pc .arraylength 1 pc') (hi : H[i]? = some (a, oR C ty xs)) (hn : xs.length.toInt32 = n) (hr : Wp b l Z own nm bytes maxL ret R H k j pc' Ls (.int n :: st) Q) : Wp b l Z own nm bytes maxL ret R H k j pc Ls (.ref a :: st) Q := by
  obtain ⟨hd, rfl⟩ := hd
  refine Wp.step (fun p e s m args below meth c T L hx hZ hby hown X hH target h => ?_) hr
  obtain ⟨-, cl, A, -, hs, -⟩ := (hH.at hi).2
  refine X.arraylength hx A.1 (State.isArrayOf_alike hZ.alike A.2.1) (g := mkF m pc Ls (.ref a :: st)) rfl rfl (hb hby hd) _ ?_
  have e1 : cl.slots.size.toInt32 = n := by rw [hs]; simpa using hn
  rw [e1]; exact h
theorem wp_iastore {i : Nat} {a : Addr} {xs : List Int32} {n x : Int32} (m : Nat) (hd : Dc bytes pc .iastore 1 pc') (hi : H[i]? = some (a, oA .int xs)) (hn : ¬ n < 0) (hm : n.toNatClampNeg = m) (hin : m < xs.length) (hr : Wp b l Z own nm bytes maxL ret R (H.set i (a, oA .int (xs.set m x))) k j pc' Ls st Q) : Wp b l Z own nm bytes maxL ret R H k j pc Ls (.int x :: .int n :: .ref a :: st) Q := by
  obtain ⟨hd, rfl⟩ := hd
  refine Wp.stepH fun p e s mm args below meth c T L hx hZ hby hml hown hnm hret X N hH => ?_
  subst hm
  obtain ⟨Eq, cl, A, hs, G⟩ := (hH.at hi).2
  obtain ⟨h1, -⟩ := in_of hs hn (v := .int xs[n.toNatClampNeg]) (by simp [hin])
  obtain ⟨T', h', X', e', W', stp⟩ := stI X hx hZ rfl A h1 (g := mkF mm pc Ls (.int x :: .int n :: .ref a :: st)) rfl rfl (hb hby hd)
  subst e'
  exact ⟨T', _, k, j, _, _, Ls, st, X', by rw [W'.size]; exact Nat.le_refl _, Fr.snoc X' N ((hH.at hi).1 rfl), hH.set hi W' (o' := .inr (.inl (_, xs.set n.toNatClampNeg _))) ⟨Eq.imp id (·.wr W'), _, A.same W', by rw [setSlot_list hs, List.map_set], fun y hy => (List.mem_or_eq_of_mem_set hy).elim (G y) fun q => by rw [q]; exact rfl⟩, hr, stp⟩
theorem wp_castore {i : Nat} {a : Addr} {xs : List Int32} {n x : Int32} (m : Nat) (hd : Dc bytes pc .castore 1 pc') (hi : H[i]? = some (a, oA .char xs)) (hn : ¬ n < 0) (hm : n.toNatClampNeg = m) (hin : m < xs.length) (hr : Wp b l Z own nm bytes maxL ret R (H.set i (a, oA .char (xs.set m (nar .char x)))) k j pc' Ls st Q) : Wp b l Z own nm bytes maxL ret R H k j pc Ls (.int x :: .int n :: .ref a :: st) Q := by
  obtain ⟨hd, rfl⟩ := hd
  refine Wp.stepH fun p e s mm args below meth c T L hx hZ hby hml hown hnm hret X N hH => ?_
  subst hm
  obtain ⟨Eq, cl, A, hs, G⟩ := (hH.at hi).2
  obtain ⟨h1, -⟩ := in_of hs hn (v := .int xs[n.toNatClampNeg]) (by simp [hin])
  obtain ⟨T', h', X', e', W', stp⟩ := stC X hx hZ rfl A h1 (g := mkF mm pc Ls (.int x :: .int n :: .ref a :: st)) rfl rfl (hb hby hd)
  subst e'
  exact ⟨T', _, k, j, _, _, Ls, st, X', by rw [W'.size]; exact Nat.le_refl _, Fr.snoc X' N ((hH.at hi).1 rfl), hH.set hi W' (o' := .inr (.inl (_, xs.set n.toNatClampNeg _))) ⟨Eq.imp id (·.wr W'), _, A.same W', by rw [setSlot_list hs, List.map_set], fun y hy => (List.mem_or_eq_of_mem_set hy).elim (G y) fun q => by rw [q]; exact fits_nar_char x⟩, hr, stp⟩
theorem wp_sastore {i : Nat} {a : Addr} {xs : List Int32} {n x : Int32} (m : Nat) (hd : Dc bytes pc .sastore 1 pc') (hi : H[i]? = some (a, oA .short xs)) (hn : ¬ n < 0) (hm : n.toNatClampNeg = m) (hin : m < xs.length) (hr : Wp b l Z own nm bytes maxL ret R (H.set i (a, oA .short (xs.set m (nar .short x)))) k j pc' Ls st Q) : Wp b l Z own nm bytes maxL ret R H k j pc Ls (.int x :: .int n :: .ref a :: st) Q := by
  obtain ⟨hd, rfl⟩ := hd
  refine Wp.stepH fun p e s mm args below meth c T L hx hZ hby hml hown hnm hret X N hH => ?_
  subst hm
  obtain ⟨Eq, cl, A, hs, G⟩ := (hH.at hi).2
  obtain ⟨h1, -⟩ := in_of hs hn (v := .int xs[n.toNatClampNeg]) (by simp [hin])
  obtain ⟨T', h', X', e', W', stp⟩ := stS X hx hZ rfl A h1 (g := mkF mm pc Ls (.int x :: .int n :: .ref a :: st)) rfl rfl (hb hby hd)
  subst e'
  exact ⟨T', _, k, j, _, _, Ls, st, X', by rw [W'.size]; exact Nat.le_refl _, Fr.snoc X' N ((hH.at hi).1 rfl), hH.set hi W' (o' := .inr (.inl (_, xs.set n.toNatClampNeg _))) ⟨Eq.imp id (·.wr W'), _, A.same W', by rw [setSlot_list hs, List.map_set], fun y hy => (List.mem_or_eq_of_mem_set hy).elim (G y) fun q => by rw [q]; exact fits_nar_short x⟩, hr, stp⟩
theorem wp_bastore {i : Nat} {a : Addr} {xs : List Int32} {n x : Int32} (m : Nat) (hd : Dc bytes pc .bastore 1 pc') (hi : H[i]? = some (a, oA .byte xs)) (hn : ¬ n < 0) (hm : n.toNatClampNeg = m) (hin : m < xs.length) (hr : Wp b l Z own nm bytes maxL ret R (H.set i (a, oA .byte (xs.set m (nar .byte x)))) k j pc' Ls st Q) : Wp b l Z own nm bytes maxL ret R H k j pc Ls (.int x :: .int n :: .ref a :: st) Q := by
  obtain ⟨hd, rfl⟩ := hd
  refine Wp.stepH fun p e s mm args below meth c T L hx hZ hby hml hown hnm hret X N hH => ?_
  subst hm
  obtain ⟨Eq, cl, A, hs, G⟩ := (hH.at hi).2
  obtain ⟨h1, -⟩ := in_of hs hn (v := .int xs[n.toNatClampNeg]) (by simp [hin])
  obtain ⟨T', h', X', e', W', stp⟩ := stB X hx hZ rfl A h1 (g := mkF mm pc Ls (.int x :: .int n :: .ref a :: st)) rfl rfl (hb hby hd)
  subst e'
  exact ⟨T', _, k, j, _, _, Ls, st, X', by rw [W'.size]; exact Nat.le_refl _, Fr.snoc X' N ((hH.at hi).1 rfl), hH.set hi W' (o' := .inr (.inl (_, xs.set n.toNatClampNeg _))) ⟨Eq.imp id (·.wr W'), _, A.same W', by rw [setSlot_list hs, List.map_set], fun y hy => (List.mem_or_eq_of_mem_set hy).elim (G y) fun q => by rw [q]; exact fits_nar_byte x⟩, hr, stp⟩
theorem wp_zastore {i : Nat} {a : Addr} {xs : List Int32} {n x : Int32} (m : Nat) (hd : Dc bytes pc .bastore 1 pc') (hi : H[i]? = some (a, oA .boolean xs)) (hn : ¬ n < 0) (hm : n.toNatClampNeg = m) (hin : m < xs.length) (hr : Wp b l Z own nm bytes maxL ret R (H.set i (a, oA .boolean (xs.set m (nar .boolean x)))) k j pc' Ls st Q) : Wp b l Z own nm bytes maxL ret R H k j pc Ls (.int x :: .int n :: .ref a :: st) Q := by
  obtain ⟨hd, rfl⟩ := hd
  refine Wp.stepH fun p e s mm args below meth c T L hx hZ hby hml hown hnm hret X N hH => ?_
  subst hm
  obtain ⟨Eq, cl, A, hs, G⟩ := (hH.at hi).2
  obtain ⟨h1, -⟩ := in_of hs hn (v := .int xs[n.toNatClampNeg]) (by simp [hin])
  obtain ⟨T', h', X', e', W', stp⟩ := stZ X hx hZ rfl A h1 (g := mkF mm pc Ls (.int x :: .int n :: .ref a :: st)) rfl rfl (hb hby hd)
  subst e'
  exact ⟨T', _, k, j, _, _, Ls, st, X', by rw [W'.size]; exact Nat.le_refl _, Fr.snoc X' N ((hH.at hi).1 rfl), hH.set hi W' (o' := .inr (.inl (_, xs.set n.toNatClampNeg _))) ⟨Eq.imp id (·.wr W'), _, A.same W', by rw [setSlot_list hs, List.map_set], fun y hy => (List.mem_or_eq_of_mem_set hy).elim (G y) fun q => by rw [q]; exact fits_nar_bool x⟩, hr, stp⟩
theorem wp_lastore {i : Nat} {a : Addr} {xs : List Int64} {n : Int32} {x : Int64} (m : Nat) (hd : Dc bytes pc .lastore 1 pc') (hi : H[i]? = some (a, oJ xs)) (hn : ¬ n < 0) (hm : n.toNatClampNeg = m) (hin : m < xs.length) (hr : Wp b l Z own nm bytes maxL ret R (H.set i (a, oJ (xs.set m x))) k j pc' Ls st Q) : Wp b l Z own nm bytes maxL ret R H k j pc Ls (.long x :: .int n :: .ref a :: st) Q := by
  obtain ⟨hd, rfl⟩ := hd
  refine Wp.stepH fun p e s mm args below meth c T L hx hZ hby hml hown hnm hret X N hH => ?_
  subst hm
  obtain ⟨Eq, cl, A, hs⟩ := (hH.at hi).2
  obtain ⟨h1, -⟩ := in_of hs hn (v := .long xs[n.toNatClampNeg]) (by simp [hin])
  obtain ⟨T', h', X', e', W', stp⟩ := stJ X hx hZ rfl A h1 (g := mkF mm pc Ls (.long x :: .int n :: .ref a :: st)) rfl rfl (hb hby hd)
  subst e'
  exact ⟨T', _, k, j, _, _, Ls, st, X', by rw [W'.size]; exact Nat.le_refl _, Fr.snoc X' N ((hH.at hi).1 rfl), hH.set hi W' (o' := .inr (.inr (.inl (xs.set n.toNatClampNeg x)))) ⟨Eq.wr W', _, A.same W', by rw [setSlot_list hs, List.map_set]⟩, hr, stp⟩
/-- a body's contract: handed these arguments among these new objects it returns and Q holds -/
def Met (l : Launch) (Z : State) (y : MethodName) (bytes : ByteArray) (maxL : Nat) (ret : Option FieldType) (rm : Room) (as' : List Value) (H : OH) (Q : Option Value → OH → Prop) : Prop :=
  ∀ (ws : List Jvm.Cond) (h : Heap), Hp Z h H → MetFree l y (head1 (Jvm.Cond.code y bytes maxL ret :: ws) rm) (fun a U => a = as'.toArray ∧ Z.Warmed39 U.vm ∧ U.heap = h) (fun _ _ _ _ _ => True)
    (fun _ U o U' => ∃ v L, o = .returned v ∧ (Fr Z.heap.size L ∧ h.size ≤ U'.heap.size ∧ ∃ H', Hp Z U'.heap H' ∧ Q v H') ∧ FrameEnd U o U' L rm.cells rm.slots)
theorem Met.of_wp {y : MethodName} {rm : Room} {as' : List Value} (hx : plainFor y = true) (hef : ∀ m, entryFrame m as'.toArray maxL = mkF m 0 Ls []) (hw : Wp none l Z y.cls y.name bytes maxL ret rm H 0 0 0 Ls [] Q) : Met l Z y bytes maxL ret rm as' H Q := by
  intro ws h hH
  refine MetFree.of_bodySF hx hisR ?_
  intro p e s m args below meth c s₁ Bd hml0 hP hK
  obtain ⟨rfl, hZ, hh⟩ := hP
  have X0 : Stand p l e rm s m as'.toArray below meth c s₁ [] 0 0 := Stand.of_body Bd
  have e0 : s₁.heap = h := by rw [← hh, Bd.state]; rfl
  obtain ⟨T', v, L', k', j', vm1, k1, H', ⟨hS, hk1, hvm⟩, X', ⟨hc, hj, hsz⟩, N', hH', hv, hQ, stp⟩ := hw p e s s.vm 0 m as'.toArray below meth c s₁ [] Bd.exec hZ ((State.WarmedH.refl s).since 0) (Nat.zero_le _) Bd.bytes hml0 (findClass_of_methodNamed Bd.named) (name_of_methodNamed Bd.named Bd.method).1 Bd.returns X0 (Fr.nil _) (by rw [e0]; exact hH) (fun _ q => nomatch q)
  obtain rfl := hvm rfl
  have X'' : Stand p l e rm s m as'.toArray below meth c T' L' k' j' := X'
  obtain ⟨fs, hr, hrun, hended, hW, hsame⟩ := X''.leave (v := v) (fun h => hv (Bd.returns.symm.trans h))
  refine ⟨_, _, castTop (hef m) (stp fs hr), hrun, hended, v, L', rfl, ⟨N', ?_, H', hH', hQ⟩, ⟨_, rfl⟩, hW, hsame.mono hc hj⟩
  rw [e0] at hsz; exact hsz
/-- the same for a body that may intern (a String constant loaded cold) -/
theorem MetW.of_wp {y : MethodName} {rm : Room} {as' : List Value} (hx : plainFor y = true) (hef : ∀ m, entryFrame m as'.toArray maxL = mkF m 0 Ls []) (hw : Wp b l Z y.cls y.name bytes maxL ret rm H 0 0 0 Ls [] Q) (ws : List Jvm.Cond) (h : Heap) (hH : Hp Z h H) :
    MetFree l y (head1 (Jvm.Cond.code y bytes maxL ret :: ws) rm) (fun a U => a = as'.toArray ∧ Z.Warmed39 U.vm ∧ U.heap = h ∧ MdOk b Z U U.vm) (fun _ _ _ _ _ => True)
      (fun _ U o U' => ∃ v L, o = .returned v ∧ (Fr Z.heap.size L ∧ ∃ H', Hp Z U'.heap H' ∧ Q v H') ∧ ReturnedEndW U o U' L rm.cells rm.slots) := by
  refine MetFree.of_bodySF hx hisR ?_
  intro p e s m args below meth c s₁ Bd hml0 hP hK
  obtain ⟨rfl, hZ, hh, hB⟩ := hP
  have X0 : Stand p l e rm s m as'.toArray below meth c s₁ [] 0 0 := Stand.of_body Bd
  have e0 : s₁.heap = h := by rw [← hh, Bd.state]; rfl
  obtain ⟨T', v, L', k', j', vm1, k1, H', ⟨hS, hk1, -⟩, X', ⟨hc, hj, hsz⟩, N', hH', hv, hQ, stp⟩ := hw p e s s.vm 0 m as'.toArray below meth c s₁ [] Bd.exec hZ ((State.WarmedH.refl s).since 0) (Nat.zero_le _) Bd.bytes hml0 (findClass_of_methodNamed Bd.named) (name_of_methodNamed Bd.named Bd.method).1 Bd.returns X0 (Fr.nil _) (by rw [e0]; exact hH) hB
  obtain ⟨fs, hr, hrun, hended, q1, q2, q3, q4⟩ := X'.leaveW hS hk1 (v := v) (fun h => hv (Bd.returns.symm.trans h))
  exact ⟨_, _, castTop (hef m) (stp fs hr), hrun, hended, v, L', rfl, ⟨N', H', hH', hQ⟩, q1, q2, q3, q4.mono hc hj⟩
theorem Met.mono {y : MethodName} {rm : Room} {as' : List Value} {Q' : Option Value → OH → Prop} (M : Met l Z y bytes maxL ret rm as' H Q') (hq : ∀ v H', Q' v H' → Q v H') : Met l Z y bytes maxL ret rm as' H Q := fun ws h hH p e ha hc hk s m args below hf happ hP hK => by
  obtain ⟨n, o, h1, h2, h3, v, L, rfl, ⟨q1, q2, H', q3, q4⟩, h5⟩ := M ws h hH p e ha hc hk s m args below hf happ hP hK
  exact ⟨n, _, h1, h2, h3, v, L, rfl, ⟨q1, q2, H', q3, hq _ _ q4⟩, h5⟩
theorem wp_callS {y : MethodName} {bytes' : ByteArray} {maxL' : Nat} {ret' : Option FieldType} {rm : Room} {rest : List Value} {Q' : Option Value → OH → Prop} {idx : Nat} {ps : List FieldType} {rt : Option FieldType} {as' : List Value} (M : Met l Z y bytes' maxL' ret' rm as' H Q') (hd : Dc bytes pc (.invokestatic idx) 3 pc') (w1 : (Cond.methodLink own idx y).before a0 Z = true) (w2 : (Cond.static y).before a0 Z = true) (w3 : (Cond.initialized y.cls).before a0 Z = true) (w4 : (Cond.code y bytes' maxL' ret').before a0 Z = true) (hy : y.cls ≠ "java/lang/invoke/MethodHandle" ∧ y.cls ≠ "java/lang/invoke/VarHandle") (hpd : parseMethodDescriptor y.desc = some ⟨ps, rt⟩) (hlen : as'.length = ps.length) (hst : st = as'.reverse ++ rest) (hsz : Ls.size = maxL) (hf : rm.frames + 1 ≤ R.frames) (hl : (rest.map fun v => v.category).sum + (maxL' + 11) + rm.locals ≤ R.locals) (hc : k + rm.cells ≤ R.cells) (hj : j + rm.slots ≤ R.slots) (hr : ∀ v H', Q' v H' → Wp b l Z own nm bytes maxL ret R H' (k + rm.cells) (j + rm.slots) pc' Ls (v.toList ++ rest) Q) : Wp b l Z own nm bytes maxL ret R H k j pc Ls st Q := by
  obtain ⟨hd, rfl⟩ := hd
  refine Wp.stepH fun p e s m args below meth c T L hx hZ hby hml hown hnm hret X N hH => ?_
  obtain ⟨v, _, ⟨T', L', k', n'⟩, -, X', ⟨Lc, ⟨N', hsz', H', hH', hQ⟩, l1, y1, z1⟩, stp⟩ := Jvm.LawKit.callS X hx (y := y) hown (mvT hZ w1) (mvT hZ w2) (mvT hZ w3) (mvT hZ w4) hy (backOf (W := (rest.map fun v => v.category).sum) (Q := fun v h L => Fr Z.heap.size L ∧ T.heap.size ≤ h.size ∧ ∃ H', Hp Z h H' ∧ Q' v H') (M [] T.heap hH) hZ w4 w3 hf hl) (g := mkF m pc Ls st) rfl (by rw [hml]; exact hsz) (argsL := as') (rest := rest) (lenOf hpd hlen) hst (by show 2 * 0 + _ ≤ _; omega) (hb hby hd) (fun _ _ => ⟨rfl, rfl, hc, hj⟩)
  dsimp only [Pt.U, Pt.locs, Pt.cells, Pt.slots] at X' l1 y1 z1 stp hH' hsz'
  subst l1 y1 z1
  exact ⟨T', _, _, _, H', _, Ls, v.toList ++ rest, X', hsz', N.app N', hH', hr v H' hQ, stp⟩
theorem wp_init {y : MethodName} {bytes' : ByteArray} {maxL' : Nat} {rm : Room} {rest : List Value} {Q' : Option Value → OH → Prop} {idx : Nat} {ps : List FieldType} {rt : Option FieldType} {a : Addr} {as' : List Value} (M : Met l Z y bytes' maxL' none rm (.ref a :: as') H Q') (hd : Dc bytes pc (.invokespecial idx) 3 pc') (hin : y.name = "<init>") (w1 : (Cond.methodLink own idx y).before a0 Z = true) (w2 : (Cond.instanceMethod y).before a0 Z = true) (w3 : (Cond.initialized y.cls).before a0 Z = true) (w4 : (Cond.code y bytes' maxL' none).before a0 Z = true) (hy : y.cls ≠ "java/lang/invoke/MethodHandle" ∧ y.cls ≠ "java/lang/invoke/VarHandle") (hpd : parseMethodDescriptor y.desc = some ⟨ps, rt⟩) (hlen : as'.length = ps.length) (hst : st = as'.reverse ++ .ref a :: rest) (hsz : Ls.size = maxL) (hf : rm.frames + 1 ≤ R.frames) (hl : (rest.map fun v => v.category).sum + (maxL' + 11) + rm.locals ≤ R.locals) (hc : k + rm.cells ≤ R.cells) (hj : j + rm.slots ≤ R.slots) (hr : ∀ v H', Q' v H' → Wp b l Z own nm bytes maxL ret R H' (k + rm.cells) (j + rm.slots) pc' Ls (v.toList ++ rest) Q) : Wp b l Z own nm bytes maxL ret R H k j pc Ls st Q := by
  obtain ⟨hd, rfl⟩ := hd
  refine Wp.stepH fun p e s m args below meth c T L hx hZ hby hml hown hnm hret X N hH => ?_
  obtain ⟨v, _, ⟨T', L', k', n'⟩, -, X', ⟨Lc, ⟨N', hsz', H', hH', hQ⟩, l1, y1, z1⟩, stp⟩ := X.specialBack hx (y := y) hin hown (mvT hZ w1) (mvT hZ w2) (mvT hZ w4) hy (backOf (W := (rest.map fun v => v.category).sum) (Q := fun v h L => Fr Z.heap.size L ∧ T.heap.size ≤ h.size ∧ ∃ H', Hp Z h H' ∧ Q' v H') (M [] T.heap hH) hZ w4 w3 hf hl) (g := mkF m pc Ls st) rfl (by rw [hml]; exact hsz) (Steps.refl _) (a := a) (argsL := as') (rest := rest) (lenOf hpd hlen) hst (by show 2 * 0 + _ ≤ _; omega) (hb hby hd) (fun _ _ => ⟨rfl, rfl, hc, hj⟩)
  dsimp only [Pt.U, Pt.locs, Pt.cells, Pt.slots] at X' l1 y1 z1 stp hH' hsz'
  subst l1 y1 z1
  exact ⟨T', _, _, _, H', _, Ls, v.toList ++ rest, X', hsz', N.app N', hH', hr v H' hQ, fun _ q => stp.trans q⟩
theorem wp_virtual {y : MethodName} {bytes' : ByteArray} {maxL' : Nat} {ret' : Option FieldType} {rm : Room} {rest : List Value} {Q' : Option Value → OH → Prop} {idx : Nat} {ps : List FieldType} {rt : Option FieldType} {x : MethodName} {C : String} {a : Addr} {as' : List Value} (M : Met l Z y bytes' maxL' ret' rm (.ref a :: as') H Q') (E : ExaAt Z H a C) (hd : Dc bytes pc (.invokevirtual idx) 3 pc') (w1 : (Cond.methodLink own idx x).before a0 Z = true) (w2 : (Cond.declares x).before a0 Z = true) (wn : (Cond.selects x.cls x x).before a0 Z = true) (ws : (Cond.selects C x y).before a0 Z = true) (wi : (Cond.instanceMethod y).before a0 Z = true) (w3 : (Cond.initialized y.cls).before a0 Z = true) (w4 : (Cond.code y bytes' maxL' ret').before a0 Z = true) (hy : x.cls ≠ "java/lang/invoke/MethodHandle" ∧ x.cls ≠ "java/lang/invoke/VarHandle") (hpd : parseMethodDescriptor x.desc = some ⟨ps, rt⟩) (hlen : as'.length = ps.length) (hst : st = as'.reverse ++ .ref a :: rest) (hsz : Ls.size = maxL) (hf : rm.frames + 1 ≤ R.frames) (hl : (rest.map fun v => v.category).sum + (maxL' + 11) + rm.locals ≤ R.locals) (hc : k + rm.cells ≤ R.cells) (hj : j + rm.slots ≤ R.slots) (hr : ∀ v H', Q' v H' → Wp b l Z own nm bytes maxL ret R H' (k + rm.cells) (j + rm.slots) pc' Ls (v.toList ++ rest) Q) : Wp b l Z own nm bytes maxL ret R H k j pc Ls st Q := by
  obtain ⟨hd, rfl⟩ := hd
  refine Wp.stepH fun p e s m args below meth c T L hx hZ hby hml hown hnm hret X N hH => ?_
  obtain ⟨cq, kq, q1, q2, q3⟩ := isOf hZ rfl (E _ hH)
  obtain ⟨v, _, ⟨T', L', k', n'⟩, -, X', ⟨Lc, ⟨N', hsz', H', hH', hQ⟩, l1, y1, z1⟩, stp⟩ := X.virtualBack hx (y := x) (z := y) hown (mvT hZ w1) (mvT hZ w2) (notFace_of_selects (args := #[]) (mvT hZ wn)) (mvT hZ ws) (mvT hZ wi) hy (backOf (W := (rest.map fun v => v.category).sum) (Q := fun v h L => Fr Z.heap.size L ∧ T.heap.size ≤ h.size ∧ ∃ H', Hp Z h H' ∧ Q' v H') (M [] T.heap hH) hZ w4 w3 hf hl) q1 q3 (g := mkF m pc Ls st) rfl (by rw [hml]; exact hsz) (Steps.refl _) (argsL := as') (rest := rest) (lenOf hpd hlen) hst (by show 2 * 0 + _ ≤ _; omega) (hb hby hd) (fun _ _ => ⟨rfl, rfl, hc, hj⟩)
  dsimp only [Pt.U, Pt.locs, Pt.cells, Pt.slots] at X' l1 y1 z1 stp hH' hsz'
  subst l1 y1 z1
  exact ⟨T', _, _, _, H', _, Ls, v.toList ++ rest, X', hsz', N.app N', hH', hr v H' hQ, fun _ q => stp.trans q⟩
theorem xs_pop2L {tb : Tables} [Ours tb] {e : Env} {below : List Frame} {T target : State} {m : MethodId} {c : Code} {g : JFrame} (h : At T m c below) (hx : tb.exec = Jvm.exec) (hg : g.method = m) {x : Int64} {rest : List Value} (hd : decode c.code g.pc = .ok (.pop2, 1)) (hs : g.stack = .long x :: rest)
    (hr : Steps tb e below (T.setTop { g with pc := g.pc + 1, stack := rest }) target) : Steps tb e below (T.setTop g) target := by
  subst hg
  jvm_step h [h.top, hx, hd, hs, Value.category]
  exact hr
theorem xs_dup_x2 {tb : Tables} [Ours tb] {e : Env} {below : List Frame} {T target : State} {m : MethodId} {c : Code} {g : JFrame} (h : At T m c below) (hx : tb.exec = Jvm.exec) (hg : g.method = m) {x y z : Value} {rest : List Value} (hd : decode c.code g.pc = .ok (.dup_x2, 1)) (hs : g.stack = x :: y :: z :: rest) (hc1 : x.category = 1) (hc2 : y.category = 1) (hc3 : z.category = 1)
    (hr : Steps tb e below (T.setTop { g with pc := g.pc + 1, stack := x :: y :: z :: x :: rest }) target) : Steps tb e below (T.setTop g) target := by
  subst hg
  jvm_step h [h.top, hx, hd, hs, hc1, hc2, hc3]
  exact hr
theorem wp_pop2L {x : Int64} (hd : Dc bytes pc (.pop2) 1 pc')  (hr : Wp b l Z own nm bytes maxL ret R H k j pc' Ls st Q) : Wp b l Z own nm bytes maxL ret R H k j pc Ls (.long x :: st) Q := by
  obtain ⟨hd, rfl⟩ := hd
  exact Wp.step (fun p e s m args below meth c T L hx hZ hby hown X hH target ht => xs_pop2L X.here hx rfl (hb hby hd) rfl ht) hr
theorem wp_dup_x2 {x y z : Value} (hd : Dc bytes pc (.dup_x2) 1 pc') (hc1 : x.category = 1) (hc2 : y.category = 1) (hc3 : z.category = 1) (hr : Wp b l Z own nm bytes maxL ret R H k j pc' Ls (x :: y :: z :: x :: st) Q) : Wp b l Z own nm bytes maxL ret R H k j pc Ls (x :: y :: z :: st) Q := by
  obtain ⟨hd, rfl⟩ := hd
  exact Wp.step (fun p e s m args below meth c T L hx hZ hby hown X hH target ht => xs_dup_x2 X.here hx rfl (hb hby hd) rfl hc1 hc2 hc3 ht) hr
theorem wp_private {y : MethodName} {bytes' : ByteArray} {maxL' : Nat} {ret' : Option FieldType} {rm : Room} {rest : List Value} {Q' : Option Value → OH → Prop} {idx : Nat} {ps : List FieldType} {rt : Option FieldType} {a : Addr} {C : String} {kk : Nat} {as' : List Value} (M : Met l Z y bytes' maxL' ret' rm (.ref a :: as') H Q') (E : ExaAt Z H a C) (hd : Dc bytes pc (.invokevirtual idx) 3 pc') (w1 : (Cond.methodLink own idx y).before a0 Z = true) (wi : (Cond.instanceMethod y).before a0 Z = true) (wn : (Cond.instantiable y.cls kk).before a0 Z = true) (wp : (Cond.privateMethod y).before a0 Z = true) (w3 : (Cond.initialized y.cls).before a0 Z = true) (w4 : (Cond.code y bytes' maxL' ret').before a0 Z = true) (hy : y.cls ≠ "java/lang/invoke/MethodHandle" ∧ y.cls ≠ "java/lang/invoke/VarHandle") (hpd : parseMethodDescriptor y.desc = some ⟨ps, rt⟩) (hlen : as'.length = ps.length) (hst : st = as'.reverse ++ .ref a :: rest) (hsz : Ls.size = maxL) (hf : rm.frames + 1 ≤ R.frames) (hl : (rest.map fun v => v.category).sum + (maxL' + 11) + rm.locals ≤ R.locals) (hc : k + rm.cells ≤ R.cells) (hj : j + rm.slots ≤ R.slots) (hr : ∀ v H', Q' v H' → Wp b l Z own nm bytes maxL ret R H' (k + rm.cells) (j + rm.slots) pc' Ls (v.toList ++ rest) Q) : Wp b l Z own nm bytes maxL ret R H k j pc Ls st Q := by
  obtain ⟨hd, rfl⟩ := hd
  refine Wp.stepH fun p e s m args below meth c T L hx hZ hby hml hown hnm hret X N hH => ?_
  obtain ⟨cl, q1, q2⟩ := (E _ hH).cell
  obtain ⟨mk, mt, n1, n2, n3, n4⟩ := Cond.instanceMethod_spec (mvT (args := args) hZ wi)
  obtain ⟨mt', cM, n2', -, -, -, -, -, -, n5⟩ := Cond.code_spec n1 (mvT (args := args) hZ w4)
  cases n2.symm.trans n2'
  obtain ⟨c2, k2, i1, i2, -, i4, -⟩ := Cond.instantiable_spec (mvT (args := args) hZ wn)
  cases (findClass_of_methodNamed n1).symm.trans i1
  have i5 : k2.isInterface = false := by cases q : k2.isInterface with | false => rfl | true => rw [q] at i4; cases i4
  have hsel : selectMethod e.platform s.vm cl.cls mk = .method mk := selectMethod_private n2 (Cond.privateMethod_at (mvP (args := args) hZ wp) mk mt n1 n2)
  obtain ⟨vm1, X1, st1⟩ := X.invokevirtual hx hown (mvT hZ w1) n1 n2 n3 i2 i5 hy (a := a) (cell := cl) q1 q2 hsel n2 n4 i2 i5 (g := mkF m pc Ls st) rfl (argsL := as') (rest := rest) (lenOf hpd hlen _ n5) hst (hb hby hd)
  obtain ⟨v, ⟨T', L', k', n'⟩, X', ⟨Lc, ⟨N', hsz', H', hH', hQ⟩, l1, y1, z1⟩, st2⟩ := backOf (p := p) (e := e) (below := below) (args := args) (len := 3) (W := (rest.map fun v => v.category).sum) (Q := fun v h L => Fr Z.heap.size L ∧ T.heap.size ≤ h.size ∧ ∃ H', Hp Z h H' ∧ Q' v H') (M [] T.heap hH) hZ w4 w3 hf hl m meth c ⟨T.setVm vm1, L, k, j⟩ { mkF m pc Ls st with stack := rest } (.invokevirtual idx) mk (.ref a :: as').toArray X1 rfl (by show Ls.size = _; rw [hml]; exact hsz) (hb hby hd) (by show 2 * 0 + (rest.map fun v => v.category).sum ≤ _; omega) (X1.named n1) ⟨rfl, rfl, hc, hj⟩
  dsimp only [Pt.U, Pt.locs, Pt.cells, Pt.slots] at X' l1 y1 z1 st2 hH' hsz'
  subst l1 y1 z1
  exact ⟨T', _, _, _, H', _, Ls, v.toList ++ rest, X', hsz', N.app N', hH', hr v H' hQ, fun t q => st1 _ fun acts => by rw [doInvoke_state]; exact st2.trans q⟩
theorem wp_interface {y : MethodName} {bytes' : ByteArray} {maxL' : Nat} {ret' : Option FieldType} {rm : Room} {rest : List Value} {Q' : Option Value → OH → Prop} {idx : Nat} {ps : List FieldType} {rt : Option FieldType} {x : MethodName} {C : String} {cnt : Nat} {a : Addr} {as' : List Value} (M : Met l Z y bytes' maxL' ret' rm (.ref a :: as') H Q') (E : ExaAt Z H a C) (hd : Dc bytes pc (.invokeinterface idx cnt) 5 pc') (w1 : (Cond.methodLink own idx x).before a0 Z = true) (w2 : (Cond.declares x).before a0 Z = true) (wf : (Cond.interfaceMethod x.cls x.cls x.name x.desc).before a0 Z = true) (hfa : ((Cond.interfaceMethod x.cls x.cls x.name x.desc).onTables && (Cond.interfaceMethod x.cls x.cls x.name x.desc).keepsFace) = true) (ws : (Cond.selects C x y).before a0 Z = true) (wi : (Cond.instanceMethod y).before a0 Z = true) (wpu : (Cond.publicMethod y).before a0 Z = true) (wu : (Cond.unhidden C x.name x.desc).before a0 Z = true) (wc : (Cond.castable C x.cls).before a0 Z = true) (w3 : (Cond.initialized y.cls).before a0 Z = true) (w4 : (Cond.code y bytes' maxL' ret').before a0 Z = true) (hy : x.cls ≠ "java/lang/invoke/MethodHandle" ∧ x.cls ≠ "java/lang/invoke/VarHandle") (hpd : parseMethodDescriptor x.desc = some ⟨ps, rt⟩) (hlen : as'.length = ps.length) (hst : st = as'.reverse ++ .ref a :: rest) (hsz : Ls.size = maxL) (hf : rm.frames + 1 ≤ R.frames) (hl : (rest.map fun v => v.category).sum + (maxL' + 11) + rm.locals ≤ R.locals) (hc : k + rm.cells ≤ R.cells) (hj : j + rm.slots ≤ R.slots) (hr : ∀ v H', Q' v H' → Wp b l Z own nm bytes maxL ret R H' (k + rm.cells) (j + rm.slots) pc' Ls (v.toList ++ rest) Q) : Wp b l Z own nm bytes maxL ret R H k j pc Ls st Q := by
  obtain ⟨hd, rfl⟩ := hd
  refine Wp.stepH fun p e s m args below meth c T L hx hZ hby hml hown hnm hret X N hH => ?_
  obtain ⟨cq, kq, q1, q2, q3⟩ := isOf hZ rfl (E _ hH)
  obtain ⟨v, _, ⟨T', L', k', n'⟩, -, X', ⟨Lc, ⟨N', hsz', H', hH', hQ⟩, l1, y1, z1⟩, stp⟩ := X.interfaceBack hx (xi := x) (y := y) hown (mvT hZ w1) (mvT hZ w2) (mvT hZ wf hfa) (mvT hZ ws) (mvT hZ wi) (mvT hZ wpu) (mvT hZ wu) (mvT hZ wc) hy (backOf (len := 5) (W := (rest.map fun v => v.category).sum) (Q := fun v h L => Fr Z.heap.size L ∧ T.heap.size ≤ h.size ∧ ∃ H', Hp Z h H' ∧ Q' v H') (M [] T.heap hH) hZ w4 w3 hf hl) q1 q2 q3 (g := mkF m pc Ls st) rfl (by rw [hml]; exact hsz) (Steps.refl _) (argsL := as') (rest := rest) (lenOf hpd hlen) hst (by show 2 * 0 + _ ≤ _; omega) (hb hby hd) (fun _ _ => ⟨rfl, rfl, hc, hj⟩)
  dsimp only [Pt.U, Pt.locs, Pt.cells, Pt.slots] at X' l1 y1 z1 stp hH' hsz'
  subst l1 y1 z1
  exact ⟨T', _, _, _, H', _, Ls, v.toList ++ rest, X', hsz', N.app N', hH', hr v H' hQ, fun _ q => stp.trans q⟩
theorem wp_ldcS {text : String} {idx n : Nat} (hd : Dc bytes pc (.ldc idx) 2 pc') (hbt : b = some none) (w : (Cond.stringLink own idx text).before a0 Z = true) (wS : ∀ a ∈ Bundle.stringAtoms, a.before a0 Z = true) (hn : 4 * text.toList.length ≤ n) (hbig : n ≤ 536870912) (hc : k + 2 ≤ R.cells) (hl : j + (n + 4) ≤ R.slots) (hr : ∀ a, Wp b l Z own nm bytes maxL ret R H (k + 2) (j + (n + 4)) pc' Ls (.ref a :: st) Q) : Wp b l Z own nm bytes maxL ret R H k j pc Ls st Q := by
  obtain ⟨hd, rfl⟩ := hd
  intro p e s vm0 k0 m args below meth c T L hx hZ hS hk hby hml hown hnm hret X N hH hB
  obtain ⟨a, T', h', k1, X', e', E', hS', hk1, hZ', hown', stp⟩ := ldcS X hx hZ hown w wS rfl hS hk (g := mkF m pc Ls st) rfl (hb hby hd) hn hbig hc hl
  subst e'
  obtain ⟨T2, v, L2, k2, j2, vm1, k3, H2, ⟨r0, r1, r2⟩, r3, ⟨r4, r5, r6⟩, r7, r8, r9, r10, r11⟩ := hr a p e s T'.vm k1 m args below meth c T' L hx hZ' hS' hk1 hby hml hown' hnm hret X' N (hH.ext E') (fun _ q => by rw [hbt] at q; cases q)
  exact ⟨T2, v, L2, k2, j2, vm1, k3, H2, ⟨r0, r1, fun q => by rw [hbt] at q; cases q⟩, r3, ⟨r4, r5, Nat.le_trans E'.1 r6⟩, r7, r8, r9, r10, fun fs hl => stp _ (r11 fs hl)⟩
theorem wp_cast {a : Addr} {K : String} {idx : Nat} (hd : Dc bytes pc (.checkcast idx) 3 pc') (w : (Cond.classLink own idx K).before a0 Z = true) (F : ∀ h, Hp Z h H → Ins Z h a K true) (hr : Wp b l Z own nm bytes maxL ret R H k j pc' Ls (.ref a :: st) Q) : Wp b l Z own nm bytes maxL ret R H k j pc Ls (.ref a :: st) Q := by
  obtain ⟨hd, rfl⟩ := hd
  refine Wp.stepH fun p e s m args below meth c T L hx hZ hby hml hown hnm hret X N hH => ?_
  obtain ⟨T', X', e', stp⟩ := castY X hx hZ hown w rfl (F _ hH) (g := mkF m pc Ls (.ref a :: st)) rfl rfl (hb hby hd)
  exact ⟨T', L, k, j, H, _, Ls, .ref a :: st, X', by rw [e']; exact Nat.le_refl _, N, by rw [e']; exact hH, hr, stp⟩
theorem wp_instY {a : Addr} {K : String} {idx : Nat} (hd : Dc bytes pc (.instanceof idx) 3 pc') (w : (Cond.classLink own idx K).before a0 Z = true) (F : ∀ h, Hp Z h H → Ins Z h a K true) (hr : Wp b l Z own nm bytes maxL ret R H k j pc' Ls (.int 1 :: st) Q) : Wp b l Z own nm bytes maxL ret R H k j pc Ls (.ref a :: st) Q := by
  obtain ⟨hd, rfl⟩ := hd
  refine Wp.stepH fun p e s m args below meth c T L hx hZ hby hml hown hnm hret X N hH => ?_
  obtain ⟨T', X', e', stp⟩ := instY X hx hZ hown w rfl (F _ hH) (g := mkF m pc Ls (.ref a :: st)) rfl rfl (hb hby hd)
  exact ⟨T', L, k, j, H, _, Ls, .int 1 :: st, X', by rw [e']; exact Nat.le_refl _, N, by rw [e']; exact hH, hr, stp⟩
theorem wp_instN {a : Addr} {C K : String} {idx : Nat} (hd : Dc bytes pc (.instanceof idx) 3 pc') (w : (Cond.classLink own idx K).before a0 Z = true) (E : ExaAt Z H a C) (F : ∃ c t, Z.vm.findClass C = some c ∧ Z.vm.findClass K = some t ∧ Z.vm.assignable c t = false) (hr : Wp b l Z own nm bytes maxL ret R H k j pc' Ls (.int 0 :: st) Q) : Wp b l Z own nm bytes maxL ret R H k j pc Ls (.ref a :: st) Q := by
  obtain ⟨hd, rfl⟩ := hd
  refine Wp.stepH fun p e s m args below meth c T L hx hZ hby hml hown hnm hret X N hH => ?_
  obtain ⟨T', X', e', stp⟩ := instNo X hx hZ hown w rfl (E _ hH) F (g := mkF m pc Ls (.ref a :: st)) rfl rfl (hb hby hd)
  exact ⟨T', L, k, j, H, _, Ls, .int 0 :: st, X', by rw [e']; exact Nat.le_refl _, N, by rw [e']; exact hH, hr, stp⟩
theorem wp_anewarray {C : String} {idx : Nat} {n : Int32} (cnt cap : Nat) (hd : Dc bytes pc (.anewarray idx) 3 pc') (w1 : (Cond.classLink own idx C).before a0 Z = true) (w2 : (Cond.arrayOver (.object C)).before a0 Z = true) (hn : ¬ n < 0) (hcnt : n.toNatClampNeg = cnt) (hcap : cnt ≤ cap) (hb8 : cap * 8 ≤ 536870912) (hc : k + 1 ≤ R.cells) (hl : j + cap ≤ R.slots) (hr : ∀ a, Wp b l Z own nm bytes maxL ret R ((a, oR C (.object C) (List.replicate cnt .null)) :: H) (k + 1) (j + cap) pc' Ls (.ref a :: st) Q) : Wp b l Z own nm bytes maxL ret R H k j pc Ls (.int n :: st) Q := by
  obtain ⟨hd, rfl⟩ := hd
  refine Wp.stepH fun p e s m args below meth c T L hx hZ hby hml hown hnm hret X N hH => ?_
  obtain ⟨T', h', cA, X', e', E', A', B', O', stp⟩ := newRE X hx hZ hown w1 w2 rfl (g := mkF m pc Ls (.int n :: st)) rfl (hb hby hd) rfl hn (cap := cap) (by rw [hcnt]; exact hcap) hb8 hc hl rfl
  subst e'
  refine ⟨T', L, _, _, _, _, Ls, _, X', E'.1, N, hH.cons E' (o := .inr (.inr (.inr (_, _, List.replicate cnt .null)))) ⟨B', _, A', O', ?_, fun v hv => ?_⟩, hr _, stp⟩
  · simp [newA, hcnt, defaultValue]
  · rw [(List.mem_replicate.mp hv).2]; rfl
theorem Sto.ofT {h : Heap} {a y : Addr} {cl : Cell} {ty ty' : FieldType} {C : String} (A : Arr Z h a cl ty') (O : OvrT Z cl.cls C ty) (I : Ins Z h y C true) : Sto Z h a (.ref y) := by
  obtain ⟨k, comp, o1, o2, o3⟩ := O
  obtain ⟨cv, cT, i1, i2, i3⟩ := I
  cases o3.symm.trans i2
  simp only [Bool.and_eq_true, Bool.not_eq_true'] at i3
  obtain ⟨kc, q⟩ := Vm.classAt_of_findClass o3
  obtain ⟨kv, q2⟩ := Vm.classAt_of_assignable i3.2 ⟨kc, q⟩
  exact Or.inr ⟨cl, cv, k, kv, kc, _, _, y, A.1, o1, o2, q, rfl, i1, i3.1, q2, i3.2⟩
theorem wp_aastore {i : Nat} {a : Addr} {C : String} {ty : FieldType} {xs : List Value} {n : Int32} {x : Value} (m : Nat) (hd : Dc bytes pc .aastore 1 pc') (hi : H[i]? = some (a, oR C ty xs)) (hty : ty.isReference = true) (hn : ¬ n < 0) (hm : n.toNatClampNeg = m) (hin : m < xs.length) (F : x = .null ∨ ∃ y, x = .ref y ∧ ∀ h, Hp Z h H → Ins Z h y C true) (hr : Wp b l Z own nm bytes maxL ret R (H.set i (a, oR C ty (xs.set m x))) k j pc' Ls st Q) : Wp b l Z own nm bytes maxL ret R H k j pc Ls (x :: .int n :: .ref a :: st) Q := by
  obtain ⟨hd, rfl⟩ := hd
  refine Wp.stepH fun p e s mm args below meth c T L hx hZ hby hml hown hnm hret X N hH => ?_
  subst hm
  obtain ⟨Eq, cl, A, O, hs, G⟩ := (hH.at hi).2
  obtain ⟨h1, -⟩ := in_of hs hn (v := xs[n.toNatClampNeg]) (by simp [hin])
  have S : Sto Z T.heap a x := by
    rcases F with rfl | ⟨y, rfl, F⟩
    · exact Or.inl rfl
    · exact Sto.ofT A O (F _ hH)
  obtain ⟨T', h', X', e', W', stp⟩ := stR X hx hZ rfl A h1 hty S (g := mkF mm pc Ls (x :: .int n :: .ref a :: st)) rfl rfl (hb hby hd)
  subst e'
  exact ⟨T', _, k, j, _, _, Ls, st, X', by rw [W'.size]; exact Nat.le_refl _, Fr.snoc X' N ((hH.at hi).1 rfl), hH.set hi W' (o' := .inr (.inr (.inr (C, ty, xs.set n.toNatClampNeg x)))) ⟨Eq.wr W', _, A.same W', O, setSlot_list hs, fun y hy => (List.mem_or_eq_of_mem_set hy).elim (G y) fun q => by rw [q]; rcases F with rfl | ⟨y, rfl, F⟩ <;> rfl⟩, hr, stp⟩
theorem sta_of {args : Array Value} {s : State} {C n d K : String} (h : (Cond.exactly (Term.static C n d) K).value args s none s [] = some true) (wi : (Cond.initialized C).before args s = true) (wl : (Cond.laysStatic C n d).before args s = true) : ∃ a, Sta s s.heap C n d (.ref a) ∧ Exa s s.heap a K ∧ (Term.static C n d).eval args s none [] s = some (.ref a) := by
  obtain ⟨a, e⟩ := exa_v h
  exact ⟨a, Sta.start e (Or.inr ⟨wi, wl⟩), Exa.start e h, e⟩
theorem fld_of {args : Array Value} {s : State} {t : Term} {a : Addr} {C n d : String} {v : Int32} (e : t.eval args s none [] s = some (.ref a)) (h : (Cond.eq (Term.field t C n d) (Term.int v)).value args s none s [] = some true) : Fld s s.heap a C n d (.int v) :=
  Fld.start ((fld_at e).symm.trans (Cond.eq_int (Cond.before_iff.mpr h) rfl))
theorem Sat.keep {h h' : Heap} {b : Addr} {ws : List Addr} (K : Keep h h' ws) (q : b ∉ ws) : ∀ {o : ObjB}, Sat Z h b o → Sat Z h' b o
  | .inl (C, sg, vs), ⟨h1, h2, h3⟩ => ⟨h1.keep K, h2, fun i f v r t => (h3 i f v r t).keep K q⟩
  | .inr (.inl (ty, xs)), ⟨r, c, h1, h2⟩ => ⟨r.imp id (·.keep K), c, ⟨K.2.1 _ _ h1.1 q, h1.2⟩, h2⟩
  | .inr (.inr (.inl xs)), ⟨r, c, h1, h2⟩ => ⟨r.keep K, c, ⟨K.2.1 _ _ h1.1 q, h1.2⟩, h2⟩
  | .inr (.inr (.inr (C, ty, vs))), ⟨r, c, h1, h2⟩ => ⟨r.keep K, c, ⟨K.2.1 _ _ h1.1 q, h1.2⟩, h2⟩
theorem Hp.setK {h h' : Heap} (P : Hp Z h H) {i : Nat} {a : Addr} {o o' : ObjB} (q : H[i]? = some (a, (true, o))) (K : Keep h h' [a]) (S : Sat Z h' a o') : Hp Z h' (H.set i (a, (true, o'))) := by
  have g : Z.heap.size ≤ a := (P.at q).1 rfl
  obtain ⟨hi, hq⟩ := List.getElem?_eq_some_iff.mp q
  refine ⟨⟨Nat.le_trans P.1.1 K.1, fun b c r => ?_⟩, fun x hx => ?_, ?_⟩
  · have : b < Z.heap.size := (Array.getElem?_eq_some_iff.mp r).1
    exact K.2.1 _ _ (P.1.2 b c r) (ninS (by rintro rfl; exact absurd this (Nat.not_lt.mpr g)) nin0)
  · obtain ⟨n, hn⟩ := List.getElem?_of_mem hx
    rw [List.getElem?_set] at hn
    split at hn
    · have e0 : (a, (true, o')) = x := by simpa [hi] using hn
      subst e0; exact ⟨fun _ => g, S⟩
    · rename_i ne
      exact ⟨(P.at hn).1, (P.at hn).2.keep K (ninS (P.ne hn q (Or.inr rfl) (Ne.symm ne)) nin0)⟩
  · have e : (H.set i (a, (true, o'))).map (fun x => (x.1, x.2.1)) = H.map (fun x => (x.1, x.2.1)) := by
      rw [List.map_set]
      refine List.ext_getElem? fun n => ?_
      rw [List.getElem?_set]
      split
      · rename_i e; subst e
        simp [hi, hq]
      · rfl
    have h1 : (H.map (fun x => (x.1, x.2.1))).Pairwise (fun u v => (u.2 = true ∨ v.2 = true) → u.1 ≠ v.1) := List.pairwise_map.mpr P.2.2
    rw [← e] at h1
    exact List.pairwise_map.mp h1
theorem nat_i32 {n : Nat} (h : n < 2 ^ 31) : (Int32.ofNat n).toNatClampNeg = n ∧ ¬ Int32.ofNat n < 0 := by
  have e : (Int32.ofNat n).toInt = n := Int32.toInt_ofNat_of_lt h
  refine ⟨by simp only [Int32.toNatClampNeg, e]; omega, ?_⟩
  rw [Int32.lt_iff_toInt_lt, e]; simp only [Int32.reduceToInt]; omega
theorem Sat.arv {h : Heap} {a : Addr} {ty : FieldType} {xs : List Int32} (S : Sat Z h a (.inr (.inl (ty, xs)))) (hl : xs.length < 2 ^ 31) : ∃ kc, Arv Z h a kc ty (Int32.ofNat xs.length) (xs.map Value.int) (.int 0) := by
  obtain ⟨-, c, A, hs, G⟩ := S
  refine ⟨c.cls, c, A, rfl, by rw [hs, (nat_i32 hl).1]; simp, (nat_i32 hl).2, fun i hi => ?_, fun i hi => ?_⟩
  · rw [hs] at hi ⊢; simp at hi; simp [hi]
  · rw [hs] at hi; simp at hi; simp [hi, G _ (List.getElem_mem hi)]
theorem Arv.sat {h : Heap} {a : Addr} {kc : ClassId} {ty : FieldType} {xs : List Int32} (V : Arv Z h a kc ty (Int32.ofNat xs.length) (xs.map Value.int) (.int 0)) (hl : xs.length < 2 ^ 31) (Eq : ty = .byte ∨ Exa Z h a ("[" ++ ty.toString)) : Sat Z h a (.inr (.inl (ty, xs))) := by
  obtain ⟨c, A, -, S, -, Hs, G⟩ := V
  rw [(nat_i32 hl).1] at S
  refine ⟨Eq, c, A, ?_, fun x hx => ?_⟩
  · refine Array.ext_getElem? fun i => ?_
    by_cases hi : i < c.slots.size
    · rw [Hs i hi]; rw [S] at hi; simp [hi]
    · rw [Array.getElem?_eq_none (Nat.le_of_not_lt hi)]; rw [S] at hi; symm; simp; omega
  · obtain ⟨i, hi, rfl⟩ := List.getElem_of_mem hx
    have := G i (by rw [S]; exact hi)
    simpa [hi] using this
theorem wp_arraycopyI {i i' : Nat} {a c' : Addr} {fl : Bool} {ty : FieldType} {xs ys : List Int32} {sp dp nn : Int32} {idx : Nat} (m1 m2 m3 : Nat) (hd : Dc bytes pc (.invokestatic idx) 3 pc') (w1 : (Cond.methodLink own idx Jvm.Stand.acN).before a0 Z = true) (w2 : (Cond.native Jvm.Stand.acN).before a0 Z = true) (w3 : (Cond.static Jvm.Stand.acN).before a0 Z = true) (w4 : (Cond.initialized "java/lang/System").before a0 Z = true) (hi : H[i]? = some (a, (fl, .inr (.inl (ty, xs))))) (hi' : H[i']? = some (c', oA ty ys)) (hp : refKind ty = false) (h1 : ¬ sp < 0) (h2 : ¬ dp < 0) (h3 : ¬ nn < 0) (e1 : sp.toNatClampNeg = m1) (e2 : dp.toNatClampNeg = m2) (e3 : nn.toNatClampNeg = m3) (h4 : m1 + m3 ≤ xs.length) (h5 : m2 + m3 ≤ ys.length) (hx31 : xs.length < 2 ^ 31) (hy31 : ys.length < 2 ^ 31) (hsz : Ls.size = maxL) (hf : 1 ≤ R.frames) (hl : (st.map fun v => v.category).sum + (nativeFrameWords "java/lang/System" "arraycopy" 5 + 11) ≤ R.locals) (hr : Wp b l Z own nm bytes maxL ret R (H.set i' (c', oA ty (ys.take m2 ++ (xs.drop m1).take m3 ++ ys.drop (m2 + m3)))) k j pc' Ls st Q) : Wp b l Z own nm bytes maxL ret R H k j pc Ls (.int nn :: .int dp :: .ref c' :: .int sp :: .ref a :: st) Q := by
  obtain ⟨hd, rfl⟩ := hd
  subst e1 e2 e3
  refine Wp.stepH fun p e s m args below meth c T L hx hZ hby hml hown hnm hret X N hH => ?_
  obtain ⟨kc, V1⟩ := (hH.at hi).2.arv hx31
  obtain ⟨kd, V2⟩ := (hH.at hi').2.arv hy31
  obtain ⟨T', h', L', X', e', N', K', V', stp⟩ := cpA X hx hZ hown w1 w2 w3 w4 rfl V1 V2 (Or.inl ⟨rfl, hp⟩) h1 h2 h3 (by rw [(nat_i32 hx31).1]; exact h4) (by rw [(nat_i32 hy31).1]; exact h5) (us := ((xs.drop sp.toNatClampNeg).take nn.toNatClampNeg).map Value.int) (by
    refine List.ext_getElem? fun n => ?_
    simp only [List.getElem?_map, List.getElem?_range]
    by_cases hn : n < nn.toNatClampNeg
    · simp [hn, show sp.toNatClampNeg + n < xs.length by omega]
    · simp [hn]; omega) (by simpa using h5) N ((hH.at hi').1 rfl) (g := mkF m pc Ls (.int nn :: .int dp :: .ref c' :: .int sp :: .ref a :: st)) rfl (by rw [hml]; exact hsz) rfl (hb hby hd) hf (W := (st.map fun v => v.category).sum) (by show 2 * 0 + _ ≤ _; omega) hl
  subst e'
  have hlen : (ys.take dp.toNatClampNeg ++ (xs.drop sp.toNatClampNeg).take nn.toNatClampNeg ++ ys.drop (dp.toNatClampNeg + nn.toNatClampNeg)).length = ys.length := by
    simp only [List.length_append, List.length_take, List.length_drop]; omega
  refine ⟨T', L', k, j, _, _, Ls, st, X', K'.1, N', hH.setK hi' K' (Arv.sat (kc := kd) ?_ (by rw [hlen]; exact hy31) ((hH.at hi').2.1.imp id (·.keep K'))), hr, stp⟩
  rw [hlen]
  simpa [List.map_append, List.map_take, List.map_drop] using V'
theorem wp_anewarrayA {C : String} {ty : FieldType} {idx : Nat} {n : Int32} (cnt cap : Nat) (hd : Dc bytes pc (.anewarray idx) 3 pc') (hC : (FieldType.array ty).toString = C) (w1 : (Cond.classLink own idx C).before a0 Z = true) (w2 : (Cond.arrayOver (.array ty)).before a0 Z = true) (hn : ¬ n < 0) (hcnt : n.toNatClampNeg = cnt) (hcap : cnt ≤ cap) (hb8 : cap * 8 ≤ 536870912) (hc : k + 1 ≤ R.cells) (hl : j + cap ≤ R.slots) (hr : ∀ a, Wp b l Z own nm bytes maxL ret R ((a, oR C (.array ty) (List.replicate cnt .null)) :: H) (k + 1) (j + cap) pc' Ls (.ref a :: st) Q) : Wp b l Z own nm bytes maxL ret R H k j pc Ls (.int n :: st) Q := by
  obtain ⟨hd, rfl⟩ := hd
  refine Wp.stepH fun p e s m args below meth c T L hx hZ hby hml hown hnm hret X N hH => ?_
  obtain ⟨T', h', cA, X', e', E', A', B', O', stp⟩ := newRA X hx hZ hown hC w1 w2 rfl (g := mkF m pc Ls (.int n :: st)) rfl (hb hby hd) rfl hn (cap := cap) (by rw [hcnt]; exact hcap) hb8 hc hl rfl
  subst e'
  refine ⟨T', L, _, _, _, _, Ls, _, X', E'.1, N, hH.cons E' (o := .inr (.inr (.inr (C, .array ty, List.replicate cnt .null)))) ⟨by rw [hC]; exact B', _, A', O', ?_, fun v hv => ?_⟩, hr _, stp⟩
  · simp [newA, hcnt, defaultValue]
  · rw [(List.mem_replicate.mp hv).2]; rfl
theorem ins_arr {i : Nat} {a : Addr} {fl : Bool} {ty : FieldType} {xs : List Int32} {K : String} (hi : H[i]? = some (a, (fl, .inr (.inl (ty, xs))))) (hty : ty ≠ .byte) (wc : (Cond.castable ("[" ++ ty.toString) K).before a0 Z = true) : ∀ h, Hp Z h H → Ins Z h a K true := fun h P => Ins.of_exa ((P.at hi).2.1.resolve_left hty) wc
theorem ins_new {i : Nat} {a : Addr} {fl : Bool} {C K : String} {sg : OSig} {vs : List Value} (hi : H[i]? = some (a, (fl, .inl (C, sg, vs)))) (wc : (Cond.castable C K).before a0 Z = true) : ∀ h, Hp Z h H → Ins Z h a K true := fun h P => Ins.of_exa (P.at hi).2.1 wc
theorem ns_root {O K : String} {kk : Nat} (w : (Cond.noSuperclass O).before a0 Z = true) (wk : (Cond.instantiable K kk).before a0 Z = true) (hn : O ≠ K) : NS Z O K := by
  obtain ⟨c, k, h1, h2, h3, -, -⟩ := Cond.noSuperclass_spec w
  obtain ⟨t, kt, g1, -⟩ := Cond.instantiable_spec wk
  have ne := ids_ne h1 g1 hn
  refine ⟨c, t, h1, g1, fun fuel => ?_⟩
  cases fuel with
  | zero => rfl
  | succ f => simp [Vm.isSubclassAux, ne, h2, h3]
theorem ns_no {C S K : String} {kk : Nat} (w : (Cond.superclass C S).before a0 Z = true) (wk : (Cond.instantiable K kk).before a0 Z = true) (n : NS Z C K) (hn : C ≠ K) : ∃ c t, Z.vm.findClass C = some c ∧ Z.vm.findClass K = some t ∧ Z.vm.assignable c t = false := by
  obtain ⟨c, t, h0, g0, n3⟩ := n
  obtain ⟨p, k, kp, h1, h2, h3, h4, h5, -, h7⟩ := Cond.superclass_spec h0 w
  obtain ⟨t', kt, g1, g2, g5, g6, -⟩ := Cond.instantiable_spec wk
  cases g0.symm.trans g1
  have g7 : kt.isInterface = false := by cases q : kt.isInterface with | false => rfl | true => rw [q] at g6; cases g6
  have ne := ids_ne h0 g0 hn
  refine ⟨c, t, h0, g0, ?_⟩
  show Z.vm.assignableAux (255 + 1) c t = false
  simp [Vm.assignableAux, ne, h2, g2, h5, g5, g7, Vm.isSubclass, n3]
theorem wp_aaload_old {a : Addr} {cl : Cell} {ty : FieldType} {n : Int32} {x : Value} (hd : Dc bytes pc .aaload 1 pc') (A : Arr Z Z.heap a cl ty) (hty : ty.isReference = true) (hin : ¬ (n < 0 ∨ cl.slots.size ≤ n.toNatClampNeg)) (hv : cl.slots[n.toNatClampNeg]? = some x) (hr : Wp b l Z own nm bytes maxL ret R H k j pc' Ls (x :: st) Q) : Wp b l Z own nm bytes maxL ret R H k j pc Ls (.int n :: .ref a :: st) Q := by
  obtain ⟨hd, rfl⟩ := hd
  refine Wp.step (fun p e s m args below meth c T L hx hZ hby hown X hH target h => ?_) hr
  exact X.aaload hx (hH.1.2 _ _ A.1) (State.isArrayOf_alike hZ.alike A.2.1) hty A.2.2 hin hv (g := mkF m pc Ls (.int n :: .ref a :: st)) rfl rfl (hb hby hd) _ h
theorem Hp.old {h : Heap} (P : Hp Z h H) {a : Addr} {o : ObjB} (S : Sat Z Z.heap a o) : Hp Z h ((a, (false, o)) :: H) :=
  ⟨P.1, fun x q => (List.mem_cons.mp q).elim (fun e => by subst e; exact ⟨(fun e => nomatch e), S.ext P.1⟩) fun q => P.2.1 x q,
    List.Pairwise.cons (fun y q t e => absurd ((P.2.1 y q).1 (t.elim (fun e => nomatch e) id)) (by rw [← e]; exact Nat.not_le.mpr S.lt)) P.2.2⟩
/-- an object of the start is laid to the list, only to be read -/
theorem Wp.old {a : Addr} {o : ObjB} (S : Sat Z Z.heap a o) (hr : Wp b l Z own nm bytes maxL ret R ((a, (false, o)) :: H) k j pc Ls st Q) : Wp b l Z own nm bytes maxL ret R H k j pc Ls st Q :=
  Wp.stepH fun p e s m args below meth c T L hx hZ hby hml hown hnm hret X N hH => ⟨T, L, k, j, _, pc, Ls, st, X, Nat.le_refl _, N, hH.old S, hr, fun _ q => q⟩
abbrev sgStr : OSig := [("java/lang/String", "value", "[B"), ("java/lang/String", "coder", "B")]
abbrev strO (v : Addr) : Obj := fI "java/lang/String" sgStr [.ref v, .int 0]
theorem wp_ldcV {text : String} {Ts : List String} {idx n : Nat} (xs : List Int32) (hd : Dc bytes pc (.ldc idx) 2 pc') (w : (Cond.stringLink own idx text).before a0 Z = true) (wS : ∀ a ∈ Bundle.stringAtoms, a.before a0 Z = true) (slo : Slo Z sgStr) (hh : Jvm.Lit.constHeld Z own idx) (hcw : Jvm.Lit.compactW.before a0 Z = true) (hnot : text ∉ Ts) (ht : (∀ c ∈ text.toList, c.toNat < 256) ∧ text.toList.map (fun c => Value.int (Jvm.Lit.byteI c.toNat.toUInt16)) = xs.map Value.int) (h31 : xs.length < 2 ^ 31) (hn : 4 * text.toList.length ≤ n) (hbig : n ≤ 536870912) (hc : k + 2 ≤ R.cells) (hl : j + (n + 4) ≤ R.slots) (hr : ∀ a v, Wp (some (some (text :: Ts))) l Z own nm bytes maxL ret R ((a, strO v) :: (v, fA .byte xs) :: H) (k + 2) (j + (n + 4)) pc' Ls (.ref a :: st) Q) : Wp (some (some Ts)) l Z own nm bytes maxL ret R H k j pc Ls st Q := by
  obtain ⟨hd, rfl⟩ := hd
  intro p e s vm0 k0 m args below meth c T L hx hZ hS hk hby hml hown hnm hret X N hH hB
  obtain ⟨eZ, I⟩ := hB Ts rfl
  obtain ⟨a, T', h', k1, v, kc, X', e', E', hS', hk1, hZ', hown', A1, A2, A3, A4, l1, l2, I', -, wh, stp⟩ := ldcSVd X hx hZ hown w wS rfl hS hk (by rw [eZ]; exact N) (fun b cl q => by rw [eZ]; exact q) I hnot hh hcw (z := Int32.ofNat xs.length) ht (nat_i32 h31).2 (by rw [(nat_i32 h31).1]; simp) (g := mkF m pc Ls st) rfl (hb hby hd) hn hbig hc hl
  subst e'
  have far : ∀ y ∈ H, y.2.1 = true → a ≠ y.1 ∧ v ≠ y.1 := by
    intro y q t
    have g1 := (hH.2.1 y q).1 t
    have g2 := (hH.2.1 y q).2.lt
    rw [eZ] at wh
    constructor
    · intro e0; rw [← e0] at g1 g2
      rcases wh with w1 | w1
      · exact absurd w1.1 (Nat.not_lt.mpr g1)
      · exact absurd g2 (Nat.not_lt.mpr w1.1)
    · intro e0; rw [← e0] at g1 g2
      rcases wh with w1 | w1
      · exact absurd w1.2 (Nat.not_lt.mpr g1)
      · exact absurd g2 (Nat.not_lt.mpr w1.2)
  have Sa : Sat Z T'.heap a (.inl ("java/lang/String", sgStr, [.ref v, .int 0])) := by
    refine ⟨A1, slo, fun i f u q r => ?_⟩
    rcases i with _ | _ | i
    · cases q; cases r; exact A3
    · cases q; cases r; exact A2
    · simp at q
  have Sv : Sat Z T'.heap v (.inr (.inl (.byte, xs))) := Arv.sat A4 h31 (Or.inl rfl)
  have H2 : Hp Z T'.heap ((a, strO v) :: (v, fA .byte xs) :: H) := by
    have h0 := hH.ext E'
    refine ⟨h0.1, fun x q => ?_, List.Pairwise.cons (fun y q t => ?_) (List.Pairwise.cons (fun y q t => ?_) h0.2.2)⟩
    · rcases List.mem_cons.mp q with rfl | q
      · exact ⟨(fun e => nomatch e), Sa⟩
      · rcases List.mem_cons.mp q with rfl | q
        · exact ⟨(fun e => nomatch e), Sv⟩
        · exact h0.2.1 x q
    · rcases List.mem_cons.mp q with rfl | q
      · rcases t with t | t <;> cases t
      · exact (far y q (t.elim (fun e => nomatch e) id)).1
    · exact (far y q (t.elim (fun e => nomatch e) id)).2
  obtain ⟨T2, u, L2, k2, j2, vm1, k3, H3, ⟨r0, r1, r2⟩, r3, ⟨r4, r5, r6⟩, r7, r8, r9, r10, r11⟩ := hr a v p e s T'.vm k1 m args below meth c T' L hx hZ' hS' hk1 hby hml hown' hnm hret X' N H2 (fun Ts' q => by cases q; exact ⟨eZ, I'⟩)
  exact ⟨T2, u, L2, k2, j2, vm1, k3, H3, ⟨r0, r1, fun q => nomatch q⟩, r3, ⟨r4, r5, Nat.le_trans E'.1 r6⟩, r7, r8, r9, r10, fun fs hl => stp _ (r11 fs hl)⟩
theorem Fld.fun {h : Heap} {a : Addr} {C n d : String} {u v : Value} (F : Fld Z h a C n d u) (G : Fld Z h a C n d v) : u = v := by
  obtain ⟨c, cf, k, i, f, h1, h2, -, -, -, -, h7⟩ := F
  obtain ⟨c', cf', k', i', f', g1, g2, -, -, -, -, g7⟩ := G
  cases h1.symm.trans g1
  cases h2.symm.trans g2
  exact Option.some.inj (h7.symm.trans g7)
/-- two Strings of unlike contents are two -/
theorem str_ne {h : Heap} {i i' k k' : Nat} {s s' v v' : Addr} {xs ys : List Int32} (P : Hp Z h H) (h1 : H[i]? = some (s, strO v)) (h2 : H[k]? = some (v, fA .byte xs)) (h3 : H[i']? = some (s', strO v')) (h4 : H[k']? = some (v', fA .byte ys)) (ne : xs ≠ ys) : ¬ Value.ref s = Value.ref s' := by
  intro e
  cases e
  have f1 := (P.at h1).2.2.2 0 _ _ rfl rfl
  have f2 := (P.at h3).2.2.2 0 _ _ rfl rfl
  cases Fld.fun f1 f2
  obtain ⟨-, c, A, hs, -⟩ := (P.at h2).2
  obtain ⟨-, c', A', hs', -⟩ := (P.at h4).2
  cases A.1.symm.trans A'.1
  have e0 : xs.map Value.int = ys.map Value.int := congrArg Array.toList (hs.symm.trans hs')
  exact ne (List.map_inj_right (fun a b q => by cases q; rfl) |>.mp e0)
theorem bytes_old {t : Term} {a : Addr} {xs : List Int32} {cl : Cell} (A : Arr Z Z.heap a cl .byte) (hs : cl.slots = (xs.map Value.int).toArray) (hf : ∀ x ∈ xs, fits .byte (.int x) = true) : Sat Z Z.heap a (.inr (.inl (.byte, xs))) := ⟨Or.inl rfl, cl, A, hs, hf⟩
theorem str_old {a v : Addr} (slo : Slo Z sgStr) (E : Exa Z Z.heap a "java/lang/String") (F : Fld Z Z.heap a "java/lang/String" "value" "[B" (.ref v)) (G : Fld Z Z.heap a "java/lang/String" "coder" "B" (.int 0)) : Sat Z Z.heap a (.inl ("java/lang/String", sgStr, [.ref v, .int 0])) := by
  refine ⟨E, slo, fun i f u q r => ?_⟩
  rcases i with _ | _ | i
  · cases q; cases r; exact F
  · cases q; cases r; exact G
  · simp at q
/-- the contract of a body with an exception table (the walk throws nothing) -/
def MetX (l : Launch) (Z : State) (y : MethodName) (bytes : ByteArray) (maxL : Nat) (ret : Option FieldType) (hs : List (Nat × Nat × Nat × Nat)) (rm : Room) (as' : List Value) (H : OH) (Q : Option Value → OH → Prop) : Prop :=
  ∀ (ws : List Jvm.Cond) (h : Heap), Hp Z h H → MetFree l y (head1 (Jvm.Cond.codeWith y bytes maxL ret hs :: ws) rm) (fun a U => a = as'.toArray ∧ Z.Warmed39 U.vm ∧ U.heap = h) (fun _ _ _ _ _ => True)
    (fun _ U o U' => ∃ v L, o = .returned v ∧ (Fr Z.heap.size L ∧ h.size ≤ U'.heap.size ∧ ∃ H', Hp Z U'.heap H' ∧ Q v H') ∧ FrameEnd U o U' L rm.cells rm.slots)
theorem MetX.of_wp {y : MethodName} {hs : List (Nat × Nat × Nat × Nat)} {rm : Room} {as' : List Value} (hx : plainFor y = true) (hef : ∀ m, entryFrame m as'.toArray maxL = mkF m 0 Ls []) (hw : Wp none l Z y.cls y.name bytes maxL ret rm H 0 0 0 Ls [] Q) : MetX l Z y bytes maxL ret hs rm as' H Q := by
  intro ws h hH
  refine MetFree.of_bodySF hx hisWith ?_
  intro p e s m args below meth c s₁ Bd hml0 hP hK
  obtain ⟨rfl, hZ, hh⟩ := hP
  have X0 : Stand p l e rm s m as'.toArray below meth c s₁ [] 0 0 := Stand.of_body Bd
  have e0 : s₁.heap = h := by rw [← hh, Bd.state]; rfl
  obtain ⟨T', v, L', k', j', vm1, k1, H', ⟨hS, hk1, hvm⟩, X', ⟨hc, hj, hsz⟩, N', hH', hv, hQ, stp⟩ := hw p e s s.vm 0 m as'.toArray below meth c s₁ [] Bd.exec hZ ((State.WarmedH.refl s).since 0) (Nat.zero_le _) Bd.bytes hml0 (findClass_of_methodNamed Bd.named) (name_of_methodNamed Bd.named Bd.method).1 Bd.returns X0 (Fr.nil _) (by rw [e0]; exact hH) (fun _ q => nomatch q)
  obtain rfl := hvm rfl
  have X'' : Stand p l e rm s m as'.toArray below meth c T' L' k' j' := X'
  obtain ⟨fs, hr, hrun, hended, hW, hsame⟩ := X''.leave (v := v) (fun h => hv (Bd.returns.symm.trans h))
  refine ⟨_, _, castTop (hef m) (stp fs hr), hrun, hended, v, L', rfl, ⟨N', ?_, H', hH', hQ⟩, ⟨_, rfl⟩, hW, hsame.mono hc hj⟩
  rw [e0] at hsz; exact hsz
theorem wp_virtualX {hs : List (Nat × Nat × Nat × Nat)} {y : MethodName} {bytes' : ByteArray} {maxL' : Nat} {ret' : Option FieldType} {rm : Room} {rest : List Value} {Q' : Option Value → OH → Prop} {idx : Nat} {ps : List FieldType} {rt : Option FieldType} {x : MethodName} {C : String} {a : Addr} {as' : List Value} (M : MetX l Z y bytes' maxL' ret' hs rm (.ref a :: as') H Q') (E : ExaAt Z H a C) (hd : Dc bytes pc (.invokevirtual idx) 3 pc') (w1 : (Cond.methodLink own idx x).before a0 Z = true) (w2 : (Cond.declares x).before a0 Z = true) (wn : (Cond.selects x.cls x x).before a0 Z = true) (ws : (Cond.selects C x y).before a0 Z = true) (wi : (Cond.instanceMethod y).before a0 Z = true) (w3 : (Cond.initialized y.cls).before a0 Z = true) (w4 : (Cond.codeWith y bytes' maxL' ret' hs).before a0 Z = true) (hy : x.cls ≠ "java/lang/invoke/MethodHandle" ∧ x.cls ≠ "java/lang/invoke/VarHandle") (hpd : parseMethodDescriptor x.desc = some ⟨ps, rt⟩) (hlen : as'.length = ps.length) (hst : st = as'.reverse ++ .ref a :: rest) (hsz : Ls.size = maxL) (hf : rm.frames + 1 ≤ R.frames) (hl : (rest.map fun v => v.category).sum + (maxL' + 11) + rm.locals ≤ R.locals) (hc : k + rm.cells ≤ R.cells) (hj : j + rm.slots ≤ R.slots) (hr : ∀ v H', Q' v H' → Wp b l Z own nm bytes maxL ret R H' (k + rm.cells) (j + rm.slots) pc' Ls (v.toList ++ rest) Q) : Wp b l Z own nm bytes maxL ret R H k j pc Ls st Q := by
  obtain ⟨hd, rfl⟩ := hd
  refine Wp.stepH fun p e s m args below meth c T L hx hZ hby hml hown hnm hret X N hH => ?_
  obtain ⟨cq, kq, q1, q2, q3⟩ := isOf hZ rfl (E _ hH)
  obtain ⟨v, _, ⟨T', L', k', n'⟩, -, X', ⟨Lc, ⟨N', hsz', H', hH', hQ⟩, l1, y1, z1⟩, stp⟩ := X.virtualBack hx (y := x) (z := y) hown (mvT hZ w1) (mvT hZ w2) (notFace_of_selects (args := #[]) (mvT hZ wn)) (mvT hZ ws) (mvT hZ wi) hy (backOfWith (W := (rest.map fun v => v.category).sum) (Q := fun v h L => Fr Z.heap.size L ∧ T.heap.size ≤ h.size ∧ ∃ H', Hp Z h H' ∧ Q' v H') (M [] T.heap hH) hZ w4 w3 hf hl) q1 q3 (g := mkF m pc Ls st) rfl (by rw [hml]; exact hsz) (Steps.refl _) (argsL := as') (rest := rest) (lenOf hpd hlen) hst (by show 2 * 0 + _ ≤ _; omega) (hb hby hd) (fun _ _ => ⟨rfl, rfl, hc, hj⟩)
  dsimp only [Pt.U, Pt.locs, Pt.cells, Pt.slots] at X' l1 y1 z1 stp hH' hsz'
  subst l1 y1 z1
  exact ⟨T', _, _, _, H', _, Ls, v.toList ++ rest, X', hsz', N.app N', hH', hr v H' hQ, fun _ q => stp.trans q⟩
theorem wp_callSX {hs : List (Nat × Nat × Nat × Nat)} {y : MethodName} {bytes' : ByteArray} {maxL' : Nat} {ret' : Option FieldType} {rm : Room} {rest : List Value} {Q' : Option Value → OH → Prop} {idx : Nat} {ps : List FieldType} {rt : Option FieldType} {as' : List Value} (M : MetX l Z y bytes' maxL' ret' hs rm as' H Q') (hd : Dc bytes pc (.invokestatic idx) 3 pc') (w1 : (Cond.methodLink own idx y).before a0 Z = true) (w2 : (Cond.static y).before a0 Z = true) (w3 : (Cond.initialized y.cls).before a0 Z = true) (w4 : (Cond.codeWith y bytes' maxL' ret' hs).before a0 Z = true) (hy : y.cls ≠ "java/lang/invoke/MethodHandle" ∧ y.cls ≠ "java/lang/invoke/VarHandle") (hpd : parseMethodDescriptor y.desc = some ⟨ps, rt⟩) (hlen : as'.length = ps.length) (hst : st = as'.reverse ++ rest) (hsz : Ls.size = maxL) (hf : rm.frames + 1 ≤ R.frames) (hl : (rest.map fun v => v.category).sum + (maxL' + 11) + rm.locals ≤ R.locals) (hc : k + rm.cells ≤ R.cells) (hj : j + rm.slots ≤ R.slots) (hr : ∀ v H', Q' v H' → Wp b l Z own nm bytes maxL ret R H' (k + rm.cells) (j + rm.slots) pc' Ls (v.toList ++ rest) Q) : Wp b l Z own nm bytes maxL ret R H k j pc Ls st Q := by
  obtain ⟨hd, rfl⟩ := hd
  refine Wp.stepH fun p e s m args below meth c T L hx hZ hby hml hown hnm hret X N hH => ?_
  obtain ⟨v, _, ⟨T', L', k', n'⟩, -, X', ⟨Lc, ⟨N', hsz', H', hH', hQ⟩, l1, y1, z1⟩, stp⟩ := Jvm.RoadKit.callSH X hx (y := y) hown (mvT hZ w1) (mvT hZ w2) (mvT hZ w3) (mvT hZ w4) hy (backOfWith (W := (rest.map fun v => v.category).sum) (Q := fun v h L => Fr Z.heap.size L ∧ T.heap.size ≤ h.size ∧ ∃ H', Hp Z h H' ∧ Q' v H') (M [] T.heap hH) hZ w4 w3 hf hl) (g := mkF m pc Ls st) rfl (by rw [hml]; exact hsz) (argsL := as') (rest := rest) (lenOf hpd hlen) hst (by show 2 * 0 + _ ≤ _; omega) (hb hby hd) (fun _ _ => ⟨rfl, rfl, hc, hj⟩)
  dsimp only [Pt.U, Pt.locs, Pt.cells, Pt.slots] at X' l1 y1 z1 stp hH' hsz'
  subst l1 y1 z1
  exact ⟨T', _, _, _, H', _, Ls, v.toList ++ rest, X', hsz', N.app N', hH', hr v H' hQ, stp⟩
theorem wp_dload_n {n : Fin 4} {v : UInt64} (hd : Dc bytes pc (.dload_n n) 1 pc') (hl : Ls[n.val]? = some (.val (.double v))) (hr : Wp b l Z own nm bytes maxL ret R H k j pc' Ls (.double v :: st) Q) : Wp b l Z own nm bytes maxL ret R H k j pc Ls st Q := by
  obtain ⟨hd, rfl⟩ := hd
  exact Wp.step (fun p e s m args below meth c T L hx hZ hby hown X hH target ht => XS.dloadN X.here hx rfl (hb hby hd) hl ht) hr
theorem wp_dload {n : Nat} {v : UInt64} (hd : Dc bytes pc (.dload n) 2 pc') (hl : Ls[n]? = some (.val (.double v))) (hr : Wp b l Z own nm bytes maxL ret R H k j pc' Ls (.double v :: st) Q) : Wp b l Z own nm bytes maxL ret R H k j pc Ls st Q := by
  obtain ⟨hd, rfl⟩ := hd
  exact Wp.step (fun p e s m args below meth c T L hx hZ hby hown X hH target ht => XS.dload X.here hx rfl (hb hby hd) hl ht) hr
theorem wp_dstore_n {n : Fin 4} {x : UInt64} (Ls' : Array Slot) (hd : Dc bytes pc (.dstore_n n) 1 pc') (hl : storeLocals Ls n.val (.double x) = some Ls') (hr : Wp b l Z own nm bytes maxL ret R H k j pc' Ls' st Q) : Wp b l Z own nm bytes maxL ret R H k j pc Ls (.double x :: st) Q := by
  obtain ⟨hd, rfl⟩ := hd
  exact Wp.step (fun p e s m args below meth c T L hx hZ hby hown X hH target ht => XS.dstoreN X.here hx rfl (hb hby hd) rfl hl ht) hr
theorem wp_dstore {n : Nat} {x : UInt64} (Ls' : Array Slot) (hd : Dc bytes pc (.dstore n) 2 pc') (hl : storeLocals Ls n (.double x) = some Ls') (hr : Wp b l Z own nm bytes maxL ret R H k j pc' Ls' st Q) : Wp b l Z own nm bytes maxL ret R H k j pc Ls (.double x :: st) Q := by
  obtain ⟨hd, rfl⟩ := hd
  exact Wp.step (fun p e s m args below meth c T L hx hZ hby hown X hH target ht => XS.dstore X.here hx rfl (hb hby hd) rfl hl ht) hr
theorem wp_dconst0 (v : UInt64) (hd : Dc bytes pc (.dconst 0) 1 pc') (hv : FP.dconst0 = v) (hr : Wp b l Z own nm bytes maxL ret R H k j pc' Ls (.double v :: st) Q) : Wp b l Z own nm bytes maxL ret R H k j pc Ls st Q := by
  obtain ⟨hd, rfl⟩ := hd
  exact Wp.step (fun p e s m args below meth c T L hx hZ hby hown X hH target ht => XS.dconst0 X.here hx rfl (hb hby hd) hv ht) hr
theorem wp_dconst1 (v : UInt64) (hd : Dc bytes pc (.dconst 1) 1 pc') (hv : FP.dconst1 = v) (hr : Wp b l Z own nm bytes maxL ret R H k j pc' Ls (.double v :: st) Q) : Wp b l Z own nm bytes maxL ret R H k j pc Ls st Q := by
  obtain ⟨hd, rfl⟩ := hd
  exact Wp.step (fun p e s m args below meth c T L hx hZ hby hown X hH target ht => XS.dconst1 X.here hx rfl (hb hby hd) hv ht) hr
theorem wp_i2d {x : Int32} (v : UInt64) (hd : Dc bytes pc (.i2d) 1 pc') (hv : FP.i2d x = v) (hr : Wp b l Z own nm bytes maxL ret R H k j pc' Ls (.double v :: st) Q) : Wp b l Z own nm bytes maxL ret R H k j pc Ls (.int x :: st) Q := by
  obtain ⟨hd, rfl⟩ := hd
  exact Wp.step (fun p e s m args below meth c T L hx hZ hby hown X hH target ht => XS.i2dS X.here hx rfl (hb hby hd) rfl hv ht) hr
theorem wp_dadd {x y : UInt64} (v : UInt64) (hd : Dc bytes pc (.dadd) 1 pc') (hn : Jvm.Free.Fl.NoNaN64 (FP.dadd x y)) (hv : FP.dadd x y = v) (hr : Wp b l Z own nm bytes maxL ret R H k j pc' Ls (.double v :: st) Q) : Wp b l Z own nm bytes maxL ret R H k j pc Ls (.double y :: .double x :: st) Q := by
  obtain ⟨hd, rfl⟩ := hd
  exact Wp.step (fun p e s m args below meth c T L hx hZ hby hown X hH target ht => XS.daddS X.here hx rfl (hb hby hd) rfl hn hv ht) hr
theorem wp_ddiv {x y : UInt64} (v : UInt64) (hd : Dc bytes pc (.ddiv) 1 pc') (hn : Jvm.Free.Fl.NoNaN64 (FP.ddiv x y)) (hv : FP.ddiv x y = v) (hr : Wp b l Z own nm bytes maxL ret R H k j pc' Ls (.double v :: st) Q) : Wp b l Z own nm bytes maxL ret R H k j pc Ls (.double y :: .double x :: st) Q := by
  obtain ⟨hd, rfl⟩ := hd
  exact Wp.step (fun p e s m args below meth c T L hx hZ hby hown X hH target ht => XS.ddivS X.here hx rfl (hb hby hd) rfl hn hv ht) hr
theorem wp_dcmp {o : CmpOp} {x y : UInt64} (v : Int32) (hd : Dc bytes pc (.dcmp o) 1 pc') (hv : cmpValue (FP.dcmp x y) o = v) (hr : Wp b l Z own nm bytes maxL ret R H k j pc' Ls (.int v :: st) Q) : Wp b l Z own nm bytes maxL ret R H k j pc Ls (.double y :: .double x :: st) Q := by
  obtain ⟨hd, rfl⟩ := hd
  exact Wp.step (fun p e s m args below meth c T L hx hZ hby hown X hH target ht => XS.dcmpS X.here hx rfl (hb hby hd) rfl hv ht) hr
theorem wp_ldc2D {i : Nat} {v : UInt64} (hd : Dc bytes pc (.ldc2_w i) 3 pc') (w : (Cond.constantDouble own i v).before a0 Z = true) (hr : Wp b l Z own nm bytes maxL ret R H k j pc' Ls (.double v :: st) Q) : Wp b l Z own nm bytes maxL ret R H k j pc Ls st Q := by
  obtain ⟨hd, rfl⟩ := hd
  exact Wp.step (fun p e s m args below meth c T L hx hZ hby hown X hH target ht => X.ldc2DoubleC hx hown (mvT hZ w) (g := mkF m pc Ls st) rfl (hb hby hd) _ ht) hr
theorem wp_dreturn {x : UInt64} (hd : Dc bytes pc .dreturn 1 pc') (hr : ret = some .double) (hk : k ≤ R.cells) (hj : j ≤ R.slots) (hQ : Q (some (.double x)) H) : Wp b l Z own nm bytes maxL ret R H k j pc Ls (.double x :: st) Q :=
  fun p e s vm0 k0 m args below meth c T L hx hZ hS hkz hby hml hown hnm hret X N hH hB => ⟨T, (some (.double x)), L, k, j, vm0, k0, H, ⟨hS, hkz, fun _ => rfl⟩, X, ⟨hk, hj, Nat.le_refl _⟩, N, hH, fun h => by first | rfl | (rw [hr] at h; cases h), hQ, fun fs hl => retOut X hx (hret.trans hr) rfl (Or.inr (Or.inr (Or.inl ⟨rfl, rfl, x, rfl⟩))) (hb hby hd.1) hl⟩
end Own
def sg_1 : OSig := [("com/example/chainstat/chainstat/io/LinkList", "sources", "[[I"), ("com/example/chainstat/chainstat/io/LinkList", "targets", "[[I"), ("com/example/chainstat/chainstat/io/LinkList", "runStart", "[I"), ("com/example/chainstat/chainstat/io/LinkList", "runLine", "[J"), ("com/example/chainstat/chainstat/io/LinkList", "inputName", "Ljava/lang/String;"), ("com/example/chainstat/chainstat/io/LinkList", "count", "I"), ("com/example/chainstat/chainstat/io/LinkList", "weights", "[[J"), ("com/example/chainstat/chainstat/io/LinkList", "values", "[[D"), ("com/example/chainstat/chainstat/io/LinkList", "exactValues", "[[Ljava/math/BigDecimal;")]
theorem laid_sg_1 (l : Launch) (Z : State) (a0 : Array Value) (hw : ∀ d ∈ tables_1, d.before a0 Z = true) : ∀ f ∈ sg_1, Laid Z a0 "com/example/chainstat/chainstat/io/LinkList" f.1 f.2.1 f.2.2 := all_cons (Or.inl (hw _ (List.mem_of_getElem? (i := 22) rfl))) (all_cons (Or.inl (hw _ (List.mem_of_getElem? (i := 24) rfl))) (all_cons (Or.inl (hw _ (List.mem_of_getElem? (i := 26) rfl))) (all_cons (Or.inl (hw _ (List.mem_of_getElem? (i := 29) rfl))) (all_cons (Or.inr (hw _ (List.mem_of_getElem? (i := 31) rfl))) (all_cons (Or.inl (hw _ (List.mem_of_getElem? (i := 46) rfl))) (all_cons (Or.inl (hw _ (List.mem_of_getElem? (i := 49) rfl))) (all_cons (Or.inl (hw _ (List.mem_of_getElem? (i := 107) rfl))) (all_cons (Or.inl (hw _ (List.mem_of_getElem? (i := 109) rfl))) (all_nil)))))))))
theorem dfl_sg_1 : Dfl sg_1 [(.null), (.null), (.null), (.null), (.null), (.int (0 : Int32)), (.null), (.null), (.null)] := ⟨⟨(.array (.array .int)), by decide +kernel, rfl⟩, ⟨(.array (.array .int)), by decide +kernel, rfl⟩, ⟨(.array .int), by decide +kernel, rfl⟩, ⟨(.array .long), by decide +kernel, rfl⟩, ⟨(.object "java/lang/String"), by decide +kernel, rfl⟩, ⟨.int, by decide +kernel, rfl⟩, ⟨(.array (.array .long)), by decide +kernel, rfl⟩, ⟨(.array (.array .double)), by decide +kernel, rfl⟩, ⟨(.array (.array (.object "java/math/BigDecimal"))), by decide +kernel, rfl⟩, trivial⟩
def Q_c_new (o x : Addr) (F : OH) : Option Value → OH → Prop := fun v H' => v = none ∧ ∃ s s0 t t0 rs rl, H' = (rl, oJ [(0 : Int64)]) :: (rs, oA .int [(0 : Int32)]) :: (t0, oA .int (List.replicate 1024 0)) :: (t, oR "[I" (.array .int) [(.ref t0)]) :: (s0, oA .int (List.replicate 1024 0)) :: (s, oR "[I" (.array .int) [(.ref s0)]) :: (o, oI "com/example/chainstat/chainstat/io/LinkList" sg_1 [(.ref s), (.ref t), (.ref rs), (.ref rl), (.ref x), (.int (0 : Int32)), (.null), (.null), (.null)]) :: F
theorem pn_1 : plainFor (⟨"com/example/chainstat/chainstat/io/LinkList", "<init>", "(Ljava/lang/String;)V"⟩ : MethodName) = true := by first | exact plainFor_of_name (by first | (simp [plainName, overriddenIn]; done) | decide +kernel) | decide +kernel
theorem pd_1 : parseMethodDescriptor "()V" = some ⟨[], none⟩ := by decide +kernel
theorem pd_2 : parseMethodDescriptor "(IIJ)V" = some ⟨[.int, .int, .long], none⟩ := by decide +kernel
theorem pd_3 : parseMethodDescriptor "(I[[I[[I[[JI)V" = some ⟨[.int, (.array (.array .int)), (.array (.array .int)), (.array (.array .long)), .int], none⟩ := by decide +kernel
theorem pd_4 : parseMethodDescriptor "(II)I" = some ⟨[.int, .int], (some .int)⟩ := by decide +kernel
theorem D_prog_37_m1_0 : Dc prog_37_method_1_code 0 (.aload_n 0) 1 1 := ⟨by decide +kernel, rfl⟩
theorem D_prog_37_m1_1 : Dc prog_37_method_1_code 1 (.invokespecial 3) 3 4 := ⟨by decide +kernel, rfl⟩
theorem D_prog_37_m1_4 : Dc prog_37_method_1_code 4 (.aload_n 0) 1 5 := ⟨by decide +kernel, rfl⟩
theorem D_prog_37_m1_5 : Dc prog_37_method_1_code 5 (.iconst 1) 1 6 := ⟨by decide +kernel, rfl⟩
theorem D_prog_37_m1_6 : Dc prog_37_method_1_code 6 (.anewarray 9) 3 9 := ⟨by decide +kernel, rfl⟩
theorem D_prog_37_m1_9 : Dc prog_37_method_1_code 9 (.dup) 1 10 := ⟨by decide +kernel, rfl⟩
theorem D_prog_37_m1_10 : Dc prog_37_method_1_code 10 (.iconst 0) 1 11 := ⟨by decide +kernel, rfl⟩
theorem D_prog_37_m1_11 : Dc prog_37_method_1_code 11 (.sipush 1024) 3 14 := ⟨by decide +kernel, rfl⟩
theorem D_prog_37_m1_14 : Dc prog_37_method_1_code 14 (.newarray .int) 2 16 := ⟨by decide +kernel, rfl⟩
theorem D_prog_37_m1_16 : Dc prog_37_method_1_code 16 (.aastore) 1 17 := ⟨by decide +kernel, rfl⟩
theorem D_prog_37_m1_17 : Dc prog_37_method_1_code 17 (.putfield 11) 3 20 := ⟨by decide +kernel, rfl⟩
theorem D_prog_37_m1_20 : Dc prog_37_method_1_code 20 (.aload_n 0) 1 21 := ⟨by decide +kernel, rfl⟩
theorem D_prog_37_m1_21 : Dc prog_37_method_1_code 21 (.iconst 1) 1 22 := ⟨by decide +kernel, rfl⟩
theorem D_prog_37_m1_22 : Dc prog_37_method_1_code 22 (.anewarray 9) 3 25 := ⟨by decide +kernel, rfl⟩
theorem D_prog_37_m1_25 : Dc prog_37_method_1_code 25 (.dup) 1 26 := ⟨by decide +kernel, rfl⟩
theorem D_prog_37_m1_26 : Dc prog_37_method_1_code 26 (.iconst 0) 1 27 := ⟨by decide +kernel, rfl⟩
theorem D_prog_37_m1_27 : Dc prog_37_method_1_code 27 (.sipush 1024) 3 30 := ⟨by decide +kernel, rfl⟩
theorem D_prog_37_m1_30 : Dc prog_37_method_1_code 30 (.newarray .int) 2 32 := ⟨by decide +kernel, rfl⟩
theorem D_prog_37_m1_32 : Dc prog_37_method_1_code 32 (.aastore) 1 33 := ⟨by decide +kernel, rfl⟩
theorem D_prog_37_m1_33 : Dc prog_37_method_1_code 33 (.putfield 15) 3 36 := ⟨by decide +kernel, rfl⟩
theorem D_prog_37_m1_36 : Dc prog_37_method_1_code 36 (.aload_n 0) 1 37 := ⟨by decide +kernel, rfl⟩
theorem D_prog_37_m1_37 : Dc prog_37_method_1_code 37 (.iconst 1) 1 38 := ⟨by decide +kernel, rfl⟩
theorem D_prog_37_m1_38 : Dc prog_37_method_1_code 38 (.newarray .int) 2 40 := ⟨by decide +kernel, rfl⟩
theorem D_prog_37_m1_40 : Dc prog_37_method_1_code 40 (.putfield 18) 3 43 := ⟨by decide +kernel, rfl⟩
theorem D_prog_37_m1_43 : Dc prog_37_method_1_code 43 (.aload_n 0) 1 44 := ⟨by decide +kernel, rfl⟩
theorem D_prog_37_m1_44 : Dc prog_37_method_1_code 44 (.iconst 1) 1 45 := ⟨by decide +kernel, rfl⟩
theorem D_prog_37_m1_45 : Dc prog_37_method_1_code 45 (.newarray .long) 2 47 := ⟨by decide +kernel, rfl⟩
theorem D_prog_37_m1_47 : Dc prog_37_method_1_code 47 (.putfield 21) 3 50 := ⟨by decide +kernel, rfl⟩
theorem D_prog_37_m1_50 : Dc prog_37_method_1_code 50 (.aload_n 0) 1 51 := ⟨by decide +kernel, rfl⟩
theorem D_prog_37_m1_51 : Dc prog_37_method_1_code 51 (.aload_n 1) 1 52 := ⟨by decide +kernel, rfl⟩
theorem D_prog_37_m1_52 : Dc prog_37_method_1_code 52 (.putfield 25) 3 55 := ⟨by decide +kernel, rfl⟩
theorem D_prog_37_m1_55 : Dc prog_37_method_1_code 55 (.return_) 1 56 := ⟨by decide +kernel, rfl⟩
set_option maxRecDepth 65536 in
set_option maxHeartbeats 40000000 in
theorem c_new (l : Launch) (Z : State) (a0 : Array Value) (hw : ∀ d ∈ tables_1, d.before a0 Z = true) (o x : Addr) (F : OH) :
    Met l Z (⟨"com/example/chainstat/chainstat/io/LinkList", "<init>", "(Ljava/lang/String;)V"⟩ : MethodName) prog_37_method_1_code 2 none ({ frames := 1, cells := 6, slots := 2052, locals := 16 } : Room) [(.ref o), (.ref x)] ((o, oI "com/example/chainstat/chainstat/io/LinkList" sg_1 [(.null), (.null), (.null), (.null), (.null), (.int (0 : Int32)), (.null), (.null), (.null)]) :: F) (Q_c_new o x F) := by
  refine Met.of_wp (Ls := #[.val (.ref o), .val (.ref x)]) pn_1 (fun m => (entry_loc m _ _).trans rfl) ?_
  show Wp none l Z "com/example/chainstat/chainstat/io/LinkList" "<init>" prog_37_method_1_code 2 none ({ frames := 1, cells := 6, slots := 2052, locals := 16 } : Room) ((o, oI "com/example/chainstat/chainstat/io/LinkList" sg_1 [(.null), (.null), (.null), (.null), (.null), (.int (0 : Int32)), (.null), (.null), (.null)]) :: F) 0 0 0 #[.val (.ref o), .val (.ref x)] [] (Q_c_new o x F)
  refine wp_aload_n D_prog_37_m1_0 rfl rfl ?_
  refine wp_initO D_prog_37_m1_1 (hw _ (List.mem_of_getElem? (i := 15) rfl)) (hw _ (List.mem_of_getElem? (i := 16) rfl)) (hw _ (List.mem_of_getElem? (i := 17) rfl)) rfl (Nat.le_of_ble_eq_true rfl) (Nat.le_of_ble_eq_true rfl) ?_
  refine wp_aload_n D_prog_37_m1_4 rfl rfl ?_
  refine wp_iconst 1 D_prog_37_m1_5 (by decide) ?_
  refine wp_anewarrayA (ty := .int) (n := (1 : Int32)) 1 1 D_prog_37_m1_6 rfl (hw _ (List.mem_of_getElem? (i := 18) rfl)) (hw _ (List.mem_of_getElem? (i := 19) rfl)) (by decide) (by decide) (by decide) (by decide) (by decide) (by decide) ?_
  intro a1
  show Wp none l Z "com/example/chainstat/chainstat/io/LinkList" "<init>" prog_37_method_1_code 2 none ({ frames := 1, cells := 6, slots := 2052, locals := 16 } : Room) ((a1, oR "[I" (.array .int) [(.null)]) :: (o, oI "com/example/chainstat/chainstat/io/LinkList" sg_1 [(.null), (.null), (.null), (.null), (.null), (.int (0 : Int32)), (.null), (.null), (.null)]) :: F) 1 1 9 #[.val (.ref o), .val (.ref x)] [(.ref a1), (.ref o)] (Q_c_new o x F)
  refine wp_dup D_prog_37_m1_9 rfl ?_
  refine wp_iconst 0 D_prog_37_m1_10 (by decide) ?_
  refine wp_sipush 1024 D_prog_37_m1_11 (by decide) ?_
  refine wp_newarrayI (n := (1024 : Int32)) (1024) 1024 D_prog_37_m1_14 rfl rfl rfl (hw _ (List.mem_of_getElem? (i := 0) rfl)) (by decide) (by decide) (by decide) (by decide) (by decide) (by decide) ?_
  intro a2
  show Wp none l Z "com/example/chainstat/chainstat/io/LinkList" "<init>" prog_37_method_1_code 2 none ({ frames := 1, cells := 6, slots := 2052, locals := 16 } : Room) ((a2, oA .int (List.replicate 1024 0)) :: (a1, oR "[I" (.array .int) [(.null)]) :: (o, oI "com/example/chainstat/chainstat/io/LinkList" sg_1 [(.null), (.null), (.null), (.null), (.null), (.int (0 : Int32)), (.null), (.null), (.null)]) :: F) 2 1025 16 #[.val (.ref o), .val (.ref x)] [(.ref a2), (.int (0 : Int32)), (.ref a1), (.ref a1), (.ref o)] (Q_c_new o x F)
  refine wp_aastore (i := 1) 0 D_prog_37_m1_16 rfl rfl (by decide) (by decide) (by decide) (Or.inr ⟨_, rfl, ins_arr (i := 0) rfl (by decide) (hw _ (List.mem_of_getElem? (i := 20) rfl))⟩) ?_
  show Wp none l Z "com/example/chainstat/chainstat/io/LinkList" "<init>" prog_37_method_1_code 2 none ({ frames := 1, cells := 6, slots := 2052, locals := 16 } : Room) ((a2, oA .int (List.replicate 1024 0)) :: (a1, oR "[I" (.array .int) [(.ref a2)]) :: (o, oI "com/example/chainstat/chainstat/io/LinkList" sg_1 [(.null), (.null), (.null), (.null), (.null), (.int (0 : Int32)), (.null), (.null), (.null)]) :: F) 2 1025 17 #[.val (.ref o), .val (.ref x)] [(.ref a1), (.ref o)] (Q_c_new o x F)
  refine wp_putfield (i := 2) (fi := 0) (ty := (.array (.array .int))) D_prog_37_m1_17 (hw _ (List.mem_of_getElem? (i := 21) rfl)) rfl rfl rfl (Or.inl (hw _ (List.mem_of_getElem? (i := 22) rfl))) (hw _ (List.mem_of_getElem? (i := 2) rfl)) (by decide) rfl rfl ?_
  show Wp none l Z "com/example/chainstat/chainstat/io/LinkList" "<init>" prog_37_method_1_code 2 none ({ frames := 1, cells := 6, slots := 2052, locals := 16 } : Room) ((a2, oA .int (List.replicate 1024 0)) :: (a1, oR "[I" (.array .int) [(.ref a2)]) :: (o, oI "com/example/chainstat/chainstat/io/LinkList" sg_1 [(.ref a1), (.null), (.null), (.null), (.null), (.int (0 : Int32)), (.null), (.null), (.null)]) :: F) 2 1025 20 #[.val (.ref o), .val (.ref x)] [] (Q_c_new o x F)
  refine wp_aload_n D_prog_37_m1_20 rfl rfl ?_
  refine wp_iconst 1 D_prog_37_m1_21 (by decide) ?_
  refine wp_anewarrayA (ty := .int) (n := (1 : Int32)) 1 1 D_prog_37_m1_22 rfl (hw _ (List.mem_of_getElem? (i := 18) rfl)) (hw _ (List.mem_of_getElem? (i := 19) rfl)) (by decide) (by decide) (by decide) (by decide) (by decide) (by decide) ?_
  intro a3
  show Wp none l Z "com/example/chainstat/chainstat/io/LinkList" "<init>" prog_37_method_1_code 2 none ({ frames := 1, cells := 6, slots := 2052, locals := 16 } : Room) ((a3, oR "[I" (.array .int) [(.null)]) :: (a2, oA .int (List.replicate 1024 0)) :: (a1, oR "[I" (.array .int) [(.ref a2)]) :: (o, oI "com/example/chainstat/chainstat/io/LinkList" sg_1 [(.ref a1), (.null), (.null), (.null), (.null), (.int (0 : Int32)), (.null), (.null), (.null)]) :: F) 3 1026 25 #[.val (.ref o), .val (.ref x)] [(.ref a3), (.ref o)] (Q_c_new o x F)
  refine wp_dup D_prog_37_m1_25 rfl ?_
  refine wp_iconst 0 D_prog_37_m1_26 (by decide) ?_
  refine wp_sipush 1024 D_prog_37_m1_27 (by decide) ?_
  refine wp_newarrayI (n := (1024 : Int32)) (1024) 1024 D_prog_37_m1_30 rfl rfl rfl (hw _ (List.mem_of_getElem? (i := 0) rfl)) (by decide) (by decide) (by decide) (by decide) (by decide) (by decide) ?_
  intro a4
  show Wp none l Z "com/example/chainstat/chainstat/io/LinkList" "<init>" prog_37_method_1_code 2 none ({ frames := 1, cells := 6, slots := 2052, locals := 16 } : Room) ((a4, oA .int (List.replicate 1024 0)) :: (a3, oR "[I" (.array .int) [(.null)]) :: (a2, oA .int (List.replicate 1024 0)) :: (a1, oR "[I" (.array .int) [(.ref a2)]) :: (o, oI "com/example/chainstat/chainstat/io/LinkList" sg_1 [(.ref a1), (.null), (.null), (.null), (.null), (.int (0 : Int32)), (.null), (.null), (.null)]) :: F) 4 2050 32 #[.val (.ref o), .val (.ref x)] [(.ref a4), (.int (0 : Int32)), (.ref a3), (.ref a3), (.ref o)] (Q_c_new o x F)
  refine wp_aastore (i := 1) 0 D_prog_37_m1_32 rfl rfl (by decide) (by decide) (by decide) (Or.inr ⟨_, rfl, ins_arr (i := 0) rfl (by decide) (hw _ (List.mem_of_getElem? (i := 20) rfl))⟩) ?_
  show Wp none l Z "com/example/chainstat/chainstat/io/LinkList" "<init>" prog_37_method_1_code 2 none ({ frames := 1, cells := 6, slots := 2052, locals := 16 } : Room) ((a4, oA .int (List.replicate 1024 0)) :: (a3, oR "[I" (.array .int) [(.ref a4)]) :: (a2, oA .int (List.replicate 1024 0)) :: (a1, oR "[I" (.array .int) [(.ref a2)]) :: (o, oI "com/example/chainstat/chainstat/io/LinkList" sg_1 [(.ref a1), (.null), (.null), (.null), (.null), (.int (0 : Int32)), (.null), (.null), (.null)]) :: F) 4 2050 33 #[.val (.ref o), .val (.ref x)] [(.ref a3), (.ref o)] (Q_c_new o x F)
  refine wp_putfield (i := 4) (fi := 1) (ty := (.array (.array .int))) D_prog_37_m1_33 (hw _ (List.mem_of_getElem? (i := 23) rfl)) rfl rfl rfl (Or.inl (hw _ (List.mem_of_getElem? (i := 24) rfl))) (hw _ (List.mem_of_getElem? (i := 2) rfl)) (by decide) rfl rfl ?_
  show Wp none l Z "com/example/chainstat/chainstat/io/LinkList" "<init>" prog_37_method_1_code 2 none ({ frames := 1, cells := 6, slots := 2052, locals := 16 } : Room) ((a4, oA .int (List.replicate 1024 0)) :: (a3, oR "[I" (.array .int) [(.ref a4)]) :: (a2, oA .int (List.replicate 1024 0)) :: (a1, oR "[I" (.array .int) [(.ref a2)]) :: (o, oI "com/example/chainstat/chainstat/io/LinkList" sg_1 [(.ref a1), (.ref a3), (.null), (.null), (.null), (.int (0 : Int32)), (.null), (.null), (.null)]) :: F) 4 2050 36 #[.val (.ref o), .val (.ref x)] [] (Q_c_new o x F)
  refine wp_aload_n D_prog_37_m1_36 rfl rfl ?_
  refine wp_iconst 1 D_prog_37_m1_37 (by decide) ?_
  refine wp_newarrayI (n := (1 : Int32)) (1) 1 D_prog_37_m1_38 rfl rfl rfl (hw _ (List.mem_of_getElem? (i := 0) rfl)) (by decide) (by decide) (by decide) (by decide) (by decide) (by decide) ?_
  intro a5
  show Wp none l Z "com/example/chainstat/chainstat/io/LinkList" "<init>" prog_37_method_1_code 2 none ({ frames := 1, cells := 6, slots := 2052, locals := 16 } : Room) ((a5, oA .int [(0 : Int32)]) :: (a4, oA .int (List.replicate 1024 0)) :: (a3, oR "[I" (.array .int) [(.ref a4)]) :: (a2, oA .int (List.replicate 1024 0)) :: (a1, oR "[I" (.array .int) [(.ref a2)]) :: (o, oI "com/example/chainstat/chainstat/io/LinkList" sg_1 [(.ref a1), (.ref a3), (.null), (.null), (.null), (.int (0 : Int32)), (.null), (.null), (.null)]) :: F) 5 2051 40 #[.val (.ref o), .val (.ref x)] [(.ref a5), (.ref o)] (Q_c_new o x F)
  refine wp_putfield (i := 5) (fi := 2) (ty := (.array .int)) D_prog_37_m1_40 (hw _ (List.mem_of_getElem? (i := 25) rfl)) rfl rfl rfl (Or.inl (hw _ (List.mem_of_getElem? (i := 26) rfl))) (hw _ (List.mem_of_getElem? (i := 2) rfl)) (by decide) rfl rfl ?_
  show Wp none l Z "com/example/chainstat/chainstat/io/LinkList" "<init>" prog_37_method_1_code 2 none ({ frames := 1, cells := 6, slots := 2052, locals := 16 } : Room) ((a5, oA .int [(0 : Int32)]) :: (a4, oA .int (List.replicate 1024 0)) :: (a3, oR "[I" (.array .int) [(.ref a4)]) :: (a2, oA .int (List.replicate 1024 0)) :: (a1, oR "[I" (.array .int) [(.ref a2)]) :: (o, oI "com/example/chainstat/chainstat/io/LinkList" sg_1 [(.ref a1), (.ref a3), (.ref a5), (.null), (.null), (.int (0 : Int32)), (.null), (.null), (.null)]) :: F) 5 2051 43 #[.val (.ref o), .val (.ref x)] [] (Q_c_new o x F)
  refine wp_aload_n D_prog_37_m1_43 rfl rfl ?_
  refine wp_iconst 1 D_prog_37_m1_44 (by decide) ?_
  refine wp_newarrayJ (n := (1 : Int32)) (1) 1 D_prog_37_m1_45 (hw _ (List.mem_of_getElem? (i := 27) rfl)) (by decide) (by decide) (by decide) (by decide) (by decide) (by decide) ?_
  intro a6
  show Wp none l Z "com/example/chainstat/chainstat/io/LinkList" "<init>" prog_37_method_1_code 2 none ({ frames := 1, cells := 6, slots := 2052, locals := 16 } : Room) ((a6, oJ [(0 : Int64)]) :: (a5, oA .int [(0 : Int32)]) :: (a4, oA .int (List.replicate 1024 0)) :: (a3, oR "[I" (.array .int) [(.ref a4)]) :: (a2, oA .int (List.replicate 1024 0)) :: (a1, oR "[I" (.array .int) [(.ref a2)]) :: (o, oI "com/example/chainstat/chainstat/io/LinkList" sg_1 [(.ref a1), (.ref a3), (.ref a5), (.null), (.null), (.int (0 : Int32)), (.null), (.null), (.null)]) :: F) 6 2052 47 #[.val (.ref o), .val (.ref x)] [(.ref a6), (.ref o)] (Q_c_new o x F)
  refine wp_putfield (i := 6) (fi := 3) (ty := (.array .long)) D_prog_37_m1_47 (hw _ (List.mem_of_getElem? (i := 28) rfl)) rfl rfl rfl (Or.inl (hw _ (List.mem_of_getElem? (i := 29) rfl))) (hw _ (List.mem_of_getElem? (i := 2) rfl)) (by decide) rfl rfl ?_
  show Wp none l Z "com/example/chainstat/chainstat/io/LinkList" "<init>" prog_37_method_1_code 2 none ({ frames := 1, cells := 6, slots := 2052, locals := 16 } : Room) ((a6, oJ [(0 : Int64)]) :: (a5, oA .int [(0 : Int32)]) :: (a4, oA .int (List.replicate 1024 0)) :: (a3, oR "[I" (.array .int) [(.ref a4)]) :: (a2, oA .int (List.replicate 1024 0)) :: (a1, oR "[I" (.array .int) [(.ref a2)]) :: (o, oI "com/example/chainstat/chainstat/io/LinkList" sg_1 [(.ref a1), (.ref a3), (.ref a5), (.ref a6), (.null), (.int (0 : Int32)), (.null), (.null), (.null)]) :: F) 6 2052 50 #[.val (.ref o), .val (.ref x)] [] (Q_c_new o x F)
  refine wp_aload_n D_prog_37_m1_50 rfl rfl ?_
  refine wp_aload_n D_prog_37_m1_51 rfl rfl ?_
  refine wp_putfield (i := 6) (fi := 4) (ty := (.object "java/lang/String")) D_prog_37_m1_52 (hw _ (List.mem_of_getElem? (i := 30) rfl)) rfl rfl rfl (Or.inr ⟨(hw _ (List.mem_of_getElem? (i := 31) rfl)), rfl, rfl⟩) (hw _ (List.mem_of_getElem? (i := 2) rfl)) (by decide) rfl rfl ?_
  show Wp none l Z "com/example/chainstat/chainstat/io/LinkList" "<init>" prog_37_method_1_code 2 none ({ frames := 1, cells := 6, slots := 2052, locals := 16 } : Room) ((a6, oJ [(0 : Int64)]) :: (a5, oA .int [(0 : Int32)]) :: (a4, oA .int (List.replicate 1024 0)) :: (a3, oR "[I" (.array .int) [(.ref a4)]) :: (a2, oA .int (List.replicate 1024 0)) :: (a1, oR "[I" (.array .int) [(.ref a2)]) :: (o, oI "com/example/chainstat/chainstat/io/LinkList" sg_1 [(.ref a1), (.ref a3), (.ref a5), (.ref a6), (.ref x), (.int (0 : Int32)), (.null), (.null), (.null)]) :: F) 6 2052 55 #[.val (.ref o), .val (.ref x)] [] (Q_c_new o x F)
  refine wp_return D_prog_37_m1_55 rfl (by decide) (by decide) ?_
  exact ⟨rfl, _, _, _, _, _, _, rfl⟩
theorem pn_2 : plainFor (⟨"com/example/chainstat/chainstat/io/LinkList", "makeRoom", "()V"⟩ : MethodName) = true := by first | exact plainFor_of_name (by first | (simp [plainName, overriddenIn]; done) | decide +kernel) | decide +kernel
theorem D_prog_37_m10_0 : Dc prog_37_method_10_code 0 (.aload_n 0) 1 1 := ⟨by decide +kernel, rfl⟩
theorem D_prog_37_m10_1 : Dc prog_37_method_10_code 1 (.getfield 44) 3 4 := ⟨by decide +kernel, rfl⟩
theorem D_prog_37_m10_4 : Dc prog_37_method_10_code 4 (.bipush 20) 2 6 := ⟨by decide +kernel, rfl⟩
theorem D_prog_37_m10_6 : Dc prog_37_method_10_code 6 (.iushr) 1 7 := ⟨by decide +kernel, rfl⟩
theorem D_prog_37_m10_7 : Dc prog_37_method_10_code 7 (.istore_n 1) 1 8 := ⟨by decide +kernel, rfl⟩
theorem D_prog_37_m10_8 : Dc prog_37_method_10_code 8 (.iload_n 1) 1 9 := ⟨by decide +kernel, rfl⟩
theorem D_prog_37_m10_9 : Dc prog_37_method_10_code 9 (.aload_n 0) 1 10 := ⟨by decide +kernel, rfl⟩
theorem D_prog_37_m10_10 : Dc prog_37_method_10_code 10 (.getfield 11) 3 13 := ⟨by decide +kernel, rfl⟩
theorem D_prog_37_m10_13 : Dc prog_37_method_10_code 13 (.arraylength) 1 14 := ⟨by decide +kernel, rfl⟩
theorem D_prog_37_m10_14 : Dc prog_37_method_10_code 14 (.if_icmp .ge 21) 3 17 := ⟨by decide +kernel, rfl⟩
theorem D_prog_37_m10_17 : Dc prog_37_method_10_code 17 (.aload_n 0) 1 18 := ⟨by decide +kernel, rfl⟩
theorem D_prog_37_m10_18 : Dc prog_37_method_10_code 18 (.getfield 44) 3 21 := ⟨by decide +kernel, rfl⟩
theorem D_prog_37_m10_21 : Dc prog_37_method_10_code 21 (.ldc 48) 2 23 := ⟨by decide +kernel, rfl⟩
theorem D_prog_37_m10_23 : Dc prog_37_method_10_code 23 (.iand) 1 24 := ⟨by decide +kernel, rfl⟩
theorem D_prog_37_m10_24 : Dc prog_37_method_10_code 24 (.aload_n 0) 1 25 := ⟨by decide +kernel, rfl⟩
theorem D_prog_37_m10_25 : Dc prog_37_method_10_code 25 (.getfield 11) 3 28 := ⟨by decide +kernel, rfl⟩
theorem D_prog_37_m10_28 : Dc prog_37_method_10_code 28 (.iload_n 1) 1 29 := ⟨by decide +kernel, rfl⟩
theorem D_prog_37_m10_29 : Dc prog_37_method_10_code 29 (.aaload) 1 30 := ⟨by decide +kernel, rfl⟩
theorem D_prog_37_m10_30 : Dc prog_37_method_10_code 30 (.arraylength) 1 31 := ⟨by decide +kernel, rfl⟩
theorem D_prog_37_m10_31 : Dc prog_37_method_10_code 31 (.if_icmp .ge 4) 3 34 := ⟨by decide +kernel, rfl⟩
theorem D_prog_37_m10_34 : Dc prog_37_method_10_code 34 (.return_) 1 35 := ⟨by decide +kernel, rfl⟩
theorem D_prog_37_m10_35 : Dc prog_37_method_10_code 35 (.aload_n 0) 1 36 := ⟨by decide +kernel, rfl⟩
theorem D_prog_37_m10_36 : Dc prog_37_method_10_code 36 (.getfield 11) 3 39 := ⟨by decide +kernel, rfl⟩
theorem D_prog_37_m10_39 : Dc prog_37_method_10_code 39 (.iconst 0) 1 40 := ⟨by decide +kernel, rfl⟩
theorem D_prog_37_m10_40 : Dc prog_37_method_10_code 40 (.aaload) 1 41 := ⟨by decide +kernel, rfl⟩
theorem D_prog_37_m10_41 : Dc prog_37_method_10_code 41 (.arraylength) 1 42 := ⟨by decide +kernel, rfl⟩
theorem D_prog_37_m10_42 : Dc prog_37_method_10_code 42 (.istore_n 2) 1 43 := ⟨by decide +kernel, rfl⟩
theorem D_prog_37_m10_43 : Dc prog_37_method_10_code 43 (.iload_n 2) 1 44 := ⟨by decide +kernel, rfl⟩
theorem D_prog_37_m10_44 : Dc prog_37_method_10_code 44 (.ldc 105) 2 46 := ⟨by decide +kernel, rfl⟩
theorem D_prog_37_m10_46 : Dc prog_37_method_10_code 46 (.if_icmp .ge 119) 3 49 := ⟨by decide +kernel, rfl⟩
theorem D_prog_37_m10_49 : Dc prog_37_method_10_code 49 (.iconst 2) 1 50 := ⟨by decide +kernel, rfl⟩
theorem D_prog_37_m10_50 : Dc prog_37_method_10_code 50 (.iload_n 2) 1 51 := ⟨by decide +kernel, rfl⟩
theorem D_prog_37_m10_51 : Dc prog_37_method_10_code 51 (.imul) 1 52 := ⟨by decide +kernel, rfl⟩
theorem D_prog_37_m10_52 : Dc prog_37_method_10_code 52 (.ldc 105) 2 54 := ⟨by decide +kernel, rfl⟩
theorem D_prog_37_m10_54 : Dc prog_37_method_10_code 54 (.invokestatic 106) 3 57 := ⟨by decide +kernel, rfl⟩
theorem D_prog_37_m10_57 : Dc prog_37_method_10_code 57 (.istore_n 3) 1 58 := ⟨by decide +kernel, rfl⟩
theorem D_prog_37_m10_58 : Dc prog_37_method_10_code 58 (.aload_n 0) 1 59 := ⟨by decide +kernel, rfl⟩
theorem D_prog_37_m10_59 : Dc prog_37_method_10_code 59 (.getfield 11) 3 62 := ⟨by decide +kernel, rfl⟩
theorem D_prog_37_m10_62 : Dc prog_37_method_10_code 62 (.iconst 0) 1 63 := ⟨by decide +kernel, rfl⟩
theorem D_prog_37_m10_63 : Dc prog_37_method_10_code 63 (.aload_n 0) 1 64 := ⟨by decide +kernel, rfl⟩
theorem D_prog_37_m10_64 : Dc prog_37_method_10_code 64 (.getfield 11) 3 67 := ⟨by decide +kernel, rfl⟩
theorem D_prog_37_m10_67 : Dc prog_37_method_10_code 67 (.iconst 0) 1 68 := ⟨by decide +kernel, rfl⟩
theorem D_prog_37_m10_68 : Dc prog_37_method_10_code 68 (.aaload) 1 69 := ⟨by decide +kernel, rfl⟩
theorem D_prog_37_m10_69 : Dc prog_37_method_10_code 69 (.iload_n 3) 1 70 := ⟨by decide +kernel, rfl⟩
theorem D_prog_37_m10_70 : Dc prog_37_method_10_code 70 (.invokestatic 92) 3 73 := ⟨by decide +kernel, rfl⟩
theorem D_prog_37_m10_73 : Dc prog_37_method_10_code 73 (.aastore) 1 74 := ⟨by decide +kernel, rfl⟩
theorem D_prog_37_m10_74 : Dc prog_37_method_10_code 74 (.aload_n 0) 1 75 := ⟨by decide +kernel, rfl⟩
theorem D_prog_37_m10_75 : Dc prog_37_method_10_code 75 (.getfield 15) 3 78 := ⟨by decide +kernel, rfl⟩
theorem D_prog_37_m10_78 : Dc prog_37_method_10_code 78 (.iconst 0) 1 79 := ⟨by decide +kernel, rfl⟩
theorem D_prog_37_m10_79 : Dc prog_37_method_10_code 79 (.aload_n 0) 1 80 := ⟨by decide +kernel, rfl⟩
theorem D_prog_37_m10_80 : Dc prog_37_method_10_code 80 (.getfield 15) 3 83 := ⟨by decide +kernel, rfl⟩
theorem D_prog_37_m10_83 : Dc prog_37_method_10_code 83 (.iconst 0) 1 84 := ⟨by decide +kernel, rfl⟩
theorem D_prog_37_m10_84 : Dc prog_37_method_10_code 84 (.aaload) 1 85 := ⟨by decide +kernel, rfl⟩
theorem D_prog_37_m10_85 : Dc prog_37_method_10_code 85 (.iload_n 3) 1 86 := ⟨by decide +kernel, rfl⟩
theorem D_prog_37_m10_86 : Dc prog_37_method_10_code 86 (.invokestatic 92) 3 89 := ⟨by decide +kernel, rfl⟩
theorem D_prog_37_m10_89 : Dc prog_37_method_10_code 89 (.aastore) 1 90 := ⟨by decide +kernel, rfl⟩
theorem D_prog_37_m10_90 : Dc prog_37_method_10_code 90 (.aload_n 0) 1 91 := ⟨by decide +kernel, rfl⟩
theorem D_prog_37_m10_91 : Dc prog_37_method_10_code 91 (.getfield 49) 3 94 := ⟨by decide +kernel, rfl⟩
theorem D_prog_37_m10_94 : Dc prog_37_method_10_code 94 (.ifnull 19) 3 97 := ⟨by decide +kernel, rfl⟩
theorem D_prog_37_m10_97 : Dc prog_37_method_10_code 97 (.aload_n 0) 1 98 := ⟨by decide +kernel, rfl⟩
theorem D_prog_37_m10_98 : Dc prog_37_method_10_code 98 (.getfield 49) 3 101 := ⟨by decide +kernel, rfl⟩
theorem D_prog_37_m10_101 : Dc prog_37_method_10_code 101 (.iconst 0) 1 102 := ⟨by decide +kernel, rfl⟩
theorem D_prog_37_m10_102 : Dc prog_37_method_10_code 102 (.aload_n 0) 1 103 := ⟨by decide +kernel, rfl⟩
theorem D_prog_37_m10_103 : Dc prog_37_method_10_code 103 (.getfield 49) 3 106 := ⟨by decide +kernel, rfl⟩
theorem D_prog_37_m10_106 : Dc prog_37_method_10_code 106 (.iconst 0) 1 107 := ⟨by decide +kernel, rfl⟩
theorem D_prog_37_m10_107 : Dc prog_37_method_10_code 107 (.aaload) 1 108 := ⟨by decide +kernel, rfl⟩
theorem D_prog_37_m10_108 : Dc prog_37_method_10_code 108 (.iload_n 3) 1 109 := ⟨by decide +kernel, rfl⟩
theorem D_prog_37_m10_109 : Dc prog_37_method_10_code 109 (.invokestatic 98) 3 112 := ⟨by decide +kernel, rfl⟩
theorem D_prog_37_m10_112 : Dc prog_37_method_10_code 112 (.aastore) 1 113 := ⟨by decide +kernel, rfl⟩
theorem D_prog_37_m10_113 : Dc prog_37_method_10_code 113 (.aload_n 0) 1 114 := ⟨by decide +kernel, rfl⟩
theorem D_prog_37_m10_114 : Dc prog_37_method_10_code 114 (.getfield 67) 3 117 := ⟨by decide +kernel, rfl⟩
theorem D_prog_37_m10_117 : Dc prog_37_method_10_code 117 (.ifnull 19) 3 120 := ⟨by decide +kernel, rfl⟩
theorem D_prog_37_m10_120 : Dc prog_37_method_10_code 120 (.aload_n 0) 1 121 := ⟨by decide +kernel, rfl⟩
theorem D_prog_37_m10_121 : Dc prog_37_method_10_code 121 (.getfield 67) 3 124 := ⟨by decide +kernel, rfl⟩
theorem D_prog_37_m10_124 : Dc prog_37_method_10_code 124 (.iconst 0) 1 125 := ⟨by decide +kernel, rfl⟩
theorem D_prog_37_m10_125 : Dc prog_37_method_10_code 125 (.aload_n 0) 1 126 := ⟨by decide +kernel, rfl⟩
theorem D_prog_37_m10_126 : Dc prog_37_method_10_code 126 (.getfield 67) 3 129 := ⟨by decide +kernel, rfl⟩
theorem D_prog_37_m10_129 : Dc prog_37_method_10_code 129 (.iconst 0) 1 130 := ⟨by decide +kernel, rfl⟩
theorem D_prog_37_m10_130 : Dc prog_37_method_10_code 130 (.aaload) 1 131 := ⟨by decide +kernel, rfl⟩
theorem D_prog_37_m10_131 : Dc prog_37_method_10_code 131 (.iload_n 3) 1 132 := ⟨by decide +kernel, rfl⟩
theorem D_prog_37_m10_132 : Dc prog_37_method_10_code 132 (.invokestatic 112) 3 135 := ⟨by decide +kernel, rfl⟩
theorem D_prog_37_m10_135 : Dc prog_37_method_10_code 135 (.aastore) 1 136 := ⟨by decide +kernel, rfl⟩
theorem D_prog_37_m10_136 : Dc prog_37_method_10_code 136 (.aload_n 0) 1 137 := ⟨by decide +kernel, rfl⟩
theorem D_prog_37_m10_137 : Dc prog_37_method_10_code 137 (.getfield 75) 3 140 := ⟨by decide +kernel, rfl⟩
theorem D_prog_37_m10_140 : Dc prog_37_method_10_code 140 (.ifnull 22) 3 143 := ⟨by decide +kernel, rfl⟩
theorem D_prog_37_m10_143 : Dc prog_37_method_10_code 143 (.aload_n 0) 1 144 := ⟨by decide +kernel, rfl⟩
theorem D_prog_37_m10_144 : Dc prog_37_method_10_code 144 (.getfield 75) 3 147 := ⟨by decide +kernel, rfl⟩
theorem D_prog_37_m10_147 : Dc prog_37_method_10_code 147 (.iconst 0) 1 148 := ⟨by decide +kernel, rfl⟩
theorem D_prog_37_m10_148 : Dc prog_37_method_10_code 148 (.aload_n 0) 1 149 := ⟨by decide +kernel, rfl⟩
theorem D_prog_37_m10_149 : Dc prog_37_method_10_code 149 (.getfield 75) 3 152 := ⟨by decide +kernel, rfl⟩
theorem D_prog_37_m10_152 : Dc prog_37_method_10_code 152 (.iconst 0) 1 153 := ⟨by decide +kernel, rfl⟩
theorem D_prog_37_m10_153 : Dc prog_37_method_10_code 153 (.aaload) 1 154 := ⟨by decide +kernel, rfl⟩
theorem D_prog_37_m10_154 : Dc prog_37_method_10_code 154 (.iload_n 3) 1 155 := ⟨by decide +kernel, rfl⟩
theorem D_prog_37_m10_155 : Dc prog_37_method_10_code 155 (.invokestatic 115) 3 158 := ⟨by decide +kernel, rfl⟩
theorem D_prog_37_m10_158 : Dc prog_37_method_10_code 158 (.checkcast 85) 3 161 := ⟨by decide +kernel, rfl⟩
theorem D_prog_37_m10_161 : Dc prog_37_method_10_code 161 (.aastore) 1 162 := ⟨by decide +kernel, rfl⟩
theorem D_prog_37_m10_162 : Dc prog_37_method_10_code 162 (.goto 166) 3 165 := ⟨by decide +kernel, rfl⟩
theorem D_prog_37_m10_165 : Dc prog_37_method_10_code 165 (.aload_n 0) 1 166 := ⟨by decide +kernel, rfl⟩
theorem D_prog_37_m10_166 : Dc prog_37_method_10_code 166 (.getfield 11) 3 169 := ⟨by decide +kernel, rfl⟩
theorem D_prog_37_m10_169 : Dc prog_37_method_10_code 169 (.arraylength) 1 170 := ⟨by decide +kernel, rfl⟩
theorem D_prog_37_m10_170 : Dc prog_37_method_10_code 170 (.istore_n 3) 1 171 := ⟨by decide +kernel, rfl⟩
theorem D_prog_37_m10_171 : Dc prog_37_method_10_code 171 (.aload_n 0) 1 172 := ⟨by decide +kernel, rfl⟩
theorem D_prog_37_m10_172 : Dc prog_37_method_10_code 172 (.aload_n 0) 1 173 := ⟨by decide +kernel, rfl⟩
theorem D_prog_37_m10_173 : Dc prog_37_method_10_code 173 (.getfield 11) 3 176 := ⟨by decide +kernel, rfl⟩
theorem D_prog_37_m10_176 : Dc prog_37_method_10_code 176 (.iload_n 3) 1 177 := ⟨by decide +kernel, rfl⟩
theorem D_prog_37_m10_177 : Dc prog_37_method_10_code 177 (.iconst 1) 1 178 := ⟨by decide +kernel, rfl⟩
theorem D_prog_37_m10_178 : Dc prog_37_method_10_code 178 (.iadd) 1 179 := ⟨by decide +kernel, rfl⟩
theorem D_prog_37_m10_179 : Dc prog_37_method_10_code 179 (.invokestatic 115) 3 182 := ⟨by decide +kernel, rfl⟩
theorem D_prog_37_m10_182 : Dc prog_37_method_10_code 182 (.checkcast 118) 3 185 := ⟨by decide +kernel, rfl⟩
theorem D_prog_37_m10_185 : Dc prog_37_method_10_code 185 (.putfield 11) 3 188 := ⟨by decide +kernel, rfl⟩
theorem D_prog_37_m10_188 : Dc prog_37_method_10_code 188 (.aload_n 0) 1 189 := ⟨by decide +kernel, rfl⟩
theorem D_prog_37_m10_189 : Dc prog_37_method_10_code 189 (.aload_n 0) 1 190 := ⟨by decide +kernel, rfl⟩
theorem D_prog_37_m10_190 : Dc prog_37_method_10_code 190 (.getfield 15) 3 193 := ⟨by decide +kernel, rfl⟩
theorem D_prog_37_m10_193 : Dc prog_37_method_10_code 193 (.iload_n 3) 1 194 := ⟨by decide +kernel, rfl⟩
theorem D_prog_37_m10_194 : Dc prog_37_method_10_code 194 (.iconst 1) 1 195 := ⟨by decide +kernel, rfl⟩
theorem D_prog_37_m10_195 : Dc prog_37_method_10_code 195 (.iadd) 1 196 := ⟨by decide +kernel, rfl⟩
theorem D_prog_37_m10_196 : Dc prog_37_method_10_code 196 (.invokestatic 115) 3 199 := ⟨by decide +kernel, rfl⟩
theorem D_prog_37_m10_199 : Dc prog_37_method_10_code 199 (.checkcast 118) 3 202 := ⟨by decide +kernel, rfl⟩
theorem D_prog_37_m10_202 : Dc prog_37_method_10_code 202 (.putfield 15) 3 205 := ⟨by decide +kernel, rfl⟩
theorem D_prog_37_m10_205 : Dc prog_37_method_10_code 205 (.aload_n 0) 1 206 := ⟨by decide +kernel, rfl⟩
theorem D_prog_37_m10_206 : Dc prog_37_method_10_code 206 (.getfield 11) 3 209 := ⟨by decide +kernel, rfl⟩
theorem D_prog_37_m10_209 : Dc prog_37_method_10_code 209 (.iload_n 3) 1 210 := ⟨by decide +kernel, rfl⟩
theorem D_prog_37_m10_210 : Dc prog_37_method_10_code 210 (.ldc 105) 2 212 := ⟨by decide +kernel, rfl⟩
theorem D_prog_37_m10_212 : Dc prog_37_method_10_code 212 (.newarray .int) 2 214 := ⟨by decide +kernel, rfl⟩
theorem D_prog_37_m10_214 : Dc prog_37_method_10_code 214 (.aastore) 1 215 := ⟨by decide +kernel, rfl⟩
theorem D_prog_37_m10_215 : Dc prog_37_method_10_code 215 (.aload_n 0) 1 216 := ⟨by decide +kernel, rfl⟩
theorem D_prog_37_m10_216 : Dc prog_37_method_10_code 216 (.getfield 15) 3 219 := ⟨by decide +kernel, rfl⟩
theorem D_prog_37_m10_219 : Dc prog_37_method_10_code 219 (.iload_n 3) 1 220 := ⟨by decide +kernel, rfl⟩
theorem D_prog_37_m10_220 : Dc prog_37_method_10_code 220 (.ldc 105) 2 222 := ⟨by decide +kernel, rfl⟩
theorem D_prog_37_m10_222 : Dc prog_37_method_10_code 222 (.newarray .int) 2 224 := ⟨by decide +kernel, rfl⟩
theorem D_prog_37_m10_224 : Dc prog_37_method_10_code 224 (.aastore) 1 225 := ⟨by decide +kernel, rfl⟩
theorem D_prog_37_m10_225 : Dc prog_37_method_10_code 225 (.aload_n 0) 1 226 := ⟨by decide +kernel, rfl⟩
theorem D_prog_37_m10_226 : Dc prog_37_method_10_code 226 (.getfield 49) 3 229 := ⟨by decide +kernel, rfl⟩
theorem D_prog_37_m10_229 : Dc prog_37_method_10_code 229 (.ifnull 30) 3 232 := ⟨by decide +kernel, rfl⟩
theorem D_prog_37_m10_232 : Dc prog_37_method_10_code 232 (.aload_n 0) 1 233 := ⟨by decide +kernel, rfl⟩
theorem D_prog_37_m10_233 : Dc prog_37_method_10_code 233 (.aload_n 0) 1 234 := ⟨by decide +kernel, rfl⟩
theorem D_prog_37_m10_234 : Dc prog_37_method_10_code 234 (.getfield 49) 3 237 := ⟨by decide +kernel, rfl⟩
theorem D_prog_37_m10_237 : Dc prog_37_method_10_code 237 (.iload_n 3) 1 238 := ⟨by decide +kernel, rfl⟩
theorem D_prog_37_m10_238 : Dc prog_37_method_10_code 238 (.iconst 1) 1 239 := ⟨by decide +kernel, rfl⟩
theorem D_prog_37_m10_239 : Dc prog_37_method_10_code 239 (.iadd) 1 240 := ⟨by decide +kernel, rfl⟩
theorem D_prog_37_m10_240 : Dc prog_37_method_10_code 240 (.invokestatic 115) 3 243 := ⟨by decide +kernel, rfl⟩
theorem D_prog_37_m10_243 : Dc prog_37_method_10_code 243 (.checkcast 119) 3 246 := ⟨by decide +kernel, rfl⟩
theorem D_prog_37_m10_246 : Dc prog_37_method_10_code 246 (.putfield 49) 3 249 := ⟨by decide +kernel, rfl⟩
theorem D_prog_37_m10_249 : Dc prog_37_method_10_code 249 (.aload_n 0) 1 250 := ⟨by decide +kernel, rfl⟩
theorem D_prog_37_m10_250 : Dc prog_37_method_10_code 250 (.getfield 49) 3 253 := ⟨by decide +kernel, rfl⟩
theorem D_prog_37_m10_253 : Dc prog_37_method_10_code 253 (.iload_n 3) 1 254 := ⟨by decide +kernel, rfl⟩
theorem D_prog_37_m10_254 : Dc prog_37_method_10_code 254 (.ldc 105) 2 256 := ⟨by decide +kernel, rfl⟩
theorem D_prog_37_m10_256 : Dc prog_37_method_10_code 256 (.newarray .long) 2 258 := ⟨by decide +kernel, rfl⟩
theorem D_prog_37_m10_258 : Dc prog_37_method_10_code 258 (.aastore) 1 259 := ⟨by decide +kernel, rfl⟩
theorem D_prog_37_m10_259 : Dc prog_37_method_10_code 259 (.aload_n 0) 1 260 := ⟨by decide +kernel, rfl⟩
theorem D_prog_37_m10_260 : Dc prog_37_method_10_code 260 (.getfield 67) 3 263 := ⟨by decide +kernel, rfl⟩
theorem D_prog_37_m10_263 : Dc prog_37_method_10_code 263 (.ifnull 30) 3 266 := ⟨by decide +kernel, rfl⟩
theorem D_prog_37_m10_266 : Dc prog_37_method_10_code 266 (.aload_n 0) 1 267 := ⟨by decide +kernel, rfl⟩
theorem D_prog_37_m10_267 : Dc prog_37_method_10_code 267 (.aload_n 0) 1 268 := ⟨by decide +kernel, rfl⟩
theorem D_prog_37_m10_268 : Dc prog_37_method_10_code 268 (.getfield 67) 3 271 := ⟨by decide +kernel, rfl⟩
theorem D_prog_37_m10_271 : Dc prog_37_method_10_code 271 (.iload_n 3) 1 272 := ⟨by decide +kernel, rfl⟩
theorem D_prog_37_m10_272 : Dc prog_37_method_10_code 272 (.iconst 1) 1 273 := ⟨by decide +kernel, rfl⟩
theorem D_prog_37_m10_273 : Dc prog_37_method_10_code 273 (.iadd) 1 274 := ⟨by decide +kernel, rfl⟩
theorem D_prog_37_m10_274 : Dc prog_37_method_10_code 274 (.invokestatic 115) 3 277 := ⟨by decide +kernel, rfl⟩
theorem D_prog_37_m10_277 : Dc prog_37_method_10_code 277 (.checkcast 120) 3 280 := ⟨by decide +kernel, rfl⟩
theorem D_prog_37_m10_280 : Dc prog_37_method_10_code 280 (.putfield 67) 3 283 := ⟨by decide +kernel, rfl⟩
theorem D_prog_37_m10_283 : Dc prog_37_method_10_code 283 (.aload_n 0) 1 284 := ⟨by decide +kernel, rfl⟩
theorem D_prog_37_m10_284 : Dc prog_37_method_10_code 284 (.getfield 67) 3 287 := ⟨by decide +kernel, rfl⟩
theorem D_prog_37_m10_287 : Dc prog_37_method_10_code 287 (.iload_n 3) 1 288 := ⟨by decide +kernel, rfl⟩
theorem D_prog_37_m10_288 : Dc prog_37_method_10_code 288 (.ldc 105) 2 290 := ⟨by decide +kernel, rfl⟩
theorem D_prog_37_m10_290 : Dc prog_37_method_10_code 290 (.newarray .double) 2 292 := ⟨by decide +kernel, rfl⟩
theorem D_prog_37_m10_292 : Dc prog_37_method_10_code 292 (.aastore) 1 293 := ⟨by decide +kernel, rfl⟩
theorem D_prog_37_m10_293 : Dc prog_37_method_10_code 293 (.aload_n 0) 1 294 := ⟨by decide +kernel, rfl⟩
theorem D_prog_37_m10_294 : Dc prog_37_method_10_code 294 (.getfield 75) 3 297 := ⟨by decide +kernel, rfl⟩
theorem D_prog_37_m10_297 : Dc prog_37_method_10_code 297 (.ifnull 31) 3 300 := ⟨by decide +kernel, rfl⟩
theorem D_prog_37_m10_300 : Dc prog_37_method_10_code 300 (.aload_n 0) 1 301 := ⟨by decide +kernel, rfl⟩
theorem D_prog_37_m10_301 : Dc prog_37_method_10_code 301 (.aload_n 0) 1 302 := ⟨by decide +kernel, rfl⟩
theorem D_prog_37_m10_302 : Dc prog_37_method_10_code 302 (.getfield 75) 3 305 := ⟨by decide +kernel, rfl⟩
theorem D_prog_37_m10_305 : Dc prog_37_method_10_code 305 (.iload_n 3) 1 306 := ⟨by decide +kernel, rfl⟩
theorem D_prog_37_m10_306 : Dc prog_37_method_10_code 306 (.iconst 1) 1 307 := ⟨by decide +kernel, rfl⟩
theorem D_prog_37_m10_307 : Dc prog_37_method_10_code 307 (.iadd) 1 308 := ⟨by decide +kernel, rfl⟩
theorem D_prog_37_m10_308 : Dc prog_37_method_10_code 308 (.invokestatic 115) 3 311 := ⟨by decide +kernel, rfl⟩
theorem D_prog_37_m10_311 : Dc prog_37_method_10_code 311 (.checkcast 121) 3 314 := ⟨by decide +kernel, rfl⟩
theorem D_prog_37_m10_314 : Dc prog_37_method_10_code 314 (.putfield 75) 3 317 := ⟨by decide +kernel, rfl⟩
theorem D_prog_37_m10_317 : Dc prog_37_method_10_code 317 (.aload_n 0) 1 318 := ⟨by decide +kernel, rfl⟩
theorem D_prog_37_m10_318 : Dc prog_37_method_10_code 318 (.getfield 75) 3 321 := ⟨by decide +kernel, rfl⟩
theorem D_prog_37_m10_321 : Dc prog_37_method_10_code 321 (.iload_n 3) 1 322 := ⟨by decide +kernel, rfl⟩
theorem D_prog_37_m10_322 : Dc prog_37_method_10_code 322 (.ldc 105) 2 324 := ⟨by decide +kernel, rfl⟩
theorem D_prog_37_m10_324 : Dc prog_37_method_10_code 324 (.anewarray 87) 3 327 := ⟨by decide +kernel, rfl⟩
theorem D_prog_37_m10_327 : Dc prog_37_method_10_code 327 (.aastore) 1 328 := ⟨by decide +kernel, rfl⟩
theorem D_prog_37_m10_328 : Dc prog_37_method_10_code 328 (.return_) 1 329 := ⟨by decide +kernel, rfl⟩
def Q_c_room0 (o x s s0 t t0 rs rl : Addr)  (F : OH) : Option Value → OH → Prop := fun v H' => v = none ∧ H' = ((o, oI "com/example/chainstat/chainstat/io/LinkList" sg_1 [(.ref s), (.ref t), (.ref rs), (.ref rl), (.ref x), (.int (0 : Int32)), (.null), (.null), (.null)]) :: (s, oR "[I" (.array .int) [(.ref s0)]) :: (s0, oA .int (List.replicate 1024 0)) :: (t, oR "[I" (.array .int) [(.ref t0)]) :: (t0, oA .int (List.replicate 1024 0)) :: F)
set_option maxRecDepth 65536 in
set_option maxHeartbeats 40000000 in
theorem c_room0 (l : Launch) (Z : State) (a0 : Array Value) (hw : ∀ d ∈ tables_1, d.before a0 Z = true) (o x s s0 t t0 rs rl : Addr)  (F : OH)  :
    Met l Z (⟨"com/example/chainstat/chainstat/io/LinkList", "makeRoom", "()V"⟩ : MethodName) prog_37_method_10_code 4 none ({ frames := 0, cells := 0, slots := 0, locals := 0 } : Room) [(.ref o)] ((o, oI "com/example/chainstat/chainstat/io/LinkList" sg_1 [(.ref s), (.ref t), (.ref rs), (.ref rl), (.ref x), (.int (0 : Int32)), (.null), (.null), (.null)]) :: (s, oR "[I" (.array .int) [(.ref s0)]) :: (s0, oA .int (List.replicate 1024 0)) :: (t, oR "[I" (.array .int) [(.ref t0)]) :: (t0, oA .int (List.replicate 1024 0)) :: F) (Q_c_room0 o x s s0 t t0 rs rl F) := by
  refine Met.of_wp (Ls := #[.val (.ref o), .unset, .unset, .unset]) pn_2 (fun m => (entry_loc m _ _).trans rfl) ?_
  show Wp none l Z "com/example/chainstat/chainstat/io/LinkList" "makeRoom" prog_37_method_10_code 4 none ({ frames := 0, cells := 0, slots := 0, locals := 0 } : Room) ((o, oI "com/example/chainstat/chainstat/io/LinkList" sg_1 [(.ref s), (.ref t), (.ref rs), (.ref rl), (.ref x), (.int (0 : Int32)), (.null), (.null), (.null)]) :: (s, oR "[I" (.array .int) [(.ref s0)]) :: (s0, oA .int (List.replicate 1024 0)) :: (t, oR "[I" (.array .int) [(.ref t0)]) :: (t0, oA .int (List.replicate 1024 0)) :: F) 0 0 0 #[.val (.ref o), .unset, .unset, .unset] [] (Q_c_room0 o x s s0 t t0 rs rl F)
  refine wp_aload_n D_prog_37_m10_0 rfl rfl ?_
  refine wp_getfield D_prog_37_m10_1 (hw _ (List.mem_of_getElem? (i := 45) rfl)) (fld_new (i := 0) (fi := 5) rfl rfl rfl) ?_
  refine wp_bipush 20 D_prog_37_m10_4 (by decide) ?_
  refine wp_iushr D_prog_37_m10_6 ?_
  rw [show (XT.ushr (0 : Int32) (20 : Int32)) = (0 : Int32) from by decide]
  refine wp_istore_n #[.val (.ref o), .val (.int (0 : Int32)), .unset, .unset] D_prog_37_m10_7 rfl ?_
  refine wp_iload_n D_prog_37_m10_8 rfl ?_
  refine wp_aload_n D_prog_37_m10_9 rfl rfl ?_
  refine wp_getfield D_prog_37_m10_10 (hw _ (List.mem_of_getElem? (i := 21) rfl)) (fld_new (i := 0) (fi := 0) rfl rfl rfl) ?_
  refine wp_lengthR (i := 1) (1 : Int32) D_prog_37_m10_13 rfl rfl ?_
  refine wp_icmp_ge D_prog_37_m10_14 (pc'' := 35) ⟨by decide, by decide⟩ (fun h1 => by exact absurd h1 (by decide)) (fun h1 => ?_)
  refine wp_aload_n D_prog_37_m10_17 rfl rfl ?_
  refine wp_getfield D_prog_37_m10_18 (hw _ (List.mem_of_getElem? (i := 45) rfl)) (fld_new (i := 0) (fi := 5) rfl rfl rfl) ?_
  refine wp_ldcI D_prog_37_m10_21 (hw _ (List.mem_of_getElem? (i := 47) rfl)) ?_
  refine wp_iand D_prog_37_m10_23 ?_
  rw [show ((0 : Int32) &&& (1048575 : Int32)) = (0 : Int32) from by decide]
  refine wp_aload_n D_prog_37_m10_24 rfl rfl ?_
  refine wp_getfield D_prog_37_m10_25 (hw _ (List.mem_of_getElem? (i := 21) rfl)) (fld_new (i := 0) (fi := 0) rfl rfl rfl) ?_
  refine wp_iload_n D_prog_37_m10_28 rfl ?_
  refine wp_aaload (i := 1) (0) D_prog_37_m10_29 rfl rfl (by decide) (by decide) rfl ?_
  refine wp_lengthI (i := 2) (1024 : Int32) D_prog_37_m10_30 rfl (by simp only [List.length_cons, List.length_replicate]; rfl) ?_
  refine wp_icmp_ge D_prog_37_m10_31 (pc'' := 35) ⟨by decide, by decide⟩ (fun h2 => by exact absurd h2 (by decide)) (fun h2 => ?_)
  refine wp_return D_prog_37_m10_34 rfl (by decide) (by decide) ?_
  exact ⟨rfl, rfl⟩
theorem pn_3 : plainFor (⟨"com/example/chainstat/chainstat/io/LinkList", "append", "(IIJ)V"⟩ : MethodName) = true := by first | exact plainFor_of_name (by first | (simp [plainName, overriddenIn]; done) | decide +kernel) | decide +kernel
theorem D_prog_37_m5_0 : Dc prog_37_method_5_code 0 (.aload_n 0) 1 1 := ⟨by decide +kernel, rfl⟩
theorem D_prog_37_m5_1 : Dc prog_37_method_5_code 1 (.invokevirtual 41) 3 4 := ⟨by decide +kernel, rfl⟩
theorem D_prog_37_m5_4 : Dc prog_37_method_5_code 4 (.aload_n 0) 1 5 := ⟨by decide +kernel, rfl⟩
theorem D_prog_37_m5_5 : Dc prog_37_method_5_code 5 (.getfield 44) 3 8 := ⟨by decide +kernel, rfl⟩
theorem D_prog_37_m5_8 : Dc prog_37_method_5_code 8 (.bipush 20) 2 10 := ⟨by decide +kernel, rfl⟩
theorem D_prog_37_m5_10 : Dc prog_37_method_5_code 10 (.iushr) 1 11 := ⟨by decide +kernel, rfl⟩
theorem D_prog_37_m5_11 : Dc prog_37_method_5_code 11 (.istore 5) 2 13 := ⟨by decide +kernel, rfl⟩
theorem D_prog_37_m5_13 : Dc prog_37_method_5_code 13 (.aload_n 0) 1 14 := ⟨by decide +kernel, rfl⟩
theorem D_prog_37_m5_14 : Dc prog_37_method_5_code 14 (.getfield 44) 3 17 := ⟨by decide +kernel, rfl⟩
theorem D_prog_37_m5_17 : Dc prog_37_method_5_code 17 (.ldc 48) 2 19 := ⟨by decide +kernel, rfl⟩
theorem D_prog_37_m5_19 : Dc prog_37_method_5_code 19 (.iand) 1 20 := ⟨by decide +kernel, rfl⟩
theorem D_prog_37_m5_20 : Dc prog_37_method_5_code 20 (.istore 6) 2 22 := ⟨by decide +kernel, rfl⟩
theorem D_prog_37_m5_22 : Dc prog_37_method_5_code 22 (.lload_n 3) 1 23 := ⟨by decide +kernel, rfl⟩
theorem D_prog_37_m5_23 : Dc prog_37_method_5_code 23 (.lconst 1) 1 24 := ⟨by decide +kernel, rfl⟩
theorem D_prog_37_m5_24 : Dc prog_37_method_5_code 24 (.lcmp) 1 25 := ⟨by decide +kernel, rfl⟩
theorem D_prog_37_m5_25 : Dc prog_37_method_5_code 25 (.ifCond .eq 14) 3 28 := ⟨by decide +kernel, rfl⟩
theorem D_prog_37_m5_28 : Dc prog_37_method_5_code 28 (.aload_n 0) 1 29 := ⟨by decide +kernel, rfl⟩
theorem D_prog_37_m5_29 : Dc prog_37_method_5_code 29 (.getfield 49) 3 32 := ⟨by decide +kernel, rfl⟩
theorem D_prog_37_m5_32 : Dc prog_37_method_5_code 32 (.ifnonnull 7) 3 35 := ⟨by decide +kernel, rfl⟩
theorem D_prog_37_m5_35 : Dc prog_37_method_5_code 35 (.aload_n 0) 1 36 := ⟨by decide +kernel, rfl⟩
theorem D_prog_37_m5_36 : Dc prog_37_method_5_code 36 (.invokevirtual 53) 3 39 := ⟨by decide +kernel, rfl⟩
theorem D_prog_37_m5_39 : Dc prog_37_method_5_code 39 (.aload_n 0) 1 40 := ⟨by decide +kernel, rfl⟩
theorem D_prog_37_m5_40 : Dc prog_37_method_5_code 40 (.getfield 11) 3 43 := ⟨by decide +kernel, rfl⟩
theorem D_prog_37_m5_43 : Dc prog_37_method_5_code 43 (.iload 5) 2 45 := ⟨by decide +kernel, rfl⟩
theorem D_prog_37_m5_45 : Dc prog_37_method_5_code 45 (.aaload) 1 46 := ⟨by decide +kernel, rfl⟩
theorem D_prog_37_m5_46 : Dc prog_37_method_5_code 46 (.iload 6) 2 48 := ⟨by decide +kernel, rfl⟩
theorem D_prog_37_m5_48 : Dc prog_37_method_5_code 48 (.iload_n 1) 1 49 := ⟨by decide +kernel, rfl⟩
theorem D_prog_37_m5_49 : Dc prog_37_method_5_code 49 (.iastore) 1 50 := ⟨by decide +kernel, rfl⟩
theorem D_prog_37_m5_50 : Dc prog_37_method_5_code 50 (.aload_n 0) 1 51 := ⟨by decide +kernel, rfl⟩
theorem D_prog_37_m5_51 : Dc prog_37_method_5_code 51 (.getfield 15) 3 54 := ⟨by decide +kernel, rfl⟩
theorem D_prog_37_m5_54 : Dc prog_37_method_5_code 54 (.iload 5) 2 56 := ⟨by decide +kernel, rfl⟩
theorem D_prog_37_m5_56 : Dc prog_37_method_5_code 56 (.aaload) 1 57 := ⟨by decide +kernel, rfl⟩
theorem D_prog_37_m5_57 : Dc prog_37_method_5_code 57 (.iload 6) 2 59 := ⟨by decide +kernel, rfl⟩
theorem D_prog_37_m5_59 : Dc prog_37_method_5_code 59 (.iload_n 2) 1 60 := ⟨by decide +kernel, rfl⟩
theorem D_prog_37_m5_60 : Dc prog_37_method_5_code 60 (.iastore) 1 61 := ⟨by decide +kernel, rfl⟩
theorem D_prog_37_m5_61 : Dc prog_37_method_5_code 61 (.aload_n 0) 1 62 := ⟨by decide +kernel, rfl⟩
theorem D_prog_37_m5_62 : Dc prog_37_method_5_code 62 (.getfield 49) 3 65 := ⟨by decide +kernel, rfl⟩
theorem D_prog_37_m5_65 : Dc prog_37_method_5_code 65 (.ifnull 14) 3 68 := ⟨by decide +kernel, rfl⟩
theorem D_prog_37_m5_68 : Dc prog_37_method_5_code 68 (.aload_n 0) 1 69 := ⟨by decide +kernel, rfl⟩
theorem D_prog_37_m5_69 : Dc prog_37_method_5_code 69 (.getfield 49) 3 72 := ⟨by decide +kernel, rfl⟩
theorem D_prog_37_m5_72 : Dc prog_37_method_5_code 72 (.iload 5) 2 74 := ⟨by decide +kernel, rfl⟩
theorem D_prog_37_m5_74 : Dc prog_37_method_5_code 74 (.aaload) 1 75 := ⟨by decide +kernel, rfl⟩
theorem D_prog_37_m5_75 : Dc prog_37_method_5_code 75 (.iload 6) 2 77 := ⟨by decide +kernel, rfl⟩
theorem D_prog_37_m5_77 : Dc prog_37_method_5_code 77 (.lload_n 3) 1 78 := ⟨by decide +kernel, rfl⟩
theorem D_prog_37_m5_78 : Dc prog_37_method_5_code 78 (.lastore) 1 79 := ⟨by decide +kernel, rfl⟩
theorem D_prog_37_m5_79 : Dc prog_37_method_5_code 79 (.aload_n 0) 1 80 := ⟨by decide +kernel, rfl⟩
theorem D_prog_37_m5_80 : Dc prog_37_method_5_code 80 (.dup) 1 81 := ⟨by decide +kernel, rfl⟩
theorem D_prog_37_m5_81 : Dc prog_37_method_5_code 81 (.getfield 44) 3 84 := ⟨by decide +kernel, rfl⟩
theorem D_prog_37_m5_84 : Dc prog_37_method_5_code 84 (.iconst 1) 1 85 := ⟨by decide +kernel, rfl⟩
theorem D_prog_37_m5_85 : Dc prog_37_method_5_code 85 (.iadd) 1 86 := ⟨by decide +kernel, rfl⟩
theorem D_prog_37_m5_86 : Dc prog_37_method_5_code 86 (.putfield 44) 3 89 := ⟨by decide +kernel, rfl⟩
theorem D_prog_37_m5_89 : Dc prog_37_method_5_code 89 (.return_) 1 90 := ⟨by decide +kernel, rfl⟩
def Q_c_app0 (a b : Int32) (o x s s0 t t0 rs rl : Addr)  (F : OH) : Option Value → OH → Prop := fun v H' => v = none ∧ H' = ((o, oI "com/example/chainstat/chainstat/io/LinkList" sg_1 [(.ref s), (.ref t), (.ref rs), (.ref rl), (.ref x), (.int (1 : Int32)), (.null), (.null), (.null)]) :: (s, oR "[I" (.array .int) [(.ref s0)]) :: (s0, oA .int (a :: List.replicate 1023 0)) :: (t, oR "[I" (.array .int) [(.ref t0)]) :: (t0, oA .int (b :: List.replicate 1023 0)) :: F)
set_option maxRecDepth 65536 in
set_option maxHeartbeats 40000000 in
theorem c_app0 (l : Launch) (Z : State) (a0 : Array Value) (hw : ∀ d ∈ tables_1, d.before a0 Z = true) (a b : Int32) (o x s s0 t t0 rs rl : Addr)  (F : OH)  :
    Met l Z (⟨"com/example/chainstat/chainstat/io/LinkList", "append", "(IIJ)V"⟩ : MethodName) prog_37_method_5_code 7 none ({ frames := 1, cells := 0, slots := 0, locals := 15 } : Room) [(.ref o), (.int a), (.int b), (.long (1 : Int64))] ((o, oI "com/example/chainstat/chainstat/io/LinkList" sg_1 [(.ref s), (.ref t), (.ref rs), (.ref rl), (.ref x), (.int (0 : Int32)), (.null), (.null), (.null)]) :: (s, oR "[I" (.array .int) [(.ref s0)]) :: (s0, oA .int (List.replicate 1024 0)) :: (t, oR "[I" (.array .int) [(.ref t0)]) :: (t0, oA .int (List.replicate 1024 0)) :: F) (Q_c_app0 a b o x s s0 t t0 rs rl F) := by
  refine Met.of_wp (Ls := #[.val (.ref o), .val (.int a), .val (.int b), .val (.long (1 : Int64)), .second, .unset, .unset]) pn_3 (fun m => (entry_loc m _ _).trans rfl) ?_
  show Wp none l Z "com/example/chainstat/chainstat/io/LinkList" "append" prog_37_method_5_code 7 none ({ frames := 1, cells := 0, slots := 0, locals := 15 } : Room) ((o, oI "com/example/chainstat/chainstat/io/LinkList" sg_1 [(.ref s), (.ref t), (.ref rs), (.ref rl), (.ref x), (.int (0 : Int32)), (.null), (.null), (.null)]) :: (s, oR "[I" (.array .int) [(.ref s0)]) :: (s0, oA .int (List.replicate 1024 0)) :: (t, oR "[I" (.array .int) [(.ref t0)]) :: (t0, oA .int (List.replicate 1024 0)) :: F) 0 0 0 #[.val (.ref o), .val (.int a), .val (.int b), .val (.long (1 : Int64)), .second, .unset, .unset] [] (Q_c_app0 a b o x s s0 t t0 rs rl F)
  refine wp_aload_n D_prog_37_m5_0 rfl rfl ?_
  refine wp_private (c_room0 l Z a0 hw o x s s0 t t0 rs rl  F) (exa_new (i := 0) rfl) D_prog_37_m5_1 (hw _ (List.mem_of_getElem? (i := 41) rfl)) (hw _ (List.mem_of_getElem? (i := 42) rfl)) (hw _ (List.mem_of_getElem? (i := 2) rfl)) (hw _ (List.mem_of_getElem? (i := 43) rfl)) (hw _ (List.mem_of_getElem? (i := 3) rfl)) (hw _ (List.mem_of_getElem? (i := 44) rfl)) (by decide) pd_1 rfl rfl rfl (Nat.le_of_ble_eq_true rfl) (Nat.le_of_ble_eq_true rfl) (Nat.le_of_ble_eq_true rfl) (Nat.le_of_ble_eq_true rfl) ?_
  rintro _ _ ⟨rfl, rfl⟩
  show Wp none l Z "com/example/chainstat/chainstat/io/LinkList" "append" prog_37_method_5_code 7 none ({ frames := 1, cells := 0, slots := 0, locals := 15 } : Room) ((o, oI "com/example/chainstat/chainstat/io/LinkList" sg_1 [(.ref s), (.ref t), (.ref rs), (.ref rl), (.ref x), (.int (0 : Int32)), (.null), (.null), (.null)]) :: (s, oR "[I" (.array .int) [(.ref s0)]) :: (s0, oA .int (List.replicate 1024 0)) :: (t, oR "[I" (.array .int) [(.ref t0)]) :: (t0, oA .int (List.replicate 1024 0)) :: F) 0 0 4 #[.val (.ref o), .val (.int a), .val (.int b), .val (.long (1 : Int64)), .second, .unset, .unset] [] (Q_c_app0 a b o x s s0 t t0 rs rl F)
  refine wp_aload_n D_prog_37_m5_4 rfl rfl ?_
  refine wp_getfield D_prog_37_m5_5 (hw _ (List.mem_of_getElem? (i := 45) rfl)) (fld_new (i := 0) (fi := 5) rfl rfl rfl) ?_
  refine wp_bipush 20 D_prog_37_m5_8 (by decide) ?_
  refine wp_iushr D_prog_37_m5_10 ?_
  rw [show (XT.ushr (0 : Int32) (20 : Int32)) = (0 : Int32) from by decide]
  refine wp_istore #[.val (.ref o), .val (.int a), .val (.int b), .val (.long (1 : Int64)), .second, .val (.int (0 : Int32)), .unset] D_prog_37_m5_11 rfl ?_
  refine wp_aload_n D_prog_37_m5_13 rfl rfl ?_
  refine wp_getfield D_prog_37_m5_14 (hw _ (List.mem_of_getElem? (i := 45) rfl)) (fld_new (i := 0) (fi := 5) rfl rfl rfl) ?_
  refine wp_ldcI D_prog_37_m5_17 (hw _ (List.mem_of_getElem? (i := 47) rfl)) ?_
  refine wp_iand D_prog_37_m5_19 ?_
  rw [show ((0 : Int32) &&& (1048575 : Int32)) = (0 : Int32) from by decide]
  refine wp_istore #[.val (.ref o), .val (.int a), .val (.int b), .val (.long (1 : Int64)), .second, .val (.int (0 : Int32)), .val (.int (0 : Int32))] D_prog_37_m5_20 rfl ?_
  refine wp_lload_n D_prog_37_m5_22 rfl ?_
  refine wp_lconst 1 D_prog_37_m5_23 (by decide) ?_
  refine wp_lcmp_eq D_prog_37_m5_24 D_prog_37_m5_25 (pc'' := 39) ⟨by decide, by decide⟩ (fun h1 => ?_) (fun h1 => by exact absurd h1 (by decide))
  refine wp_aload_n D_prog_37_m5_39 rfl rfl ?_
  refine wp_getfield D_prog_37_m5_40 (hw _ (List.mem_of_getElem? (i := 21) rfl)) (fld_new (i := 0) (fi := 0) rfl rfl rfl) ?_
  refine wp_iload D_prog_37_m5_43 rfl ?_
  refine wp_aaload (i := 1) (0) D_prog_37_m5_45 rfl rfl (by decide) (by decide) rfl ?_
  refine wp_iload D_prog_37_m5_46 rfl ?_
  refine wp_iload_n D_prog_37_m5_48 rfl ?_
  refine wp_iastore (i := 2) (0) D_prog_37_m5_49 rfl (by decide) (by decide) (by simp only [List.length_cons, List.length_replicate]; decide) ?_
  show Wp none l Z "com/example/chainstat/chainstat/io/LinkList" "append" prog_37_method_5_code 7 none ({ frames := 1, cells := 0, slots := 0, locals := 15 } : Room) ((o, oI "com/example/chainstat/chainstat/io/LinkList" sg_1 [(.ref s), (.ref t), (.ref rs), (.ref rl), (.ref x), (.int (0 : Int32)), (.null), (.null), (.null)]) :: (s, oR "[I" (.array .int) [(.ref s0)]) :: (s0, oA .int (a :: List.replicate 1023 0)) :: (t, oR "[I" (.array .int) [(.ref t0)]) :: (t0, oA .int (List.replicate 1024 0)) :: F) 0 0 50 #[.val (.ref o), .val (.int a), .val (.int b), .val (.long (1 : Int64)), .second, .val (.int (0 : Int32)), .val (.int (0 : Int32))] [] (Q_c_app0 a b o x s s0 t t0 rs rl F)
  refine wp_aload_n D_prog_37_m5_50 rfl rfl ?_
  refine wp_getfield D_prog_37_m5_51 (hw _ (List.mem_of_getElem? (i := 23) rfl)) (fld_new (i := 0) (fi := 1) rfl rfl rfl) ?_
  refine wp_iload D_prog_37_m5_54 rfl ?_
  refine wp_aaload (i := 3) (0) D_prog_37_m5_56 rfl rfl (by decide) (by decide) rfl ?_
  refine wp_iload D_prog_37_m5_57 rfl ?_
  refine wp_iload_n D_prog_37_m5_59 rfl ?_
  refine wp_iastore (i := 4) (0) D_prog_37_m5_60 rfl (by decide) (by decide) (by simp only [List.length_cons, List.length_replicate]; decide) ?_
  show Wp none l Z "com/example/chainstat/chainstat/io/LinkList" "append" prog_37_method_5_code 7 none ({ frames := 1, cells := 0, slots := 0, locals := 15 } : Room) ((o, oI "com/example/chainstat/chainstat/io/LinkList" sg_1 [(.ref s), (.ref t), (.ref rs), (.ref rl), (.ref x), (.int (0 : Int32)), (.null), (.null), (.null)]) :: (s, oR "[I" (.array .int) [(.ref s0)]) :: (s0, oA .int (a :: List.replicate 1023 0)) :: (t, oR "[I" (.array .int) [(.ref t0)]) :: (t0, oA .int (b :: List.replicate 1023 0)) :: F) 0 0 61 #[.val (.ref o), .val (.int a), .val (.int b), .val (.long (1 : Int64)), .second, .val (.int (0 : Int32)), .val (.int (0 : Int32))] [] (Q_c_app0 a b o x s s0 t t0 rs rl F)
  refine wp_aload_n D_prog_37_m5_61 rfl rfl ?_
  refine wp_getfield D_prog_37_m5_62 (hw _ (List.mem_of_getElem? (i := 48) rfl)) (fld_new (i := 0) (fi := 6) rfl rfl rfl) ?_
  refine wp_ifnull_y D_prog_37_m5_65 (pc'' := 79) ⟨by decide, by decide⟩ ?_
  refine wp_aload_n D_prog_37_m5_79 rfl rfl ?_
  refine wp_dup D_prog_37_m5_80 rfl ?_
  refine wp_getfield D_prog_37_m5_81 (hw _ (List.mem_of_getElem? (i := 45) rfl)) (fld_new (i := 0) (fi := 5) rfl rfl rfl) ?_
  refine wp_iconst 1 D_prog_37_m5_84 (by decide) ?_
  refine wp_iadd D_prog_37_m5_85 ?_
  rw [show ((0 : Int32) + (1 : Int32)) = (1 : Int32) from by decide]
  refine wp_putfield (i := 0) (fi := 5) (ty := .int) D_prog_37_m5_86 (hw _ (List.mem_of_getElem? (i := 45) rfl)) rfl rfl rfl (Or.inl (hw _ (List.mem_of_getElem? (i := 46) rfl))) (hw _ (List.mem_of_getElem? (i := 2) rfl)) (by decide) rfl rfl ?_
  show Wp none l Z "com/example/chainstat/chainstat/io/LinkList" "append" prog_37_method_5_code 7 none ({ frames := 1, cells := 0, slots := 0, locals := 15 } : Room) ((o, oI "com/example/chainstat/chainstat/io/LinkList" sg_1 [(.ref s), (.ref t), (.ref rs), (.ref rl), (.ref x), (.int (1 : Int32)), (.null), (.null), (.null)]) :: (s, oR "[I" (.array .int) [(.ref s0)]) :: (s0, oA .int (a :: List.replicate 1023 0)) :: (t, oR "[I" (.array .int) [(.ref t0)]) :: (t0, oA .int (b :: List.replicate 1023 0)) :: F) 0 0 89 #[.val (.ref o), .val (.int a), .val (.int b), .val (.long (1 : Int64)), .second, .val (.int (0 : Int32)), .val (.int (0 : Int32))] [] (Q_c_app0 a b o x s s0 t t0 rs rl F)
  refine wp_return D_prog_37_m5_89 rfl (by decide) (by decide) ?_
  exact ⟨rfl, rfl⟩
theorem pn_4 : plainFor (⟨"com/example/chainstat/chainstat/io/LinkList", "add", "(II)V"⟩ : MethodName) = true := by first | exact plainFor_of_name (by first | (simp [plainName, overriddenIn]; done) | decide +kernel) | decide +kernel
theorem D_prog_37_m4_0 : Dc prog_37_method_4_code 0 (.aload_n 0) 1 1 := ⟨by decide +kernel, rfl⟩
theorem D_prog_37_m4_1 : Dc prog_37_method_4_code 1 (.iload_n 1) 1 2 := ⟨by decide +kernel, rfl⟩
theorem D_prog_37_m4_2 : Dc prog_37_method_4_code 2 (.iload_n 2) 1 3 := ⟨by decide +kernel, rfl⟩
theorem D_prog_37_m4_3 : Dc prog_37_method_4_code 3 (.lconst 1) 1 4 := ⟨by decide +kernel, rfl⟩
theorem D_prog_37_m4_4 : Dc prog_37_method_4_code 4 (.invokevirtual 37) 3 7 := ⟨by decide +kernel, rfl⟩
theorem D_prog_37_m4_7 : Dc prog_37_method_4_code 7 (.return_) 1 8 := ⟨by decide +kernel, rfl⟩
def Q_c_add0 (a b : Int32) (o x s s0 t t0 rs rl : Addr)  (F : OH) : Option Value → OH → Prop := fun v H' => v = none ∧ H' = ((o, oI "com/example/chainstat/chainstat/io/LinkList" sg_1 [(.ref s), (.ref t), (.ref rs), (.ref rl), (.ref x), (.int (1 : Int32)), (.null), (.null), (.null)]) :: (s, oR "[I" (.array .int) [(.ref s0)]) :: (s0, oA .int (a :: List.replicate 1023 0)) :: (t, oR "[I" (.array .int) [(.ref t0)]) :: (t0, oA .int (b :: List.replicate 1023 0)) :: F)
set_option maxRecDepth 65536 in
set_option maxHeartbeats 40000000 in
theorem c_add0 (l : Launch) (Z : State) (a0 : Array Value) (hw : ∀ d ∈ tables_1, d.before a0 Z = true) (a b : Int32) (o x s s0 t t0 rs rl : Addr)  (F : OH)  :
    Met l Z (⟨"com/example/chainstat/chainstat/io/LinkList", "add", "(II)V"⟩ : MethodName) prog_37_method_4_code 3 none ({ frames := 2, cells := 0, slots := 0, locals := 33 } : Room) [(.ref o), (.int a), (.int b)] ((o, oI "com/example/chainstat/chainstat/io/LinkList" sg_1 [(.ref s), (.ref t), (.ref rs), (.ref rl), (.ref x), (.int (0 : Int32)), (.null), (.null), (.null)]) :: (s, oR "[I" (.array .int) [(.ref s0)]) :: (s0, oA .int (List.replicate 1024 0)) :: (t, oR "[I" (.array .int) [(.ref t0)]) :: (t0, oA .int (List.replicate 1024 0)) :: F) (Q_c_add0 a b o x s s0 t t0 rs rl F) := by
  refine Met.of_wp (Ls := #[.val (.ref o), .val (.int a), .val (.int b)]) pn_4 (fun m => (entry_loc m _ _).trans rfl) ?_
  show Wp none l Z "com/example/chainstat/chainstat/io/LinkList" "add" prog_37_method_4_code 3 none ({ frames := 2, cells := 0, slots := 0, locals := 33 } : Room) ((o, oI "com/example/chainstat/chainstat/io/LinkList" sg_1 [(.ref s), (.ref t), (.ref rs), (.ref rl), (.ref x), (.int (0 : Int32)), (.null), (.null), (.null)]) :: (s, oR "[I" (.array .int) [(.ref s0)]) :: (s0, oA .int (List.replicate 1024 0)) :: (t, oR "[I" (.array .int) [(.ref t0)]) :: (t0, oA .int (List.replicate 1024 0)) :: F) 0 0 0 #[.val (.ref o), .val (.int a), .val (.int b)] [] (Q_c_add0 a b o x s s0 t t0 rs rl F)
  refine wp_aload_n D_prog_37_m4_0 rfl rfl ?_
  refine wp_iload_n D_prog_37_m4_1 rfl ?_
  refine wp_iload_n D_prog_37_m4_2 rfl ?_
  refine wp_lconst 1 D_prog_37_m4_3 (by decide) ?_
  refine wp_private (c_app0 l Z a0 hw a b o x s s0 t t0 rs rl  F) (exa_new (i := 0) rfl) D_prog_37_m4_4 (hw _ (List.mem_of_getElem? (i := 37) rfl)) (hw _ (List.mem_of_getElem? (i := 38) rfl)) (hw _ (List.mem_of_getElem? (i := 2) rfl)) (hw _ (List.mem_of_getElem? (i := 39) rfl)) (hw _ (List.mem_of_getElem? (i := 3) rfl)) (hw _ (List.mem_of_getElem? (i := 40) rfl)) (by decide) pd_2 rfl rfl rfl (Nat.le_of_ble_eq_true rfl) (Nat.le_of_ble_eq_true rfl) (Nat.le_of_ble_eq_true rfl) (Nat.le_of_ble_eq_true rfl) ?_
  rintro _ _ ⟨rfl, rfl⟩
  show Wp none l Z "com/example/chainstat/chainstat/io/LinkList" "add" prog_37_method_4_code 3 none ({ frames := 2, cells := 0, slots := 0, locals := 33 } : Room) ((o, oI "com/example/chainstat/chainstat/io/LinkList" sg_1 [(.ref s), (.ref t), (.ref rs), (.ref rl), (.ref x), (.int (1 : Int32)), (.null), (.null), (.null)]) :: (s, oR "[I" (.array .int) [(.ref s0)]) :: (s0, oA .int (a :: List.replicate 1023 0)) :: (t, oR "[I" (.array .int) [(.ref t0)]) :: (t0, oA .int (b :: List.replicate 1023 0)) :: F) 0 0 7 #[.val (.ref o), .val (.int a), .val (.int b)] [] (Q_c_add0 a b o x s s0 t t0 rs rl F)
  refine wp_return D_prog_37_m4_7 rfl (by decide) (by decide) ?_
  exact ⟨rfl, rfl⟩
def Q_c_room1 (o x s s0 t t0 rs rl : Addr) (x0 y0 : Int32) (F : OH) : Option Value → OH → Prop := fun v H' => v = none ∧ H' = ((o, oI "com/example/chainstat/chainstat/io/LinkList" sg_1 [(.ref s), (.ref t), (.ref rs), (.ref rl), (.ref x), (.int (1 : Int32)), (.null), (.null), (.null)]) :: (s, oR "[I" (.array .int) [(.ref s0)]) :: (s0, oA .int (x0 :: List.replicate 1023 0)) :: (t, oR "[I" (.array .int) [(.ref t0)]) :: (t0, oA .int (y0 :: List.replicate 1023 0)) :: F)
set_option maxRecDepth 65536 in
set_option maxHeartbeats 40000000 in
theorem c_room1 (l : Launch) (Z : State) (a0 : Array Value) (hw : ∀ d ∈ tables_1, d.before a0 Z = true) (o x s s0 t t0 rs rl : Addr) (x0 y0 : Int32) (F : OH)  :
    Met l Z (⟨"com/example/chainstat/chainstat/io/LinkList", "makeRoom", "()V"⟩ : MethodName) prog_37_method_10_code 4 none ({ frames := 0, cells := 0, slots := 0, locals := 0 } : Room) [(.ref o)] ((o, oI "com/example/chainstat/chainstat/io/LinkList" sg_1 [(.ref s), (.ref t), (.ref rs), (.ref rl), (.ref x), (.int (1 : Int32)), (.null), (.null), (.null)]) :: (s, oR "[I" (.array .int) [(.ref s0)]) :: (s0, oA .int (x0 :: List.replicate 1023 0)) :: (t, oR "[I" (.array .int) [(.ref t0)]) :: (t0, oA .int (y0 :: List.replicate 1023 0)) :: F) (Q_c_room1 o x s s0 t t0 rs rl x0 y0 F) := by
  refine Met.of_wp (Ls := #[.val (.ref o), .unset, .unset, .unset]) pn_2 (fun m => (entry_loc m _ _).trans rfl) ?_
  show Wp none l Z "com/example/chainstat/chainstat/io/LinkList" "makeRoom" prog_37_method_10_code 4 none ({ frames := 0, cells := 0, slots := 0, locals := 0 } : Room) ((o, oI "com/example/chainstat/chainstat/io/LinkList" sg_1 [(.ref s), (.ref t), (.ref rs), (.ref rl), (.ref x), (.int (1 : Int32)), (.null), (.null), (.null)]) :: (s, oR "[I" (.array .int) [(.ref s0)]) :: (s0, oA .int (x0 :: List.replicate 1023 0)) :: (t, oR "[I" (.array .int) [(.ref t0)]) :: (t0, oA .int (y0 :: List.replicate 1023 0)) :: F) 0 0 0 #[.val (.ref o), .unset, .unset, .unset] [] (Q_c_room1 o x s s0 t t0 rs rl x0 y0 F)
  refine wp_aload_n D_prog_37_m10_0 rfl rfl ?_
  refine wp_getfield D_prog_37_m10_1 (hw _ (List.mem_of_getElem? (i := 45) rfl)) (fld_new (i := 0) (fi := 5) rfl rfl rfl) ?_
  refine wp_bipush 20 D_prog_37_m10_4 (by decide) ?_
  refine wp_iushr D_prog_37_m10_6 ?_
  rw [show (XT.ushr (1 : Int32) (20 : Int32)) = (0 : Int32) from by decide]
  refine wp_istore_n #[.val (.ref o), .val (.int (0 : Int32)), .unset, .unset] D_prog_37_m10_7 rfl ?_
  refine wp_iload_n D_prog_37_m10_8 rfl ?_
  refine wp_aload_n D_prog_37_m10_9 rfl rfl ?_
  refine wp_getfield D_prog_37_m10_10 (hw _ (List.mem_of_getElem? (i := 21) rfl)) (fld_new (i := 0) (fi := 0) rfl rfl rfl) ?_
  refine wp_lengthR (i := 1) (1 : Int32) D_prog_37_m10_13 rfl rfl ?_
  refine wp_icmp_ge D_prog_37_m10_14 (pc'' := 35) ⟨by decide, by decide⟩ (fun h1 => by exact absurd h1 (by decide)) (fun h1 => ?_)
  refine wp_aload_n D_prog_37_m10_17 rfl rfl ?_
  refine wp_getfield D_prog_37_m10_18 (hw _ (List.mem_of_getElem? (i := 45) rfl)) (fld_new (i := 0) (fi := 5) rfl rfl rfl) ?_
  refine wp_ldcI D_prog_37_m10_21 (hw _ (List.mem_of_getElem? (i := 47) rfl)) ?_
  refine wp_iand D_prog_37_m10_23 ?_
  rw [show ((1 : Int32) &&& (1048575 : Int32)) = (1 : Int32) from by decide]
  refine wp_aload_n D_prog_37_m10_24 rfl rfl ?_
  refine wp_getfield D_prog_37_m10_25 (hw _ (List.mem_of_getElem? (i := 21) rfl)) (fld_new (i := 0) (fi := 0) rfl rfl rfl) ?_
  refine wp_iload_n D_prog_37_m10_28 rfl ?_
  refine wp_aaload (i := 1) (0) D_prog_37_m10_29 rfl rfl (by decide) (by decide) rfl ?_
  refine wp_lengthI (i := 2) (1024 : Int32) D_prog_37_m10_30 rfl (by simp only [List.length_cons, List.length_replicate]; rfl) ?_
  refine wp_icmp_ge D_prog_37_m10_31 (pc'' := 35) ⟨by decide, by decide⟩ (fun h2 => by exact absurd h2 (by decide)) (fun h2 => ?_)
  refine wp_return D_prog_37_m10_34 rfl (by decide) (by decide) ?_
  exact ⟨rfl, rfl⟩
def Q_c_app1 (a b : Int32) (o x s s0 t t0 rs rl : Addr) (x0 y0 : Int32) (F : OH) : Option Value → OH → Prop := fun v H' => v = none ∧ H' = ((o, oI "com/example/chainstat/chainstat/io/LinkList" sg_1 [(.ref s), (.ref t), (.ref rs), (.ref rl), (.ref x), (.int (2 : Int32)), (.null), (.null), (.null)]) :: (s, oR "[I" (.array .int) [(.ref s0)]) :: (s0, oA .int (x0 :: a :: List.replicate 1022 0)) :: (t, oR "[I" (.array .int) [(.ref t0)]) :: (t0, oA .int (y0 :: b :: List.replicate 1022 0)) :: F)
set_option maxRecDepth 65536 in
set_option maxHeartbeats 40000000 in
theorem c_app1 (l : Launch) (Z : State) (a0 : Array Value) (hw : ∀ d ∈ tables_1, d.before a0 Z = true) (a b : Int32) (o x s s0 t t0 rs rl : Addr) (x0 y0 : Int32) (F : OH)  :
    Met l Z (⟨"com/example/chainstat/chainstat/io/LinkList", "append", "(IIJ)V"⟩ : MethodName) prog_37_method_5_code 7 none ({ frames := 1, cells := 0, slots := 0, locals := 15 } : Room) [(.ref o), (.int a), (.int b), (.long (1 : Int64))] ((o, oI "com/example/chainstat/chainstat/io/LinkList" sg_1 [(.ref s), (.ref t), (.ref rs), (.ref rl), (.ref x), (.int (1 : Int32)), (.null), (.null), (.null)]) :: (s, oR "[I" (.array .int) [(.ref s0)]) :: (s0, oA .int (x0 :: List.replicate 1023 0)) :: (t, oR "[I" (.array .int) [(.ref t0)]) :: (t0, oA .int (y0 :: List.replicate 1023 0)) :: F) (Q_c_app1 a b o x s s0 t t0 rs rl x0 y0 F) := by
  refine Met.of_wp (Ls := #[.val (.ref o), .val (.int a), .val (.int b), .val (.long (1 : Int64)), .second, .unset, .unset]) pn_3 (fun m => (entry_loc m _ _).trans rfl) ?_
  show Wp none l Z "com/example/chainstat/chainstat/io/LinkList" "append" prog_37_method_5_code 7 none ({ frames := 1, cells := 0, slots := 0, locals := 15 } : Room) ((o, oI "com/example/chainstat/chainstat/io/LinkList" sg_1 [(.ref s), (.ref t), (.ref rs), (.ref rl), (.ref x), (.int (1 : Int32)), (.null), (.null), (.null)]) :: (s, oR "[I" (.array .int) [(.ref s0)]) :: (s0, oA .int (x0 :: List.replicate 1023 0)) :: (t, oR "[I" (.array .int) [(.ref t0)]) :: (t0, oA .int (y0 :: List.replicate 1023 0)) :: F) 0 0 0 #[.val (.ref o), .val (.int a), .val (.int b), .val (.long (1 : Int64)), .second, .unset, .unset] [] (Q_c_app1 a b o x s s0 t t0 rs rl x0 y0 F)
  refine wp_aload_n D_prog_37_m5_0 rfl rfl ?_
  refine wp_private (c_room1 l Z a0 hw o x s s0 t t0 rs rl x0 y0 F) (exa_new (i := 0) rfl) D_prog_37_m5_1 (hw _ (List.mem_of_getElem? (i := 41) rfl)) (hw _ (List.mem_of_getElem? (i := 42) rfl)) (hw _ (List.mem_of_getElem? (i := 2) rfl)) (hw _ (List.mem_of_getElem? (i := 43) rfl)) (hw _ (List.mem_of_getElem? (i := 3) rfl)) (hw _ (List.mem_of_getElem? (i := 44) rfl)) (by decide) pd_1 rfl rfl rfl (Nat.le_of_ble_eq_true rfl) (Nat.le_of_ble_eq_true rfl) (Nat.le_of_ble_eq_true rfl) (Nat.le_of_ble_eq_true rfl) ?_
  rintro _ _ ⟨rfl, rfl⟩
  show Wp none l Z "com/example/chainstat/chainstat/io/LinkList" "append" prog_37_method_5_code 7 none ({ frames := 1, cells := 0, slots := 0, locals := 15 } : Room) ((o, oI "com/example/chainstat/chainstat/io/LinkList" sg_1 [(.ref s), (.ref t), (.ref rs), (.ref rl), (.ref x), (.int (1 : Int32)), (.null), (.null), (.null)]) :: (s, oR "[I" (.array .int) [(.ref s0)]) :: (s0, oA .int (x0 :: List.replicate 1023 0)) :: (t, oR "[I" (.array .int) [(.ref t0)]) :: (t0, oA .int (y0 :: List.replicate 1023 0)) :: F) 0 0 4 #[.val (.ref o), .val (.int a), .val (.int b), .val (.long (1 : Int64)), .second, .unset, .unset] [] (Q_c_app1 a b o x s s0 t t0 rs rl x0 y0 F)
  refine wp_aload_n D_prog_37_m5_4 rfl rfl ?_
  refine wp_getfield D_prog_37_m5_5 (hw _ (List.mem_of_getElem? (i := 45) rfl)) (fld_new (i := 0) (fi := 5) rfl rfl rfl) ?_
  refine wp_bipush 20 D_prog_37_m5_8 (by decide) ?_
  refine wp_iushr D_prog_37_m5_10 ?_
  rw [show (XT.ushr (1 : Int32) (20 : Int32)) = (0 : Int32) from by decide]
  refine wp_istore #[.val (.ref o), .val (.int a), .val (.int b), .val (.long (1 : Int64)), .second, .val (.int (0 : Int32)), .unset] D_prog_37_m5_11 rfl ?_
  refine wp_aload_n D_prog_37_m5_13 rfl rfl ?_
  refine wp_getfield D_prog_37_m5_14 (hw _ (List.mem_of_getElem? (i := 45) rfl)) (fld_new (i := 0) (fi := 5) rfl rfl rfl) ?_
  refine wp_ldcI D_prog_37_m5_17 (hw _ (List.mem_of_getElem? (i := 47) rfl)) ?_
  refine wp_iand D_prog_37_m5_19 ?_
  rw [show ((1 : Int32) &&& (1048575 : Int32)) = (1 : Int32) from by decide]
  refine wp_istore #[.val (.ref o), .val (.int a), .val (.int b), .val (.long (1 : Int64)), .second, .val (.int (0 : Int32)), .val (.int (1 : Int32))] D_prog_37_m5_20 rfl ?_
  refine wp_lload_n D_prog_37_m5_22 rfl ?_
  refine wp_lconst 1 D_prog_37_m5_23 (by decide) ?_
  refine wp_lcmp_eq D_prog_37_m5_24 D_prog_37_m5_25 (pc'' := 39) ⟨by decide, by decide⟩ (fun h1 => ?_) (fun h1 => by exact absurd h1 (by decide))
  refine wp_aload_n D_prog_37_m5_39 rfl rfl ?_
  refine wp_getfield D_prog_37_m5_40 (hw _ (List.mem_of_getElem? (i := 21) rfl)) (fld_new (i := 0) (fi := 0) rfl rfl rfl) ?_
  refine wp_iload D_prog_37_m5_43 rfl ?_
  refine wp_aaload (i := 1) (0) D_prog_37_m5_45 rfl rfl (by decide) (by decide) rfl ?_
  refine wp_iload D_prog_37_m5_46 rfl ?_
  refine wp_iload_n D_prog_37_m5_48 rfl ?_
  refine wp_iastore (i := 2) (1) D_prog_37_m5_49 rfl (by decide) (by decide) (by simp only [List.length_cons, List.length_replicate]; decide) ?_
  show Wp none l Z "com/example/chainstat/chainstat/io/LinkList" "append" prog_37_method_5_code 7 none ({ frames := 1, cells := 0, slots := 0, locals := 15 } : Room) ((o, oI "com/example/chainstat/chainstat/io/LinkList" sg_1 [(.ref s), (.ref t), (.ref rs), (.ref rl), (.ref x), (.int (1 : Int32)), (.null), (.null), (.null)]) :: (s, oR "[I" (.array .int) [(.ref s0)]) :: (s0, oA .int (x0 :: a :: List.replicate 1022 0)) :: (t, oR "[I" (.array .int) [(.ref t0)]) :: (t0, oA .int (y0 :: List.replicate 1023 0)) :: F) 0 0 50 #[.val (.ref o), .val (.int a), .val (.int b), .val (.long (1 : Int64)), .second, .val (.int (0 : Int32)), .val (.int (1 : Int32))] [] (Q_c_app1 a b o x s s0 t t0 rs rl x0 y0 F)
  refine wp_aload_n D_prog_37_m5_50 rfl rfl ?_
  refine wp_getfield D_prog_37_m5_51 (hw _ (List.mem_of_getElem? (i := 23) rfl)) (fld_new (i := 0) (fi := 1) rfl rfl rfl) ?_
  refine wp_iload D_prog_37_m5_54 rfl ?_
  refine wp_aaload (i := 3) (0) D_prog_37_m5_56 rfl rfl (by decide) (by decide) rfl ?_
  refine wp_iload D_prog_37_m5_57 rfl ?_
  refine wp_iload_n D_prog_37_m5_59 rfl ?_
  refine wp_iastore (i := 4) (1) D_prog_37_m5_60 rfl (by decide) (by decide) (by simp only [List.length_cons, List.length_replicate]; decide) ?_
  show Wp none l Z "com/example/chainstat/chainstat/io/LinkList" "append" prog_37_method_5_code 7 none ({ frames := 1, cells := 0, slots := 0, locals := 15 } : Room) ((o, oI "com/example/chainstat/chainstat/io/LinkList" sg_1 [(.ref s), (.ref t), (.ref rs), (.ref rl), (.ref x), (.int (1 : Int32)), (.null), (.null), (.null)]) :: (s, oR "[I" (.array .int) [(.ref s0)]) :: (s0, oA .int (x0 :: a :: List.replicate 1022 0)) :: (t, oR "[I" (.array .int) [(.ref t0)]) :: (t0, oA .int (y0 :: b :: List.replicate 1022 0)) :: F) 0 0 61 #[.val (.ref o), .val (.int a), .val (.int b), .val (.long (1 : Int64)), .second, .val (.int (0 : Int32)), .val (.int (1 : Int32))] [] (Q_c_app1 a b o x s s0 t t0 rs rl x0 y0 F)
  refine wp_aload_n D_prog_37_m5_61 rfl rfl ?_
  refine wp_getfield D_prog_37_m5_62 (hw _ (List.mem_of_getElem? (i := 48) rfl)) (fld_new (i := 0) (fi := 6) rfl rfl rfl) ?_
  refine wp_ifnull_y D_prog_37_m5_65 (pc'' := 79) ⟨by decide, by decide⟩ ?_
  refine wp_aload_n D_prog_37_m5_79 rfl rfl ?_
  refine wp_dup D_prog_37_m5_80 rfl ?_
  refine wp_getfield D_prog_37_m5_81 (hw _ (List.mem_of_getElem? (i := 45) rfl)) (fld_new (i := 0) (fi := 5) rfl rfl rfl) ?_
  refine wp_iconst 1 D_prog_37_m5_84 (by decide) ?_
  refine wp_iadd D_prog_37_m5_85 ?_
  rw [show ((1 : Int32) + (1 : Int32)) = (2 : Int32) from by decide]
  refine wp_putfield (i := 0) (fi := 5) (ty := .int) D_prog_37_m5_86 (hw _ (List.mem_of_getElem? (i := 45) rfl)) rfl rfl rfl (Or.inl (hw _ (List.mem_of_getElem? (i := 46) rfl))) (hw _ (List.mem_of_getElem? (i := 2) rfl)) (by decide) rfl rfl ?_
  show Wp none l Z "com/example/chainstat/chainstat/io/LinkList" "append" prog_37_method_5_code 7 none ({ frames := 1, cells := 0, slots := 0, locals := 15 } : Room) ((o, oI "com/example/chainstat/chainstat/io/LinkList" sg_1 [(.ref s), (.ref t), (.ref rs), (.ref rl), (.ref x), (.int (2 : Int32)), (.null), (.null), (.null)]) :: (s, oR "[I" (.array .int) [(.ref s0)]) :: (s0, oA .int (x0 :: a :: List.replicate 1022 0)) :: (t, oR "[I" (.array .int) [(.ref t0)]) :: (t0, oA .int (y0 :: b :: List.replicate 1022 0)) :: F) 0 0 89 #[.val (.ref o), .val (.int a), .val (.int b), .val (.long (1 : Int64)), .second, .val (.int (0 : Int32)), .val (.int (1 : Int32))] [] (Q_c_app1 a b o x s s0 t t0 rs rl x0 y0 F)
  refine wp_return D_prog_37_m5_89 rfl (by decide) (by decide) ?_
  exact ⟨rfl, rfl⟩
def Q_c_add1 (a b : Int32) (o x s s0 t t0 rs rl : Addr) (x0 y0 : Int32) (F : OH) : Option Value → OH → Prop := fun v H' => v = none ∧ H' = ((o, oI "com/example/chainstat/chainstat/io/LinkList" sg_1 [(.ref s), (.ref t), (.ref rs), (.ref rl), (.ref x), (.int (2 : Int32)), (.null), (.null), (.null)]) :: (s, oR "[I" (.array .int) [(.ref s0)]) :: (s0, oA .int (x0 :: a :: List.replicate 1022 0)) :: (t, oR "[I" (.array .int) [(.ref t0)]) :: (t0, oA .int (y0 :: b :: List.replicate 1022 0)) :: F)
set_option maxRecDepth 65536 in
set_option maxHeartbeats 40000000 in
theorem c_add1 (l : Launch) (Z : State) (a0 : Array Value) (hw : ∀ d ∈ tables_1, d.before a0 Z = true) (a b : Int32) (o x s s0 t t0 rs rl : Addr) (x0 y0 : Int32) (F : OH)  :
    Met l Z (⟨"com/example/chainstat/chainstat/io/LinkList", "add", "(II)V"⟩ : MethodName) prog_37_method_4_code 3 none ({ frames := 2, cells := 0, slots := 0, locals := 33 } : Room) [(.ref o), (.int a), (.int b)] ((o, oI "com/example/chainstat/chainstat/io/LinkList" sg_1 [(.ref s), (.ref t), (.ref rs), (.ref rl), (.ref x), (.int (1 : Int32)), (.null), (.null), (.null)]) :: (s, oR "[I" (.array .int) [(.ref s0)]) :: (s0, oA .int (x0 :: List.replicate 1023 0)) :: (t, oR "[I" (.array .int) [(.ref t0)]) :: (t0, oA .int (y0 :: List.replicate 1023 0)) :: F) (Q_c_add1 a b o x s s0 t t0 rs rl x0 y0 F) := by
  refine Met.of_wp (Ls := #[.val (.ref o), .val (.int a), .val (.int b)]) pn_4 (fun m => (entry_loc m _ _).trans rfl) ?_
  show Wp none l Z "com/example/chainstat/chainstat/io/LinkList" "add" prog_37_method_4_code 3 none ({ frames := 2, cells := 0, slots := 0, locals := 33 } : Room) ((o, oI "com/example/chainstat/chainstat/io/LinkList" sg_1 [(.ref s), (.ref t), (.ref rs), (.ref rl), (.ref x), (.int (1 : Int32)), (.null), (.null), (.null)]) :: (s, oR "[I" (.array .int) [(.ref s0)]) :: (s0, oA .int (x0 :: List.replicate 1023 0)) :: (t, oR "[I" (.array .int) [(.ref t0)]) :: (t0, oA .int (y0 :: List.replicate 1023 0)) :: F) 0 0 0 #[.val (.ref o), .val (.int a), .val (.int b)] [] (Q_c_add1 a b o x s s0 t t0 rs rl x0 y0 F)
  refine wp_aload_n D_prog_37_m4_0 rfl rfl ?_
  refine wp_iload_n D_prog_37_m4_1 rfl ?_
  refine wp_iload_n D_prog_37_m4_2 rfl ?_
  refine wp_lconst 1 D_prog_37_m4_3 (by decide) ?_
  refine wp_private (c_app1 l Z a0 hw a b o x s s0 t t0 rs rl x0 y0 F) (exa_new (i := 0) rfl) D_prog_37_m4_4 (hw _ (List.mem_of_getElem? (i := 37) rfl)) (hw _ (List.mem_of_getElem? (i := 38) rfl)) (hw _ (List.mem_of_getElem? (i := 2) rfl)) (hw _ (List.mem_of_getElem? (i := 39) rfl)) (hw _ (List.mem_of_getElem? (i := 3) rfl)) (hw _ (List.mem_of_getElem? (i := 40) rfl)) (by decide) pd_2 rfl rfl rfl (Nat.le_of_ble_eq_true rfl) (Nat.le_of_ble_eq_true rfl) (Nat.le_of_ble_eq_true rfl) (Nat.le_of_ble_eq_true rfl) ?_
  rintro _ _ ⟨rfl, rfl⟩
  show Wp none l Z "com/example/chainstat/chainstat/io/LinkList" "add" prog_37_method_4_code 3 none ({ frames := 2, cells := 0, slots := 0, locals := 33 } : Room) ((o, oI "com/example/chainstat/chainstat/io/LinkList" sg_1 [(.ref s), (.ref t), (.ref rs), (.ref rl), (.ref x), (.int (2 : Int32)), (.null), (.null), (.null)]) :: (s, oR "[I" (.array .int) [(.ref s0)]) :: (s0, oA .int (x0 :: a :: List.replicate 1022 0)) :: (t, oR "[I" (.array .int) [(.ref t0)]) :: (t0, oA .int (y0 :: b :: List.replicate 1022 0)) :: F) 0 0 7 #[.val (.ref o), .val (.int a), .val (.int b)] [] (Q_c_add1 a b o x s s0 t t0 rs rl x0 y0 F)
  refine wp_return D_prog_37_m4_7 rfl (by decide) (by decide) ?_
  exact ⟨rfl, rfl⟩
def f_min (a b : Int32) : Int32 := if b < a then b else a
def f_max (a b : Int32) : Int32 := if a < b then b else a
theorem own_min (a b : Int32) : (a.toInt ≤ b.toInt ∧ (f_min a b).toInt = a.toInt) ∨ (b.toInt < a.toInt ∧ (f_min a b).toInt = b.toInt) := by
  unfold f_min
  by_cases h : b < a
  · rw [if_pos h]; rw [Int32.lt_iff_toInt_lt] at h; omega
  · rw [if_neg h]; rw [Int32.lt_iff_toInt_lt] at h; omega
theorem own_max (a b : Int32) : (b.toInt ≤ a.toInt ∧ (f_max a b).toInt = a.toInt) ∨ (a.toInt < b.toInt ∧ (f_max a b).toInt = b.toInt) := by
  unfold f_max
  by_cases h : a < b
  · rw [if_pos h]; rw [Int32.lt_iff_toInt_lt] at h; omega
  · rw [if_neg h]; rw [Int32.lt_iff_toInt_lt] at h; omega
theorem pn_5 : plainFor (⟨"java/lang/Math", "min", "(II)I"⟩ : MethodName) = true := by first | exact plainFor_of_name (by first | (simp [plainName, overriddenIn]; done) | decide +kernel) | decide +kernel
theorem D_jdk_29_m69_0 : Dc jdk_29_method_69_code 0 (.iload_n 0) 1 1 := ⟨by decide +kernel, rfl⟩
theorem D_jdk_29_m69_1 : Dc jdk_29_method_69_code 1 (.iload_n 1) 1 2 := ⟨by decide +kernel, rfl⟩
theorem D_jdk_29_m69_2 : Dc jdk_29_method_69_code 2 (.if_icmp .gt 7) 3 5 := ⟨by decide +kernel, rfl⟩
theorem D_jdk_29_m69_5 : Dc jdk_29_method_69_code 5 (.iload_n 0) 1 6 := ⟨by decide +kernel, rfl⟩
theorem D_jdk_29_m69_6 : Dc jdk_29_method_69_code 6 (.goto 4) 3 9 := ⟨by decide +kernel, rfl⟩
theorem D_jdk_29_m69_9 : Dc jdk_29_method_69_code 9 (.iload_n 1) 1 10 := ⟨by decide +kernel, rfl⟩
theorem D_jdk_29_m69_10 : Dc jdk_29_method_69_code 10 (.ireturn) 1 11 := ⟨by decide +kernel, rfl⟩
def Q_c_min (a : Int32) (b : Int32) (H : OH) : Option Value → OH → Prop := fun v H' => v = some (.int (f_min a b)) ∧ H' = H
set_option maxRecDepth 65536 in
set_option maxHeartbeats 40000000 in
theorem c_min (l : Launch) (Z : State) (a0 : Array Value) (hw : ∀ d ∈ tables_1, d.before a0 Z = true) (a : Int32) (b : Int32) (H : OH) :
    Met l Z (⟨"java/lang/Math", "min", "(II)I"⟩ : MethodName) jdk_29_method_69_code 2 (some .int) ({ frames := 0, cells := 0, slots := 0, locals := 0 } : Room) [(.int a), (.int b)] H (Q_c_min a b H) := by
  refine Met.of_wp (Ls := #[.val (.int a), .val (.int b)]) pn_5 (fun m => (entry_loc m _ _).trans rfl) ?_
  show Wp none l Z "java/lang/Math" "min" jdk_29_method_69_code 2 (some .int) ({ frames := 0, cells := 0, slots := 0, locals := 0 } : Room) H 0 0 0 #[.val (.int a), .val (.int b)] [] (Q_c_min a b H)
  refine wp_iload_n D_jdk_29_m69_0 rfl ?_
  refine wp_iload_n D_jdk_29_m69_1 rfl ?_
  refine wp_icmp_gt D_jdk_29_m69_2 (pc'' := 9) ⟨by decide, by decide⟩ (fun h1 => ?_) (fun h1 => ?_)
  · skip
    refine wp_iload_n D_jdk_29_m69_9 rfl ?_
    refine wp_ireturn D_jdk_29_m69_10 rfl (by decide) (by decide) ?_
    exact ⟨by simp [f_min, h1], rfl⟩
  · skip
    refine wp_iload_n D_jdk_29_m69_5 rfl ?_
    refine wp_goto D_jdk_29_m69_6 (pc'' := 10) ⟨by decide, by decide⟩ ?_
    refine wp_ireturn D_jdk_29_m69_10 rfl (by decide) (by decide) ?_
    exact ⟨by simp [f_min, h1], rfl⟩
def sg_2 : OSig := [("com/example/chainstat/chainstat/model/LinkGraph", "pageCount", "I"), ("com/example/chainstat/chainstat/model/LinkGraph", "outDegree", "[I"), ("com/example/chainstat/chainstat/model/LinkGraph", "outWeight", "[J"), ("com/example/chainstat/chainstat/model/LinkGraph", "incomingStart", "[I"), ("com/example/chainstat/chainstat/model/LinkGraph", "incomingSource", "[I"), ("com/example/chainstat/chainstat/model/LinkGraph", "incomingWeight", "[J")]
theorem laid_sg_2 (l : Launch) (Z : State) (a0 : Array Value) (hw : ∀ d ∈ tables_1, d.before a0 Z = true) : ∀ f ∈ sg_2, Laid Z a0 "com/example/chainstat/chainstat/model/LinkGraph" f.1 f.2.1 f.2.2 := all_cons (Or.inr (hw _ (List.mem_of_getElem? (i := 78) rfl))) (all_cons (Or.inr (hw _ (List.mem_of_getElem? (i := 80) rfl))) (all_cons (Or.inr (hw _ (List.mem_of_getElem? (i := 82) rfl))) (all_cons (Or.inr (hw _ (List.mem_of_getElem? (i := 84) rfl))) (all_cons (Or.inr (hw _ (List.mem_of_getElem? (i := 86) rfl))) (all_cons (Or.inr (hw _ (List.mem_of_getElem? (i := 88) rfl))) (all_nil))))))
theorem dfl_sg_2 : Dfl sg_2 [(.int (0 : Int32)), (.null), (.null), (.null), (.null), (.null)] := ⟨⟨.int, by decide +kernel, rfl⟩, ⟨(.array .int), by decide +kernel, rfl⟩, ⟨(.array .long), by decide +kernel, rfl⟩, ⟨(.array .int), by decide +kernel, rfl⟩, ⟨(.array .int), by decide +kernel, rfl⟩, ⟨(.array .long), by decide +kernel, rfl⟩, trivial⟩
def gt (A : List Int32) (m : Nat) : Int32 := A.getD m 0
def inc (A : List Int32) (m : Nat) : List Int32 := A.set m (gt A m + 1)
def pref (A : List Int32) (k : Nat) : List Int32 := A.set (k + 1) (gt A (k + 1) + gt A k)
def shf (A : List Int32) (k : Nat) : List Int32 := A.set (k + 1) (gt A k)
theorem len_inc (A : List Int32) (m : Nat) : (inc A m).length = A.length := by simp [inc]
theorem len_pref (A : List Int32) (m : Nat) : (pref A m).length = A.length := by simp [pref]
theorem len_shf (A : List Int32) (m : Nat) : (shf A m).length = A.length := by simp [shf]
theorem own_gt (A : List Int32) (m : Nat) (h : m < A.length) : A[m]? = some (gt A m) := by simp [gt, h]
def fA0 (a b : Nat) : List Int32 := inc (inc [0, 0, 0, 0, 0, 0, 0, 0, 0] (a + 1)) (b + 1)
def fA1 (a b : Nat) : List Int32 := pref (pref (pref (pref (pref (pref (pref (pref (fA0 a b) 0) 1) 2) 3) 4) 5) 6) 7
def fSrc (x y : Int32) (a b : Nat) : List Int32 := (([0, 0] : List Int32).set (gt (fA1 a b) a).toNatClampNeg x).set (gt (inc (fA1 a b) a) b).toNatClampNeg y
def fStart (a b : Nat) : List Int32 := (shf (shf (shf (shf (shf (shf (shf (shf (inc (inc (fA1 a b) a) b) 7) 6) 5) 4) 3) 2) 1) 0).set 0 0
def fDeg (a b : Nat) : List Int32 := inc (inc [0, 0, 0, 0, 0, 0, 0, 0] a) b
theorem own_rank : ∀ a, a < 8 → ∀ b, b < 8 → (gt (fA1 a b) a).toInt = (if a ≤ b then 0 else 1) ∧ (gt (inc (fA1 a b) a) b).toInt = (if a ≤ b then 1 else 0) := by decide +kernel
theorem own_start : ∀ a, a < 8 → ∀ b, b < 8 → (¬ a ≤ b ∨ ((fStart a b)[a]? = some 0 ∧ (fStart a b)[a + 1]? = some (if a = b then 2 else 1) ∧ (fStart a b)[b]? = some (if a = b then 0 else 1) ∧ (fStart a b)[b + 1]? = some 2)) ∧ (¬ b < a ∨ ((fStart a b)[b]? = some 0 ∧ (fStart a b)[b + 1]? = some 1 ∧ (fStart a b)[a]? = some 1 ∧ (fStart a b)[a + 1]? = some 2)) := by decide +kernel
theorem own_r01 (a b : Nat) (ha : a < 8) (hb : b < 8) : (0 ≤ (gt (fA1 a b) a).toInt ∧ (gt (fA1 a b) a).toInt ≤ 1) ∧ (0 ≤ (gt (inc (fA1 a b) a) b).toInt ∧ (gt (inc (fA1 a b) a) b).toInt ≤ 1) := by
  have h := own_rank a ha b hb
  rw [h.1, h.2]
  by_cases q : a ≤ b <;> simp [q]
theorem own_src (x y : Int32) (a b : Nat) (ha : a < 8) (hb : b < 8) : fSrc x y a b = if a ≤ b then [x, y] else [y, x] := by
  have h := own_rank a ha b hb
  unfold fSrc
  simp only [Int32.toNatClampNeg, h.1, h.2]
  by_cases q : a ≤ b
  · simp [q]
  · simp [q]
theorem own_cl (y : Int32) (h : 0 ≤ y.toInt ∧ y.toInt ≤ 7) : y.toNatClampNeg < 8 := by simp only [Int32.toNatClampNeg]; omega
theorem own_p1 (y : Int32) (h : 0 ≤ y.toInt ∧ y.toInt ≤ 7) : (y + 1).toInt = y.toInt + 1 ∧ (y + 1).toNatClampNeg = y.toNatClampNeg + 1 := by
  have e : (y + 1).toInt = y.toInt + 1 := by
    rw [Int32.toInt_add]; simp only [Int32.reduceToInt]; rw [Int.bmod_eq_of_le] <;> omega
  exact ⟨e, by simp only [Int32.toNatClampNeg, e]; omega⟩
theorem own_n1 (y : Int32) (h : 0 ≤ y.toInt ∧ y.toInt ≤ 7) : ¬ y + 1 < 0 := by
  have e := (own_p1 y h).1
  rw [Int32.lt_iff_toInt_lt, e]; simp only [Int32.reduceToInt]; omega
theorem own_n0 (y : Int32) (h : 0 ≤ y.toInt ∧ y.toInt ≤ 7) : ¬ y < 0 := by
  rw [Int32.lt_iff_toInt_lt]; simp only [Int32.reduceToInt]; omega
theorem own_mask7 (a : Int32) : 0 ≤ (a &&& 7).toInt ∧ (a &&& 7).toInt ≤ 7 := by
  have h : (a &&& 7).toInt = a.toInt % 8 := c_mask a 7 3 (by decide) (by decide)
  omega
theorem pd_5 : parseMethodDescriptor "(I[[I[[I[[JIZ)V" = some ⟨[.int, (.array (.array .int)), (.array (.array .int)), (.array (.array .long)), .int, .boolean], none⟩ := by decide +kernel
theorem pd_6 : parseMethodDescriptor "([[I[[I[[JI)I" = some ⟨[(.array (.array .int)), (.array (.array .int)), (.array (.array .long)), .int], (some .int)⟩ := by decide +kernel
theorem pn_6 : plainFor (⟨"com/example/chainstat/chainstat/model/LinkGraph", "blockLength", "([[I[[I[[JI)I"⟩ : MethodName) = true := by first | exact plainFor_of_name (by first | (simp [plainName, overriddenIn]; done) | decide +kernel) | decide +kernel
theorem D_prog_54_m5_0 : Dc prog_54_method_5_code 0 (.aload_n 0) 1 1 := ⟨by decide +kernel, rfl⟩
theorem D_prog_54_m5_1 : Dc prog_54_method_5_code 1 (.iload_n 3) 1 2 := ⟨by decide +kernel, rfl⟩
theorem D_prog_54_m5_2 : Dc prog_54_method_5_code 2 (.aaload) 1 3 := ⟨by decide +kernel, rfl⟩
theorem D_prog_54_m5_3 : Dc prog_54_method_5_code 3 (.arraylength) 1 4 := ⟨by decide +kernel, rfl⟩
theorem D_prog_54_m5_4 : Dc prog_54_method_5_code 4 (.aload_n 1) 1 5 := ⟨by decide +kernel, rfl⟩
theorem D_prog_54_m5_5 : Dc prog_54_method_5_code 5 (.iload_n 3) 1 6 := ⟨by decide +kernel, rfl⟩
theorem D_prog_54_m5_6 : Dc prog_54_method_5_code 6 (.aaload) 1 7 := ⟨by decide +kernel, rfl⟩
theorem D_prog_54_m5_7 : Dc prog_54_method_5_code 7 (.arraylength) 1 8 := ⟨by decide +kernel, rfl⟩
theorem D_prog_54_m5_8 : Dc prog_54_method_5_code 8 (.invokestatic 28) 3 11 := ⟨by decide +kernel, rfl⟩
theorem D_prog_54_m5_11 : Dc prog_54_method_5_code 11 (.istore 4) 2 13 := ⟨by decide +kernel, rfl⟩
theorem D_prog_54_m5_13 : Dc prog_54_method_5_code 13 (.aload_n 2) 1 14 := ⟨by decide +kernel, rfl⟩
theorem D_prog_54_m5_14 : Dc prog_54_method_5_code 14 (.ifnull 14) 3 17 := ⟨by decide +kernel, rfl⟩
theorem D_prog_54_m5_17 : Dc prog_54_method_5_code 17 (.iload 4) 2 19 := ⟨by decide +kernel, rfl⟩
theorem D_prog_54_m5_19 : Dc prog_54_method_5_code 19 (.aload_n 2) 1 20 := ⟨by decide +kernel, rfl⟩
theorem D_prog_54_m5_20 : Dc prog_54_method_5_code 20 (.iload_n 3) 1 21 := ⟨by decide +kernel, rfl⟩
theorem D_prog_54_m5_21 : Dc prog_54_method_5_code 21 (.aaload) 1 22 := ⟨by decide +kernel, rfl⟩
theorem D_prog_54_m5_22 : Dc prog_54_method_5_code 22 (.arraylength) 1 23 := ⟨by decide +kernel, rfl⟩
theorem D_prog_54_m5_23 : Dc prog_54_method_5_code 23 (.invokestatic 28) 3 26 := ⟨by decide +kernel, rfl⟩
theorem D_prog_54_m5_26 : Dc prog_54_method_5_code 26 (.istore 4) 2 28 := ⟨by decide +kernel, rfl⟩
theorem D_prog_54_m5_28 : Dc prog_54_method_5_code 28 (.iload 4) 2 30 := ⟨by decide +kernel, rfl⟩
theorem D_prog_54_m5_30 : Dc prog_54_method_5_code 30 (.ireturn) 1 31 := ⟨by decide +kernel, rfl⟩
def Q_c_bl0 (g : Addr) (o x s s0 t t0 rs rl : Addr) (x0 x1 y0 y1 : Int32) (F : OH) : Option Value → OH → Prop := fun v H' => v = some (.int 1024) ∧ H' = ((g, oI "com/example/chainstat/chainstat/model/LinkGraph" sg_2 [(.int (0 : Int32)), (.null), (.null), (.null), (.null), (.null)]) :: (o, oI "com/example/chainstat/chainstat/io/LinkList" sg_1 [(.ref s), (.ref t), (.ref rs), (.ref rl), (.ref x), (.int (2 : Int32)), (.null), (.null), (.null)]) :: (s, oR "[I" (.array .int) [(.ref s0)]) :: (s0, oA .int (x0 :: x1 :: List.replicate 1022 0)) :: (t, oR "[I" (.array .int) [(.ref t0)]) :: (t0, oA .int (y0 :: y1 :: List.replicate 1022 0)) :: F)
set_option maxRecDepth 65536 in
set_option maxHeartbeats 40000000 in
theorem c_bl0 (l : Launch) (Z : State) (a0 : Array Value) (hw : ∀ d ∈ tables_1, d.before a0 Z = true) (g : Addr) (o x s s0 t t0 rs rl : Addr) (x0 x1 y0 y1 : Int32) (F : OH)  :
    Met l Z (⟨"com/example/chainstat/chainstat/model/LinkGraph", "blockLength", "([[I[[I[[JI)I"⟩ : MethodName) prog_54_method_5_code 5 (some .int) ({ frames := 1, cells := 0, slots := 0, locals := 13 } : Room) [(.ref s), (.ref t), (.null), (.int (0 : Int32))] ((g, oI "com/example/chainstat/chainstat/model/LinkGraph" sg_2 [(.int (0 : Int32)), (.null), (.null), (.null), (.null), (.null)]) :: (o, oI "com/example/chainstat/chainstat/io/LinkList" sg_1 [(.ref s), (.ref t), (.ref rs), (.ref rl), (.ref x), (.int (2 : Int32)), (.null), (.null), (.null)]) :: (s, oR "[I" (.array .int) [(.ref s0)]) :: (s0, oA .int (x0 :: x1 :: List.replicate 1022 0)) :: (t, oR "[I" (.array .int) [(.ref t0)]) :: (t0, oA .int (y0 :: y1 :: List.replicate 1022 0)) :: F) (Q_c_bl0 g o x s s0 t t0 rs rl x0 x1 y0 y1 F) := by
  refine Met.of_wp (Ls := #[.val (.ref s), .val (.ref t), .val (.null), .val (.int (0 : Int32)), .unset]) pn_6 (fun m => (entry_loc m _ _).trans rfl) ?_
  show Wp none l Z "com/example/chainstat/chainstat/model/LinkGraph" "blockLength" prog_54_method_5_code 5 (some .int) ({ frames := 1, cells := 0, slots := 0, locals := 13 } : Room) ((g, oI "com/example/chainstat/chainstat/model/LinkGraph" sg_2 [(.int (0 : Int32)), (.null), (.null), (.null), (.null), (.null)]) :: (o, oI "com/example/chainstat/chainstat/io/LinkList" sg_1 [(.ref s), (.ref t), (.ref rs), (.ref rl), (.ref x), (.int (2 : Int32)), (.null), (.null), (.null)]) :: (s, oR "[I" (.array .int) [(.ref s0)]) :: (s0, oA .int (x0 :: x1 :: List.replicate 1022 0)) :: (t, oR "[I" (.array .int) [(.ref t0)]) :: (t0, oA .int (y0 :: y1 :: List.replicate 1022 0)) :: F) 0 0 0 #[.val (.ref s), .val (.ref t), .val (.null), .val (.int (0 : Int32)), .unset] [] (Q_c_bl0 g o x s s0 t t0 rs rl x0 x1 y0 y1 F)
  refine wp_aload_n D_prog_54_m5_0 rfl rfl ?_
  refine wp_iload_n D_prog_54_m5_1 rfl ?_
  refine wp_aaload (i := 2) (0) D_prog_54_m5_2 rfl rfl (by decide) (by decide) rfl ?_
  refine wp_lengthI (i := 3) (1024 : Int32) D_prog_54_m5_3 rfl (by simp only [List.length_cons, List.length_replicate]; rfl) ?_
  refine wp_aload_n D_prog_54_m5_4 rfl rfl ?_
  refine wp_iload_n D_prog_54_m5_5 rfl ?_
  refine wp_aaload (i := 4) (0) D_prog_54_m5_6 rfl rfl (by decide) (by decide) rfl ?_
  refine wp_lengthI (i := 5) (1024 : Int32) D_prog_54_m5_7 rfl (by simp only [List.length_cons, List.length_replicate]; rfl) ?_
  refine wp_callS (c_min l Z a0 hw (1024 : Int32) (1024 : Int32) ((g, oI "com/example/chainstat/chainstat/model/LinkGraph" sg_2 [(.int (0 : Int32)), (.null), (.null), (.null), (.null), (.null)]) :: (o, oI "com/example/chainstat/chainstat/io/LinkList" sg_1 [(.ref s), (.ref t), (.ref rs), (.ref rl), (.ref x), (.int (2 : Int32)), (.null), (.null), (.null)]) :: (s, oR "[I" (.array .int) [(.ref s0)]) :: (s0, oA .int (x0 :: x1 :: List.replicate 1022 0)) :: (t, oR "[I" (.array .int) [(.ref t0)]) :: (t0, oA .int (y0 :: y1 :: List.replicate 1022 0)) :: F)) D_prog_54_m5_8 (hw _ (List.mem_of_getElem? (i := 70) rfl)) (hw _ (List.mem_of_getElem? (i := 71) rfl)) (hw _ (List.mem_of_getElem? (i := 72) rfl)) (hw _ (List.mem_of_getElem? (i := 73) rfl)) (by decide) pd_4 rfl rfl rfl (Nat.le_of_ble_eq_true rfl) (Nat.le_of_ble_eq_true rfl) (Nat.le_of_ble_eq_true rfl) (Nat.le_of_ble_eq_true rfl) ?_
  rintro _ _ ⟨rfl, rfl⟩
  rw [show f_min (1024 : Int32) (1024 : Int32) = (1024 : Int32) from by decide]
  show Wp none l Z "com/example/chainstat/chainstat/model/LinkGraph" "blockLength" prog_54_method_5_code 5 (some .int) ({ frames := 1, cells := 0, slots := 0, locals := 13 } : Room) ((g, oI "com/example/chainstat/chainstat/model/LinkGraph" sg_2 [(.int (0 : Int32)), (.null), (.null), (.null), (.null), (.null)]) :: (o, oI "com/example/chainstat/chainstat/io/LinkList" sg_1 [(.ref s), (.ref t), (.ref rs), (.ref rl), (.ref x), (.int (2 : Int32)), (.null), (.null), (.null)]) :: (s, oR "[I" (.array .int) [(.ref s0)]) :: (s0, oA .int (x0 :: x1 :: List.replicate 1022 0)) :: (t, oR "[I" (.array .int) [(.ref t0)]) :: (t0, oA .int (y0 :: y1 :: List.replicate 1022 0)) :: F) 0 0 11 #[.val (.ref s), .val (.ref t), .val (.null), .val (.int (0 : Int32)), .unset] [(.int (1024 : Int32))] (Q_c_bl0 g o x s s0 t t0 rs rl x0 x1 y0 y1 F)
  refine wp_istore #[.val (.ref s), .val (.ref t), .val (.null), .val (.int (0 : Int32)), .val (.int (1024 : Int32))] D_prog_54_m5_11 rfl ?_
  refine wp_aload_n D_prog_54_m5_13 rfl rfl ?_
  refine wp_ifnull_y D_prog_54_m5_14 (pc'' := 28) ⟨by decide, by decide⟩ ?_
  refine wp_iload D_prog_54_m5_28 rfl ?_
  refine wp_ireturn D_prog_54_m5_30 rfl (by decide) (by decide) ?_
  exact ⟨rfl, rfl⟩
def Q_c_bl1 (e0 : Addr) (zs0 : List Int32) (g : Addr) (o x s s0 t t0 rs rl : Addr) (x0 x1 y0 y1 : Int32) (F : OH) : Option Value → OH → Prop := fun v H' => v = some (.int 1024) ∧ H' = ((e0, oA .int zs0) :: (g, oI "com/example/chainstat/chainstat/model/LinkGraph" sg_2 [(.int (0 : Int32)), (.null), (.null), (.null), (.null), (.null)]) :: (o, oI "com/example/chainstat/chainstat/io/LinkList" sg_1 [(.ref s), (.ref t), (.ref rs), (.ref rl), (.ref x), (.int (2 : Int32)), (.null), (.null), (.null)]) :: (s, oR "[I" (.array .int) [(.ref s0)]) :: (s0, oA .int (x0 :: x1 :: List.replicate 1022 0)) :: (t, oR "[I" (.array .int) [(.ref t0)]) :: (t0, oA .int (y0 :: y1 :: List.replicate 1022 0)) :: F)
set_option maxRecDepth 65536 in
set_option maxHeartbeats 40000000 in
theorem c_bl1 (l : Launch) (Z : State) (a0 : Array Value) (hw : ∀ d ∈ tables_1, d.before a0 Z = true) (e0 : Addr) (zs0 : List Int32) (g : Addr) (o x s s0 t t0 rs rl : Addr) (x0 x1 y0 y1 : Int32) (F : OH)  :
    Met l Z (⟨"com/example/chainstat/chainstat/model/LinkGraph", "blockLength", "([[I[[I[[JI)I"⟩ : MethodName) prog_54_method_5_code 5 (some .int) ({ frames := 1, cells := 0, slots := 0, locals := 13 } : Room) [(.ref s), (.ref t), (.null), (.int (0 : Int32))] ((e0, oA .int zs0) :: (g, oI "com/example/chainstat/chainstat/model/LinkGraph" sg_2 [(.int (0 : Int32)), (.null), (.null), (.null), (.null), (.null)]) :: (o, oI "com/example/chainstat/chainstat/io/LinkList" sg_1 [(.ref s), (.ref t), (.ref rs), (.ref rl), (.ref x), (.int (2 : Int32)), (.null), (.null), (.null)]) :: (s, oR "[I" (.array .int) [(.ref s0)]) :: (s0, oA .int (x0 :: x1 :: List.replicate 1022 0)) :: (t, oR "[I" (.array .int) [(.ref t0)]) :: (t0, oA .int (y0 :: y1 :: List.replicate 1022 0)) :: F) (Q_c_bl1 e0 zs0 g o x s s0 t t0 rs rl x0 x1 y0 y1 F) := by
  refine Met.of_wp (Ls := #[.val (.ref s), .val (.ref t), .val (.null), .val (.int (0 : Int32)), .unset]) pn_6 (fun m => (entry_loc m _ _).trans rfl) ?_
  show Wp none l Z "com/example/chainstat/chainstat/model/LinkGraph" "blockLength" prog_54_method_5_code 5 (some .int) ({ frames := 1, cells := 0, slots := 0, locals := 13 } : Room) ((e0, oA .int zs0) :: (g, oI "com/example/chainstat/chainstat/model/LinkGraph" sg_2 [(.int (0 : Int32)), (.null), (.null), (.null), (.null), (.null)]) :: (o, oI "com/example/chainstat/chainstat/io/LinkList" sg_1 [(.ref s), (.ref t), (.ref rs), (.ref rl), (.ref x), (.int (2 : Int32)), (.null), (.null), (.null)]) :: (s, oR "[I" (.array .int) [(.ref s0)]) :: (s0, oA .int (x0 :: x1 :: List.replicate 1022 0)) :: (t, oR "[I" (.array .int) [(.ref t0)]) :: (t0, oA .int (y0 :: y1 :: List.replicate 1022 0)) :: F) 0 0 0 #[.val (.ref s), .val (.ref t), .val (.null), .val (.int (0 : Int32)), .unset] [] (Q_c_bl1 e0 zs0 g o x s s0 t t0 rs rl x0 x1 y0 y1 F)
  refine wp_aload_n D_prog_54_m5_0 rfl rfl ?_
  refine wp_iload_n D_prog_54_m5_1 rfl ?_
  refine wp_aaload (i := 3) (0) D_prog_54_m5_2 rfl rfl (by decide) (by decide) rfl ?_
  refine wp_lengthI (i := 4) (1024 : Int32) D_prog_54_m5_3 rfl (by simp only [List.length_cons, List.length_replicate]; rfl) ?_
  refine wp_aload_n D_prog_54_m5_4 rfl rfl ?_
  refine wp_iload_n D_prog_54_m5_5 rfl ?_
  refine wp_aaload (i := 5) (0) D_prog_54_m5_6 rfl rfl (by decide) (by decide) rfl ?_
  refine wp_lengthI (i := 6) (1024 : Int32) D_prog_54_m5_7 rfl (by simp only [List.length_cons, List.length_replicate]; rfl) ?_
  refine wp_callS (c_min l Z a0 hw (1024 : Int32) (1024 : Int32) ((e0, oA .int zs0) :: (g, oI "com/example/chainstat/chainstat/model/LinkGraph" sg_2 [(.int (0 : Int32)), (.null), (.null), (.null), (.null), (.null)]) :: (o, oI "com/example/chainstat/chainstat/io/LinkList" sg_1 [(.ref s), (.ref t), (.ref rs), (.ref rl), (.ref x), (.int (2 : Int32)), (.null), (.null), (.null)]) :: (s, oR "[I" (.array .int) [(.ref s0)]) :: (s0, oA .int (x0 :: x1 :: List.replicate 1022 0)) :: (t, oR "[I" (.array .int) [(.ref t0)]) :: (t0, oA .int (y0 :: y1 :: List.replicate 1022 0)) :: F)) D_prog_54_m5_8 (hw _ (List.mem_of_getElem? (i := 70) rfl)) (hw _ (List.mem_of_getElem? (i := 71) rfl)) (hw _ (List.mem_of_getElem? (i := 72) rfl)) (hw _ (List.mem_of_getElem? (i := 73) rfl)) (by decide) pd_4 rfl rfl rfl (Nat.le_of_ble_eq_true rfl) (Nat.le_of_ble_eq_true rfl) (Nat.le_of_ble_eq_true rfl) (Nat.le_of_ble_eq_true rfl) ?_
  rintro _ _ ⟨rfl, rfl⟩
  rw [show f_min (1024 : Int32) (1024 : Int32) = (1024 : Int32) from by decide]
  show Wp none l Z "com/example/chainstat/chainstat/model/LinkGraph" "blockLength" prog_54_method_5_code 5 (some .int) ({ frames := 1, cells := 0, slots := 0, locals := 13 } : Room) ((e0, oA .int zs0) :: (g, oI "com/example/chainstat/chainstat/model/LinkGraph" sg_2 [(.int (0 : Int32)), (.null), (.null), (.null), (.null), (.null)]) :: (o, oI "com/example/chainstat/chainstat/io/LinkList" sg_1 [(.ref s), (.ref t), (.ref rs), (.ref rl), (.ref x), (.int (2 : Int32)), (.null), (.null), (.null)]) :: (s, oR "[I" (.array .int) [(.ref s0)]) :: (s0, oA .int (x0 :: x1 :: List.replicate 1022 0)) :: (t, oR "[I" (.array .int) [(.ref t0)]) :: (t0, oA .int (y0 :: y1 :: List.replicate 1022 0)) :: F) 0 0 11 #[.val (.ref s), .val (.ref t), .val (.null), .val (.int (0 : Int32)), .unset] [(.int (1024 : Int32))] (Q_c_bl1 e0 zs0 g o x s s0 t t0 rs rl x0 x1 y0 y1 F)
  refine wp_istore #[.val (.ref s), .val (.ref t), .val (.null), .val (.int (0 : Int32)), .val (.int (1024 : Int32))] D_prog_54_m5_11 rfl ?_
  refine wp_aload_n D_prog_54_m5_13 rfl rfl ?_
  refine wp_ifnull_y D_prog_54_m5_14 (pc'' := 28) ⟨by decide, by decide⟩ ?_
  refine wp_iload D_prog_54_m5_28 rfl ?_
  refine wp_ireturn D_prog_54_m5_30 rfl (by decide) (by decide) ?_
  exact ⟨rfl, rfl⟩
def Q_c_bl3 (e0 : Addr) (zs0 : List Int32) (e1 : Addr) (zs1 : List Int32) (e2 : Addr) (zs2 : List Int32) (g : Addr) (o x s s0 t t0 rs rl : Addr) (x0 x1 y0 y1 : Int32) (F : OH) : Option Value → OH → Prop := fun v H' => v = some (.int 1024) ∧ H' = ((e0, oA .int zs0) :: (e1, oA .int zs1) :: (e2, oA .int zs2) :: (g, oI "com/example/chainstat/chainstat/model/LinkGraph" sg_2 [(.int (0 : Int32)), (.null), (.null), (.null), (.null), (.null)]) :: (o, oI "com/example/chainstat/chainstat/io/LinkList" sg_1 [(.ref s), (.ref t), (.ref rs), (.ref rl), (.ref x), (.int (2 : Int32)), (.null), (.null), (.null)]) :: (s, oR "[I" (.array .int) [(.ref s0)]) :: (s0, oA .int (x0 :: x1 :: List.replicate 1022 0)) :: (t, oR "[I" (.array .int) [(.ref t0)]) :: (t0, oA .int (y0 :: y1 :: List.replicate 1022 0)) :: F)
set_option maxRecDepth 65536 in
set_option maxHeartbeats 40000000 in
theorem c_bl3 (l : Launch) (Z : State) (a0 : Array Value) (hw : ∀ d ∈ tables_1, d.before a0 Z = true) (e0 : Addr) (zs0 : List Int32) (e1 : Addr) (zs1 : List Int32) (e2 : Addr) (zs2 : List Int32) (g : Addr) (o x s s0 t t0 rs rl : Addr) (x0 x1 y0 y1 : Int32) (F : OH)  :
    Met l Z (⟨"com/example/chainstat/chainstat/model/LinkGraph", "blockLength", "([[I[[I[[JI)I"⟩ : MethodName) prog_54_method_5_code 5 (some .int) ({ frames := 1, cells := 0, slots := 0, locals := 13 } : Room) [(.ref s), (.ref t), (.null), (.int (0 : Int32))] ((e0, oA .int zs0) :: (e1, oA .int zs1) :: (e2, oA .int zs2) :: (g, oI "com/example/chainstat/chainstat/model/LinkGraph" sg_2 [(.int (0 : Int32)), (.null), (.null), (.null), (.null), (.null)]) :: (o, oI "com/example/chainstat/chainstat/io/LinkList" sg_1 [(.ref s), (.ref t), (.ref rs), (.ref rl), (.ref x), (.int (2 : Int32)), (.null), (.null), (.null)]) :: (s, oR "[I" (.array .int) [(.ref s0)]) :: (s0, oA .int (x0 :: x1 :: List.replicate 1022 0)) :: (t, oR "[I" (.array .int) [(.ref t0)]) :: (t0, oA .int (y0 :: y1 :: List.replicate 1022 0)) :: F) (Q_c_bl3 e0 zs0 e1 zs1 e2 zs2 g o x s s0 t t0 rs rl x0 x1 y0 y1 F) := by
  refine Met.of_wp (Ls := #[.val (.ref s), .val (.ref t), .val (.null), .val (.int (0 : Int32)), .unset]) pn_6 (fun m => (entry_loc m _ _).trans rfl) ?_
  show Wp none l Z "com/example/chainstat/chainstat/model/LinkGraph" "blockLength" prog_54_method_5_code 5 (some .int) ({ frames := 1, cells := 0, slots := 0, locals := 13 } : Room) ((e0, oA .int zs0) :: (e1, oA .int zs1) :: (e2, oA .int zs2) :: (g, oI "com/example/chainstat/chainstat/model/LinkGraph" sg_2 [(.int (0 : Int32)), (.null), (.null), (.null), (.null), (.null)]) :: (o, oI "com/example/chainstat/chainstat/io/LinkList" sg_1 [(.ref s), (.ref t), (.ref rs), (.ref rl), (.ref x), (.int (2 : Int32)), (.null), (.null), (.null)]) :: (s, oR "[I" (.array .int) [(.ref s0)]) :: (s0, oA .int (x0 :: x1 :: List.replicate 1022 0)) :: (t, oR "[I" (.array .int) [(.ref t0)]) :: (t0, oA .int (y0 :: y1 :: List.replicate 1022 0)) :: F) 0 0 0 #[.val (.ref s), .val (.ref t), .val (.null), .val (.int (0 : Int32)), .unset] [] (Q_c_bl3 e0 zs0 e1 zs1 e2 zs2 g o x s s0 t t0 rs rl x0 x1 y0 y1 F)
  refine wp_aload_n D_prog_54_m5_0 rfl rfl ?_
  refine wp_iload_n D_prog_54_m5_1 rfl ?_
  refine wp_aaload (i := 5) (0) D_prog_54_m5_2 rfl rfl (by decide) (by decide) rfl ?_
  refine wp_lengthI (i := 6) (1024 : Int32) D_prog_54_m5_3 rfl (by simp only [List.length_cons, List.length_replicate]; rfl) ?_
  refine wp_aload_n D_prog_54_m5_4 rfl rfl ?_
  refine wp_iload_n D_prog_54_m5_5 rfl ?_
  refine wp_aaload (i := 7) (0) D_prog_54_m5_6 rfl rfl (by decide) (by decide) rfl ?_
  refine wp_lengthI (i := 8) (1024 : Int32) D_prog_54_m5_7 rfl (by simp only [List.length_cons, List.length_replicate]; rfl) ?_
  refine wp_callS (c_min l Z a0 hw (1024 : Int32) (1024 : Int32) ((e0, oA .int zs0) :: (e1, oA .int zs1) :: (e2, oA .int zs2) :: (g, oI "com/example/chainstat/chainstat/model/LinkGraph" sg_2 [(.int (0 : Int32)), (.null), (.null), (.null), (.null), (.null)]) :: (o, oI "com/example/chainstat/chainstat/io/LinkList" sg_1 [(.ref s), (.ref t), (.ref rs), (.ref rl), (.ref x), (.int (2 : Int32)), (.null), (.null), (.null)]) :: (s, oR "[I" (.array .int) [(.ref s0)]) :: (s0, oA .int (x0 :: x1 :: List.replicate 1022 0)) :: (t, oR "[I" (.array .int) [(.ref t0)]) :: (t0, oA .int (y0 :: y1 :: List.replicate 1022 0)) :: F)) D_prog_54_m5_8 (hw _ (List.mem_of_getElem? (i := 70) rfl)) (hw _ (List.mem_of_getElem? (i := 71) rfl)) (hw _ (List.mem_of_getElem? (i := 72) rfl)) (hw _ (List.mem_of_getElem? (i := 73) rfl)) (by decide) pd_4 rfl rfl rfl (Nat.le_of_ble_eq_true rfl) (Nat.le_of_ble_eq_true rfl) (Nat.le_of_ble_eq_true rfl) (Nat.le_of_ble_eq_true rfl) ?_
  rintro _ _ ⟨rfl, rfl⟩
  rw [show f_min (1024 : Int32) (1024 : Int32) = (1024 : Int32) from by decide]
  show Wp none l Z "com/example/chainstat/chainstat/model/LinkGraph" "blockLength" prog_54_method_5_code 5 (some .int) ({ frames := 1, cells := 0, slots := 0, locals := 13 } : Room) ((e0, oA .int zs0) :: (e1, oA .int zs1) :: (e2, oA .int zs2) :: (g, oI "com/example/chainstat/chainstat/model/LinkGraph" sg_2 [(.int (0 : Int32)), (.null), (.null), (.null), (.null), (.null)]) :: (o, oI "com/example/chainstat/chainstat/io/LinkList" sg_1 [(.ref s), (.ref t), (.ref rs), (.ref rl), (.ref x), (.int (2 : Int32)), (.null), (.null), (.null)]) :: (s, oR "[I" (.array .int) [(.ref s0)]) :: (s0, oA .int (x0 :: x1 :: List.replicate 1022 0)) :: (t, oR "[I" (.array .int) [(.ref t0)]) :: (t0, oA .int (y0 :: y1 :: List.replicate 1022 0)) :: F) 0 0 11 #[.val (.ref s), .val (.ref t), .val (.null), .val (.int (0 : Int32)), .unset] [(.int (1024 : Int32))] (Q_c_bl3 e0 zs0 e1 zs1 e2 zs2 g o x s s0 t t0 rs rl x0 x1 y0 y1 F)
  refine wp_istore #[.val (.ref s), .val (.ref t), .val (.null), .val (.int (0 : Int32)), .val (.int (1024 : Int32))] D_prog_54_m5_11 rfl ?_
  refine wp_aload_n D_prog_54_m5_13 rfl rfl ?_
  refine wp_ifnull_y D_prog_54_m5_14 (pc'' := 28) ⟨by decide, by decide⟩ ?_
  refine wp_iload D_prog_54_m5_28 rfl ?_
  refine wp_ireturn D_prog_54_m5_30 rfl (by decide) (by decide) ?_
  exact ⟨rfl, rfl⟩
theorem own_idx2 {x : Int32} (h : 0 ≤ x.toInt ∧ x.toInt ≤ 1) : x.toNatClampNeg < 0 + 1 + 1 := by
  simp only [Int32.toNatClampNeg]; omega
theorem own_r0 {x : Int32} (h : 0 ≤ x.toInt ∧ x.toInt ≤ 1) : ¬ x < 0 := by
  rw [Int32.lt_iff_toInt_lt]; simp only [Int32.reduceToInt]; omega
def Q_c_big (g : Addr) (o x s s0 t t0 rs rl : Addr) (x0 x1 y0 y1 : Int32) (F : OH) : Option Value → OH → Prop := fun v H' => v = none ∧ ∃ D B A, H' = ((D, oA .int (fDeg x0.toNatClampNeg x1.toNatClampNeg)) :: (B, oA .int (fSrc x0 x1 y0.toNatClampNeg y1.toNatClampNeg)) :: (A, oA .int (fStart y0.toNatClampNeg y1.toNatClampNeg)) :: (g, oI "com/example/chainstat/chainstat/model/LinkGraph" sg_2 [(.int (8 : Int32)), (.ref D), (.null), (.ref A), (.ref B), (.null)]) :: (o, oI "com/example/chainstat/chainstat/io/LinkList" sg_1 [(.ref s), (.ref t), (.ref rs), (.ref rl), (.ref x), (.int (2 : Int32)), (.null), (.null), (.null)]) :: (s, oR "[I" (.array .int) [(.ref s0)]) :: (s0, oA .int (x0 :: x1 :: List.replicate 1022 0)) :: (t, oR "[I" (.array .int) [(.ref t0)]) :: (t0, oA .int (y0 :: y1 :: List.replicate 1022 0)) :: F)
def Q_c_gr (g : Addr) (o x s s0 t t0 rs rl : Addr) (x0 x1 y0 y1 : Int32) (F : OH) : Option Value → OH → Prop := fun v H' => v = none ∧ ∃ D B A, H' = ((D, oA .int (fDeg x0.toNatClampNeg x1.toNatClampNeg)) :: (B, oA .int (fSrc x0 x1 y0.toNatClampNeg y1.toNatClampNeg)) :: (A, oA .int (fStart y0.toNatClampNeg y1.toNatClampNeg)) :: (g, oI "com/example/chainstat/chainstat/model/LinkGraph" sg_2 [(.int (8 : Int32)), (.ref D), (.null), (.ref A), (.ref B), (.null)]) :: (o, oI "com/example/chainstat/chainstat/io/LinkList" sg_1 [(.ref s), (.ref t), (.ref rs), (.ref rl), (.ref x), (.int (2 : Int32)), (.null), (.null), (.null)]) :: (s, oR "[I" (.array .int) [(.ref s0)]) :: (s0, oA .int (x0 :: x1 :: List.replicate 1022 0)) :: (t, oR "[I" (.array .int) [(.ref t0)]) :: (t0, oA .int (y0 :: y1 :: List.replicate 1022 0)) :: F)
theorem pn_7 : plainFor (⟨"com/example/chainstat/chainstat/model/LinkGraph", "<init>", "(I[[I[[I[[JIZ)V"⟩ : MethodName) = true := by first | exact plainFor_of_name (by first | (simp [plainName, overriddenIn]; done) | decide +kernel) | decide +kernel
theorem D_prog_54_m3_0 : Dc prog_54_method_3_code 0 (.aload_n 0) 1 1 := ⟨by decide +kernel, rfl⟩
theorem D_prog_54_m3_1 : Dc prog_54_method_3_code 1 (.invokespecial 14) 3 4 := ⟨by decide +kernel, rfl⟩
theorem D_prog_54_m3_4 : Dc prog_54_method_3_code 4 (.iload_n 1) 1 5 := ⟨by decide +kernel, rfl⟩
theorem D_prog_54_m3_5 : Dc prog_54_method_3_code 5 (.ifCond .gt 17) 3 8 := ⟨by decide +kernel, rfl⟩
theorem D_prog_54_m3_8 : Dc prog_54_method_3_code 8 (.new 19) 3 11 := ⟨by decide +kernel, rfl⟩
theorem D_prog_54_m3_11 : Dc prog_54_method_3_code 11 (.dup) 1 12 := ⟨by decide +kernel, rfl⟩
theorem D_prog_54_m3_12 : Dc prog_54_method_3_code 12 (.iload_n 1) 1 13 := ⟨by decide +kernel, rfl⟩
theorem D_prog_54_m3_13 : Dc prog_54_method_3_code 13 (.invokedynamic 21) 5 18 := ⟨by decide +kernel, rfl⟩
theorem D_prog_54_m3_18 : Dc prog_54_method_3_code 18 (.invokespecial 25) 3 21 := ⟨by decide +kernel, rfl⟩
theorem D_prog_54_m3_21 : Dc prog_54_method_3_code 21 (.athrow) 1 22 := ⟨by decide +kernel, rfl⟩
theorem D_prog_54_m3_22 : Dc prog_54_method_3_code 22 (.aload_n 2) 1 23 := ⟨by decide +kernel, rfl⟩
theorem D_prog_54_m3_23 : Dc prog_54_method_3_code 23 (.arraylength) 1 24 := ⟨by decide +kernel, rfl⟩
theorem D_prog_54_m3_24 : Dc prog_54_method_3_code 24 (.aload_n 3) 1 25 := ⟨by decide +kernel, rfl⟩
theorem D_prog_54_m3_25 : Dc prog_54_method_3_code 25 (.arraylength) 1 26 := ⟨by decide +kernel, rfl⟩
theorem D_prog_54_m3_26 : Dc prog_54_method_3_code 26 (.invokestatic 28) 3 29 := ⟨by decide +kernel, rfl⟩
theorem D_prog_54_m3_29 : Dc prog_54_method_3_code 29 (.istore 7) 2 31 := ⟨by decide +kernel, rfl⟩
theorem D_prog_54_m3_31 : Dc prog_54_method_3_code 31 (.aload 4) 2 33 := ⟨by decide +kernel, rfl⟩
theorem D_prog_54_m3_33 : Dc prog_54_method_3_code 33 (.ifnull 13) 3 36 := ⟨by decide +kernel, rfl⟩
theorem D_prog_54_m3_36 : Dc prog_54_method_3_code 36 (.iload 7) 2 38 := ⟨by decide +kernel, rfl⟩
theorem D_prog_54_m3_38 : Dc prog_54_method_3_code 38 (.aload 4) 2 40 := ⟨by decide +kernel, rfl⟩
theorem D_prog_54_m3_40 : Dc prog_54_method_3_code 40 (.arraylength) 1 41 := ⟨by decide +kernel, rfl⟩
theorem D_prog_54_m3_41 : Dc prog_54_method_3_code 41 (.invokestatic 28) 3 44 := ⟨by decide +kernel, rfl⟩
theorem D_prog_54_m3_44 : Dc prog_54_method_3_code 44 (.istore 7) 2 46 := ⟨by decide +kernel, rfl⟩
theorem D_prog_54_m3_46 : Dc prog_54_method_3_code 46 (.lconst 0) 1 47 := ⟨by decide +kernel, rfl⟩
theorem D_prog_54_m3_47 : Dc prog_54_method_3_code 47 (.lstore 8) 2 49 := ⟨by decide +kernel, rfl⟩
theorem D_prog_54_m3_49 : Dc prog_54_method_3_code 49 (.iconst 0) 1 50 := ⟨by decide +kernel, rfl⟩
theorem D_prog_54_m3_50 : Dc prog_54_method_3_code 50 (.istore 10) 2 52 := ⟨by decide +kernel, rfl⟩
theorem D_prog_54_m3_52 : Dc prog_54_method_3_code 52 (.iload 10) 2 54 := ⟨by decide +kernel, rfl⟩
theorem D_prog_54_m3_54 : Dc prog_54_method_3_code 54 (.iload 7) 2 56 := ⟨by decide +kernel, rfl⟩
theorem D_prog_54_m3_56 : Dc prog_54_method_3_code 56 (.if_icmp .ge 24) 3 59 := ⟨by decide +kernel, rfl⟩
theorem D_prog_54_m3_59 : Dc prog_54_method_3_code 59 (.lload 8) 2 61 := ⟨by decide +kernel, rfl⟩
theorem D_prog_54_m3_61 : Dc prog_54_method_3_code 61 (.aload_n 2) 1 62 := ⟨by decide +kernel, rfl⟩
theorem D_prog_54_m3_62 : Dc prog_54_method_3_code 62 (.aload_n 3) 1 63 := ⟨by decide +kernel, rfl⟩
theorem D_prog_54_m3_63 : Dc prog_54_method_3_code 63 (.aload 4) 2 65 := ⟨by decide +kernel, rfl⟩
theorem D_prog_54_m3_65 : Dc prog_54_method_3_code 65 (.iload 10) 2 67 := ⟨by decide +kernel, rfl⟩
theorem D_prog_54_m3_67 : Dc prog_54_method_3_code 67 (.invokestatic 34) 3 70 := ⟨by decide +kernel, rfl⟩
theorem D_prog_54_m3_70 : Dc prog_54_method_3_code 70 (.i2l) 1 71 := ⟨by decide +kernel, rfl⟩
theorem D_prog_54_m3_71 : Dc prog_54_method_3_code 71 (.ladd) 1 72 := ⟨by decide +kernel, rfl⟩
theorem D_prog_54_m3_72 : Dc prog_54_method_3_code 72 (.lstore 8) 2 74 := ⟨by decide +kernel, rfl⟩
theorem D_prog_54_m3_74 : Dc prog_54_method_3_code 74 (.iinc 10 1) 3 77 := ⟨by decide +kernel, rfl⟩
theorem D_prog_54_m3_77 : Dc prog_54_method_3_code 77 (.goto (-25)) 3 80 := ⟨by decide +kernel, rfl⟩
theorem D_prog_54_m3_80 : Dc prog_54_method_3_code 80 (.iload 5) 2 82 := ⟨by decide +kernel, rfl⟩
theorem D_prog_54_m3_82 : Dc prog_54_method_3_code 82 (.ifCond .lt 12) 3 85 := ⟨by decide +kernel, rfl⟩
theorem D_prog_54_m3_85 : Dc prog_54_method_3_code 85 (.iload 5) 2 87 := ⟨by decide +kernel, rfl⟩
theorem D_prog_54_m3_87 : Dc prog_54_method_3_code 87 (.i2l) 1 88 := ⟨by decide +kernel, rfl⟩
theorem D_prog_54_m3_88 : Dc prog_54_method_3_code 88 (.lload 8) 2 90 := ⟨by decide +kernel, rfl⟩
theorem D_prog_54_m3_90 : Dc prog_54_method_3_code 90 (.lcmp) 1 91 := ⟨by decide +kernel, rfl⟩
theorem D_prog_54_m3_91 : Dc prog_54_method_3_code 91 (.ifCond .le 18) 3 94 := ⟨by decide +kernel, rfl⟩
theorem D_prog_54_m3_94 : Dc prog_54_method_3_code 94 (.new 19) 3 97 := ⟨by decide +kernel, rfl⟩
theorem D_prog_54_m3_97 : Dc prog_54_method_3_code 97 (.dup) 1 98 := ⟨by decide +kernel, rfl⟩
theorem D_prog_54_m3_98 : Dc prog_54_method_3_code 98 (.iload 5) 2 100 := ⟨by decide +kernel, rfl⟩
theorem D_prog_54_m3_100 : Dc prog_54_method_3_code 100 (.invokedynamic 38) 5 105 := ⟨by decide +kernel, rfl⟩
theorem D_prog_54_m3_105 : Dc prog_54_method_3_code 105 (.invokespecial 25) 3 108 := ⟨by decide +kernel, rfl⟩
theorem D_prog_54_m3_108 : Dc prog_54_method_3_code 108 (.athrow) 1 109 := ⟨by decide +kernel, rfl⟩
theorem D_prog_54_m3_109 : Dc prog_54_method_3_code 109 (.iload_n 1) 1 110 := ⟨by decide +kernel, rfl⟩
theorem D_prog_54_m3_110 : Dc prog_54_method_3_code 110 (.iconst 1) 1 111 := ⟨by decide +kernel, rfl⟩
theorem D_prog_54_m3_111 : Dc prog_54_method_3_code 111 (.iadd) 1 112 := ⟨by decide +kernel, rfl⟩
theorem D_prog_54_m3_112 : Dc prog_54_method_3_code 112 (.newarray .int) 2 114 := ⟨by decide +kernel, rfl⟩
theorem D_prog_54_m3_114 : Dc prog_54_method_3_code 114 (.astore 10) 2 116 := ⟨by decide +kernel, rfl⟩
theorem D_prog_54_m3_116 : Dc prog_54_method_3_code 116 (.aload 4) 2 118 := ⟨by decide +kernel, rfl⟩
theorem D_prog_54_m3_118 : Dc prog_54_method_3_code 118 (.ifnull 14) 3 121 := ⟨by decide +kernel, rfl⟩
theorem D_prog_54_m3_121 : Dc prog_54_method_3_code 121 (.iload 6) 2 123 := ⟨by decide +kernel, rfl⟩
theorem D_prog_54_m3_123 : Dc prog_54_method_3_code 123 (.ifCond .eq 9) 3 126 := ⟨by decide +kernel, rfl⟩
theorem D_prog_54_m3_126 : Dc prog_54_method_3_code 126 (.iload_n 1) 1 127 := ⟨by decide +kernel, rfl⟩
theorem D_prog_54_m3_127 : Dc prog_54_method_3_code 127 (.newarray .long) 2 129 := ⟨by decide +kernel, rfl⟩
theorem D_prog_54_m3_129 : Dc prog_54_method_3_code 129 (.goto 4) 3 132 := ⟨by decide +kernel, rfl⟩
theorem D_prog_54_m3_132 : Dc prog_54_method_3_code 132 (.aconst_null) 1 133 := ⟨by decide +kernel, rfl⟩
theorem D_prog_54_m3_133 : Dc prog_54_method_3_code 133 (.astore 11) 2 135 := ⟨by decide +kernel, rfl⟩
theorem D_prog_54_m3_135 : Dc prog_54_method_3_code 135 (.iload 5) 2 137 := ⟨by decide +kernel, rfl⟩
theorem D_prog_54_m3_137 : Dc prog_54_method_3_code 137 (.istore 12) 2 139 := ⟨by decide +kernel, rfl⟩
theorem D_prog_54_m3_139 : Dc prog_54_method_3_code 139 (.iconst 0) 1 140 := ⟨by decide +kernel, rfl⟩
theorem D_prog_54_m3_140 : Dc prog_54_method_3_code 140 (.istore 13) 2 142 := ⟨by decide +kernel, rfl⟩
theorem D_prog_54_m3_142 : Dc prog_54_method_3_code 142 (.iload 12) 2 144 := ⟨by decide +kernel, rfl⟩
theorem D_prog_54_m3_144 : Dc prog_54_method_3_code 144 (.ifCond .le 188) 3 147 := ⟨by decide +kernel, rfl⟩
theorem D_prog_54_m3_147 : Dc prog_54_method_3_code 147 (.aload_n 2) 1 148 := ⟨by decide +kernel, rfl⟩
theorem D_prog_54_m3_148 : Dc prog_54_method_3_code 148 (.iload 13) 2 150 := ⟨by decide +kernel, rfl⟩
theorem D_prog_54_m3_150 : Dc prog_54_method_3_code 150 (.aaload) 1 151 := ⟨by decide +kernel, rfl⟩
theorem D_prog_54_m3_151 : Dc prog_54_method_3_code 151 (.astore 14) 2 153 := ⟨by decide +kernel, rfl⟩
theorem D_prog_54_m3_153 : Dc prog_54_method_3_code 153 (.aload_n 3) 1 154 := ⟨by decide +kernel, rfl⟩
theorem D_prog_54_m3_154 : Dc prog_54_method_3_code 154 (.iload 13) 2 156 := ⟨by decide +kernel, rfl⟩
theorem D_prog_54_m3_156 : Dc prog_54_method_3_code 156 (.aaload) 1 157 := ⟨by decide +kernel, rfl⟩
theorem D_prog_54_m3_157 : Dc prog_54_method_3_code 157 (.astore 15) 2 159 := ⟨by decide +kernel, rfl⟩
theorem D_prog_54_m3_159 : Dc prog_54_method_3_code 159 (.iload 12) 2 161 := ⟨by decide +kernel, rfl⟩
theorem D_prog_54_m3_161 : Dc prog_54_method_3_code 161 (.aload_n 2) 1 162 := ⟨by decide +kernel, rfl⟩
theorem D_prog_54_m3_162 : Dc prog_54_method_3_code 162 (.aload_n 3) 1 163 := ⟨by decide +kernel, rfl⟩
theorem D_prog_54_m3_163 : Dc prog_54_method_3_code 163 (.aload 4) 2 165 := ⟨by decide +kernel, rfl⟩
theorem D_prog_54_m3_165 : Dc prog_54_method_3_code 165 (.iload 13) 2 167 := ⟨by decide +kernel, rfl⟩
theorem D_prog_54_m3_167 : Dc prog_54_method_3_code 167 (.invokestatic 34) 3 170 := ⟨by decide +kernel, rfl⟩
theorem D_prog_54_m3_170 : Dc prog_54_method_3_code 170 (.invokestatic 28) 3 173 := ⟨by decide +kernel, rfl⟩
theorem D_prog_54_m3_173 : Dc prog_54_method_3_code 173 (.istore 16) 2 175 := ⟨by decide +kernel, rfl⟩
theorem D_prog_54_m3_175 : Dc prog_54_method_3_code 175 (.iconst 0) 1 176 := ⟨by decide +kernel, rfl⟩
theorem D_prog_54_m3_176 : Dc prog_54_method_3_code 176 (.istore 17) 2 178 := ⟨by decide +kernel, rfl⟩
theorem D_prog_54_m3_178 : Dc prog_54_method_3_code 178 (.iload 17) 2 180 := ⟨by decide +kernel, rfl⟩
theorem D_prog_54_m3_180 : Dc prog_54_method_3_code 180 (.iload 16) 2 182 := ⟨by decide +kernel, rfl⟩
theorem D_prog_54_m3_182 : Dc prog_54_method_3_code 182 (.if_icmp .ge 137) 3 185 := ⟨by decide +kernel, rfl⟩
theorem D_prog_54_m3_185 : Dc prog_54_method_3_code 185 (.aload 14) 2 187 := ⟨by decide +kernel, rfl⟩
theorem D_prog_54_m3_187 : Dc prog_54_method_3_code 187 (.iload 17) 2 189 := ⟨by decide +kernel, rfl⟩
theorem D_prog_54_m3_189 : Dc prog_54_method_3_code 189 (.iaload) 1 190 := ⟨by decide +kernel, rfl⟩
theorem D_prog_54_m3_190 : Dc prog_54_method_3_code 190 (.istore 18) 2 192 := ⟨by decide +kernel, rfl⟩
theorem D_prog_54_m3_192 : Dc prog_54_method_3_code 192 (.aload 15) 2 194 := ⟨by decide +kernel, rfl⟩
theorem D_prog_54_m3_194 : Dc prog_54_method_3_code 194 (.iload 17) 2 196 := ⟨by decide +kernel, rfl⟩
theorem D_prog_54_m3_196 : Dc prog_54_method_3_code 196 (.iaload) 1 197 := ⟨by decide +kernel, rfl⟩
theorem D_prog_54_m3_197 : Dc prog_54_method_3_code 197 (.istore 19) 2 199 := ⟨by decide +kernel, rfl⟩
theorem D_prog_54_m3_199 : Dc prog_54_method_3_code 199 (.iload 18) 2 201 := ⟨by decide +kernel, rfl⟩
theorem D_prog_54_m3_201 : Dc prog_54_method_3_code 201 (.ifCond .lt 20) 3 204 := ⟨by decide +kernel, rfl⟩
theorem D_prog_54_m3_204 : Dc prog_54_method_3_code 204 (.iload 18) 2 206 := ⟨by decide +kernel, rfl⟩
theorem D_prog_54_m3_206 : Dc prog_54_method_3_code 206 (.iload_n 1) 1 207 := ⟨by decide +kernel, rfl⟩
theorem D_prog_54_m3_207 : Dc prog_54_method_3_code 207 (.if_icmp .ge 14) 3 210 := ⟨by decide +kernel, rfl⟩
theorem D_prog_54_m3_210 : Dc prog_54_method_3_code 210 (.iload 19) 2 212 := ⟨by decide +kernel, rfl⟩
theorem D_prog_54_m3_212 : Dc prog_54_method_3_code 212 (.ifCond .lt 9) 3 215 := ⟨by decide +kernel, rfl⟩
theorem D_prog_54_m3_215 : Dc prog_54_method_3_code 215 (.iload 19) 2 217 := ⟨by decide +kernel, rfl⟩
theorem D_prog_54_m3_217 : Dc prog_54_method_3_code 217 (.iload_n 1) 1 218 := ⟨by decide +kernel, rfl⟩
theorem D_prog_54_m3_218 : Dc prog_54_method_3_code 218 (.if_icmp .lt 23) 3 221 := ⟨by decide +kernel, rfl⟩
theorem D_prog_54_m3_221 : Dc prog_54_method_3_code 221 (.new 19) 3 224 := ⟨by decide +kernel, rfl⟩
theorem D_prog_54_m3_224 : Dc prog_54_method_3_code 224 (.dup) 1 225 := ⟨by decide +kernel, rfl⟩
theorem D_prog_54_m3_225 : Dc prog_54_method_3_code 225 (.iload 18) 2 227 := ⟨by decide +kernel, rfl⟩
theorem D_prog_54_m3_227 : Dc prog_54_method_3_code 227 (.iload 19) 2 229 := ⟨by decide +kernel, rfl⟩
theorem D_prog_54_m3_229 : Dc prog_54_method_3_code 229 (.iload_n 1) 1 230 := ⟨by decide +kernel, rfl⟩
theorem D_prog_54_m3_230 : Dc prog_54_method_3_code 230 (.iconst 1) 1 231 := ⟨by decide +kernel, rfl⟩
theorem D_prog_54_m3_231 : Dc prog_54_method_3_code 231 (.isub) 1 232 := ⟨by decide +kernel, rfl⟩
theorem D_prog_54_m3_232 : Dc prog_54_method_3_code 232 (.invokedynamic 39) 5 237 := ⟨by decide +kernel, rfl⟩
theorem D_prog_54_m3_237 : Dc prog_54_method_3_code 237 (.invokespecial 25) 3 240 := ⟨by decide +kernel, rfl⟩
theorem D_prog_54_m3_240 : Dc prog_54_method_3_code 240 (.athrow) 1 241 := ⟨by decide +kernel, rfl⟩
theorem D_prog_54_m3_241 : Dc prog_54_method_3_code 241 (.aload 4) 2 243 := ⟨by decide +kernel, rfl⟩
theorem D_prog_54_m3_243 : Dc prog_54_method_3_code 243 (.ifnull 59) 3 246 := ⟨by decide +kernel, rfl⟩
theorem D_prog_54_m3_246 : Dc prog_54_method_3_code 246 (.aload 4) 2 248 := ⟨by decide +kernel, rfl⟩
theorem D_prog_54_m3_248 : Dc prog_54_method_3_code 248 (.iload 13) 2 250 := ⟨by decide +kernel, rfl⟩
theorem D_prog_54_m3_250 : Dc prog_54_method_3_code 250 (.aaload) 1 251 := ⟨by decide +kernel, rfl⟩
theorem D_prog_54_m3_251 : Dc prog_54_method_3_code 251 (.iload 17) 2 253 := ⟨by decide +kernel, rfl⟩
theorem D_prog_54_m3_253 : Dc prog_54_method_3_code 253 (.laload) 1 254 := ⟨by decide +kernel, rfl⟩
theorem D_prog_54_m3_254 : Dc prog_54_method_3_code 254 (.lstore 20) 2 256 := ⟨by decide +kernel, rfl⟩
theorem D_prog_54_m3_256 : Dc prog_54_method_3_code 256 (.lload 20) 2 258 := ⟨by decide +kernel, rfl⟩
theorem D_prog_54_m3_258 : Dc prog_54_method_3_code 258 (.lconst 1) 1 259 := ⟨by decide +kernel, rfl⟩
theorem D_prog_54_m3_259 : Dc prog_54_method_3_code 259 (.lcmp) 1 260 := ⟨by decide +kernel, rfl⟩
theorem D_prog_54_m3_260 : Dc prog_54_method_3_code 260 (.ifCond .ge 22) 3 263 := ⟨by decide +kernel, rfl⟩
theorem D_prog_54_m3_263 : Dc prog_54_method_3_code 263 (.new 19) 3 266 := ⟨by decide +kernel, rfl⟩
theorem D_prog_54_m3_266 : Dc prog_54_method_3_code 266 (.dup) 1 267 := ⟨by decide +kernel, rfl⟩
theorem D_prog_54_m3_267 : Dc prog_54_method_3_code 267 (.iload 18) 2 269 := ⟨by decide +kernel, rfl⟩
theorem D_prog_54_m3_269 : Dc prog_54_method_3_code 269 (.iload 19) 2 271 := ⟨by decide +kernel, rfl⟩
theorem D_prog_54_m3_271 : Dc prog_54_method_3_code 271 (.lload 20) 2 273 := ⟨by decide +kernel, rfl⟩
theorem D_prog_54_m3_273 : Dc prog_54_method_3_code 273 (.invokedynamic 42) 5 278 := ⟨by decide +kernel, rfl⟩
theorem D_prog_54_m3_278 : Dc prog_54_method_3_code 278 (.invokespecial 25) 3 281 := ⟨by decide +kernel, rfl⟩
theorem D_prog_54_m3_281 : Dc prog_54_method_3_code 281 (.athrow) 1 282 := ⟨by decide +kernel, rfl⟩
theorem D_prog_54_m3_282 : Dc prog_54_method_3_code 282 (.aload 11) 2 284 := ⟨by decide +kernel, rfl⟩
theorem D_prog_54_m3_284 : Dc prog_54_method_3_code 284 (.ifnull 18) 3 287 := ⟨by decide +kernel, rfl⟩
theorem D_prog_54_m3_287 : Dc prog_54_method_3_code 287 (.aload 11) 2 289 := ⟨by decide +kernel, rfl⟩
theorem D_prog_54_m3_289 : Dc prog_54_method_3_code 289 (.iload 18) 2 291 := ⟨by decide +kernel, rfl⟩
theorem D_prog_54_m3_291 : Dc prog_54_method_3_code 291 (.aload 11) 2 293 := ⟨by decide +kernel, rfl⟩
theorem D_prog_54_m3_293 : Dc prog_54_method_3_code 293 (.iload 18) 2 295 := ⟨by decide +kernel, rfl⟩
theorem D_prog_54_m3_295 : Dc prog_54_method_3_code 295 (.laload) 1 296 := ⟨by decide +kernel, rfl⟩
theorem D_prog_54_m3_296 : Dc prog_54_method_3_code 296 (.lload 20) 2 298 := ⟨by decide +kernel, rfl⟩
theorem D_prog_54_m3_298 : Dc prog_54_method_3_code 298 (.invokestatic 45) 3 301 := ⟨by decide +kernel, rfl⟩
theorem D_prog_54_m3_301 : Dc prog_54_method_3_code 301 (.lastore) 1 302 := ⟨by decide +kernel, rfl⟩
theorem D_prog_54_m3_302 : Dc prog_54_method_3_code 302 (.aload 10) 2 304 := ⟨by decide +kernel, rfl⟩
theorem D_prog_54_m3_304 : Dc prog_54_method_3_code 304 (.iload 19) 2 306 := ⟨by decide +kernel, rfl⟩
theorem D_prog_54_m3_306 : Dc prog_54_method_3_code 306 (.iconst 1) 1 307 := ⟨by decide +kernel, rfl⟩
theorem D_prog_54_m3_307 : Dc prog_54_method_3_code 307 (.iadd) 1 308 := ⟨by decide +kernel, rfl⟩
theorem D_prog_54_m3_308 : Dc prog_54_method_3_code 308 (.dup2) 1 309 := ⟨by decide +kernel, rfl⟩
theorem D_prog_54_m3_309 : Dc prog_54_method_3_code 309 (.iaload) 1 310 := ⟨by decide +kernel, rfl⟩
theorem D_prog_54_m3_310 : Dc prog_54_method_3_code 310 (.iconst 1) 1 311 := ⟨by decide +kernel, rfl⟩
theorem D_prog_54_m3_311 : Dc prog_54_method_3_code 311 (.iadd) 1 312 := ⟨by decide +kernel, rfl⟩
theorem D_prog_54_m3_312 : Dc prog_54_method_3_code 312 (.iastore) 1 313 := ⟨by decide +kernel, rfl⟩
theorem D_prog_54_m3_313 : Dc prog_54_method_3_code 313 (.iinc 17 1) 3 316 := ⟨by decide +kernel, rfl⟩
theorem D_prog_54_m3_316 : Dc prog_54_method_3_code 316 (.goto (-138)) 3 319 := ⟨by decide +kernel, rfl⟩
theorem D_prog_54_m3_319 : Dc prog_54_method_3_code 319 (.iload 12) 2 321 := ⟨by decide +kernel, rfl⟩
theorem D_prog_54_m3_321 : Dc prog_54_method_3_code 321 (.iload 16) 2 323 := ⟨by decide +kernel, rfl⟩
theorem D_prog_54_m3_323 : Dc prog_54_method_3_code 323 (.isub) 1 324 := ⟨by decide +kernel, rfl⟩
theorem D_prog_54_m3_324 : Dc prog_54_method_3_code 324 (.istore 12) 2 326 := ⟨by decide +kernel, rfl⟩
theorem D_prog_54_m3_326 : Dc prog_54_method_3_code 326 (.iinc 13 1) 3 329 := ⟨by decide +kernel, rfl⟩
theorem D_prog_54_m3_329 : Dc prog_54_method_3_code 329 (.goto (-187)) 3 332 := ⟨by decide +kernel, rfl⟩
theorem D_prog_54_m3_332 : Dc prog_54_method_3_code 332 (.iconst 0) 1 333 := ⟨by decide +kernel, rfl⟩
theorem D_prog_54_m3_333 : Dc prog_54_method_3_code 333 (.istore 13) 2 335 := ⟨by decide +kernel, rfl⟩
theorem D_prog_54_m3_335 : Dc prog_54_method_3_code 335 (.iload 13) 2 337 := ⟨by decide +kernel, rfl⟩
theorem D_prog_54_m3_337 : Dc prog_54_method_3_code 337 (.iload_n 1) 1 338 := ⟨by decide +kernel, rfl⟩
theorem D_prog_54_m3_338 : Dc prog_54_method_3_code 338 (.if_icmp .ge 24) 3 341 := ⟨by decide +kernel, rfl⟩
theorem D_prog_54_m3_341 : Dc prog_54_method_3_code 341 (.aload 10) 2 343 := ⟨by decide +kernel, rfl⟩
theorem D_prog_54_m3_343 : Dc prog_54_method_3_code 343 (.iload 13) 2 345 := ⟨by decide +kernel, rfl⟩
theorem D_prog_54_m3_345 : Dc prog_54_method_3_code 345 (.iconst 1) 1 346 := ⟨by decide +kernel, rfl⟩
theorem D_prog_54_m3_346 : Dc prog_54_method_3_code 346 (.iadd) 1 347 := ⟨by decide +kernel, rfl⟩
theorem D_prog_54_m3_347 : Dc prog_54_method_3_code 347 (.dup2) 1 348 := ⟨by decide +kernel, rfl⟩
theorem D_prog_54_m3_348 : Dc prog_54_method_3_code 348 (.iaload) 1 349 := ⟨by decide +kernel, rfl⟩
theorem D_prog_54_m3_349 : Dc prog_54_method_3_code 349 (.aload 10) 2 351 := ⟨by decide +kernel, rfl⟩
theorem D_prog_54_m3_351 : Dc prog_54_method_3_code 351 (.iload 13) 2 353 := ⟨by decide +kernel, rfl⟩
theorem D_prog_54_m3_353 : Dc prog_54_method_3_code 353 (.iaload) 1 354 := ⟨by decide +kernel, rfl⟩
theorem D_prog_54_m3_354 : Dc prog_54_method_3_code 354 (.iadd) 1 355 := ⟨by decide +kernel, rfl⟩
theorem D_prog_54_m3_355 : Dc prog_54_method_3_code 355 (.iastore) 1 356 := ⟨by decide +kernel, rfl⟩
theorem D_prog_54_m3_356 : Dc prog_54_method_3_code 356 (.iinc 13 1) 3 359 := ⟨by decide +kernel, rfl⟩
theorem D_prog_54_m3_359 : Dc prog_54_method_3_code 359 (.goto (-24)) 3 362 := ⟨by decide +kernel, rfl⟩
theorem D_prog_54_m3_362 : Dc prog_54_method_3_code 362 (.iload 5) 2 364 := ⟨by decide +kernel, rfl⟩
theorem D_prog_54_m3_364 : Dc prog_54_method_3_code 364 (.newarray .int) 2 366 := ⟨by decide +kernel, rfl⟩
theorem D_prog_54_m3_366 : Dc prog_54_method_3_code 366 (.astore 13) 2 368 := ⟨by decide +kernel, rfl⟩
theorem D_prog_54_m3_368 : Dc prog_54_method_3_code 368 (.aload 4) 2 370 := ⟨by decide +kernel, rfl⟩
theorem D_prog_54_m3_370 : Dc prog_54_method_3_code 370 (.ifnonnull 7) 3 373 := ⟨by decide +kernel, rfl⟩
theorem D_prog_54_m3_373 : Dc prog_54_method_3_code 373 (.aconst_null) 1 374 := ⟨by decide +kernel, rfl⟩
theorem D_prog_54_m3_374 : Dc prog_54_method_3_code 374 (.goto 7) 3 377 := ⟨by decide +kernel, rfl⟩
theorem D_prog_54_m3_377 : Dc prog_54_method_3_code 377 (.iload 5) 2 379 := ⟨by decide +kernel, rfl⟩
theorem D_prog_54_m3_379 : Dc prog_54_method_3_code 379 (.newarray .long) 2 381 := ⟨by decide +kernel, rfl⟩
theorem D_prog_54_m3_381 : Dc prog_54_method_3_code 381 (.astore 14) 2 383 := ⟨by decide +kernel, rfl⟩
theorem D_prog_54_m3_383 : Dc prog_54_method_3_code 383 (.aload 4) 2 385 := ⟨by decide +kernel, rfl⟩
theorem D_prog_54_m3_385 : Dc prog_54_method_3_code 385 (.ifnonnull 9) 3 388 := ⟨by decide +kernel, rfl⟩
theorem D_prog_54_m3_388 : Dc prog_54_method_3_code 388 (.iload_n 1) 1 389 := ⟨by decide +kernel, rfl⟩
theorem D_prog_54_m3_389 : Dc prog_54_method_3_code 389 (.newarray .int) 2 391 := ⟨by decide +kernel, rfl⟩
theorem D_prog_54_m3_391 : Dc prog_54_method_3_code 391 (.goto 4) 3 394 := ⟨by decide +kernel, rfl⟩
theorem D_prog_54_m3_394 : Dc prog_54_method_3_code 394 (.aconst_null) 1 395 := ⟨by decide +kernel, rfl⟩
theorem D_prog_54_m3_395 : Dc prog_54_method_3_code 395 (.astore 15) 2 397 := ⟨by decide +kernel, rfl⟩
theorem D_prog_54_m3_397 : Dc prog_54_method_3_code 397 (.aload 4) 2 399 := ⟨by decide +kernel, rfl⟩
theorem D_prog_54_m3_399 : Dc prog_54_method_3_code 399 (.ifnonnull 7) 3 402 := ⟨by decide +kernel, rfl⟩
theorem D_prog_54_m3_402 : Dc prog_54_method_3_code 402 (.aconst_null) 1 403 := ⟨by decide +kernel, rfl⟩
theorem D_prog_54_m3_403 : Dc prog_54_method_3_code 403 (.goto 6) 3 406 := ⟨by decide +kernel, rfl⟩
theorem D_prog_54_m3_406 : Dc prog_54_method_3_code 406 (.iload_n 1) 1 407 := ⟨by decide +kernel, rfl⟩
theorem D_prog_54_m3_407 : Dc prog_54_method_3_code 407 (.newarray .long) 2 409 := ⟨by decide +kernel, rfl⟩
theorem D_prog_54_m3_409 : Dc prog_54_method_3_code 409 (.astore 16) 2 411 := ⟨by decide +kernel, rfl⟩
theorem D_prog_54_m3_411 : Dc prog_54_method_3_code 411 (.iload 5) 2 413 := ⟨by decide +kernel, rfl⟩
theorem D_prog_54_m3_413 : Dc prog_54_method_3_code 413 (.istore 12) 2 415 := ⟨by decide +kernel, rfl⟩
theorem D_prog_54_m3_415 : Dc prog_54_method_3_code 415 (.iconst 0) 1 416 := ⟨by decide +kernel, rfl⟩
theorem D_prog_54_m3_416 : Dc prog_54_method_3_code 416 (.istore 17) 2 418 := ⟨by decide +kernel, rfl⟩
theorem D_prog_54_m3_418 : Dc prog_54_method_3_code 418 (.iload 12) 2 420 := ⟨by decide +kernel, rfl⟩
theorem D_prog_54_m3_420 : Dc prog_54_method_3_code 420 (.ifCond .le 157) 3 423 := ⟨by decide +kernel, rfl⟩
theorem D_prog_54_m3_423 : Dc prog_54_method_3_code 423 (.aload_n 2) 1 424 := ⟨by decide +kernel, rfl⟩
theorem D_prog_54_m3_424 : Dc prog_54_method_3_code 424 (.iload 17) 2 426 := ⟨by decide +kernel, rfl⟩
theorem D_prog_54_m3_426 : Dc prog_54_method_3_code 426 (.aaload) 1 427 := ⟨by decide +kernel, rfl⟩
theorem D_prog_54_m3_427 : Dc prog_54_method_3_code 427 (.astore 18) 2 429 := ⟨by decide +kernel, rfl⟩
theorem D_prog_54_m3_429 : Dc prog_54_method_3_code 429 (.aload_n 3) 1 430 := ⟨by decide +kernel, rfl⟩
theorem D_prog_54_m3_430 : Dc prog_54_method_3_code 430 (.iload 17) 2 432 := ⟨by decide +kernel, rfl⟩
theorem D_prog_54_m3_432 : Dc prog_54_method_3_code 432 (.aaload) 1 433 := ⟨by decide +kernel, rfl⟩
theorem D_prog_54_m3_433 : Dc prog_54_method_3_code 433 (.astore 19) 2 435 := ⟨by decide +kernel, rfl⟩
theorem D_prog_54_m3_435 : Dc prog_54_method_3_code 435 (.iload 12) 2 437 := ⟨by decide +kernel, rfl⟩
theorem D_prog_54_m3_437 : Dc prog_54_method_3_code 437 (.aload_n 2) 1 438 := ⟨by decide +kernel, rfl⟩
theorem D_prog_54_m3_438 : Dc prog_54_method_3_code 438 (.aload_n 3) 1 439 := ⟨by decide +kernel, rfl⟩
theorem D_prog_54_m3_439 : Dc prog_54_method_3_code 439 (.aload 4) 2 441 := ⟨by decide +kernel, rfl⟩
theorem D_prog_54_m3_441 : Dc prog_54_method_3_code 441 (.iload 17) 2 443 := ⟨by decide +kernel, rfl⟩
theorem D_prog_54_m3_443 : Dc prog_54_method_3_code 443 (.invokestatic 34) 3 446 := ⟨by decide +kernel, rfl⟩
theorem D_prog_54_m3_446 : Dc prog_54_method_3_code 446 (.invokestatic 28) 3 449 := ⟨by decide +kernel, rfl⟩
theorem D_prog_54_m3_449 : Dc prog_54_method_3_code 449 (.istore 20) 2 451 := ⟨by decide +kernel, rfl⟩
theorem D_prog_54_m3_451 : Dc prog_54_method_3_code 451 (.iconst 0) 1 452 := ⟨by decide +kernel, rfl⟩
theorem D_prog_54_m3_452 : Dc prog_54_method_3_code 452 (.istore 21) 2 454 := ⟨by decide +kernel, rfl⟩
theorem D_prog_54_m3_454 : Dc prog_54_method_3_code 454 (.iload 21) 2 456 := ⟨by decide +kernel, rfl⟩
theorem D_prog_54_m3_456 : Dc prog_54_method_3_code 456 (.iload 20) 2 458 := ⟨by decide +kernel, rfl⟩
theorem D_prog_54_m3_458 : Dc prog_54_method_3_code 458 (.if_icmp .ge 106) 3 461 := ⟨by decide +kernel, rfl⟩
theorem D_prog_54_m3_461 : Dc prog_54_method_3_code 461 (.aload 18) 2 463 := ⟨by decide +kernel, rfl⟩
theorem D_prog_54_m3_463 : Dc prog_54_method_3_code 463 (.iload 21) 2 465 := ⟨by decide +kernel, rfl⟩
theorem D_prog_54_m3_465 : Dc prog_54_method_3_code 465 (.iaload) 1 466 := ⟨by decide +kernel, rfl⟩
theorem D_prog_54_m3_466 : Dc prog_54_method_3_code 466 (.istore 22) 2 468 := ⟨by decide +kernel, rfl⟩
theorem D_prog_54_m3_468 : Dc prog_54_method_3_code 468 (.aload 10) 2 470 := ⟨by decide +kernel, rfl⟩
theorem D_prog_54_m3_470 : Dc prog_54_method_3_code 470 (.aload 19) 2 472 := ⟨by decide +kernel, rfl⟩
theorem D_prog_54_m3_472 : Dc prog_54_method_3_code 472 (.iload 21) 2 474 := ⟨by decide +kernel, rfl⟩
theorem D_prog_54_m3_474 : Dc prog_54_method_3_code 474 (.iaload) 1 475 := ⟨by decide +kernel, rfl⟩
theorem D_prog_54_m3_475 : Dc prog_54_method_3_code 475 (.dup2) 1 476 := ⟨by decide +kernel, rfl⟩
theorem D_prog_54_m3_476 : Dc prog_54_method_3_code 476 (.iaload) 1 477 := ⟨by decide +kernel, rfl⟩
theorem D_prog_54_m3_477 : Dc prog_54_method_3_code 477 (.dup_x2) 1 478 := ⟨by decide +kernel, rfl⟩
theorem D_prog_54_m3_478 : Dc prog_54_method_3_code 478 (.iconst 1) 1 479 := ⟨by decide +kernel, rfl⟩
theorem D_prog_54_m3_479 : Dc prog_54_method_3_code 479 (.iadd) 1 480 := ⟨by decide +kernel, rfl⟩
theorem D_prog_54_m3_480 : Dc prog_54_method_3_code 480 (.iastore) 1 481 := ⟨by decide +kernel, rfl⟩
theorem D_prog_54_m3_481 : Dc prog_54_method_3_code 481 (.istore 23) 2 483 := ⟨by decide +kernel, rfl⟩
theorem D_prog_54_m3_483 : Dc prog_54_method_3_code 483 (.aload 13) 2 485 := ⟨by decide +kernel, rfl⟩
theorem D_prog_54_m3_485 : Dc prog_54_method_3_code 485 (.iload 23) 2 487 := ⟨by decide +kernel, rfl⟩
theorem D_prog_54_m3_487 : Dc prog_54_method_3_code 487 (.iload 22) 2 489 := ⟨by decide +kernel, rfl⟩
theorem D_prog_54_m3_489 : Dc prog_54_method_3_code 489 (.iastore) 1 490 := ⟨by decide +kernel, rfl⟩
theorem D_prog_54_m3_490 : Dc prog_54_method_3_code 490 (.aload 14) 2 492 := ⟨by decide +kernel, rfl⟩
theorem D_prog_54_m3_492 : Dc prog_54_method_3_code 492 (.ifnonnull 15) 3 495 := ⟨by decide +kernel, rfl⟩
theorem D_prog_54_m3_495 : Dc prog_54_method_3_code 495 (.aload 15) 2 497 := ⟨by decide +kernel, rfl⟩
theorem D_prog_54_m3_497 : Dc prog_54_method_3_code 497 (.iload 22) 2 499 := ⟨by decide +kernel, rfl⟩
theorem D_prog_54_m3_499 : Dc prog_54_method_3_code 499 (.dup2) 1 500 := ⟨by decide +kernel, rfl⟩
theorem D_prog_54_m3_500 : Dc prog_54_method_3_code 500 (.iaload) 1 501 := ⟨by decide +kernel, rfl⟩
theorem D_prog_54_m3_501 : Dc prog_54_method_3_code 501 (.iconst 1) 1 502 := ⟨by decide +kernel, rfl⟩
theorem D_prog_54_m3_502 : Dc prog_54_method_3_code 502 (.iadd) 1 503 := ⟨by decide +kernel, rfl⟩
theorem D_prog_54_m3_503 : Dc prog_54_method_3_code 503 (.iastore) 1 504 := ⟨by decide +kernel, rfl⟩
theorem D_prog_54_m3_504 : Dc prog_54_method_3_code 504 (.goto 54) 3 507 := ⟨by decide +kernel, rfl⟩
theorem D_prog_54_m3_507 : Dc prog_54_method_3_code 507 (.aload 4) 2 509 := ⟨by decide +kernel, rfl⟩
theorem D_prog_54_m3_509 : Dc prog_54_method_3_code 509 (.iload 17) 2 511 := ⟨by decide +kernel, rfl⟩
theorem D_prog_54_m3_511 : Dc prog_54_method_3_code 511 (.aaload) 1 512 := ⟨by decide +kernel, rfl⟩
theorem D_prog_54_m3_512 : Dc prog_54_method_3_code 512 (.iload 21) 2 514 := ⟨by decide +kernel, rfl⟩
theorem D_prog_54_m3_514 : Dc prog_54_method_3_code 514 (.laload) 1 515 := ⟨by decide +kernel, rfl⟩
theorem D_prog_54_m3_515 : Dc prog_54_method_3_code 515 (.lstore 24) 2 517 := ⟨by decide +kernel, rfl⟩
theorem D_prog_54_m3_517 : Dc prog_54_method_3_code 517 (.aload 11) 2 519 := ⟨by decide +kernel, rfl⟩
theorem D_prog_54_m3_519 : Dc prog_54_method_3_code 519 (.ifnull 13) 3 522 := ⟨by decide +kernel, rfl⟩
theorem D_prog_54_m3_522 : Dc prog_54_method_3_code 522 (.lload 24) 2 524 := ⟨by decide +kernel, rfl⟩
theorem D_prog_54_m3_524 : Dc prog_54_method_3_code 524 (.aload 11) 2 526 := ⟨by decide +kernel, rfl⟩
theorem D_prog_54_m3_526 : Dc prog_54_method_3_code 526 (.iload 22) 2 528 := ⟨by decide +kernel, rfl⟩
theorem D_prog_54_m3_528 : Dc prog_54_method_3_code 528 (.laload) 1 529 := ⟨by decide +kernel, rfl⟩
theorem D_prog_54_m3_529 : Dc prog_54_method_3_code 529 (.ldiv) 1 530 := ⟨by decide +kernel, rfl⟩
theorem D_prog_54_m3_530 : Dc prog_54_method_3_code 530 (.lstore 24) 2 532 := ⟨by decide +kernel, rfl⟩
theorem D_prog_54_m3_532 : Dc prog_54_method_3_code 532 (.aload 14) 2 534 := ⟨by decide +kernel, rfl⟩
theorem D_prog_54_m3_534 : Dc prog_54_method_3_code 534 (.iload 23) 2 536 := ⟨by decide +kernel, rfl⟩
theorem D_prog_54_m3_536 : Dc prog_54_method_3_code 536 (.lload 24) 2 538 := ⟨by decide +kernel, rfl⟩
theorem D_prog_54_m3_538 : Dc prog_54_method_3_code 538 (.lastore) 1 539 := ⟨by decide +kernel, rfl⟩
theorem D_prog_54_m3_539 : Dc prog_54_method_3_code 539 (.aload 16) 2 541 := ⟨by decide +kernel, rfl⟩
theorem D_prog_54_m3_541 : Dc prog_54_method_3_code 541 (.iload 22) 2 543 := ⟨by decide +kernel, rfl⟩
theorem D_prog_54_m3_543 : Dc prog_54_method_3_code 543 (.aload 16) 2 545 := ⟨by decide +kernel, rfl⟩
theorem D_prog_54_m3_545 : Dc prog_54_method_3_code 545 (.iload 22) 2 547 := ⟨by decide +kernel, rfl⟩
theorem D_prog_54_m3_547 : Dc prog_54_method_3_code 547 (.laload) 1 548 := ⟨by decide +kernel, rfl⟩
theorem D_prog_54_m3_548 : Dc prog_54_method_3_code 548 (.lload 24) 2 550 := ⟨by decide +kernel, rfl⟩
theorem D_prog_54_m3_550 : Dc prog_54_method_3_code 550 (.ldc 49) 2 552 := ⟨by decide +kernel, rfl⟩
theorem D_prog_54_m3_552 : Dc prog_54_method_3_code 552 (.iload 22) 2 554 := ⟨by decide +kernel, rfl⟩
theorem D_prog_54_m3_554 : Dc prog_54_method_3_code 554 (.invokestatic 51) 3 557 := ⟨by decide +kernel, rfl⟩
theorem D_prog_54_m3_557 : Dc prog_54_method_3_code 557 (.lastore) 1 558 := ⟨by decide +kernel, rfl⟩
theorem D_prog_54_m3_558 : Dc prog_54_method_3_code 558 (.iinc 21 1) 3 561 := ⟨by decide +kernel, rfl⟩
theorem D_prog_54_m3_561 : Dc prog_54_method_3_code 561 (.goto (-107)) 3 564 := ⟨by decide +kernel, rfl⟩
theorem D_prog_54_m3_564 : Dc prog_54_method_3_code 564 (.iload 12) 2 566 := ⟨by decide +kernel, rfl⟩
theorem D_prog_54_m3_566 : Dc prog_54_method_3_code 566 (.iload 20) 2 568 := ⟨by decide +kernel, rfl⟩
theorem D_prog_54_m3_568 : Dc prog_54_method_3_code 568 (.isub) 1 569 := ⟨by decide +kernel, rfl⟩
theorem D_prog_54_m3_569 : Dc prog_54_method_3_code 569 (.istore 12) 2 571 := ⟨by decide +kernel, rfl⟩
theorem D_prog_54_m3_571 : Dc prog_54_method_3_code 571 (.iinc 17 1) 3 574 := ⟨by decide +kernel, rfl⟩
theorem D_prog_54_m3_574 : Dc prog_54_method_3_code 574 (.goto (-156)) 3 577 := ⟨by decide +kernel, rfl⟩
theorem D_prog_54_m3_577 : Dc prog_54_method_3_code 577 (.iload_n 1) 1 578 := ⟨by decide +kernel, rfl⟩
theorem D_prog_54_m3_578 : Dc prog_54_method_3_code 578 (.istore 17) 2 580 := ⟨by decide +kernel, rfl⟩
theorem D_prog_54_m3_580 : Dc prog_54_method_3_code 580 (.iload 17) 2 582 := ⟨by decide +kernel, rfl⟩
theorem D_prog_54_m3_582 : Dc prog_54_method_3_code 582 (.ifCond .le 21) 3 585 := ⟨by decide +kernel, rfl⟩
theorem D_prog_54_m3_585 : Dc prog_54_method_3_code 585 (.aload 10) 2 587 := ⟨by decide +kernel, rfl⟩
theorem D_prog_54_m3_587 : Dc prog_54_method_3_code 587 (.iload 17) 2 589 := ⟨by decide +kernel, rfl⟩
theorem D_prog_54_m3_589 : Dc prog_54_method_3_code 589 (.aload 10) 2 591 := ⟨by decide +kernel, rfl⟩
theorem D_prog_54_m3_591 : Dc prog_54_method_3_code 591 (.iload 17) 2 593 := ⟨by decide +kernel, rfl⟩
theorem D_prog_54_m3_593 : Dc prog_54_method_3_code 593 (.iconst 1) 1 594 := ⟨by decide +kernel, rfl⟩
theorem D_prog_54_m3_594 : Dc prog_54_method_3_code 594 (.isub) 1 595 := ⟨by decide +kernel, rfl⟩
theorem D_prog_54_m3_595 : Dc prog_54_method_3_code 595 (.iaload) 1 596 := ⟨by decide +kernel, rfl⟩
theorem D_prog_54_m3_596 : Dc prog_54_method_3_code 596 (.iastore) 1 597 := ⟨by decide +kernel, rfl⟩
theorem D_prog_54_m3_597 : Dc prog_54_method_3_code 597 (.iinc 17 (-1)) 3 600 := ⟨by decide +kernel, rfl⟩
theorem D_prog_54_m3_600 : Dc prog_54_method_3_code 600 (.goto (-20)) 3 603 := ⟨by decide +kernel, rfl⟩
theorem D_prog_54_m3_603 : Dc prog_54_method_3_code 603 (.aload 10) 2 605 := ⟨by decide +kernel, rfl⟩
theorem D_prog_54_m3_605 : Dc prog_54_method_3_code 605 (.iconst 0) 1 606 := ⟨by decide +kernel, rfl⟩
theorem D_prog_54_m3_606 : Dc prog_54_method_3_code 606 (.iconst 0) 1 607 := ⟨by decide +kernel, rfl⟩
theorem D_prog_54_m3_607 : Dc prog_54_method_3_code 607 (.iastore) 1 608 := ⟨by decide +kernel, rfl⟩
theorem D_prog_54_m3_608 : Dc prog_54_method_3_code 608 (.aload 14) 2 610 := ⟨by decide +kernel, rfl⟩
theorem D_prog_54_m3_610 : Dc prog_54_method_3_code 610 (.ifnull 50) 3 613 := ⟨by decide +kernel, rfl⟩
theorem D_prog_54_m3_613 : Dc prog_54_method_3_code 613 (.aload 10) 2 615 := ⟨by decide +kernel, rfl⟩
theorem D_prog_54_m3_615 : Dc prog_54_method_3_code 615 (.aload 14) 2 617 := ⟨by decide +kernel, rfl⟩
theorem D_prog_54_m3_617 : Dc prog_54_method_3_code 617 (.invokestatic 55) 3 620 := ⟨by decide +kernel, rfl⟩
theorem D_prog_54_m3_620 : Dc prog_54_method_3_code 620 (.ifCond .ne 40) 3 623 := ⟨by decide +kernel, rfl⟩
theorem D_prog_54_m3_623 : Dc prog_54_method_3_code 623 (.iload_n 1) 1 624 := ⟨by decide +kernel, rfl⟩
theorem D_prog_54_m3_624 : Dc prog_54_method_3_code 624 (.newarray .int) 2 626 := ⟨by decide +kernel, rfl⟩
theorem D_prog_54_m3_626 : Dc prog_54_method_3_code 626 (.astore 15) 2 628 := ⟨by decide +kernel, rfl⟩
theorem D_prog_54_m3_628 : Dc prog_54_method_3_code 628 (.iconst 0) 1 629 := ⟨by decide +kernel, rfl⟩
theorem D_prog_54_m3_629 : Dc prog_54_method_3_code 629 (.istore 17) 2 631 := ⟨by decide +kernel, rfl⟩
theorem D_prog_54_m3_631 : Dc prog_54_method_3_code 631 (.iload 17) 2 633 := ⟨by decide +kernel, rfl⟩
theorem D_prog_54_m3_633 : Dc prog_54_method_3_code 633 (.iload_n 1) 1 634 := ⟨by decide +kernel, rfl⟩
theorem D_prog_54_m3_634 : Dc prog_54_method_3_code 634 (.if_icmp .ge 20) 3 637 := ⟨by decide +kernel, rfl⟩
theorem D_prog_54_m3_637 : Dc prog_54_method_3_code 637 (.aload 15) 2 639 := ⟨by decide +kernel, rfl⟩
theorem D_prog_54_m3_639 : Dc prog_54_method_3_code 639 (.iload 17) 2 641 := ⟨by decide +kernel, rfl⟩
theorem D_prog_54_m3_641 : Dc prog_54_method_3_code 641 (.aload 16) 2 643 := ⟨by decide +kernel, rfl⟩
theorem D_prog_54_m3_643 : Dc prog_54_method_3_code 643 (.iload 17) 2 645 := ⟨by decide +kernel, rfl⟩
theorem D_prog_54_m3_645 : Dc prog_54_method_3_code 645 (.laload) 1 646 := ⟨by decide +kernel, rfl⟩
theorem D_prog_54_m3_646 : Dc prog_54_method_3_code 646 (.l2i) 1 647 := ⟨by decide +kernel, rfl⟩
theorem D_prog_54_m3_647 : Dc prog_54_method_3_code 647 (.iastore) 1 648 := ⟨by decide +kernel, rfl⟩
theorem D_prog_54_m3_648 : Dc prog_54_method_3_code 648 (.iinc 17 1) 3 651 := ⟨by decide +kernel, rfl⟩
theorem D_prog_54_m3_651 : Dc prog_54_method_3_code 651 (.goto (-20)) 3 654 := ⟨by decide +kernel, rfl⟩
theorem D_prog_54_m3_654 : Dc prog_54_method_3_code 654 (.aconst_null) 1 655 := ⟨by decide +kernel, rfl⟩
theorem D_prog_54_m3_655 : Dc prog_54_method_3_code 655 (.astore 16) 2 657 := ⟨by decide +kernel, rfl⟩
theorem D_prog_54_m3_657 : Dc prog_54_method_3_code 657 (.aconst_null) 1 658 := ⟨by decide +kernel, rfl⟩
theorem D_prog_54_m3_658 : Dc prog_54_method_3_code 658 (.astore 14) 2 660 := ⟨by decide +kernel, rfl⟩
theorem D_prog_54_m3_660 : Dc prog_54_method_3_code 660 (.aload_n 0) 1 661 := ⟨by decide +kernel, rfl⟩
theorem D_prog_54_m3_661 : Dc prog_54_method_3_code 661 (.iload_n 1) 1 662 := ⟨by decide +kernel, rfl⟩
theorem D_prog_54_m3_662 : Dc prog_54_method_3_code 662 (.putfield 59) 3 665 := ⟨by decide +kernel, rfl⟩
theorem D_prog_54_m3_665 : Dc prog_54_method_3_code 665 (.aload_n 0) 1 666 := ⟨by decide +kernel, rfl⟩
theorem D_prog_54_m3_666 : Dc prog_54_method_3_code 666 (.aload 15) 2 668 := ⟨by decide +kernel, rfl⟩
theorem D_prog_54_m3_668 : Dc prog_54_method_3_code 668 (.putfield 63) 3 671 := ⟨by decide +kernel, rfl⟩
theorem D_prog_54_m3_671 : Dc prog_54_method_3_code 671 (.aload_n 0) 1 672 := ⟨by decide +kernel, rfl⟩
theorem D_prog_54_m3_672 : Dc prog_54_method_3_code 672 (.aload 16) 2 674 := ⟨by decide +kernel, rfl⟩
theorem D_prog_54_m3_674 : Dc prog_54_method_3_code 674 (.putfield 66) 3 677 := ⟨by decide +kernel, rfl⟩
theorem D_prog_54_m3_677 : Dc prog_54_method_3_code 677 (.aload_n 0) 1 678 := ⟨by decide +kernel, rfl⟩
theorem D_prog_54_m3_678 : Dc prog_54_method_3_code 678 (.aload 10) 2 680 := ⟨by decide +kernel, rfl⟩
theorem D_prog_54_m3_680 : Dc prog_54_method_3_code 680 (.putfield 70) 3 683 := ⟨by decide +kernel, rfl⟩
theorem D_prog_54_m3_683 : Dc prog_54_method_3_code 683 (.aload_n 0) 1 684 := ⟨by decide +kernel, rfl⟩
theorem D_prog_54_m3_684 : Dc prog_54_method_3_code 684 (.aload 13) 2 686 := ⟨by decide +kernel, rfl⟩
theorem D_prog_54_m3_686 : Dc prog_54_method_3_code 686 (.putfield 73) 3 689 := ⟨by decide +kernel, rfl⟩
theorem D_prog_54_m3_689 : Dc prog_54_method_3_code 689 (.aload_n 0) 1 690 := ⟨by decide +kernel, rfl⟩
theorem D_prog_54_m3_690 : Dc prog_54_method_3_code 690 (.aload 14) 2 692 := ⟨by decide +kernel, rfl⟩
theorem D_prog_54_m3_692 : Dc prog_54_method_3_code 692 (.putfield 76) 3 695 := ⟨by decide +kernel, rfl⟩
theorem D_prog_54_m3_695 : Dc prog_54_method_3_code 695 (.return_) 1 696 := ⟨by decide +kernel, rfl⟩
set_option maxRecDepth 65536 in
set_option maxHeartbeats 40000000 in
theorem c_big (l : Launch) (Z : State) (a0 : Array Value) (hw : ∀ d ∈ tables_1, d.before a0 Z = true) (g : Addr) (o x s s0 t t0 rs rl : Addr) (x0 x1 y0 y1 : Int32) (F : OH) (h_x0 : 0 ≤ x0.toInt ∧ x0.toInt ≤ 7) (h_x1 : 0 ≤ x1.toInt ∧ x1.toInt ≤ 7) (h_y0 : 0 ≤ y0.toInt ∧ y0.toInt ≤ 7) (h_y1 : 0 ≤ y1.toInt ∧ y1.toInt ≤ 7) :
    Met l Z (⟨"com/example/chainstat/chainstat/model/LinkGraph", "<init>", "(I[[I[[I[[JIZ)V"⟩ : MethodName) prog_54_method_3_code 26 none ({ frames := 2, cells := 3, slots := 19, locals := 64 } : Room) [(.ref g), (.int (8 : Int32)), (.ref s), (.ref t), (.null), (.int (2 : Int32)), (.int (1 : Int32))] ((g, oI "com/example/chainstat/chainstat/model/LinkGraph" sg_2 [(.int (0 : Int32)), (.null), (.null), (.null), (.null), (.null)]) :: (o, oI "com/example/chainstat/chainstat/io/LinkList" sg_1 [(.ref s), (.ref t), (.ref rs), (.ref rl), (.ref x), (.int (2 : Int32)), (.null), (.null), (.null)]) :: (s, oR "[I" (.array .int) [(.ref s0)]) :: (s0, oA .int (x0 :: x1 :: List.replicate 1022 0)) :: (t, oR "[I" (.array .int) [(.ref t0)]) :: (t0, oA .int (y0 :: y1 :: List.replicate 1022 0)) :: F) (Q_c_big g o x s s0 t t0 rs rl x0 x1 y0 y1 F) := by
  refine Met.of_wp (Ls := #[.val (.ref g), .val (.int (8 : Int32)), .val (.ref s), .val (.ref t), .val (.null), .val (.int (2 : Int32)), .val (.int (1 : Int32)), .unset, .unset, .unset, .unset, .unset, .unset, .unset, .unset, .unset, .unset, .unset, .unset, .unset, .unset, .unset, .unset, .unset, .unset, .unset]) pn_7 (fun m => (entry_loc m _ _).trans rfl) ?_
  show Wp none l Z "com/example/chainstat/chainstat/model/LinkGraph" "<init>" prog_54_method_3_code 26 none ({ frames := 2, cells := 3, slots := 19, locals := 64 } : Room) ((g, oI "com/example/chainstat/chainstat/model/LinkGraph" sg_2 [(.int (0 : Int32)), (.null), (.null), (.null), (.null), (.null)]) :: (o, oI "com/example/chainstat/chainstat/io/LinkList" sg_1 [(.ref s), (.ref t), (.ref rs), (.ref rl), (.ref x), (.int (2 : Int32)), (.null), (.null), (.null)]) :: (s, oR "[I" (.array .int) [(.ref s0)]) :: (s0, oA .int (x0 :: x1 :: List.replicate 1022 0)) :: (t, oR "[I" (.array .int) [(.ref t0)]) :: (t0, oA .int (y0 :: y1 :: List.replicate 1022 0)) :: F) 0 0 0 #[.val (.ref g), .val (.int (8 : Int32)), .val (.ref s), .val (.ref t), .val (.null), .val (.int (2 : Int32)), .val (.int (1 : Int32)), .unset, .unset, .unset, .unset, .unset, .unset, .unset, .unset, .unset, .unset, .unset, .unset, .unset, .unset, .unset, .unset, .unset, .unset, .unset] [] (Q_c_big g o x s s0 t t0 rs rl x0 x1 y0 y1 F)
  have hr01 := own_r01 y0.toNatClampNeg y1.toNatClampNeg (own_cl y0 h_y0) (own_cl y1 h_y1)
  refine wp_aload_n D_prog_54_m3_0 rfl rfl ?_
  refine wp_initO D_prog_54_m3_1 (hw _ (List.mem_of_getElem? (i := 69) rfl)) (hw _ (List.mem_of_getElem? (i := 16) rfl)) (hw _ (List.mem_of_getElem? (i := 17) rfl)) rfl (Nat.le_of_ble_eq_true rfl) (Nat.le_of_ble_eq_true rfl) ?_
  refine wp_iload_n D_prog_54_m3_4 rfl ?_
  refine wp_if_gt D_prog_54_m3_5 (pc'' := 22) ⟨by decide, by decide⟩ (fun h1 => ?_) (fun h1 => by exact absurd h1 (by decide))
  refine wp_aload_n D_prog_54_m3_22 rfl rfl ?_
  refine wp_lengthR (i := 2) (1 : Int32) D_prog_54_m3_23 rfl rfl ?_
  refine wp_aload_n D_prog_54_m3_24 rfl rfl ?_
  refine wp_lengthR (i := 4) (1 : Int32) D_prog_54_m3_25 rfl rfl ?_
  refine wp_callS (c_min l Z a0 hw (1 : Int32) (1 : Int32) ((g, oI "com/example/chainstat/chainstat/model/LinkGraph" sg_2 [(.int (0 : Int32)), (.null), (.null), (.null), (.null), (.null)]) :: (o, oI "com/example/chainstat/chainstat/io/LinkList" sg_1 [(.ref s), (.ref t), (.ref rs), (.ref rl), (.ref x), (.int (2 : Int32)), (.null), (.null), (.null)]) :: (s, oR "[I" (.array .int) [(.ref s0)]) :: (s0, oA .int (x0 :: x1 :: List.replicate 1022 0)) :: (t, oR "[I" (.array .int) [(.ref t0)]) :: (t0, oA .int (y0 :: y1 :: List.replicate 1022 0)) :: F)) D_prog_54_m3_26 (hw _ (List.mem_of_getElem? (i := 70) rfl)) (hw _ (List.mem_of_getElem? (i := 71) rfl)) (hw _ (List.mem_of_getElem? (i := 72) rfl)) (hw _ (List.mem_of_getElem? (i := 73) rfl)) (by decide) pd_4 rfl rfl rfl (Nat.le_of_ble_eq_true rfl) (Nat.le_of_ble_eq_true rfl) (Nat.le_of_ble_eq_true rfl) (Nat.le_of_ble_eq_true rfl) ?_
  rintro _ _ ⟨rfl, rfl⟩
  rw [show f_min (1 : Int32) (1 : Int32) = (1 : Int32) from by decide]
  show Wp none l Z "com/example/chainstat/chainstat/model/LinkGraph" "<init>" prog_54_method_3_code 26 none ({ frames := 2, cells := 3, slots := 19, locals := 64 } : Room) ((g, oI "com/example/chainstat/chainstat/model/LinkGraph" sg_2 [(.int (0 : Int32)), (.null), (.null), (.null), (.null), (.null)]) :: (o, oI "com/example/chainstat/chainstat/io/LinkList" sg_1 [(.ref s), (.ref t), (.ref rs), (.ref rl), (.ref x), (.int (2 : Int32)), (.null), (.null), (.null)]) :: (s, oR "[I" (.array .int) [(.ref s0)]) :: (s0, oA .int (x0 :: x1 :: List.replicate 1022 0)) :: (t, oR "[I" (.array .int) [(.ref t0)]) :: (t0, oA .int (y0 :: y1 :: List.replicate 1022 0)) :: F) 0 0 29 #[.val (.ref g), .val (.int (8 : Int32)), .val (.ref s), .val (.ref t), .val (.null), .val (.int (2 : Int32)), .val (.int (1 : Int32)), .unset, .unset, .unset, .unset, .unset, .unset, .unset, .unset, .unset, .unset, .unset, .unset, .unset, .unset, .unset, .unset, .unset, .unset, .unset] [(.int (1 : Int32))] (Q_c_big g o x s s0 t t0 rs rl x0 x1 y0 y1 F)
  refine wp_istore #[.val (.ref g), .val (.int (8 : Int32)), .val (.ref s), .val (.ref t), .val (.null), .val (.int (2 : Int32)), .val (.int (1 : Int32)), .val (.int (1 : Int32)), .unset, .unset, .unset, .unset, .unset, .unset, .unset, .unset, .unset, .unset, .unset, .unset, .unset, .unset, .unset, .unset, .unset, .unset] D_prog_54_m3_29 rfl ?_
  refine wp_aload D_prog_54_m3_31 rfl rfl ?_
  refine wp_ifnull_y D_prog_54_m3_33 (pc'' := 46) ⟨by decide, by decide⟩ ?_
  refine wp_lconst 0 D_prog_54_m3_46 (by decide) ?_
  refine wp_lstore #[.val (.ref g), .val (.int (8 : Int32)), .val (.ref s), .val (.ref t), .val (.null), .val (.int (2 : Int32)), .val (.int (1 : Int32)), .val (.int (1 : Int32)), .val (.long (0 : Int64)), .second, .unset, .unset, .unset, .unset, .unset, .unset, .unset, .unset, .unset, .unset, .unset, .unset, .unset, .unset, .unset, .unset] D_prog_54_m3_47 rfl ?_
  refine wp_iconst 0 D_prog_54_m3_49 (by decide) ?_
  refine wp_istore #[.val (.ref g), .val (.int (8 : Int32)), .val (.ref s), .val (.ref t), .val (.null), .val (.int (2 : Int32)), .val (.int (1 : Int32)), .val (.int (1 : Int32)), .val (.long (0 : Int64)), .second, .val (.int (0 : Int32)), .unset, .unset, .unset, .unset, .unset, .unset, .unset, .unset, .unset, .unset, .unset, .unset, .unset, .unset, .unset] D_prog_54_m3_50 rfl ?_
  refine wp_iload D_prog_54_m3_52 rfl ?_
  refine wp_iload D_prog_54_m3_54 rfl ?_
  refine wp_icmp_ge D_prog_54_m3_56 (pc'' := 80) ⟨by decide, by decide⟩ (fun h2 => by exact absurd h2 (by decide)) (fun h2 => ?_)
  refine wp_lload D_prog_54_m3_59 rfl ?_
  refine wp_aload_n D_prog_54_m3_61 rfl rfl ?_
  refine wp_aload_n D_prog_54_m3_62 rfl rfl ?_
  refine wp_aload D_prog_54_m3_63 rfl rfl ?_
  refine wp_iload D_prog_54_m3_65 rfl ?_
  refine wp_callS (c_bl0 l Z a0 hw  g o x s s0 t t0 rs rl x0 x1 y0 y1 F) D_prog_54_m3_67 (hw _ (List.mem_of_getElem? (i := 74) rfl)) (hw _ (List.mem_of_getElem? (i := 75) rfl)) (hw _ (List.mem_of_getElem? (i := 62) rfl)) (hw _ (List.mem_of_getElem? (i := 76) rfl)) (by decide) pd_6 rfl rfl rfl (Nat.le_of_ble_eq_true rfl) (Nat.le_of_ble_eq_true rfl) (Nat.le_of_ble_eq_true rfl) (Nat.le_of_ble_eq_true rfl) ?_
  rintro _ _ ⟨rfl, rfl⟩
  show Wp none l Z "com/example/chainstat/chainstat/model/LinkGraph" "<init>" prog_54_method_3_code 26 none ({ frames := 2, cells := 3, slots := 19, locals := 64 } : Room) ((g, oI "com/example/chainstat/chainstat/model/LinkGraph" sg_2 [(.int (0 : Int32)), (.null), (.null), (.null), (.null), (.null)]) :: (o, oI "com/example/chainstat/chainstat/io/LinkList" sg_1 [(.ref s), (.ref t), (.ref rs), (.ref rl), (.ref x), (.int (2 : Int32)), (.null), (.null), (.null)]) :: (s, oR "[I" (.array .int) [(.ref s0)]) :: (s0, oA .int (x0 :: x1 :: List.replicate 1022 0)) :: (t, oR "[I" (.array .int) [(.ref t0)]) :: (t0, oA .int (y0 :: y1 :: List.replicate 1022 0)) :: F) 0 0 70 #[.val (.ref g), .val (.int (8 : Int32)), .val (.ref s), .val (.ref t), .val (.null), .val (.int (2 : Int32)), .val (.int (1 : Int32)), .val (.int (1 : Int32)), .val (.long (0 : Int64)), .second, .val (.int (0 : Int32)), .unset, .unset, .unset, .unset, .unset, .unset, .unset, .unset, .unset, .unset, .unset, .unset, .unset, .unset, .unset] [(.int (1024 : Int32)), (.long (0 : Int64))] (Q_c_big g o x s s0 t t0 rs rl x0 x1 y0 y1 F)
  refine wp_i2l D_prog_54_m3_70 ?_
  rw [show (1024 : Int32).toInt64 = (1024 : Int64) from by decide]
  refine wp_ladd D_prog_54_m3_71 ?_
  rw [show ((0 : Int64) + (1024 : Int64)) = (1024 : Int64) from by decide]
  refine wp_lstore #[.val (.ref g), .val (.int (8 : Int32)), .val (.ref s), .val (.ref t), .val (.null), .val (.int (2 : Int32)), .val (.int (1 : Int32)), .val (.int (1 : Int32)), .val (.long (1024 : Int64)), .second, .val (.int (0 : Int32)), .unset, .unset, .unset, .unset, .unset, .unset, .unset, .unset, .unset, .unset, .unset, .unset, .unset, .unset, .unset] D_prog_54_m3_72 rfl ?_
  refine wp_iinc 1 #[.val (.ref g), .val (.int (8 : Int32)), .val (.ref s), .val (.ref t), .val (.null), .val (.int (2 : Int32)), .val (.int (1 : Int32)), .val (.int (1 : Int32)), .val (.long (1024 : Int64)), .second, .val (.int (1 : Int32)), .unset, .unset, .unset, .unset, .unset, .unset, .unset, .unset, .unset, .unset, .unset, .unset, .unset, .unset, .unset] D_prog_54_m3_74 rfl rfl (by rw [show (0 : Int32) + (1 : Int32) = (1 : Int32) from by decide]; rfl) ?_
  refine wp_goto D_prog_54_m3_77 (pc'' := 52) ⟨by decide, by decide⟩ ?_
  refine wp_iload D_prog_54_m3_52 rfl ?_
  refine wp_iload D_prog_54_m3_54 rfl ?_
  refine wp_icmp_ge D_prog_54_m3_56 (pc'' := 80) ⟨by decide, by decide⟩ (fun h3 => ?_) (fun h3 => by exact absurd h3 (by decide))
  refine wp_iload D_prog_54_m3_80 rfl ?_
  refine wp_if_lt D_prog_54_m3_82 (pc'' := 94) ⟨by decide, by decide⟩ (fun h4 => by exact absurd h4 (by decide)) (fun h4 => ?_)
  refine wp_iload D_prog_54_m3_85 rfl ?_
  refine wp_i2l D_prog_54_m3_87 ?_
  rw [show (2 : Int32).toInt64 = (2 : Int64) from by decide]
  refine wp_lload D_prog_54_m3_88 rfl ?_
  refine wp_lcmp_le D_prog_54_m3_90 D_prog_54_m3_91 (pc'' := 109) ⟨by decide, by decide⟩ (fun h5 => ?_) (fun h5 => by exact absurd h5 (by decide))
  refine wp_iload_n D_prog_54_m3_109 rfl ?_
  refine wp_iconst 1 D_prog_54_m3_110 (by decide) ?_
  refine wp_iadd D_prog_54_m3_111 ?_
  rw [show ((8 : Int32) + (1 : Int32)) = (9 : Int32) from by decide]
  refine wp_newarrayI (n := (9 : Int32)) (9) 9 D_prog_54_m3_112 rfl rfl rfl (hw _ (List.mem_of_getElem? (i := 0) rfl)) (by decide) (by decide) (by decide) (by decide) (by decide) (by decide) ?_
  intro a6
  show Wp none l Z "com/example/chainstat/chainstat/model/LinkGraph" "<init>" prog_54_method_3_code 26 none ({ frames := 2, cells := 3, slots := 19, locals := 64 } : Room) ((a6, oA .int [(0 : Int32), (0 : Int32), (0 : Int32), (0 : Int32), (0 : Int32), (0 : Int32), (0 : Int32), (0 : Int32), (0 : Int32)]) :: (g, oI "com/example/chainstat/chainstat/model/LinkGraph" sg_2 [(.int (0 : Int32)), (.null), (.null), (.null), (.null), (.null)]) :: (o, oI "com/example/chainstat/chainstat/io/LinkList" sg_1 [(.ref s), (.ref t), (.ref rs), (.ref rl), (.ref x), (.int (2 : Int32)), (.null), (.null), (.null)]) :: (s, oR "[I" (.array .int) [(.ref s0)]) :: (s0, oA .int (x0 :: x1 :: List.replicate 1022 0)) :: (t, oR "[I" (.array .int) [(.ref t0)]) :: (t0, oA .int (y0 :: y1 :: List.replicate 1022 0)) :: F) 1 9 114 #[.val (.ref g), .val (.int (8 : Int32)), .val (.ref s), .val (.ref t), .val (.null), .val (.int (2 : Int32)), .val (.int (1 : Int32)), .val (.int (1 : Int32)), .val (.long (1024 : Int64)), .second, .val (.int (1 : Int32)), .unset, .unset, .unset, .unset, .unset, .unset, .unset, .unset, .unset, .unset, .unset, .unset, .unset, .unset, .unset] [(.ref a6)] (Q_c_big g o x s s0 t t0 rs rl x0 x1 y0 y1 F)
  refine wp_astore #[.val (.ref g), .val (.int (8 : Int32)), .val (.ref s), .val (.ref t), .val (.null), .val (.int (2 : Int32)), .val (.int (1 : Int32)), .val (.int (1 : Int32)), .val (.long (1024 : Int64)), .second, .val (.ref a6), .unset, .unset, .unset, .unset, .unset, .unset, .unset, .unset, .unset, .unset, .unset, .unset, .unset, .unset, .unset] D_prog_54_m3_114 rfl rfl ?_
  refine wp_aload D_prog_54_m3_116 rfl rfl ?_
  refine wp_ifnull_y D_prog_54_m3_118 (pc'' := 132) ⟨by decide, by decide⟩ ?_
  refine wp_aconst_null D_prog_54_m3_132 ?_
  refine wp_astore #[.val (.ref g), .val (.int (8 : Int32)), .val (.ref s), .val (.ref t), .val (.null), .val (.int (2 : Int32)), .val (.int (1 : Int32)), .val (.int (1 : Int32)), .val (.long (1024 : Int64)), .second, .val (.ref a6), .val (.null), .unset, .unset, .unset, .unset, .unset, .unset, .unset, .unset, .unset, .unset, .unset, .unset, .unset, .unset] D_prog_54_m3_133 rfl rfl ?_
  refine wp_iload D_prog_54_m3_135 rfl ?_
  refine wp_istore #[.val (.ref g), .val (.int (8 : Int32)), .val (.ref s), .val (.ref t), .val (.null), .val (.int (2 : Int32)), .val (.int (1 : Int32)), .val (.int (1 : Int32)), .val (.long (1024 : Int64)), .second, .val (.ref a6), .val (.null), .val (.int (2 : Int32)), .unset, .unset, .unset, .unset, .unset, .unset, .unset, .unset, .unset, .unset, .unset, .unset, .unset] D_prog_54_m3_137 rfl ?_
  refine wp_iconst 0 D_prog_54_m3_139 (by decide) ?_
  refine wp_istore #[.val (.ref g), .val (.int (8 : Int32)), .val (.ref s), .val (.ref t), .val (.null), .val (.int (2 : Int32)), .val (.int (1 : Int32)), .val (.int (1 : Int32)), .val (.long (1024 : Int64)), .second, .val (.ref a6), .val (.null), .val (.int (2 : Int32)), .val (.int (0 : Int32)), .unset, .unset, .unset, .unset, .unset, .unset, .unset, .unset, .unset, .unset, .unset, .unset] D_prog_54_m3_140 rfl ?_
  refine wp_iload D_prog_54_m3_142 rfl ?_
  refine wp_if_le D_prog_54_m3_144 (pc'' := 332) ⟨by decide, by decide⟩ (fun h7 => by exact absurd h7 (by decide)) (fun h7 => ?_)
  refine wp_aload_n D_prog_54_m3_147 rfl rfl ?_
  refine wp_iload D_prog_54_m3_148 rfl ?_
  refine wp_aaload (i := 3) (0) D_prog_54_m3_150 rfl rfl (by decide) (by decide) rfl ?_
  refine wp_astore #[.val (.ref g), .val (.int (8 : Int32)), .val (.ref s), .val (.ref t), .val (.null), .val (.int (2 : Int32)), .val (.int (1 : Int32)), .val (.int (1 : Int32)), .val (.long (1024 : Int64)), .second, .val (.ref a6), .val (.null), .val (.int (2 : Int32)), .val (.int (0 : Int32)), .val (.ref s0), .unset, .unset, .unset, .unset, .unset, .unset, .unset, .unset, .unset, .unset, .unset] D_prog_54_m3_151 rfl rfl ?_
  refine wp_aload_n D_prog_54_m3_153 rfl rfl ?_
  refine wp_iload D_prog_54_m3_154 rfl ?_
  refine wp_aaload (i := 5) (0) D_prog_54_m3_156 rfl rfl (by decide) (by decide) rfl ?_
  refine wp_astore #[.val (.ref g), .val (.int (8 : Int32)), .val (.ref s), .val (.ref t), .val (.null), .val (.int (2 : Int32)), .val (.int (1 : Int32)), .val (.int (1 : Int32)), .val (.long (1024 : Int64)), .second, .val (.ref a6), .val (.null), .val (.int (2 : Int32)), .val (.int (0 : Int32)), .val (.ref s0), .val (.ref t0), .unset, .unset, .unset, .unset, .unset, .unset, .unset, .unset, .unset, .unset] D_prog_54_m3_157 rfl rfl ?_
  refine wp_iload D_prog_54_m3_159 rfl ?_
  refine wp_aload_n D_prog_54_m3_161 rfl rfl ?_
  refine wp_aload_n D_prog_54_m3_162 rfl rfl ?_
  refine wp_aload D_prog_54_m3_163 rfl rfl ?_
  refine wp_iload D_prog_54_m3_165 rfl ?_
  refine wp_callS (c_bl1 l Z a0 hw a6 [(0 : Int32), (0 : Int32), (0 : Int32), (0 : Int32), (0 : Int32), (0 : Int32), (0 : Int32), (0 : Int32), (0 : Int32)] g o x s s0 t t0 rs rl x0 x1 y0 y1 F) D_prog_54_m3_167 (hw _ (List.mem_of_getElem? (i := 74) rfl)) (hw _ (List.mem_of_getElem? (i := 75) rfl)) (hw _ (List.mem_of_getElem? (i := 62) rfl)) (hw _ (List.mem_of_getElem? (i := 76) rfl)) (by decide) pd_6 rfl rfl rfl (Nat.le_of_ble_eq_true rfl) (Nat.le_of_ble_eq_true rfl) (Nat.le_of_ble_eq_true rfl) (Nat.le_of_ble_eq_true rfl) ?_
  rintro _ _ ⟨rfl, rfl⟩
  show Wp none l Z "com/example/chainstat/chainstat/model/LinkGraph" "<init>" prog_54_method_3_code 26 none ({ frames := 2, cells := 3, slots := 19, locals := 64 } : Room) ((a6, oA .int [(0 : Int32), (0 : Int32), (0 : Int32), (0 : Int32), (0 : Int32), (0 : Int32), (0 : Int32), (0 : Int32), (0 : Int32)]) :: (g, oI "com/example/chainstat/chainstat/model/LinkGraph" sg_2 [(.int (0 : Int32)), (.null), (.null), (.null), (.null), (.null)]) :: (o, oI "com/example/chainstat/chainstat/io/LinkList" sg_1 [(.ref s), (.ref t), (.ref rs), (.ref rl), (.ref x), (.int (2 : Int32)), (.null), (.null), (.null)]) :: (s, oR "[I" (.array .int) [(.ref s0)]) :: (s0, oA .int (x0 :: x1 :: List.replicate 1022 0)) :: (t, oR "[I" (.array .int) [(.ref t0)]) :: (t0, oA .int (y0 :: y1 :: List.replicate 1022 0)) :: F) 1 9 170 #[.val (.ref g), .val (.int (8 : Int32)), .val (.ref s), .val (.ref t), .val (.null), .val (.int (2 : Int32)), .val (.int (1 : Int32)), .val (.int (1 : Int32)), .val (.long (1024 : Int64)), .second, .val (.ref a6), .val (.null), .val (.int (2 : Int32)), .val (.int (0 : Int32)), .val (.ref s0), .val (.ref t0), .unset, .unset, .unset, .unset, .unset, .unset, .unset, .unset, .unset, .unset] [(.int (1024 : Int32)), (.int (2 : Int32))] (Q_c_big g o x s s0 t t0 rs rl x0 x1 y0 y1 F)
  refine wp_callS (c_min l Z a0 hw (2 : Int32) (1024 : Int32) ((a6, oA .int [(0 : Int32), (0 : Int32), (0 : Int32), (0 : Int32), (0 : Int32), (0 : Int32), (0 : Int32), (0 : Int32), (0 : Int32)]) :: (g, oI "com/example/chainstat/chainstat/model/LinkGraph" sg_2 [(.int (0 : Int32)), (.null), (.null), (.null), (.null), (.null)]) :: (o, oI "com/example/chainstat/chainstat/io/LinkList" sg_1 [(.ref s), (.ref t), (.ref rs), (.ref rl), (.ref x), (.int (2 : Int32)), (.null), (.null), (.null)]) :: (s, oR "[I" (.array .int) [(.ref s0)]) :: (s0, oA .int (x0 :: x1 :: List.replicate 1022 0)) :: (t, oR "[I" (.array .int) [(.ref t0)]) :: (t0, oA .int (y0 :: y1 :: List.replicate 1022 0)) :: F)) D_prog_54_m3_170 (hw _ (List.mem_of_getElem? (i := 70) rfl)) (hw _ (List.mem_of_getElem? (i := 71) rfl)) (hw _ (List.mem_of_getElem? (i := 72) rfl)) (hw _ (List.mem_of_getElem? (i := 73) rfl)) (by decide) pd_4 rfl rfl rfl (Nat.le_of_ble_eq_true rfl) (Nat.le_of_ble_eq_true rfl) (Nat.le_of_ble_eq_true rfl) (Nat.le_of_ble_eq_true rfl) ?_
  rintro _ _ ⟨rfl, rfl⟩
  rw [show f_min (2 : Int32) (1024 : Int32) = (2 : Int32) from by decide]
  show Wp none l Z "com/example/chainstat/chainstat/model/LinkGraph" "<init>" prog_54_method_3_code 26 none ({ frames := 2, cells := 3, slots := 19, locals := 64 } : Room) ((a6, oA .int [(0 : Int32), (0 : Int32), (0 : Int32), (0 : Int32), (0 : Int32), (0 : Int32), (0 : Int32), (0 : Int32), (0 : Int32)]) :: (g, oI "com/example/chainstat/chainstat/model/LinkGraph" sg_2 [(.int (0 : Int32)), (.null), (.null), (.null), (.null), (.null)]) :: (o, oI "com/example/chainstat/chainstat/io/LinkList" sg_1 [(.ref s), (.ref t), (.ref rs), (.ref rl), (.ref x), (.int (2 : Int32)), (.null), (.null), (.null)]) :: (s, oR "[I" (.array .int) [(.ref s0)]) :: (s0, oA .int (x0 :: x1 :: List.replicate 1022 0)) :: (t, oR "[I" (.array .int) [(.ref t0)]) :: (t0, oA .int (y0 :: y1 :: List.replicate 1022 0)) :: F) 1 9 173 #[.val (.ref g), .val (.int (8 : Int32)), .val (.ref s), .val (.ref t), .val (.null), .val (.int (2 : Int32)), .val (.int (1 : Int32)), .val (.int (1 : Int32)), .val (.long (1024 : Int64)), .second, .val (.ref a6), .val (.null), .val (.int (2 : Int32)), .val (.int (0 : Int32)), .val (.ref s0), .val (.ref t0), .unset, .unset, .unset, .unset, .unset, .unset, .unset, .unset, .unset, .unset] [(.int (2 : Int32))] (Q_c_big g o x s s0 t t0 rs rl x0 x1 y0 y1 F)
  refine wp_istore #[.val (.ref g), .val (.int (8 : Int32)), .val (.ref s), .val (.ref t), .val (.null), .val (.int (2 : Int32)), .val (.int (1 : Int32)), .val (.int (1 : Int32)), .val (.long (1024 : Int64)), .second, .val (.ref a6), .val (.null), .val (.int (2 : Int32)), .val (.int (0 : Int32)), .val (.ref s0), .val (.ref t0), .val (.int (2 : Int32)), .unset, .unset, .unset, .unset, .unset, .unset, .unset, .unset, .unset] D_prog_54_m3_173 rfl ?_
  refine wp_iconst 0 D_prog_54_m3_175 (by decide) ?_
  refine wp_istore #[.val (.ref g), .val (.int (8 : Int32)), .val (.ref s), .val (.ref t), .val (.null), .val (.int (2 : Int32)), .val (.int (1 : Int32)), .val (.int (1 : Int32)), .val (.long (1024 : Int64)), .second, .val (.ref a6), .val (.null), .val (.int (2 : Int32)), .val (.int (0 : Int32)), .val (.ref s0), .val (.ref t0), .val (.int (2 : Int32)), .val (.int (0 : Int32)), .unset, .unset, .unset, .unset, .unset, .unset, .unset, .unset] D_prog_54_m3_176 rfl ?_
  refine wp_iload D_prog_54_m3_178 rfl ?_
  refine wp_iload D_prog_54_m3_180 rfl ?_
  refine wp_icmp_ge D_prog_54_m3_182 (pc'' := 319) ⟨by decide, by decide⟩ (fun h8 => by exact absurd h8 (by decide)) (fun h8 => ?_)
  refine wp_aload D_prog_54_m3_185 rfl rfl ?_
  refine wp_iload D_prog_54_m3_187 rfl ?_
  refine wp_iaload (i := 4) (0) D_prog_54_m3_189 rfl (by decide) (by decide) rfl ?_
  refine wp_istore #[.val (.ref g), .val (.int (8 : Int32)), .val (.ref s), .val (.ref t), .val (.null), .val (.int (2 : Int32)), .val (.int (1 : Int32)), .val (.int (1 : Int32)), .val (.long (1024 : Int64)), .second, .val (.ref a6), .val (.null), .val (.int (2 : Int32)), .val (.int (0 : Int32)), .val (.ref s0), .val (.ref t0), .val (.int (2 : Int32)), .val (.int (0 : Int32)), .val (.int x0), .unset, .unset, .unset, .unset, .unset, .unset, .unset] D_prog_54_m3_190 rfl ?_
  refine wp_aload D_prog_54_m3_192 rfl rfl ?_
  refine wp_iload D_prog_54_m3_194 rfl ?_
  refine wp_iaload (i := 6) (0) D_prog_54_m3_196 rfl (by decide) (by decide) rfl ?_
  refine wp_istore #[.val (.ref g), .val (.int (8 : Int32)), .val (.ref s), .val (.ref t), .val (.null), .val (.int (2 : Int32)), .val (.int (1 : Int32)), .val (.int (1 : Int32)), .val (.long (1024 : Int64)), .second, .val (.ref a6), .val (.null), .val (.int (2 : Int32)), .val (.int (0 : Int32)), .val (.ref s0), .val (.ref t0), .val (.int (2 : Int32)), .val (.int (0 : Int32)), .val (.int x0), .val (.int y0), .unset, .unset, .unset, .unset, .unset, .unset] D_prog_54_m3_197 rfl ?_
  refine wp_iload D_prog_54_m3_199 rfl ?_
  refine wp_if_lt D_prog_54_m3_201 (pc'' := 221) ⟨by decide, by decide⟩ (fun h9 => by exfalso; (simp only [Int32.lt_iff_toInt_lt, Int32.le_iff_toInt_le, ← Int32.toInt_inj, Int32.reduceToInt, Int64.lt_iff_toInt_lt, ← Int64.toInt_inj, Int64.reduceToInt] at *; omega)) (fun h9 => ?_)
  refine wp_iload D_prog_54_m3_204 rfl ?_
  refine wp_iload_n D_prog_54_m3_206 rfl ?_
  refine wp_icmp_ge D_prog_54_m3_207 (pc'' := 221) ⟨by decide, by decide⟩ (fun h10 => by exfalso; (simp only [Int32.lt_iff_toInt_lt, Int32.le_iff_toInt_le, ← Int32.toInt_inj, Int32.reduceToInt, Int64.lt_iff_toInt_lt, ← Int64.toInt_inj, Int64.reduceToInt] at *; omega)) (fun h10 => ?_)
  refine wp_iload D_prog_54_m3_210 rfl ?_
  refine wp_if_lt D_prog_54_m3_212 (pc'' := 221) ⟨by decide, by decide⟩ (fun h11 => by exfalso; (simp only [Int32.lt_iff_toInt_lt, Int32.le_iff_toInt_le, ← Int32.toInt_inj, Int32.reduceToInt, Int64.lt_iff_toInt_lt, ← Int64.toInt_inj, Int64.reduceToInt] at *; omega)) (fun h11 => ?_)
  refine wp_iload D_prog_54_m3_215 rfl ?_
  refine wp_iload_n D_prog_54_m3_217 rfl ?_
  refine wp_icmp_lt D_prog_54_m3_218 (pc'' := 241) ⟨by decide, by decide⟩ (fun h12 => ?_) (fun h12 => by exfalso; (simp only [Int32.lt_iff_toInt_lt, Int32.le_iff_toInt_le, ← Int32.toInt_inj, Int32.reduceToInt, Int64.lt_iff_toInt_lt, ← Int64.toInt_inj, Int64.reduceToInt] at *; omega))
  refine wp_aload D_prog_54_m3_241 rfl rfl ?_
  refine wp_ifnull_y D_prog_54_m3_243 (pc'' := 302) ⟨by decide, by decide⟩ ?_
  refine wp_aload D_prog_54_m3_302 rfl rfl ?_
  refine wp_iload D_prog_54_m3_304 rfl ?_
  refine wp_iconst 1 D_prog_54_m3_306 (by decide) ?_
  refine wp_iadd D_prog_54_m3_307 ?_
  refine wp_dup2 D_prog_54_m3_308 rfl rfl ?_
  refine wp_iaload (i := 0) ((y0.toNatClampNeg + 1)) D_prog_54_m3_309 rfl (own_n1 y0 h_y0) (own_p1 y0 h_y0).2 (own_gt _ _ (by simp only [fA1, fA0, len_inc, len_pref, len_shf, List.length_set, List.length_cons, List.length_nil, List.length_replicate]; have := own_cl y0 h_y0; omega)) ?_
  refine wp_iconst 1 D_prog_54_m3_310 (by decide) ?_
  refine wp_iadd D_prog_54_m3_311 ?_
  refine wp_iastore (i := 0) ((y0.toNatClampNeg + 1)) D_prog_54_m3_312 rfl (own_n1 y0 h_y0) (own_p1 y0 h_y0).2 (by simp only [fA1, fA0, len_inc, len_pref, len_shf, List.length_set, List.length_cons, List.length_nil, List.length_replicate]; have := own_cl y0 h_y0; omega) ?_
  show Wp none l Z "com/example/chainstat/chainstat/model/LinkGraph" "<init>" prog_54_method_3_code 26 none ({ frames := 2, cells := 3, slots := 19, locals := 64 } : Room) ((a6, oA .int (inc [(0 : Int32), (0 : Int32), (0 : Int32), (0 : Int32), (0 : Int32), (0 : Int32), (0 : Int32), (0 : Int32), (0 : Int32)] (y0.toNatClampNeg + 1))) :: (g, oI "com/example/chainstat/chainstat/model/LinkGraph" sg_2 [(.int (0 : Int32)), (.null), (.null), (.null), (.null), (.null)]) :: (o, oI "com/example/chainstat/chainstat/io/LinkList" sg_1 [(.ref s), (.ref t), (.ref rs), (.ref rl), (.ref x), (.int (2 : Int32)), (.null), (.null), (.null)]) :: (s, oR "[I" (.array .int) [(.ref s0)]) :: (s0, oA .int (x0 :: x1 :: List.replicate 1022 0)) :: (t, oR "[I" (.array .int) [(.ref t0)]) :: (t0, oA .int (y0 :: y1 :: List.replicate 1022 0)) :: F) 1 9 313 #[.val (.ref g), .val (.int (8 : Int32)), .val (.ref s), .val (.ref t), .val (.null), .val (.int (2 : Int32)), .val (.int (1 : Int32)), .val (.int (1 : Int32)), .val (.long (1024 : Int64)), .second, .val (.ref a6), .val (.null), .val (.int (2 : Int32)), .val (.int (0 : Int32)), .val (.ref s0), .val (.ref t0), .val (.int (2 : Int32)), .val (.int (0 : Int32)), .val (.int x0), .val (.int y0), .unset, .unset, .unset, .unset, .unset, .unset] [] (Q_c_big g o x s s0 t t0 rs rl x0 x1 y0 y1 F)
  refine wp_iinc 1 #[.val (.ref g), .val (.int (8 : Int32)), .val (.ref s), .val (.ref t), .val (.null), .val (.int (2 : Int32)), .val (.int (1 : Int32)), .val (.int (1 : Int32)), .val (.long (1024 : Int64)), .second, .val (.ref a6), .val (.null), .val (.int (2 : Int32)), .val (.int (0 : Int32)), .val (.ref s0), .val (.ref t0), .val (.int (2 : Int32)), .val (.int (1 : Int32)), .val (.int x0), .val (.int y0), .unset, .unset, .unset, .unset, .unset, .unset] D_prog_54_m3_313 rfl rfl (by rw [show (0 : Int32) + (1 : Int32) = (1 : Int32) from by decide]; rfl) ?_
  refine wp_goto D_prog_54_m3_316 (pc'' := 178) ⟨by decide, by decide⟩ ?_
  refine wp_iload D_prog_54_m3_178 rfl ?_
  refine wp_iload D_prog_54_m3_180 rfl ?_
  refine wp_icmp_ge D_prog_54_m3_182 (pc'' := 319) ⟨by decide, by decide⟩ (fun h13 => by exact absurd h13 (by decide)) (fun h13 => ?_)
  refine wp_aload D_prog_54_m3_185 rfl rfl ?_
  refine wp_iload D_prog_54_m3_187 rfl ?_
  refine wp_iaload (i := 4) (1) D_prog_54_m3_189 rfl (by decide) (by decide) rfl ?_
  refine wp_istore #[.val (.ref g), .val (.int (8 : Int32)), .val (.ref s), .val (.ref t), .val (.null), .val (.int (2 : Int32)), .val (.int (1 : Int32)), .val (.int (1 : Int32)), .val (.long (1024 : Int64)), .second, .val (.ref a6), .val (.null), .val (.int (2 : Int32)), .val (.int (0 : Int32)), .val (.ref s0), .val (.ref t0), .val (.int (2 : Int32)), .val (.int (1 : Int32)), .val (.int x1), .val (.int y0), .unset, .unset, .unset, .unset, .unset, .unset] D_prog_54_m3_190 rfl ?_
  refine wp_aload D_prog_54_m3_192 rfl rfl ?_
  refine wp_iload D_prog_54_m3_194 rfl ?_
  refine wp_iaload (i := 6) (1) D_prog_54_m3_196 rfl (by decide) (by decide) rfl ?_
  refine wp_istore #[.val (.ref g), .val (.int (8 : Int32)), .val (.ref s), .val (.ref t), .val (.null), .val (.int (2 : Int32)), .val (.int (1 : Int32)), .val (.int (1 : Int32)), .val (.long (1024 : Int64)), .second, .val (.ref a6), .val (.null), .val (.int (2 : Int32)), .val (.int (0 : Int32)), .val (.ref s0), .val (.ref t0), .val (.int (2 : Int32)), .val (.int (1 : Int32)), .val (.int x1), .val (.int y1), .unset, .unset, .unset, .unset, .unset, .unset] D_prog_54_m3_197 rfl ?_
  refine wp_iload D_prog_54_m3_199 rfl ?_
  refine wp_if_lt D_prog_54_m3_201 (pc'' := 221) ⟨by decide, by decide⟩ (fun h14 => by exfalso; (simp only [Int32.lt_iff_toInt_lt, Int32.le_iff_toInt_le, ← Int32.toInt_inj, Int32.reduceToInt, Int64.lt_iff_toInt_lt, ← Int64.toInt_inj, Int64.reduceToInt] at *; omega)) (fun h14 => ?_)
  refine wp_iload D_prog_54_m3_204 rfl ?_
  refine wp_iload_n D_prog_54_m3_206 rfl ?_
  refine wp_icmp_ge D_prog_54_m3_207 (pc'' := 221) ⟨by decide, by decide⟩ (fun h15 => by exfalso; (simp only [Int32.lt_iff_toInt_lt, Int32.le_iff_toInt_le, ← Int32.toInt_inj, Int32.reduceToInt, Int64.lt_iff_toInt_lt, ← Int64.toInt_inj, Int64.reduceToInt] at *; omega)) (fun h15 => ?_)
  refine wp_iload D_prog_54_m3_210 rfl ?_
  refine wp_if_lt D_prog_54_m3_212 (pc'' := 221) ⟨by decide, by decide⟩ (fun h16 => by exfalso; (simp only [Int32.lt_iff_toInt_lt, Int32.le_iff_toInt_le, ← Int32.toInt_inj, Int32.reduceToInt, Int64.lt_iff_toInt_lt, ← Int64.toInt_inj, Int64.reduceToInt] at *; omega)) (fun h16 => ?_)
  refine wp_iload D_prog_54_m3_215 rfl ?_
  refine wp_iload_n D_prog_54_m3_217 rfl ?_
  refine wp_icmp_lt D_prog_54_m3_218 (pc'' := 241) ⟨by decide, by decide⟩ (fun h17 => ?_) (fun h17 => by exfalso; (simp only [Int32.lt_iff_toInt_lt, Int32.le_iff_toInt_le, ← Int32.toInt_inj, Int32.reduceToInt, Int64.lt_iff_toInt_lt, ← Int64.toInt_inj, Int64.reduceToInt] at *; omega))
  refine wp_aload D_prog_54_m3_241 rfl rfl ?_
  refine wp_ifnull_y D_prog_54_m3_243 (pc'' := 302) ⟨by decide, by decide⟩ ?_
  refine wp_aload D_prog_54_m3_302 rfl rfl ?_
  refine wp_iload D_prog_54_m3_304 rfl ?_
  refine wp_iconst 1 D_prog_54_m3_306 (by decide) ?_
  refine wp_iadd D_prog_54_m3_307 ?_
  refine wp_dup2 D_prog_54_m3_308 rfl rfl ?_
  refine wp_iaload (i := 0) ((y1.toNatClampNeg + 1)) D_prog_54_m3_309 rfl (own_n1 y1 h_y1) (own_p1 y1 h_y1).2 (own_gt _ _ (by simp only [fA1, fA0, len_inc, len_pref, len_shf, List.length_set, List.length_cons, List.length_nil, List.length_replicate]; have := own_cl y1 h_y1; omega)) ?_
  refine wp_iconst 1 D_prog_54_m3_310 (by decide) ?_
  refine wp_iadd D_prog_54_m3_311 ?_
  refine wp_iastore (i := 0) ((y1.toNatClampNeg + 1)) D_prog_54_m3_312 rfl (own_n1 y1 h_y1) (own_p1 y1 h_y1).2 (by simp only [fA1, fA0, len_inc, len_pref, len_shf, List.length_set, List.length_cons, List.length_nil, List.length_replicate]; have := own_cl y1 h_y1; omega) ?_
  show Wp none l Z "com/example/chainstat/chainstat/model/LinkGraph" "<init>" prog_54_method_3_code 26 none ({ frames := 2, cells := 3, slots := 19, locals := 64 } : Room) ((a6, oA .int (inc (inc [(0 : Int32), (0 : Int32), (0 : Int32), (0 : Int32), (0 : Int32), (0 : Int32), (0 : Int32), (0 : Int32), (0 : Int32)] (y0.toNatClampNeg + 1)) (y1.toNatClampNeg + 1))) :: (g, oI "com/example/chainstat/chainstat/model/LinkGraph" sg_2 [(.int (0 : Int32)), (.null), (.null), (.null), (.null), (.null)]) :: (o, oI "com/example/chainstat/chainstat/io/LinkList" sg_1 [(.ref s), (.ref t), (.ref rs), (.ref rl), (.ref x), (.int (2 : Int32)), (.null), (.null), (.null)]) :: (s, oR "[I" (.array .int) [(.ref s0)]) :: (s0, oA .int (x0 :: x1 :: List.replicate 1022 0)) :: (t, oR "[I" (.array .int) [(.ref t0)]) :: (t0, oA .int (y0 :: y1 :: List.replicate 1022 0)) :: F) 1 9 313 #[.val (.ref g), .val (.int (8 : Int32)), .val (.ref s), .val (.ref t), .val (.null), .val (.int (2 : Int32)), .val (.int (1 : Int32)), .val (.int (1 : Int32)), .val (.long (1024 : Int64)), .second, .val (.ref a6), .val (.null), .val (.int (2 : Int32)), .val (.int (0 : Int32)), .val (.ref s0), .val (.ref t0), .val (.int (2 : Int32)), .val (.int (1 : Int32)), .val (.int x1), .val (.int y1), .unset, .unset, .unset, .unset, .unset, .unset] [] (Q_c_big g o x s s0 t t0 rs rl x0 x1 y0 y1 F)
  refine wp_iinc 1 #[.val (.ref g), .val (.int (8 : Int32)), .val (.ref s), .val (.ref t), .val (.null), .val (.int (2 : Int32)), .val (.int (1 : Int32)), .val (.int (1 : Int32)), .val (.long (1024 : Int64)), .second, .val (.ref a6), .val (.null), .val (.int (2 : Int32)), .val (.int (0 : Int32)), .val (.ref s0), .val (.ref t0), .val (.int (2 : Int32)), .val (.int (2 : Int32)), .val (.int x1), .val (.int y1), .unset, .unset, .unset, .unset, .unset, .unset] D_prog_54_m3_313 rfl rfl (by rw [show (1 : Int32) + (1 : Int32) = (2 : Int32) from by decide]; rfl) ?_
  refine wp_goto D_prog_54_m3_316 (pc'' := 178) ⟨by decide, by decide⟩ ?_
  refine wp_iload D_prog_54_m3_178 rfl ?_
  refine wp_iload D_prog_54_m3_180 rfl ?_
  refine wp_icmp_ge D_prog_54_m3_182 (pc'' := 319) ⟨by decide, by decide⟩ (fun h18 => ?_) (fun h18 => by exact absurd h18 (by decide))
  refine wp_iload D_prog_54_m3_319 rfl ?_
  refine wp_iload D_prog_54_m3_321 rfl ?_
  refine wp_isub D_prog_54_m3_323 ?_
  rw [show ((2 : Int32) - (2 : Int32)) = (0 : Int32) from by decide]
  refine wp_istore #[.val (.ref g), .val (.int (8 : Int32)), .val (.ref s), .val (.ref t), .val (.null), .val (.int (2 : Int32)), .val (.int (1 : Int32)), .val (.int (1 : Int32)), .val (.long (1024 : Int64)), .second, .val (.ref a6), .val (.null), .val (.int (0 : Int32)), .val (.int (0 : Int32)), .val (.ref s0), .val (.ref t0), .val (.int (2 : Int32)), .val (.int (2 : Int32)), .val (.int x1), .val (.int y1), .unset, .unset, .unset, .unset, .unset, .unset] D_prog_54_m3_324 rfl ?_
  refine wp_iinc 1 #[.val (.ref g), .val (.int (8 : Int32)), .val (.ref s), .val (.ref t), .val (.null), .val (.int (2 : Int32)), .val (.int (1 : Int32)), .val (.int (1 : Int32)), .val (.long (1024 : Int64)), .second, .val (.ref a6), .val (.null), .val (.int (0 : Int32)), .val (.int (1 : Int32)), .val (.ref s0), .val (.ref t0), .val (.int (2 : Int32)), .val (.int (2 : Int32)), .val (.int x1), .val (.int y1), .unset, .unset, .unset, .unset, .unset, .unset] D_prog_54_m3_326 rfl rfl (by rw [show (0 : Int32) + (1 : Int32) = (1 : Int32) from by decide]; rfl) ?_
  refine wp_goto D_prog_54_m3_329 (pc'' := 142) ⟨by decide, by decide⟩ ?_
  refine wp_iload D_prog_54_m3_142 rfl ?_
  refine wp_if_le D_prog_54_m3_144 (pc'' := 332) ⟨by decide, by decide⟩ (fun h19 => ?_) (fun h19 => by exact absurd h19 (by decide))
  refine wp_iconst 0 D_prog_54_m3_332 (by decide) ?_
  refine wp_istore #[.val (.ref g), .val (.int (8 : Int32)), .val (.ref s), .val (.ref t), .val (.null), .val (.int (2 : Int32)), .val (.int (1 : Int32)), .val (.int (1 : Int32)), .val (.long (1024 : Int64)), .second, .val (.ref a6), .val (.null), .val (.int (0 : Int32)), .val (.int (0 : Int32)), .val (.ref s0), .val (.ref t0), .val (.int (2 : Int32)), .val (.int (2 : Int32)), .val (.int x1), .val (.int y1), .unset, .unset, .unset, .unset, .unset, .unset] D_prog_54_m3_333 rfl ?_
  refine wp_iload D_prog_54_m3_335 rfl ?_
  refine wp_iload_n D_prog_54_m3_337 rfl ?_
  refine wp_icmp_ge D_prog_54_m3_338 (pc'' := 362) ⟨by decide, by decide⟩ (fun h20 => by exact absurd h20 (by decide)) (fun h20 => ?_)
  refine wp_aload D_prog_54_m3_341 rfl rfl ?_
  refine wp_iload D_prog_54_m3_343 rfl ?_
  refine wp_iconst 1 D_prog_54_m3_345 (by decide) ?_
  refine wp_iadd D_prog_54_m3_346 ?_
  rw [show ((0 : Int32) + (1 : Int32)) = (1 : Int32) from by decide]
  refine wp_dup2 D_prog_54_m3_347 rfl rfl ?_
  refine wp_iaload (i := 0) (1) D_prog_54_m3_348 rfl (by decide) (by decide) (own_gt _ _ (by simp only [fA1, fA0, len_inc, len_pref, len_shf, List.length_set, List.length_cons, List.length_nil, List.length_replicate]; omega)) ?_
  refine wp_aload D_prog_54_m3_349 rfl rfl ?_
  refine wp_iload D_prog_54_m3_351 rfl ?_
  refine wp_iaload (i := 0) (0) D_prog_54_m3_353 rfl (by decide) (by decide) (own_gt _ _ (by simp only [fA1, fA0, len_inc, len_pref, len_shf, List.length_set, List.length_cons, List.length_nil, List.length_replicate]; omega)) ?_
  refine wp_iadd D_prog_54_m3_354 ?_
  refine wp_iastore (i := 0) (1) D_prog_54_m3_355 rfl (by decide) (by decide) (by simp only [fA1, fA0, len_inc, len_pref, len_shf, List.length_set, List.length_cons, List.length_nil, List.length_replicate]; omega) ?_
  show Wp none l Z "com/example/chainstat/chainstat/model/LinkGraph" "<init>" prog_54_method_3_code 26 none ({ frames := 2, cells := 3, slots := 19, locals := 64 } : Room) ((a6, oA .int (pref (inc (inc [(0 : Int32), (0 : Int32), (0 : Int32), (0 : Int32), (0 : Int32), (0 : Int32), (0 : Int32), (0 : Int32), (0 : Int32)] (y0.toNatClampNeg + 1)) (y1.toNatClampNeg + 1)) 0)) :: (g, oI "com/example/chainstat/chainstat/model/LinkGraph" sg_2 [(.int (0 : Int32)), (.null), (.null), (.null), (.null), (.null)]) :: (o, oI "com/example/chainstat/chainstat/io/LinkList" sg_1 [(.ref s), (.ref t), (.ref rs), (.ref rl), (.ref x), (.int (2 : Int32)), (.null), (.null), (.null)]) :: (s, oR "[I" (.array .int) [(.ref s0)]) :: (s0, oA .int (x0 :: x1 :: List.replicate 1022 0)) :: (t, oR "[I" (.array .int) [(.ref t0)]) :: (t0, oA .int (y0 :: y1 :: List.replicate 1022 0)) :: F) 1 9 356 #[.val (.ref g), .val (.int (8 : Int32)), .val (.ref s), .val (.ref t), .val (.null), .val (.int (2 : Int32)), .val (.int (1 : Int32)), .val (.int (1 : Int32)), .val (.long (1024 : Int64)), .second, .val (.ref a6), .val (.null), .val (.int (0 : Int32)), .val (.int (0 : Int32)), .val (.ref s0), .val (.ref t0), .val (.int (2 : Int32)), .val (.int (2 : Int32)), .val (.int x1), .val (.int y1), .unset, .unset, .unset, .unset, .unset, .unset] [] (Q_c_big g o x s s0 t t0 rs rl x0 x1 y0 y1 F)
  refine wp_iinc 1 #[.val (.ref g), .val (.int (8 : Int32)), .val (.ref s), .val (.ref t), .val (.null), .val (.int (2 : Int32)), .val (.int (1 : Int32)), .val (.int (1 : Int32)), .val (.long (1024 : Int64)), .second, .val (.ref a6), .val (.null), .val (.int (0 : Int32)), .val (.int (1 : Int32)), .val (.ref s0), .val (.ref t0), .val (.int (2 : Int32)), .val (.int (2 : Int32)), .val (.int x1), .val (.int y1), .unset, .unset, .unset, .unset, .unset, .unset] D_prog_54_m3_356 rfl rfl (by rw [show (0 : Int32) + (1 : Int32) = (1 : Int32) from by decide]; rfl) ?_
  refine wp_goto D_prog_54_m3_359 (pc'' := 335) ⟨by decide, by decide⟩ ?_
  refine wp_iload D_prog_54_m3_335 rfl ?_
  refine wp_iload_n D_prog_54_m3_337 rfl ?_
  refine wp_icmp_ge D_prog_54_m3_338 (pc'' := 362) ⟨by decide, by decide⟩ (fun h21 => by exact absurd h21 (by decide)) (fun h21 => ?_)
  refine wp_aload D_prog_54_m3_341 rfl rfl ?_
  refine wp_iload D_prog_54_m3_343 rfl ?_
  refine wp_iconst 1 D_prog_54_m3_345 (by decide) ?_
  refine wp_iadd D_prog_54_m3_346 ?_
  rw [show ((1 : Int32) + (1 : Int32)) = (2 : Int32) from by decide]
  refine wp_dup2 D_prog_54_m3_347 rfl rfl ?_
  refine wp_iaload (i := 0) (2) D_prog_54_m3_348 rfl (by decide) (by decide) (own_gt _ _ (by simp only [fA1, fA0, len_inc, len_pref, len_shf, List.length_set, List.length_cons, List.length_nil, List.length_replicate]; omega)) ?_
  refine wp_aload D_prog_54_m3_349 rfl rfl ?_
  refine wp_iload D_prog_54_m3_351 rfl ?_
  refine wp_iaload (i := 0) (1) D_prog_54_m3_353 rfl (by decide) (by decide) (own_gt _ _ (by simp only [fA1, fA0, len_inc, len_pref, len_shf, List.length_set, List.length_cons, List.length_nil, List.length_replicate]; omega)) ?_
  refine wp_iadd D_prog_54_m3_354 ?_
  refine wp_iastore (i := 0) (2) D_prog_54_m3_355 rfl (by decide) (by decide) (by simp only [fA1, fA0, len_inc, len_pref, len_shf, List.length_set, List.length_cons, List.length_nil, List.length_replicate]; omega) ?_
  show Wp none l Z "com/example/chainstat/chainstat/model/LinkGraph" "<init>" prog_54_method_3_code 26 none ({ frames := 2, cells := 3, slots := 19, locals := 64 } : Room) ((a6, oA .int (pref (pref (inc (inc [(0 : Int32), (0 : Int32), (0 : Int32), (0 : Int32), (0 : Int32), (0 : Int32), (0 : Int32), (0 : Int32), (0 : Int32)] (y0.toNatClampNeg + 1)) (y1.toNatClampNeg + 1)) 0) 1)) :: (g, oI "com/example/chainstat/chainstat/model/LinkGraph" sg_2 [(.int (0 : Int32)), (.null), (.null), (.null), (.null), (.null)]) :: (o, oI "com/example/chainstat/chainstat/io/LinkList" sg_1 [(.ref s), (.ref t), (.ref rs), (.ref rl), (.ref x), (.int (2 : Int32)), (.null), (.null), (.null)]) :: (s, oR "[I" (.array .int) [(.ref s0)]) :: (s0, oA .int (x0 :: x1 :: List.replicate 1022 0)) :: (t, oR "[I" (.array .int) [(.ref t0)]) :: (t0, oA .int (y0 :: y1 :: List.replicate 1022 0)) :: F) 1 9 356 #[.val (.ref g), .val (.int (8 : Int32)), .val (.ref s), .val (.ref t), .val (.null), .val (.int (2 : Int32)), .val (.int (1 : Int32)), .val (.int (1 : Int32)), .val (.long (1024 : Int64)), .second, .val (.ref a6), .val (.null), .val (.int (0 : Int32)), .val (.int (1 : Int32)), .val (.ref s0), .val (.ref t0), .val (.int (2 : Int32)), .val (.int (2 : Int32)), .val (.int x1), .val (.int y1), .unset, .unset, .unset, .unset, .unset, .unset] [] (Q_c_big g o x s s0 t t0 rs rl x0 x1 y0 y1 F)
  refine wp_iinc 1 #[.val (.ref g), .val (.int (8 : Int32)), .val (.ref s), .val (.ref t), .val (.null), .val (.int (2 : Int32)), .val (.int (1 : Int32)), .val (.int (1 : Int32)), .val (.long (1024 : Int64)), .second, .val (.ref a6), .val (.null), .val (.int (0 : Int32)), .val (.int (2 : Int32)), .val (.ref s0), .val (.ref t0), .val (.int (2 : Int32)), .val (.int (2 : Int32)), .val (.int x1), .val (.int y1), .unset, .unset, .unset, .unset, .unset, .unset] D_prog_54_m3_356 rfl rfl (by rw [show (1 : Int32) + (1 : Int32) = (2 : Int32) from by decide]; rfl) ?_
  refine wp_goto D_prog_54_m3_359 (pc'' := 335) ⟨by decide, by decide⟩ ?_
  refine wp_iload D_prog_54_m3_335 rfl ?_
  refine wp_iload_n D_prog_54_m3_337 rfl ?_
  refine wp_icmp_ge D_prog_54_m3_338 (pc'' := 362) ⟨by decide, by decide⟩ (fun h22 => by exact absurd h22 (by decide)) (fun h22 => ?_)
  refine wp_aload D_prog_54_m3_341 rfl rfl ?_
  refine wp_iload D_prog_54_m3_343 rfl ?_
  refine wp_iconst 1 D_prog_54_m3_345 (by decide) ?_
  refine wp_iadd D_prog_54_m3_346 ?_
  rw [show ((2 : Int32) + (1 : Int32)) = (3 : Int32) from by decide]
  refine wp_dup2 D_prog_54_m3_347 rfl rfl ?_
  refine wp_iaload (i := 0) (3) D_prog_54_m3_348 rfl (by decide) (by decide) (own_gt _ _ (by simp only [fA1, fA0, len_inc, len_pref, len_shf, List.length_set, List.length_cons, List.length_nil, List.length_replicate]; omega)) ?_
  refine wp_aload D_prog_54_m3_349 rfl rfl ?_
  refine wp_iload D_prog_54_m3_351 rfl ?_
  refine wp_iaload (i := 0) (2) D_prog_54_m3_353 rfl (by decide) (by decide) (own_gt _ _ (by simp only [fA1, fA0, len_inc, len_pref, len_shf, List.length_set, List.length_cons, List.length_nil, List.length_replicate]; omega)) ?_
  refine wp_iadd D_prog_54_m3_354 ?_
  refine wp_iastore (i := 0) (3) D_prog_54_m3_355 rfl (by decide) (by decide) (by simp only [fA1, fA0, len_inc, len_pref, len_shf, List.length_set, List.length_cons, List.length_nil, List.length_replicate]; omega) ?_
  show Wp none l Z "com/example/chainstat/chainstat/model/LinkGraph" "<init>" prog_54_method_3_code 26 none ({ frames := 2, cells := 3, slots := 19, locals := 64 } : Room) ((a6, oA .int (pref (pref (pref (inc (inc [(0 : Int32), (0 : Int32), (0 : Int32), (0 : Int32), (0 : Int32), (0 : Int32), (0 : Int32), (0 : Int32), (0 : Int32)] (y0.toNatClampNeg + 1)) (y1.toNatClampNeg + 1)) 0) 1) 2)) :: (g, oI "com/example/chainstat/chainstat/model/LinkGraph" sg_2 [(.int (0 : Int32)), (.null), (.null), (.null), (.null), (.null)]) :: (o, oI "com/example/chainstat/chainstat/io/LinkList" sg_1 [(.ref s), (.ref t), (.ref rs), (.ref rl), (.ref x), (.int (2 : Int32)), (.null), (.null), (.null)]) :: (s, oR "[I" (.array .int) [(.ref s0)]) :: (s0, oA .int (x0 :: x1 :: List.replicate 1022 0)) :: (t, oR "[I" (.array .int) [(.ref t0)]) :: (t0, oA .int (y0 :: y1 :: List.replicate 1022 0)) :: F) 1 9 356 #[.val (.ref g), .val (.int (8 : Int32)), .val (.ref s), .val (.ref t), .val (.null), .val (.int (2 : Int32)), .val (.int (1 : Int32)), .val (.int (1 : Int32)), .val (.long (1024 : Int64)), .second, .val (.ref a6), .val (.null), .val (.int (0 : Int32)), .val (.int (2 : Int32)), .val (.ref s0), .val (.ref t0), .val (.int (2 : Int32)), .val (.int (2 : Int32)), .val (.int x1), .val (.int y1), .unset, .unset, .unset, .unset, .unset, .unset] [] (Q_c_big g o x s s0 t t0 rs rl x0 x1 y0 y1 F)
  refine wp_iinc 1 #[.val (.ref g), .val (.int (8 : Int32)), .val (.ref s), .val (.ref t), .val (.null), .val (.int (2 : Int32)), .val (.int (1 : Int32)), .val (.int (1 : Int32)), .val (.long (1024 : Int64)), .second, .val (.ref a6), .val (.null), .val (.int (0 : Int32)), .val (.int (3 : Int32)), .val (.ref s0), .val (.ref t0), .val (.int (2 : Int32)), .val (.int (2 : Int32)), .val (.int x1), .val (.int y1), .unset, .unset, .unset, .unset, .unset, .unset] D_prog_54_m3_356 rfl rfl (by rw [show (2 : Int32) + (1 : Int32) = (3 : Int32) from by decide]; rfl) ?_
  refine wp_goto D_prog_54_m3_359 (pc'' := 335) ⟨by decide, by decide⟩ ?_
  refine wp_iload D_prog_54_m3_335 rfl ?_
  refine wp_iload_n D_prog_54_m3_337 rfl ?_
  refine wp_icmp_ge D_prog_54_m3_338 (pc'' := 362) ⟨by decide, by decide⟩ (fun h23 => by exact absurd h23 (by decide)) (fun h23 => ?_)
  refine wp_aload D_prog_54_m3_341 rfl rfl ?_
  refine wp_iload D_prog_54_m3_343 rfl ?_
  refine wp_iconst 1 D_prog_54_m3_345 (by decide) ?_
  refine wp_iadd D_prog_54_m3_346 ?_
  rw [show ((3 : Int32) + (1 : Int32)) = (4 : Int32) from by decide]
  refine wp_dup2 D_prog_54_m3_347 rfl rfl ?_
  refine wp_iaload (i := 0) (4) D_prog_54_m3_348 rfl (by decide) (by decide) (own_gt _ _ (by simp only [fA1, fA0, len_inc, len_pref, len_shf, List.length_set, List.length_cons, List.length_nil, List.length_replicate]; omega)) ?_
  refine wp_aload D_prog_54_m3_349 rfl rfl ?_
  refine wp_iload D_prog_54_m3_351 rfl ?_
  refine wp_iaload (i := 0) (3) D_prog_54_m3_353 rfl (by decide) (by decide) (own_gt _ _ (by simp only [fA1, fA0, len_inc, len_pref, len_shf, List.length_set, List.length_cons, List.length_nil, List.length_replicate]; omega)) ?_
  refine wp_iadd D_prog_54_m3_354 ?_
  refine wp_iastore (i := 0) (4) D_prog_54_m3_355 rfl (by decide) (by decide) (by simp only [fA1, fA0, len_inc, len_pref, len_shf, List.length_set, List.length_cons, List.length_nil, List.length_replicate]; omega) ?_
  show Wp none l Z "com/example/chainstat/chainstat/model/LinkGraph" "<init>" prog_54_method_3_code 26 none ({ frames := 2, cells := 3, slots := 19, locals := 64 } : Room) ((a6, oA .int (pref (pref (pref (pref (inc (inc [(0 : Int32), (0 : Int32), (0 : Int32), (0 : Int32), (0 : Int32), (0 : Int32), (0 : Int32), (0 : Int32), (0 : Int32)] (y0.toNatClampNeg + 1)) (y1.toNatClampNeg + 1)) 0) 1) 2) 3)) :: (g, oI "com/example/chainstat/chainstat/model/LinkGraph" sg_2 [(.int (0 : Int32)), (.null), (.null), (.null), (.null), (.null)]) :: (o, oI "com/example/chainstat/chainstat/io/LinkList" sg_1 [(.ref s), (.ref t), (.ref rs), (.ref rl), (.ref x), (.int (2 : Int32)), (.null), (.null), (.null)]) :: (s, oR "[I" (.array .int) [(.ref s0)]) :: (s0, oA .int (x0 :: x1 :: List.replicate 1022 0)) :: (t, oR "[I" (.array .int) [(.ref t0)]) :: (t0, oA .int (y0 :: y1 :: List.replicate 1022 0)) :: F) 1 9 356 #[.val (.ref g), .val (.int (8 : Int32)), .val (.ref s), .val (.ref t), .val (.null), .val (.int (2 : Int32)), .val (.int (1 : Int32)), .val (.int (1 : Int32)), .val (.long (1024 : Int64)), .second, .val (.ref a6), .val (.null), .val (.int (0 : Int32)), .val (.int (3 : Int32)), .val (.ref s0), .val (.ref t0), .val (.int (2 : Int32)), .val (.int (2 : Int32)), .val (.int x1), .val (.int y1), .unset, .unset, .unset, .unset, .unset, .unset] [] (Q_c_big g o x s s0 t t0 rs rl x0 x1 y0 y1 F)
  refine wp_iinc 1 #[.val (.ref g), .val (.int (8 : Int32)), .val (.ref s), .val (.ref t), .val (.null), .val (.int (2 : Int32)), .val (.int (1 : Int32)), .val (.int (1 : Int32)), .val (.long (1024 : Int64)), .second, .val (.ref a6), .val (.null), .val (.int (0 : Int32)), .val (.int (4 : Int32)), .val (.ref s0), .val (.ref t0), .val (.int (2 : Int32)), .val (.int (2 : Int32)), .val (.int x1), .val (.int y1), .unset, .unset, .unset, .unset, .unset, .unset] D_prog_54_m3_356 rfl rfl (by rw [show (3 : Int32) + (1 : Int32) = (4 : Int32) from by decide]; rfl) ?_
  refine wp_goto D_prog_54_m3_359 (pc'' := 335) ⟨by decide, by decide⟩ ?_
  refine wp_iload D_prog_54_m3_335 rfl ?_
  refine wp_iload_n D_prog_54_m3_337 rfl ?_
  refine wp_icmp_ge D_prog_54_m3_338 (pc'' := 362) ⟨by decide, by decide⟩ (fun h24 => by exact absurd h24 (by decide)) (fun h24 => ?_)
  refine wp_aload D_prog_54_m3_341 rfl rfl ?_
  refine wp_iload D_prog_54_m3_343 rfl ?_
  refine wp_iconst 1 D_prog_54_m3_345 (by decide) ?_
  refine wp_iadd D_prog_54_m3_346 ?_
  rw [show ((4 : Int32) + (1 : Int32)) = (5 : Int32) from by decide]
  refine wp_dup2 D_prog_54_m3_347 rfl rfl ?_
  refine wp_iaload (i := 0) (5) D_prog_54_m3_348 rfl (by decide) (by decide) (own_gt _ _ (by simp only [fA1, fA0, len_inc, len_pref, len_shf, List.length_set, List.length_cons, List.length_nil, List.length_replicate]; omega)) ?_
  refine wp_aload D_prog_54_m3_349 rfl rfl ?_
  refine wp_iload D_prog_54_m3_351 rfl ?_
  refine wp_iaload (i := 0) (4) D_prog_54_m3_353 rfl (by decide) (by decide) (own_gt _ _ (by simp only [fA1, fA0, len_inc, len_pref, len_shf, List.length_set, List.length_cons, List.length_nil, List.length_replicate]; omega)) ?_
  refine wp_iadd D_prog_54_m3_354 ?_
  refine wp_iastore (i := 0) (5) D_prog_54_m3_355 rfl (by decide) (by decide) (by simp only [fA1, fA0, len_inc, len_pref, len_shf, List.length_set, List.length_cons, List.length_nil, List.length_replicate]; omega) ?_
  show Wp none l Z "com/example/chainstat/chainstat/model/LinkGraph" "<init>" prog_54_method_3_code 26 none ({ frames := 2, cells := 3, slots := 19, locals := 64 } : Room) ((a6, oA .int (pref (pref (pref (pref (pref (inc (inc [(0 : Int32), (0 : Int32), (0 : Int32), (0 : Int32), (0 : Int32), (0 : Int32), (0 : Int32), (0 : Int32), (0 : Int32)] (y0.toNatClampNeg + 1)) (y1.toNatClampNeg + 1)) 0) 1) 2) 3) 4)) :: (g, oI "com/example/chainstat/chainstat/model/LinkGraph" sg_2 [(.int (0 : Int32)), (.null), (.null), (.null), (.null), (.null)]) :: (o, oI "com/example/chainstat/chainstat/io/LinkList" sg_1 [(.ref s), (.ref t), (.ref rs), (.ref rl), (.ref x), (.int (2 : Int32)), (.null), (.null), (.null)]) :: (s, oR "[I" (.array .int) [(.ref s0)]) :: (s0, oA .int (x0 :: x1 :: List.replicate 1022 0)) :: (t, oR "[I" (.array .int) [(.ref t0)]) :: (t0, oA .int (y0 :: y1 :: List.replicate 1022 0)) :: F) 1 9 356 #[.val (.ref g), .val (.int (8 : Int32)), .val (.ref s), .val (.ref t), .val (.null), .val (.int (2 : Int32)), .val (.int (1 : Int32)), .val (.int (1 : Int32)), .val (.long (1024 : Int64)), .second, .val (.ref a6), .val (.null), .val (.int (0 : Int32)), .val (.int (4 : Int32)), .val (.ref s0), .val (.ref t0), .val (.int (2 : Int32)), .val (.int (2 : Int32)), .val (.int x1), .val (.int y1), .unset, .unset, .unset, .unset, .unset, .unset] [] (Q_c_big g o x s s0 t t0 rs rl x0 x1 y0 y1 F)
  refine wp_iinc 1 #[.val (.ref g), .val (.int (8 : Int32)), .val (.ref s), .val (.ref t), .val (.null), .val (.int (2 : Int32)), .val (.int (1 : Int32)), .val (.int (1 : Int32)), .val (.long (1024 : Int64)), .second, .val (.ref a6), .val (.null), .val (.int (0 : Int32)), .val (.int (5 : Int32)), .val (.ref s0), .val (.ref t0), .val (.int (2 : Int32)), .val (.int (2 : Int32)), .val (.int x1), .val (.int y1), .unset, .unset, .unset, .unset, .unset, .unset] D_prog_54_m3_356 rfl rfl (by rw [show (4 : Int32) + (1 : Int32) = (5 : Int32) from by decide]; rfl) ?_
  refine wp_goto D_prog_54_m3_359 (pc'' := 335) ⟨by decide, by decide⟩ ?_
  refine wp_iload D_prog_54_m3_335 rfl ?_
  refine wp_iload_n D_prog_54_m3_337 rfl ?_
  refine wp_icmp_ge D_prog_54_m3_338 (pc'' := 362) ⟨by decide, by decide⟩ (fun h25 => by exact absurd h25 (by decide)) (fun h25 => ?_)
  refine wp_aload D_prog_54_m3_341 rfl rfl ?_
  refine wp_iload D_prog_54_m3_343 rfl ?_
  refine wp_iconst 1 D_prog_54_m3_345 (by decide) ?_
  refine wp_iadd D_prog_54_m3_346 ?_
  rw [show ((5 : Int32) + (1 : Int32)) = (6 : Int32) from by decide]
  refine wp_dup2 D_prog_54_m3_347 rfl rfl ?_
  refine wp_iaload (i := 0) (6) D_prog_54_m3_348 rfl (by decide) (by decide) (own_gt _ _ (by simp only [fA1, fA0, len_inc, len_pref, len_shf, List.length_set, List.length_cons, List.length_nil, List.length_replicate]; omega)) ?_
  refine wp_aload D_prog_54_m3_349 rfl rfl ?_
  refine wp_iload D_prog_54_m3_351 rfl ?_
  refine wp_iaload (i := 0) (5) D_prog_54_m3_353 rfl (by decide) (by decide) (own_gt _ _ (by simp only [fA1, fA0, len_inc, len_pref, len_shf, List.length_set, List.length_cons, List.length_nil, List.length_replicate]; omega)) ?_
  refine wp_iadd D_prog_54_m3_354 ?_
  refine wp_iastore (i := 0) (6) D_prog_54_m3_355 rfl (by decide) (by decide) (by simp only [fA1, fA0, len_inc, len_pref, len_shf, List.length_set, List.length_cons, List.length_nil, List.length_replicate]; omega) ?_
  show Wp none l Z "com/example/chainstat/chainstat/model/LinkGraph" "<init>" prog_54_method_3_code 26 none ({ frames := 2, cells := 3, slots := 19, locals := 64 } : Room) ((a6, oA .int (pref (pref (pref (pref (pref (pref (inc (inc [(0 : Int32), (0 : Int32), (0 : Int32), (0 : Int32), (0 : Int32), (0 : Int32), (0 : Int32), (0 : Int32), (0 : Int32)] (y0.toNatClampNeg + 1)) (y1.toNatClampNeg + 1)) 0) 1) 2) 3) 4) 5)) :: (g, oI "com/example/chainstat/chainstat/model/LinkGraph" sg_2 [(.int (0 : Int32)), (.null), (.null), (.null), (.null), (.null)]) :: (o, oI "com/example/chainstat/chainstat/io/LinkList" sg_1 [(.ref s), (.ref t), (.ref rs), (.ref rl), (.ref x), (.int (2 : Int32)), (.null), (.null), (.null)]) :: (s, oR "[I" (.array .int) [(.ref s0)]) :: (s0, oA .int (x0 :: x1 :: List.replicate 1022 0)) :: (t, oR "[I" (.array .int) [(.ref t0)]) :: (t0, oA .int (y0 :: y1 :: List.replicate 1022 0)) :: F) 1 9 356 #[.val (.ref g), .val (.int (8 : Int32)), .val (.ref s), .val (.ref t), .val (.null), .val (.int (2 : Int32)), .val (.int (1 : Int32)), .val (.int (1 : Int32)), .val (.long (1024 : Int64)), .second, .val (.ref a6), .val (.null), .val (.int (0 : Int32)), .val (.int (5 : Int32)), .val (.ref s0), .val (.ref t0), .val (.int (2 : Int32)), .val (.int (2 : Int32)), .val (.int x1), .val (.int y1), .unset, .unset, .unset, .unset, .unset, .unset] [] (Q_c_big g o x s s0 t t0 rs rl x0 x1 y0 y1 F)
  refine wp_iinc 1 #[.val (.ref g), .val (.int (8 : Int32)), .val (.ref s), .val (.ref t), .val (.null), .val (.int (2 : Int32)), .val (.int (1 : Int32)), .val (.int (1 : Int32)), .val (.long (1024 : Int64)), .second, .val (.ref a6), .val (.null), .val (.int (0 : Int32)), .val (.int (6 : Int32)), .val (.ref s0), .val (.ref t0), .val (.int (2 : Int32)), .val (.int (2 : Int32)), .val (.int x1), .val (.int y1), .unset, .unset, .unset, .unset, .unset, .unset] D_prog_54_m3_356 rfl rfl (by rw [show (5 : Int32) + (1 : Int32) = (6 : Int32) from by decide]; rfl) ?_
  refine wp_goto D_prog_54_m3_359 (pc'' := 335) ⟨by decide, by decide⟩ ?_
  refine wp_iload D_prog_54_m3_335 rfl ?_
  refine wp_iload_n D_prog_54_m3_337 rfl ?_
  refine wp_icmp_ge D_prog_54_m3_338 (pc'' := 362) ⟨by decide, by decide⟩ (fun h26 => by exact absurd h26 (by decide)) (fun h26 => ?_)
  refine wp_aload D_prog_54_m3_341 rfl rfl ?_
  refine wp_iload D_prog_54_m3_343 rfl ?_
  refine wp_iconst 1 D_prog_54_m3_345 (by decide) ?_
  refine wp_iadd D_prog_54_m3_346 ?_
  rw [show ((6 : Int32) + (1 : Int32)) = (7 : Int32) from by decide]
  refine wp_dup2 D_prog_54_m3_347 rfl rfl ?_
  refine wp_iaload (i := 0) (7) D_prog_54_m3_348 rfl (by decide) (by decide) (own_gt _ _ (by simp only [fA1, fA0, len_inc, len_pref, len_shf, List.length_set, List.length_cons, List.length_nil, List.length_replicate]; omega)) ?_
  refine wp_aload D_prog_54_m3_349 rfl rfl ?_
  refine wp_iload D_prog_54_m3_351 rfl ?_
  refine wp_iaload (i := 0) (6) D_prog_54_m3_353 rfl (by decide) (by decide) (own_gt _ _ (by simp only [fA1, fA0, len_inc, len_pref, len_shf, List.length_set, List.length_cons, List.length_nil, List.length_replicate]; omega)) ?_
  refine wp_iadd D_prog_54_m3_354 ?_
  refine wp_iastore (i := 0) (7) D_prog_54_m3_355 rfl (by decide) (by decide) (by simp only [fA1, fA0, len_inc, len_pref, len_shf, List.length_set, List.length_cons, List.length_nil, List.length_replicate]; omega) ?_
  show Wp none l Z "com/example/chainstat/chainstat/model/LinkGraph" "<init>" prog_54_method_3_code 26 none ({ frames := 2, cells := 3, slots := 19, locals := 64 } : Room) ((a6, oA .int (pref (pref (pref (pref (pref (pref (pref (inc (inc [(0 : Int32), (0 : Int32), (0 : Int32), (0 : Int32), (0 : Int32), (0 : Int32), (0 : Int32), (0 : Int32), (0 : Int32)] (y0.toNatClampNeg + 1)) (y1.toNatClampNeg + 1)) 0) 1) 2) 3) 4) 5) 6)) :: (g, oI "com/example/chainstat/chainstat/model/LinkGraph" sg_2 [(.int (0 : Int32)), (.null), (.null), (.null), (.null), (.null)]) :: (o, oI "com/example/chainstat/chainstat/io/LinkList" sg_1 [(.ref s), (.ref t), (.ref rs), (.ref rl), (.ref x), (.int (2 : Int32)), (.null), (.null), (.null)]) :: (s, oR "[I" (.array .int) [(.ref s0)]) :: (s0, oA .int (x0 :: x1 :: List.replicate 1022 0)) :: (t, oR "[I" (.array .int) [(.ref t0)]) :: (t0, oA .int (y0 :: y1 :: List.replicate 1022 0)) :: F) 1 9 356 #[.val (.ref g), .val (.int (8 : Int32)), .val (.ref s), .val (.ref t), .val (.null), .val (.int (2 : Int32)), .val (.int (1 : Int32)), .val (.int (1 : Int32)), .val (.long (1024 : Int64)), .second, .val (.ref a6), .val (.null), .val (.int (0 : Int32)), .val (.int (6 : Int32)), .val (.ref s0), .val (.ref t0), .val (.int (2 : Int32)), .val (.int (2 : Int32)), .val (.int x1), .val (.int y1), .unset, .unset, .unset, .unset, .unset, .unset] [] (Q_c_big g o x s s0 t t0 rs rl x0 x1 y0 y1 F)
  refine wp_iinc 1 #[.val (.ref g), .val (.int (8 : Int32)), .val (.ref s), .val (.ref t), .val (.null), .val (.int (2 : Int32)), .val (.int (1 : Int32)), .val (.int (1 : Int32)), .val (.long (1024 : Int64)), .second, .val (.ref a6), .val (.null), .val (.int (0 : Int32)), .val (.int (7 : Int32)), .val (.ref s0), .val (.ref t0), .val (.int (2 : Int32)), .val (.int (2 : Int32)), .val (.int x1), .val (.int y1), .unset, .unset, .unset, .unset, .unset, .unset] D_prog_54_m3_356 rfl rfl (by rw [show (6 : Int32) + (1 : Int32) = (7 : Int32) from by decide]; rfl) ?_
  refine wp_goto D_prog_54_m3_359 (pc'' := 335) ⟨by decide, by decide⟩ ?_
  refine wp_iload D_prog_54_m3_335 rfl ?_
  refine wp_iload_n D_prog_54_m3_337 rfl ?_
  refine wp_icmp_ge D_prog_54_m3_338 (pc'' := 362) ⟨by decide, by decide⟩ (fun h27 => by exact absurd h27 (by decide)) (fun h27 => ?_)
  refine wp_aload D_prog_54_m3_341 rfl rfl ?_
  refine wp_iload D_prog_54_m3_343 rfl ?_
  refine wp_iconst 1 D_prog_54_m3_345 (by decide) ?_
  refine wp_iadd D_prog_54_m3_346 ?_
  rw [show ((7 : Int32) + (1 : Int32)) = (8 : Int32) from by decide]
  refine wp_dup2 D_prog_54_m3_347 rfl rfl ?_
  refine wp_iaload (i := 0) (8) D_prog_54_m3_348 rfl (by decide) (by decide) (own_gt _ _ (by simp only [fA1, fA0, len_inc, len_pref, len_shf, List.length_set, List.length_cons, List.length_nil, List.length_replicate]; omega)) ?_
  refine wp_aload D_prog_54_m3_349 rfl rfl ?_
  refine wp_iload D_prog_54_m3_351 rfl ?_
  refine wp_iaload (i := 0) (7) D_prog_54_m3_353 rfl (by decide) (by decide) (own_gt _ _ (by simp only [fA1, fA0, len_inc, len_pref, len_shf, List.length_set, List.length_cons, List.length_nil, List.length_replicate]; omega)) ?_
  refine wp_iadd D_prog_54_m3_354 ?_
  refine wp_iastore (i := 0) (8) D_prog_54_m3_355 rfl (by decide) (by decide) (by simp only [fA1, fA0, len_inc, len_pref, len_shf, List.length_set, List.length_cons, List.length_nil, List.length_replicate]; omega) ?_
  show Wp none l Z "com/example/chainstat/chainstat/model/LinkGraph" "<init>" prog_54_method_3_code 26 none ({ frames := 2, cells := 3, slots := 19, locals := 64 } : Room) ((a6, oA .int (pref (pref (pref (pref (pref (pref (pref (pref (inc (inc [(0 : Int32), (0 : Int32), (0 : Int32), (0 : Int32), (0 : Int32), (0 : Int32), (0 : Int32), (0 : Int32), (0 : Int32)] (y0.toNatClampNeg + 1)) (y1.toNatClampNeg + 1)) 0) 1) 2) 3) 4) 5) 6) 7)) :: (g, oI "com/example/chainstat/chainstat/model/LinkGraph" sg_2 [(.int (0 : Int32)), (.null), (.null), (.null), (.null), (.null)]) :: (o, oI "com/example/chainstat/chainstat/io/LinkList" sg_1 [(.ref s), (.ref t), (.ref rs), (.ref rl), (.ref x), (.int (2 : Int32)), (.null), (.null), (.null)]) :: (s, oR "[I" (.array .int) [(.ref s0)]) :: (s0, oA .int (x0 :: x1 :: List.replicate 1022 0)) :: (t, oR "[I" (.array .int) [(.ref t0)]) :: (t0, oA .int (y0 :: y1 :: List.replicate 1022 0)) :: F) 1 9 356 #[.val (.ref g), .val (.int (8 : Int32)), .val (.ref s), .val (.ref t), .val (.null), .val (.int (2 : Int32)), .val (.int (1 : Int32)), .val (.int (1 : Int32)), .val (.long (1024 : Int64)), .second, .val (.ref a6), .val (.null), .val (.int (0 : Int32)), .val (.int (7 : Int32)), .val (.ref s0), .val (.ref t0), .val (.int (2 : Int32)), .val (.int (2 : Int32)), .val (.int x1), .val (.int y1), .unset, .unset, .unset, .unset, .unset, .unset] [] (Q_c_big g o x s s0 t t0 rs rl x0 x1 y0 y1 F)
  refine wp_iinc 1 #[.val (.ref g), .val (.int (8 : Int32)), .val (.ref s), .val (.ref t), .val (.null), .val (.int (2 : Int32)), .val (.int (1 : Int32)), .val (.int (1 : Int32)), .val (.long (1024 : Int64)), .second, .val (.ref a6), .val (.null), .val (.int (0 : Int32)), .val (.int (8 : Int32)), .val (.ref s0), .val (.ref t0), .val (.int (2 : Int32)), .val (.int (2 : Int32)), .val (.int x1), .val (.int y1), .unset, .unset, .unset, .unset, .unset, .unset] D_prog_54_m3_356 rfl rfl (by rw [show (7 : Int32) + (1 : Int32) = (8 : Int32) from by decide]; rfl) ?_
  refine wp_goto D_prog_54_m3_359 (pc'' := 335) ⟨by decide, by decide⟩ ?_
  refine wp_iload D_prog_54_m3_335 rfl ?_
  refine wp_iload_n D_prog_54_m3_337 rfl ?_
  refine wp_icmp_ge D_prog_54_m3_338 (pc'' := 362) ⟨by decide, by decide⟩ (fun h28 => ?_) (fun h28 => by exact absurd h28 (by decide))
  refine wp_iload D_prog_54_m3_362 rfl ?_
  refine wp_newarrayI (n := (2 : Int32)) (2) 2 D_prog_54_m3_364 rfl rfl rfl (hw _ (List.mem_of_getElem? (i := 0) rfl)) (by decide) (by decide) (by decide) (by decide) (by decide) (by decide) ?_
  intro a29
  show Wp none l Z "com/example/chainstat/chainstat/model/LinkGraph" "<init>" prog_54_method_3_code 26 none ({ frames := 2, cells := 3, slots := 19, locals := 64 } : Room) ((a29, oA .int [(0 : Int32), (0 : Int32)]) :: (a6, oA .int (pref (pref (pref (pref (pref (pref (pref (pref (inc (inc [(0 : Int32), (0 : Int32), (0 : Int32), (0 : Int32), (0 : Int32), (0 : Int32), (0 : Int32), (0 : Int32), (0 : Int32)] (y0.toNatClampNeg + 1)) (y1.toNatClampNeg + 1)) 0) 1) 2) 3) 4) 5) 6) 7)) :: (g, oI "com/example/chainstat/chainstat/model/LinkGraph" sg_2 [(.int (0 : Int32)), (.null), (.null), (.null), (.null), (.null)]) :: (o, oI "com/example/chainstat/chainstat/io/LinkList" sg_1 [(.ref s), (.ref t), (.ref rs), (.ref rl), (.ref x), (.int (2 : Int32)), (.null), (.null), (.null)]) :: (s, oR "[I" (.array .int) [(.ref s0)]) :: (s0, oA .int (x0 :: x1 :: List.replicate 1022 0)) :: (t, oR "[I" (.array .int) [(.ref t0)]) :: (t0, oA .int (y0 :: y1 :: List.replicate 1022 0)) :: F) 2 11 366 #[.val (.ref g), .val (.int (8 : Int32)), .val (.ref s), .val (.ref t), .val (.null), .val (.int (2 : Int32)), .val (.int (1 : Int32)), .val (.int (1 : Int32)), .val (.long (1024 : Int64)), .second, .val (.ref a6), .val (.null), .val (.int (0 : Int32)), .val (.int (8 : Int32)), .val (.ref s0), .val (.ref t0), .val (.int (2 : Int32)), .val (.int (2 : Int32)), .val (.int x1), .val (.int y1), .unset, .unset, .unset, .unset, .unset, .unset] [(.ref a29)] (Q_c_big g o x s s0 t t0 rs rl x0 x1 y0 y1 F)
  refine wp_astore #[.val (.ref g), .val (.int (8 : Int32)), .val (.ref s), .val (.ref t), .val (.null), .val (.int (2 : Int32)), .val (.int (1 : Int32)), .val (.int (1 : Int32)), .val (.long (1024 : Int64)), .second, .val (.ref a6), .val (.null), .val (.int (0 : Int32)), .val (.ref a29), .val (.ref s0), .val (.ref t0), .val (.int (2 : Int32)), .val (.int (2 : Int32)), .val (.int x1), .val (.int y1), .unset, .unset, .unset, .unset, .unset, .unset] D_prog_54_m3_366 rfl rfl ?_
  refine wp_aload D_prog_54_m3_368 rfl rfl ?_
  refine wp_ifnonnull_n D_prog_54_m3_370 ?_
  refine wp_aconst_null D_prog_54_m3_373 ?_
  refine wp_goto D_prog_54_m3_374 (pc'' := 381) ⟨by decide, by decide⟩ ?_
  refine wp_astore #[.val (.ref g), .val (.int (8 : Int32)), .val (.ref s), .val (.ref t), .val (.null), .val (.int (2 : Int32)), .val (.int (1 : Int32)), .val (.int (1 : Int32)), .val (.long (1024 : Int64)), .second, .val (.ref a6), .val (.null), .val (.int (0 : Int32)), .val (.ref a29), .val (.null), .val (.ref t0), .val (.int (2 : Int32)), .val (.int (2 : Int32)), .val (.int x1), .val (.int y1), .unset, .unset, .unset, .unset, .unset, .unset] D_prog_54_m3_381 rfl rfl ?_
  refine wp_aload D_prog_54_m3_383 rfl rfl ?_
  refine wp_ifnonnull_n D_prog_54_m3_385 ?_
  refine wp_iload_n D_prog_54_m3_388 rfl ?_
  refine wp_newarrayI (n := (8 : Int32)) (8) 8 D_prog_54_m3_389 rfl rfl rfl (hw _ (List.mem_of_getElem? (i := 0) rfl)) (by decide) (by decide) (by decide) (by decide) (by decide) (by decide) ?_
  intro a30
  show Wp none l Z "com/example/chainstat/chainstat/model/LinkGraph" "<init>" prog_54_method_3_code 26 none ({ frames := 2, cells := 3, slots := 19, locals := 64 } : Room) ((a30, oA .int [(0 : Int32), (0 : Int32), (0 : Int32), (0 : Int32), (0 : Int32), (0 : Int32), (0 : Int32), (0 : Int32)]) :: (a29, oA .int [(0 : Int32), (0 : Int32)]) :: (a6, oA .int (pref (pref (pref (pref (pref (pref (pref (pref (inc (inc [(0 : Int32), (0 : Int32), (0 : Int32), (0 : Int32), (0 : Int32), (0 : Int32), (0 : Int32), (0 : Int32), (0 : Int32)] (y0.toNatClampNeg + 1)) (y1.toNatClampNeg + 1)) 0) 1) 2) 3) 4) 5) 6) 7)) :: (g, oI "com/example/chainstat/chainstat/model/LinkGraph" sg_2 [(.int (0 : Int32)), (.null), (.null), (.null), (.null), (.null)]) :: (o, oI "com/example/chainstat/chainstat/io/LinkList" sg_1 [(.ref s), (.ref t), (.ref rs), (.ref rl), (.ref x), (.int (2 : Int32)), (.null), (.null), (.null)]) :: (s, oR "[I" (.array .int) [(.ref s0)]) :: (s0, oA .int (x0 :: x1 :: List.replicate 1022 0)) :: (t, oR "[I" (.array .int) [(.ref t0)]) :: (t0, oA .int (y0 :: y1 :: List.replicate 1022 0)) :: F) 3 19 391 #[.val (.ref g), .val (.int (8 : Int32)), .val (.ref s), .val (.ref t), .val (.null), .val (.int (2 : Int32)), .val (.int (1 : Int32)), .val (.int (1 : Int32)), .val (.long (1024 : Int64)), .second, .val (.ref a6), .val (.null), .val (.int (0 : Int32)), .val (.ref a29), .val (.null), .val (.ref t0), .val (.int (2 : Int32)), .val (.int (2 : Int32)), .val (.int x1), .val (.int y1), .unset, .unset, .unset, .unset, .unset, .unset] [(.ref a30)] (Q_c_big g o x s s0 t t0 rs rl x0 x1 y0 y1 F)
  refine wp_goto D_prog_54_m3_391 (pc'' := 395) ⟨by decide, by decide⟩ ?_
  refine wp_astore #[.val (.ref g), .val (.int (8 : Int32)), .val (.ref s), .val (.ref t), .val (.null), .val (.int (2 : Int32)), .val (.int (1 : Int32)), .val (.int (1 : Int32)), .val (.long (1024 : Int64)), .second, .val (.ref a6), .val (.null), .val (.int (0 : Int32)), .val (.ref a29), .val (.null), .val (.ref a30), .val (.int (2 : Int32)), .val (.int (2 : Int32)), .val (.int x1), .val (.int y1), .unset, .unset, .unset, .unset, .unset, .unset] D_prog_54_m3_395 rfl rfl ?_
  refine wp_aload D_prog_54_m3_397 rfl rfl ?_
  refine wp_ifnonnull_n D_prog_54_m3_399 ?_
  refine wp_aconst_null D_prog_54_m3_402 ?_
  refine wp_goto D_prog_54_m3_403 (pc'' := 409) ⟨by decide, by decide⟩ ?_
  refine wp_astore #[.val (.ref g), .val (.int (8 : Int32)), .val (.ref s), .val (.ref t), .val (.null), .val (.int (2 : Int32)), .val (.int (1 : Int32)), .val (.int (1 : Int32)), .val (.long (1024 : Int64)), .second, .val (.ref a6), .val (.null), .val (.int (0 : Int32)), .val (.ref a29), .val (.null), .val (.ref a30), .val (.null), .val (.int (2 : Int32)), .val (.int x1), .val (.int y1), .unset, .unset, .unset, .unset, .unset, .unset] D_prog_54_m3_409 rfl rfl ?_
  refine wp_iload D_prog_54_m3_411 rfl ?_
  refine wp_istore #[.val (.ref g), .val (.int (8 : Int32)), .val (.ref s), .val (.ref t), .val (.null), .val (.int (2 : Int32)), .val (.int (1 : Int32)), .val (.int (1 : Int32)), .val (.long (1024 : Int64)), .second, .val (.ref a6), .val (.null), .val (.int (2 : Int32)), .val (.ref a29), .val (.null), .val (.ref a30), .val (.null), .val (.int (2 : Int32)), .val (.int x1), .val (.int y1), .unset, .unset, .unset, .unset, .unset, .unset] D_prog_54_m3_413 rfl ?_
  refine wp_iconst 0 D_prog_54_m3_415 (by decide) ?_
  refine wp_istore #[.val (.ref g), .val (.int (8 : Int32)), .val (.ref s), .val (.ref t), .val (.null), .val (.int (2 : Int32)), .val (.int (1 : Int32)), .val (.int (1 : Int32)), .val (.long (1024 : Int64)), .second, .val (.ref a6), .val (.null), .val (.int (2 : Int32)), .val (.ref a29), .val (.null), .val (.ref a30), .val (.null), .val (.int (0 : Int32)), .val (.int x1), .val (.int y1), .unset, .unset, .unset, .unset, .unset, .unset] D_prog_54_m3_416 rfl ?_
  refine wp_iload D_prog_54_m3_418 rfl ?_
  refine wp_if_le D_prog_54_m3_420 (pc'' := 577) ⟨by decide, by decide⟩ (fun h31 => by exact absurd h31 (by decide)) (fun h31 => ?_)
  refine wp_aload_n D_prog_54_m3_423 rfl rfl ?_
  refine wp_iload D_prog_54_m3_424 rfl ?_
  refine wp_aaload (i := 5) (0) D_prog_54_m3_426 rfl rfl (by decide) (by decide) rfl ?_
  refine wp_astore #[.val (.ref g), .val (.int (8 : Int32)), .val (.ref s), .val (.ref t), .val (.null), .val (.int (2 : Int32)), .val (.int (1 : Int32)), .val (.int (1 : Int32)), .val (.long (1024 : Int64)), .second, .val (.ref a6), .val (.null), .val (.int (2 : Int32)), .val (.ref a29), .val (.null), .val (.ref a30), .val (.null), .val (.int (0 : Int32)), .val (.ref s0), .val (.int y1), .unset, .unset, .unset, .unset, .unset, .unset] D_prog_54_m3_427 rfl rfl ?_
  refine wp_aload_n D_prog_54_m3_429 rfl rfl ?_
  refine wp_iload D_prog_54_m3_430 rfl ?_
  refine wp_aaload (i := 7) (0) D_prog_54_m3_432 rfl rfl (by decide) (by decide) rfl ?_
  refine wp_astore #[.val (.ref g), .val (.int (8 : Int32)), .val (.ref s), .val (.ref t), .val (.null), .val (.int (2 : Int32)), .val (.int (1 : Int32)), .val (.int (1 : Int32)), .val (.long (1024 : Int64)), .second, .val (.ref a6), .val (.null), .val (.int (2 : Int32)), .val (.ref a29), .val (.null), .val (.ref a30), .val (.null), .val (.int (0 : Int32)), .val (.ref s0), .val (.ref t0), .unset, .unset, .unset, .unset, .unset, .unset] D_prog_54_m3_433 rfl rfl ?_
  refine wp_iload D_prog_54_m3_435 rfl ?_
  refine wp_aload_n D_prog_54_m3_437 rfl rfl ?_
  refine wp_aload_n D_prog_54_m3_438 rfl rfl ?_
  refine wp_aload D_prog_54_m3_439 rfl rfl ?_
  refine wp_iload D_prog_54_m3_441 rfl ?_
  refine wp_callS (c_bl3 l Z a0 hw a30 [(0 : Int32), (0 : Int32), (0 : Int32), (0 : Int32), (0 : Int32), (0 : Int32), (0 : Int32), (0 : Int32)] a29 [(0 : Int32), (0 : Int32)] a6 (pref (pref (pref (pref (pref (pref (pref (pref (inc (inc [(0 : Int32), (0 : Int32), (0 : Int32), (0 : Int32), (0 : Int32), (0 : Int32), (0 : Int32), (0 : Int32), (0 : Int32)] (y0.toNatClampNeg + 1)) (y1.toNatClampNeg + 1)) 0) 1) 2) 3) 4) 5) 6) 7) g o x s s0 t t0 rs rl x0 x1 y0 y1 F) D_prog_54_m3_443 (hw _ (List.mem_of_getElem? (i := 74) rfl)) (hw _ (List.mem_of_getElem? (i := 75) rfl)) (hw _ (List.mem_of_getElem? (i := 62) rfl)) (hw _ (List.mem_of_getElem? (i := 76) rfl)) (by decide) pd_6 rfl rfl rfl (Nat.le_of_ble_eq_true rfl) (Nat.le_of_ble_eq_true rfl) (Nat.le_of_ble_eq_true rfl) (Nat.le_of_ble_eq_true rfl) ?_
  rintro _ _ ⟨rfl, rfl⟩
  show Wp none l Z "com/example/chainstat/chainstat/model/LinkGraph" "<init>" prog_54_method_3_code 26 none ({ frames := 2, cells := 3, slots := 19, locals := 64 } : Room) ((a30, oA .int [(0 : Int32), (0 : Int32), (0 : Int32), (0 : Int32), (0 : Int32), (0 : Int32), (0 : Int32), (0 : Int32)]) :: (a29, oA .int [(0 : Int32), (0 : Int32)]) :: (a6, oA .int (pref (pref (pref (pref (pref (pref (pref (pref (inc (inc [(0 : Int32), (0 : Int32), (0 : Int32), (0 : Int32), (0 : Int32), (0 : Int32), (0 : Int32), (0 : Int32), (0 : Int32)] (y0.toNatClampNeg + 1)) (y1.toNatClampNeg + 1)) 0) 1) 2) 3) 4) 5) 6) 7)) :: (g, oI "com/example/chainstat/chainstat/model/LinkGraph" sg_2 [(.int (0 : Int32)), (.null), (.null), (.null), (.null), (.null)]) :: (o, oI "com/example/chainstat/chainstat/io/LinkList" sg_1 [(.ref s), (.ref t), (.ref rs), (.ref rl), (.ref x), (.int (2 : Int32)), (.null), (.null), (.null)]) :: (s, oR "[I" (.array .int) [(.ref s0)]) :: (s0, oA .int (x0 :: x1 :: List.replicate 1022 0)) :: (t, oR "[I" (.array .int) [(.ref t0)]) :: (t0, oA .int (y0 :: y1 :: List.replicate 1022 0)) :: F) 3 19 446 #[.val (.ref g), .val (.int (8 : Int32)), .val (.ref s), .val (.ref t), .val (.null), .val (.int (2 : Int32)), .val (.int (1 : Int32)), .val (.int (1 : Int32)), .val (.long (1024 : Int64)), .second, .val (.ref a6), .val (.null), .val (.int (2 : Int32)), .val (.ref a29), .val (.null), .val (.ref a30), .val (.null), .val (.int (0 : Int32)), .val (.ref s0), .val (.ref t0), .unset, .unset, .unset, .unset, .unset, .unset] [(.int (1024 : Int32)), (.int (2 : Int32))] (Q_c_big g o x s s0 t t0 rs rl x0 x1 y0 y1 F)
  refine wp_callS (c_min l Z a0 hw (2 : Int32) (1024 : Int32) ((a30, oA .int [(0 : Int32), (0 : Int32), (0 : Int32), (0 : Int32), (0 : Int32), (0 : Int32), (0 : Int32), (0 : Int32)]) :: (a29, oA .int [(0 : Int32), (0 : Int32)]) :: (a6, oA .int (pref (pref (pref (pref (pref (pref (pref (pref (inc (inc [(0 : Int32), (0 : Int32), (0 : Int32), (0 : Int32), (0 : Int32), (0 : Int32), (0 : Int32), (0 : Int32), (0 : Int32)] (y0.toNatClampNeg + 1)) (y1.toNatClampNeg + 1)) 0) 1) 2) 3) 4) 5) 6) 7)) :: (g, oI "com/example/chainstat/chainstat/model/LinkGraph" sg_2 [(.int (0 : Int32)), (.null), (.null), (.null), (.null), (.null)]) :: (o, oI "com/example/chainstat/chainstat/io/LinkList" sg_1 [(.ref s), (.ref t), (.ref rs), (.ref rl), (.ref x), (.int (2 : Int32)), (.null), (.null), (.null)]) :: (s, oR "[I" (.array .int) [(.ref s0)]) :: (s0, oA .int (x0 :: x1 :: List.replicate 1022 0)) :: (t, oR "[I" (.array .int) [(.ref t0)]) :: (t0, oA .int (y0 :: y1 :: List.replicate 1022 0)) :: F)) D_prog_54_m3_446 (hw _ (List.mem_of_getElem? (i := 70) rfl)) (hw _ (List.mem_of_getElem? (i := 71) rfl)) (hw _ (List.mem_of_getElem? (i := 72) rfl)) (hw _ (List.mem_of_getElem? (i := 73) rfl)) (by decide) pd_4 rfl rfl rfl (Nat.le_of_ble_eq_true rfl) (Nat.le_of_ble_eq_true rfl) (Nat.le_of_ble_eq_true rfl) (Nat.le_of_ble_eq_true rfl) ?_
  rintro _ _ ⟨rfl, rfl⟩
  rw [show f_min (2 : Int32) (1024 : Int32) = (2 : Int32) from by decide]
  show Wp none l Z "com/example/chainstat/chainstat/model/LinkGraph" "<init>" prog_54_method_3_code 26 none ({ frames := 2, cells := 3, slots := 19, locals := 64 } : Room) ((a30, oA .int [(0 : Int32), (0 : Int32), (0 : Int32), (0 : Int32), (0 : Int32), (0 : Int32), (0 : Int32), (0 : Int32)]) :: (a29, oA .int [(0 : Int32), (0 : Int32)]) :: (a6, oA .int (pref (pref (pref (pref (pref (pref (pref (pref (inc (inc [(0 : Int32), (0 : Int32), (0 : Int32), (0 : Int32), (0 : Int32), (0 : Int32), (0 : Int32), (0 : Int32), (0 : Int32)] (y0.toNatClampNeg + 1)) (y1.toNatClampNeg + 1)) 0) 1) 2) 3) 4) 5) 6) 7)) :: (g, oI "com/example/chainstat/chainstat/model/LinkGraph" sg_2 [(.int (0 : Int32)), (.null), (.null), (.null), (.null), (.null)]) :: (o, oI "com/example/chainstat/chainstat/io/LinkList" sg_1 [(.ref s), (.ref t), (.ref rs), (.ref rl), (.ref x), (.int (2 : Int32)), (.null), (.null), (.null)]) :: (s, oR "[I" (.array .int) [(.ref s0)]) :: (s0, oA .int (x0 :: x1 :: List.replicate 1022 0)) :: (t, oR "[I" (.array .int) [(.ref t0)]) :: (t0, oA .int (y0 :: y1 :: List.replicate 1022 0)) :: F) 3 19 449 #[.val (.ref g), .val (.int (8 : Int32)), .val (.ref s), .val (.ref t), .val (.null), .val (.int (2 : Int32)), .val (.int (1 : Int32)), .val (.int (1 : Int32)), .val (.long (1024 : Int64)), .second, .val (.ref a6), .val (.null), .val (.int (2 : Int32)), .val (.ref a29), .val (.null), .val (.ref a30), .val (.null), .val (.int (0 : Int32)), .val (.ref s0), .val (.ref t0), .unset, .unset, .unset, .unset, .unset, .unset] [(.int (2 : Int32))] (Q_c_big g o x s s0 t t0 rs rl x0 x1 y0 y1 F)
  refine wp_istore #[.val (.ref g), .val (.int (8 : Int32)), .val (.ref s), .val (.ref t), .val (.null), .val (.int (2 : Int32)), .val (.int (1 : Int32)), .val (.int (1 : Int32)), .val (.long (1024 : Int64)), .second, .val (.ref a6), .val (.null), .val (.int (2 : Int32)), .val (.ref a29), .val (.null), .val (.ref a30), .val (.null), .val (.int (0 : Int32)), .val (.ref s0), .val (.ref t0), .val (.int (2 : Int32)), .unset, .unset, .unset, .unset, .unset] D_prog_54_m3_449 rfl ?_
  refine wp_iconst 0 D_prog_54_m3_451 (by decide) ?_
  refine wp_istore #[.val (.ref g), .val (.int (8 : Int32)), .val (.ref s), .val (.ref t), .val (.null), .val (.int (2 : Int32)), .val (.int (1 : Int32)), .val (.int (1 : Int32)), .val (.long (1024 : Int64)), .second, .val (.ref a6), .val (.null), .val (.int (2 : Int32)), .val (.ref a29), .val (.null), .val (.ref a30), .val (.null), .val (.int (0 : Int32)), .val (.ref s0), .val (.ref t0), .val (.int (2 : Int32)), .val (.int (0 : Int32)), .unset, .unset, .unset, .unset] D_prog_54_m3_452 rfl ?_
  refine wp_iload D_prog_54_m3_454 rfl ?_
  refine wp_iload D_prog_54_m3_456 rfl ?_
  refine wp_icmp_ge D_prog_54_m3_458 (pc'' := 564) ⟨by decide, by decide⟩ (fun h32 => by exact absurd h32 (by decide)) (fun h32 => ?_)
  refine wp_aload D_prog_54_m3_461 rfl rfl ?_
  refine wp_iload D_prog_54_m3_463 rfl ?_
  refine wp_iaload (i := 6) (0) D_prog_54_m3_465 rfl (by decide) (by decide) rfl ?_
  refine wp_istore #[.val (.ref g), .val (.int (8 : Int32)), .val (.ref s), .val (.ref t), .val (.null), .val (.int (2 : Int32)), .val (.int (1 : Int32)), .val (.int (1 : Int32)), .val (.long (1024 : Int64)), .second, .val (.ref a6), .val (.null), .val (.int (2 : Int32)), .val (.ref a29), .val (.null), .val (.ref a30), .val (.null), .val (.int (0 : Int32)), .val (.ref s0), .val (.ref t0), .val (.int (2 : Int32)), .val (.int (0 : Int32)), .val (.int x0), .unset, .unset, .unset] D_prog_54_m3_466 rfl ?_
  refine wp_aload D_prog_54_m3_468 rfl rfl ?_
  refine wp_aload D_prog_54_m3_470 rfl rfl ?_
  refine wp_iload D_prog_54_m3_472 rfl ?_
  refine wp_iaload (i := 8) (0) D_prog_54_m3_474 rfl (by decide) (by decide) rfl ?_
  refine wp_dup2 D_prog_54_m3_475 rfl rfl ?_
  refine wp_iaload (i := 2) (y0.toNatClampNeg) D_prog_54_m3_476 rfl (own_n0 y0 h_y0) rfl (own_gt _ _ (by simp only [fA1, fA0, len_inc, len_pref, len_shf, List.length_set, List.length_cons, List.length_nil, List.length_replicate]; have := own_cl y0 h_y0; omega)) ?_
  refine wp_dup_x2 D_prog_54_m3_477 rfl rfl rfl ?_
  refine wp_iconst 1 D_prog_54_m3_478 (by decide) ?_
  refine wp_iadd D_prog_54_m3_479 ?_
  refine wp_iastore (i := 2) (y0.toNatClampNeg) D_prog_54_m3_480 rfl (own_n0 y0 h_y0) rfl (by simp only [fA1, fA0, len_inc, len_pref, len_shf, List.length_set, List.length_cons, List.length_nil, List.length_replicate]; have := own_cl y0 h_y0; omega) ?_
  show Wp none l Z "com/example/chainstat/chainstat/model/LinkGraph" "<init>" prog_54_method_3_code 26 none ({ frames := 2, cells := 3, slots := 19, locals := 64 } : Room) ((a30, oA .int [(0 : Int32), (0 : Int32), (0 : Int32), (0 : Int32), (0 : Int32), (0 : Int32), (0 : Int32), (0 : Int32)]) :: (a29, oA .int [(0 : Int32), (0 : Int32)]) :: (a6, oA .int (inc (pref (pref (pref (pref (pref (pref (pref (pref (inc (inc [(0 : Int32), (0 : Int32), (0 : Int32), (0 : Int32), (0 : Int32), (0 : Int32), (0 : Int32), (0 : Int32), (0 : Int32)] (y0.toNatClampNeg + 1)) (y1.toNatClampNeg + 1)) 0) 1) 2) 3) 4) 5) 6) 7) y0.toNatClampNeg)) :: (g, oI "com/example/chainstat/chainstat/model/LinkGraph" sg_2 [(.int (0 : Int32)), (.null), (.null), (.null), (.null), (.null)]) :: (o, oI "com/example/chainstat/chainstat/io/LinkList" sg_1 [(.ref s), (.ref t), (.ref rs), (.ref rl), (.ref x), (.int (2 : Int32)), (.null), (.null), (.null)]) :: (s, oR "[I" (.array .int) [(.ref s0)]) :: (s0, oA .int (x0 :: x1 :: List.replicate 1022 0)) :: (t, oR "[I" (.array .int) [(.ref t0)]) :: (t0, oA .int (y0 :: y1 :: List.replicate 1022 0)) :: F) 3 19 481 #[.val (.ref g), .val (.int (8 : Int32)), .val (.ref s), .val (.ref t), .val (.null), .val (.int (2 : Int32)), .val (.int (1 : Int32)), .val (.int (1 : Int32)), .val (.long (1024 : Int64)), .second, .val (.ref a6), .val (.null), .val (.int (2 : Int32)), .val (.ref a29), .val (.null), .val (.ref a30), .val (.null), .val (.int (0 : Int32)), .val (.ref s0), .val (.ref t0), .val (.int (2 : Int32)), .val (.int (0 : Int32)), .val (.int x0), .unset, .unset, .unset] [(.int (gt (pref (pref (pref (pref (pref (pref (pref (pref (inc (inc [(0 : Int32), (0 : Int32), (0 : Int32), (0 : Int32), (0 : Int32), (0 : Int32), (0 : Int32), (0 : Int32), (0 : Int32)] (y0.toNatClampNeg + 1)) (y1.toNatClampNeg + 1)) 0) 1) 2) 3) 4) 5) 6) 7) y0.toNatClampNeg))] (Q_c_big g o x s s0 t t0 rs rl x0 x1 y0 y1 F)
  refine wp_istore #[.val (.ref g), .val (.int (8 : Int32)), .val (.ref s), .val (.ref t), .val (.null), .val (.int (2 : Int32)), .val (.int (1 : Int32)), .val (.int (1 : Int32)), .val (.long (1024 : Int64)), .second, .val (.ref a6), .val (.null), .val (.int (2 : Int32)), .val (.ref a29), .val (.null), .val (.ref a30), .val (.null), .val (.int (0 : Int32)), .val (.ref s0), .val (.ref t0), .val (.int (2 : Int32)), .val (.int (0 : Int32)), .val (.int x0), .val (.int (gt (pref (pref (pref (pref (pref (pref (pref (pref (inc (inc [(0 : Int32), (0 : Int32), (0 : Int32), (0 : Int32), (0 : Int32), (0 : Int32), (0 : Int32), (0 : Int32), (0 : Int32)] (y0.toNatClampNeg + 1)) (y1.toNatClampNeg + 1)) 0) 1) 2) 3) 4) 5) 6) 7) y0.toNatClampNeg)), .unset, .unset] D_prog_54_m3_481 rfl ?_
  refine wp_aload D_prog_54_m3_483 rfl rfl ?_
  refine wp_iload D_prog_54_m3_485 rfl ?_
  refine wp_iload D_prog_54_m3_487 rfl ?_
  have hrk : 0 ≤ (gt (pref (pref (pref (pref (pref (pref (pref (pref (inc (inc [(0 : Int32), (0 : Int32), (0 : Int32), (0 : Int32), (0 : Int32), (0 : Int32), (0 : Int32), (0 : Int32), (0 : Int32)] (y0.toNatClampNeg + 1)) (y1.toNatClampNeg + 1)) 0) 1) 2) 3) 4) 5) 6) 7) y0.toNatClampNeg).toInt ∧ (gt (pref (pref (pref (pref (pref (pref (pref (pref (inc (inc [(0 : Int32), (0 : Int32), (0 : Int32), (0 : Int32), (0 : Int32), (0 : Int32), (0 : Int32), (0 : Int32), (0 : Int32)] (y0.toNatClampNeg + 1)) (y1.toNatClampNeg + 1)) 0) 1) 2) 3) 4) 5) 6) 7) y0.toNatClampNeg).toInt ≤ 1 := hr01.1
  refine wp_iastore (i := 1) ((gt (pref (pref (pref (pref (pref (pref (pref (pref (inc (inc [(0 : Int32), (0 : Int32), (0 : Int32), (0 : Int32), (0 : Int32), (0 : Int32), (0 : Int32), (0 : Int32), (0 : Int32)] (y0.toNatClampNeg + 1)) (y1.toNatClampNeg + 1)) 0) 1) 2) 3) 4) 5) 6) 7) y0.toNatClampNeg).toNatClampNeg) D_prog_54_m3_489 rfl (own_r0 hrk) rfl (by simp only [List.length_set, List.length_cons, List.length_nil]; exact own_idx2 hrk) ?_
  show Wp none l Z "com/example/chainstat/chainstat/model/LinkGraph" "<init>" prog_54_method_3_code 26 none ({ frames := 2, cells := 3, slots := 19, locals := 64 } : Room) ((a30, oA .int [(0 : Int32), (0 : Int32), (0 : Int32), (0 : Int32), (0 : Int32), (0 : Int32), (0 : Int32), (0 : Int32)]) :: (a29, oA .int ([(0 : Int32), (0 : Int32)].set (gt (pref (pref (pref (pref (pref (pref (pref (pref (inc (inc [(0 : Int32), (0 : Int32), (0 : Int32), (0 : Int32), (0 : Int32), (0 : Int32), (0 : Int32), (0 : Int32), (0 : Int32)] (y0.toNatClampNeg + 1)) (y1.toNatClampNeg + 1)) 0) 1) 2) 3) 4) 5) 6) 7) y0.toNatClampNeg).toNatClampNeg x0)) :: (a6, oA .int (inc (pref (pref (pref (pref (pref (pref (pref (pref (inc (inc [(0 : Int32), (0 : Int32), (0 : Int32), (0 : Int32), (0 : Int32), (0 : Int32), (0 : Int32), (0 : Int32), (0 : Int32)] (y0.toNatClampNeg + 1)) (y1.toNatClampNeg + 1)) 0) 1) 2) 3) 4) 5) 6) 7) y0.toNatClampNeg)) :: (g, oI "com/example/chainstat/chainstat/model/LinkGraph" sg_2 [(.int (0 : Int32)), (.null), (.null), (.null), (.null), (.null)]) :: (o, oI "com/example/chainstat/chainstat/io/LinkList" sg_1 [(.ref s), (.ref t), (.ref rs), (.ref rl), (.ref x), (.int (2 : Int32)), (.null), (.null), (.null)]) :: (s, oR "[I" (.array .int) [(.ref s0)]) :: (s0, oA .int (x0 :: x1 :: List.replicate 1022 0)) :: (t, oR "[I" (.array .int) [(.ref t0)]) :: (t0, oA .int (y0 :: y1 :: List.replicate 1022 0)) :: F) 3 19 490 #[.val (.ref g), .val (.int (8 : Int32)), .val (.ref s), .val (.ref t), .val (.null), .val (.int (2 : Int32)), .val (.int (1 : Int32)), .val (.int (1 : Int32)), .val (.long (1024 : Int64)), .second, .val (.ref a6), .val (.null), .val (.int (2 : Int32)), .val (.ref a29), .val (.null), .val (.ref a30), .val (.null), .val (.int (0 : Int32)), .val (.ref s0), .val (.ref t0), .val (.int (2 : Int32)), .val (.int (0 : Int32)), .val (.int x0), .val (.int (gt (pref (pref (pref (pref (pref (pref (pref (pref (inc (inc [(0 : Int32), (0 : Int32), (0 : Int32), (0 : Int32), (0 : Int32), (0 : Int32), (0 : Int32), (0 : Int32), (0 : Int32)] (y0.toNatClampNeg + 1)) (y1.toNatClampNeg + 1)) 0) 1) 2) 3) 4) 5) 6) 7) y0.toNatClampNeg)), .unset, .unset] [] (Q_c_big g o x s s0 t t0 rs rl x0 x1 y0 y1 F)
  refine wp_aload D_prog_54_m3_490 rfl rfl ?_
  refine wp_ifnonnull_n D_prog_54_m3_492 ?_
  refine wp_aload D_prog_54_m3_495 rfl rfl ?_
  refine wp_iload D_prog_54_m3_497 rfl ?_
  refine wp_dup2 D_prog_54_m3_499 rfl rfl ?_
  refine wp_iaload (i := 0) (x0.toNatClampNeg) D_prog_54_m3_500 rfl (own_n0 x0 h_x0) rfl (own_gt _ _ (by simp only [fA1, fA0, len_inc, len_pref, len_shf, List.length_set, List.length_cons, List.length_nil, List.length_replicate]; have := own_cl x0 h_x0; omega)) ?_
  refine wp_iconst 1 D_prog_54_m3_501 (by decide) ?_
  refine wp_iadd D_prog_54_m3_502 ?_
  refine wp_iastore (i := 0) (x0.toNatClampNeg) D_prog_54_m3_503 rfl (own_n0 x0 h_x0) rfl (by simp only [fA1, fA0, len_inc, len_pref, len_shf, List.length_set, List.length_cons, List.length_nil, List.length_replicate]; have := own_cl x0 h_x0; omega) ?_
  show Wp none l Z "com/example/chainstat/chainstat/model/LinkGraph" "<init>" prog_54_method_3_code 26 none ({ frames := 2, cells := 3, slots := 19, locals := 64 } : Room) ((a30, oA .int (inc [(0 : Int32), (0 : Int32), (0 : Int32), (0 : Int32), (0 : Int32), (0 : Int32), (0 : Int32), (0 : Int32)] x0.toNatClampNeg)) :: (a29, oA .int ([(0 : Int32), (0 : Int32)].set (gt (pref (pref (pref (pref (pref (pref (pref (pref (inc (inc [(0 : Int32), (0 : Int32), (0 : Int32), (0 : Int32), (0 : Int32), (0 : Int32), (0 : Int32), (0 : Int32), (0 : Int32)] (y0.toNatClampNeg + 1)) (y1.toNatClampNeg + 1)) 0) 1) 2) 3) 4) 5) 6) 7) y0.toNatClampNeg).toNatClampNeg x0)) :: (a6, oA .int (inc (pref (pref (pref (pref (pref (pref (pref (pref (inc (inc [(0 : Int32), (0 : Int32), (0 : Int32), (0 : Int32), (0 : Int32), (0 : Int32), (0 : Int32), (0 : Int32), (0 : Int32)] (y0.toNatClampNeg + 1)) (y1.toNatClampNeg + 1)) 0) 1) 2) 3) 4) 5) 6) 7) y0.toNatClampNeg)) :: (g, oI "com/example/chainstat/chainstat/model/LinkGraph" sg_2 [(.int (0 : Int32)), (.null), (.null), (.null), (.null), (.null)]) :: (o, oI "com/example/chainstat/chainstat/io/LinkList" sg_1 [(.ref s), (.ref t), (.ref rs), (.ref rl), (.ref x), (.int (2 : Int32)), (.null), (.null), (.null)]) :: (s, oR "[I" (.array .int) [(.ref s0)]) :: (s0, oA .int (x0 :: x1 :: List.replicate 1022 0)) :: (t, oR "[I" (.array .int) [(.ref t0)]) :: (t0, oA .int (y0 :: y1 :: List.replicate 1022 0)) :: F) 3 19 504 #[.val (.ref g), .val (.int (8 : Int32)), .val (.ref s), .val (.ref t), .val (.null), .val (.int (2 : Int32)), .val (.int (1 : Int32)), .val (.int (1 : Int32)), .val (.long (1024 : Int64)), .second, .val (.ref a6), .val (.null), .val (.int (2 : Int32)), .val (.ref a29), .val (.null), .val (.ref a30), .val (.null), .val (.int (0 : Int32)), .val (.ref s0), .val (.ref t0), .val (.int (2 : Int32)), .val (.int (0 : Int32)), .val (.int x0), .val (.int (gt (pref (pref (pref (pref (pref (pref (pref (pref (inc (inc [(0 : Int32), (0 : Int32), (0 : Int32), (0 : Int32), (0 : Int32), (0 : Int32), (0 : Int32), (0 : Int32), (0 : Int32)] (y0.toNatClampNeg + 1)) (y1.toNatClampNeg + 1)) 0) 1) 2) 3) 4) 5) 6) 7) y0.toNatClampNeg)), .unset, .unset] [] (Q_c_big g o x s s0 t t0 rs rl x0 x1 y0 y1 F)
  refine wp_goto D_prog_54_m3_504 (pc'' := 558) ⟨by decide, by decide⟩ ?_
  refine wp_iinc 1 #[.val (.ref g), .val (.int (8 : Int32)), .val (.ref s), .val (.ref t), .val (.null), .val (.int (2 : Int32)), .val (.int (1 : Int32)), .val (.int (1 : Int32)), .val (.long (1024 : Int64)), .second, .val (.ref a6), .val (.null), .val (.int (2 : Int32)), .val (.ref a29), .val (.null), .val (.ref a30), .val (.null), .val (.int (0 : Int32)), .val (.ref s0), .val (.ref t0), .val (.int (2 : Int32)), .val (.int (1 : Int32)), .val (.int x0), .val (.int (gt (pref (pref (pref (pref (pref (pref (pref (pref (inc (inc [(0 : Int32), (0 : Int32), (0 : Int32), (0 : Int32), (0 : Int32), (0 : Int32), (0 : Int32), (0 : Int32), (0 : Int32)] (y0.toNatClampNeg + 1)) (y1.toNatClampNeg + 1)) 0) 1) 2) 3) 4) 5) 6) 7) y0.toNatClampNeg)), .unset, .unset] D_prog_54_m3_558 rfl rfl (by rw [show (0 : Int32) + (1 : Int32) = (1 : Int32) from by decide]; rfl) ?_
  refine wp_goto D_prog_54_m3_561 (pc'' := 454) ⟨by decide, by decide⟩ ?_
  refine wp_iload D_prog_54_m3_454 rfl ?_
  refine wp_iload D_prog_54_m3_456 rfl ?_
  refine wp_icmp_ge D_prog_54_m3_458 (pc'' := 564) ⟨by decide, by decide⟩ (fun h33 => by exact absurd h33 (by decide)) (fun h33 => ?_)
  refine wp_aload D_prog_54_m3_461 rfl rfl ?_
  refine wp_iload D_prog_54_m3_463 rfl ?_
  refine wp_iaload (i := 6) (1) D_prog_54_m3_465 rfl (by decide) (by decide) rfl ?_
  refine wp_istore #[.val (.ref g), .val (.int (8 : Int32)), .val (.ref s), .val (.ref t), .val (.null), .val (.int (2 : Int32)), .val (.int (1 : Int32)), .val (.int (1 : Int32)), .val (.long (1024 : Int64)), .second, .val (.ref a6), .val (.null), .val (.int (2 : Int32)), .val (.ref a29), .val (.null), .val (.ref a30), .val (.null), .val (.int (0 : Int32)), .val (.ref s0), .val (.ref t0), .val (.int (2 : Int32)), .val (.int (1 : Int32)), .val (.int x1), .val (.int (gt (pref (pref (pref (pref (pref (pref (pref (pref (inc (inc [(0 : Int32), (0 : Int32), (0 : Int32), (0 : Int32), (0 : Int32), (0 : Int32), (0 : Int32), (0 : Int32), (0 : Int32)] (y0.toNatClampNeg + 1)) (y1.toNatClampNeg + 1)) 0) 1) 2) 3) 4) 5) 6) 7) y0.toNatClampNeg)), .unset, .unset] D_prog_54_m3_466 rfl ?_
  refine wp_aload D_prog_54_m3_468 rfl rfl ?_
  refine wp_aload D_prog_54_m3_470 rfl rfl ?_
  refine wp_iload D_prog_54_m3_472 rfl ?_
  refine wp_iaload (i := 8) (1) D_prog_54_m3_474 rfl (by decide) (by decide) rfl ?_
  refine wp_dup2 D_prog_54_m3_475 rfl rfl ?_
  refine wp_iaload (i := 2) (y1.toNatClampNeg) D_prog_54_m3_476 rfl (own_n0 y1 h_y1) rfl (own_gt _ _ (by simp only [fA1, fA0, len_inc, len_pref, len_shf, List.length_set, List.length_cons, List.length_nil, List.length_replicate]; have := own_cl y1 h_y1; omega)) ?_
  refine wp_dup_x2 D_prog_54_m3_477 rfl rfl rfl ?_
  refine wp_iconst 1 D_prog_54_m3_478 (by decide) ?_
  refine wp_iadd D_prog_54_m3_479 ?_
  refine wp_iastore (i := 2) (y1.toNatClampNeg) D_prog_54_m3_480 rfl (own_n0 y1 h_y1) rfl (by simp only [fA1, fA0, len_inc, len_pref, len_shf, List.length_set, List.length_cons, List.length_nil, List.length_replicate]; have := own_cl y1 h_y1; omega) ?_
  show Wp none l Z "com/example/chainstat/chainstat/model/LinkGraph" "<init>" prog_54_method_3_code 26 none ({ frames := 2, cells := 3, slots := 19, locals := 64 } : Room) ((a30, oA .int (inc [(0 : Int32), (0 : Int32), (0 : Int32), (0 : Int32), (0 : Int32), (0 : Int32), (0 : Int32), (0 : Int32)] x0.toNatClampNeg)) :: (a29, oA .int ([(0 : Int32), (0 : Int32)].set (gt (pref (pref (pref (pref (pref (pref (pref (pref (inc (inc [(0 : Int32), (0 : Int32), (0 : Int32), (0 : Int32), (0 : Int32), (0 : Int32), (0 : Int32), (0 : Int32), (0 : Int32)] (y0.toNatClampNeg + 1)) (y1.toNatClampNeg + 1)) 0) 1) 2) 3) 4) 5) 6) 7) y0.toNatClampNeg).toNatClampNeg x0)) :: (a6, oA .int (inc (inc (pref (pref (pref (pref (pref (pref (pref (pref (inc (inc [(0 : Int32), (0 : Int32), (0 : Int32), (0 : Int32), (0 : Int32), (0 : Int32), (0 : Int32), (0 : Int32), (0 : Int32)] (y0.toNatClampNeg + 1)) (y1.toNatClampNeg + 1)) 0) 1) 2) 3) 4) 5) 6) 7) y0.toNatClampNeg) y1.toNatClampNeg)) :: (g, oI "com/example/chainstat/chainstat/model/LinkGraph" sg_2 [(.int (0 : Int32)), (.null), (.null), (.null), (.null), (.null)]) :: (o, oI "com/example/chainstat/chainstat/io/LinkList" sg_1 [(.ref s), (.ref t), (.ref rs), (.ref rl), (.ref x), (.int (2 : Int32)), (.null), (.null), (.null)]) :: (s, oR "[I" (.array .int) [(.ref s0)]) :: (s0, oA .int (x0 :: x1 :: List.replicate 1022 0)) :: (t, oR "[I" (.array .int) [(.ref t0)]) :: (t0, oA .int (y0 :: y1 :: List.replicate 1022 0)) :: F) 3 19 481 #[.val (.ref g), .val (.int (8 : Int32)), .val (.ref s), .val (.ref t), .val (.null), .val (.int (2 : Int32)), .val (.int (1 : Int32)), .val (.int (1 : Int32)), .val (.long (1024 : Int64)), .second, .val (.ref a6), .val (.null), .val (.int (2 : Int32)), .val (.ref a29), .val (.null), .val (.ref a30), .val (.null), .val (.int (0 : Int32)), .val (.ref s0), .val (.ref t0), .val (.int (2 : Int32)), .val (.int (1 : Int32)), .val (.int x1), .val (.int (gt (pref (pref (pref (pref (pref (pref (pref (pref (inc (inc [(0 : Int32), (0 : Int32), (0 : Int32), (0 : Int32), (0 : Int32), (0 : Int32), (0 : Int32), (0 : Int32), (0 : Int32)] (y0.toNatClampNeg + 1)) (y1.toNatClampNeg + 1)) 0) 1) 2) 3) 4) 5) 6) 7) y0.toNatClampNeg)), .unset, .unset] [(.int (gt (inc (pref (pref (pref (pref (pref (pref (pref (pref (inc (inc [(0 : Int32), (0 : Int32), (0 : Int32), (0 : Int32), (0 : Int32), (0 : Int32), (0 : Int32), (0 : Int32), (0 : Int32)] (y0.toNatClampNeg + 1)) (y1.toNatClampNeg + 1)) 0) 1) 2) 3) 4) 5) 6) 7) y0.toNatClampNeg) y1.toNatClampNeg))] (Q_c_big g o x s s0 t t0 rs rl x0 x1 y0 y1 F)
  refine wp_istore #[.val (.ref g), .val (.int (8 : Int32)), .val (.ref s), .val (.ref t), .val (.null), .val (.int (2 : Int32)), .val (.int (1 : Int32)), .val (.int (1 : Int32)), .val (.long (1024 : Int64)), .second, .val (.ref a6), .val (.null), .val (.int (2 : Int32)), .val (.ref a29), .val (.null), .val (.ref a30), .val (.null), .val (.int (0 : Int32)), .val (.ref s0), .val (.ref t0), .val (.int (2 : Int32)), .val (.int (1 : Int32)), .val (.int x1), .val (.int (gt (inc (pref (pref (pref (pref (pref (pref (pref (pref (inc (inc [(0 : Int32), (0 : Int32), (0 : Int32), (0 : Int32), (0 : Int32), (0 : Int32), (0 : Int32), (0 : Int32), (0 : Int32)] (y0.toNatClampNeg + 1)) (y1.toNatClampNeg + 1)) 0) 1) 2) 3) 4) 5) 6) 7) y0.toNatClampNeg) y1.toNatClampNeg)), .unset, .unset] D_prog_54_m3_481 rfl ?_
  refine wp_aload D_prog_54_m3_483 rfl rfl ?_
  refine wp_iload D_prog_54_m3_485 rfl ?_
  refine wp_iload D_prog_54_m3_487 rfl ?_
  have hrk : 0 ≤ (gt (inc (pref (pref (pref (pref (pref (pref (pref (pref (inc (inc [(0 : Int32), (0 : Int32), (0 : Int32), (0 : Int32), (0 : Int32), (0 : Int32), (0 : Int32), (0 : Int32), (0 : Int32)] (y0.toNatClampNeg + 1)) (y1.toNatClampNeg + 1)) 0) 1) 2) 3) 4) 5) 6) 7) y0.toNatClampNeg) y1.toNatClampNeg).toInt ∧ (gt (inc (pref (pref (pref (pref (pref (pref (pref (pref (inc (inc [(0 : Int32), (0 : Int32), (0 : Int32), (0 : Int32), (0 : Int32), (0 : Int32), (0 : Int32), (0 : Int32), (0 : Int32)] (y0.toNatClampNeg + 1)) (y1.toNatClampNeg + 1)) 0) 1) 2) 3) 4) 5) 6) 7) y0.toNatClampNeg) y1.toNatClampNeg).toInt ≤ 1 := hr01.2
  refine wp_iastore (i := 1) ((gt (inc (pref (pref (pref (pref (pref (pref (pref (pref (inc (inc [(0 : Int32), (0 : Int32), (0 : Int32), (0 : Int32), (0 : Int32), (0 : Int32), (0 : Int32), (0 : Int32), (0 : Int32)] (y0.toNatClampNeg + 1)) (y1.toNatClampNeg + 1)) 0) 1) 2) 3) 4) 5) 6) 7) y0.toNatClampNeg) y1.toNatClampNeg).toNatClampNeg) D_prog_54_m3_489 rfl (own_r0 hrk) rfl (by simp only [List.length_set, List.length_cons, List.length_nil]; exact own_idx2 hrk) ?_
  show Wp none l Z "com/example/chainstat/chainstat/model/LinkGraph" "<init>" prog_54_method_3_code 26 none ({ frames := 2, cells := 3, slots := 19, locals := 64 } : Room) ((a30, oA .int (inc [(0 : Int32), (0 : Int32), (0 : Int32), (0 : Int32), (0 : Int32), (0 : Int32), (0 : Int32), (0 : Int32)] x0.toNatClampNeg)) :: (a29, oA .int (([(0 : Int32), (0 : Int32)].set (gt (pref (pref (pref (pref (pref (pref (pref (pref (inc (inc [(0 : Int32), (0 : Int32), (0 : Int32), (0 : Int32), (0 : Int32), (0 : Int32), (0 : Int32), (0 : Int32), (0 : Int32)] (y0.toNatClampNeg + 1)) (y1.toNatClampNeg + 1)) 0) 1) 2) 3) 4) 5) 6) 7) y0.toNatClampNeg).toNatClampNeg x0).set (gt (inc (pref (pref (pref (pref (pref (pref (pref (pref (inc (inc [(0 : Int32), (0 : Int32), (0 : Int32), (0 : Int32), (0 : Int32), (0 : Int32), (0 : Int32), (0 : Int32), (0 : Int32)] (y0.toNatClampNeg + 1)) (y1.toNatClampNeg + 1)) 0) 1) 2) 3) 4) 5) 6) 7) y0.toNatClampNeg) y1.toNatClampNeg).toNatClampNeg x1)) :: (a6, oA .int (inc (inc (pref (pref (pref (pref (pref (pref (pref (pref (inc (inc [(0 : Int32), (0 : Int32), (0 : Int32), (0 : Int32), (0 : Int32), (0 : Int32), (0 : Int32), (0 : Int32), (0 : Int32)] (y0.toNatClampNeg + 1)) (y1.toNatClampNeg + 1)) 0) 1) 2) 3) 4) 5) 6) 7) y0.toNatClampNeg) y1.toNatClampNeg)) :: (g, oI "com/example/chainstat/chainstat/model/LinkGraph" sg_2 [(.int (0 : Int32)), (.null), (.null), (.null), (.null), (.null)]) :: (o, oI "com/example/chainstat/chainstat/io/LinkList" sg_1 [(.ref s), (.ref t), (.ref rs), (.ref rl), (.ref x), (.int (2 : Int32)), (.null), (.null), (.null)]) :: (s, oR "[I" (.array .int) [(.ref s0)]) :: (s0, oA .int (x0 :: x1 :: List.replicate 1022 0)) :: (t, oR "[I" (.array .int) [(.ref t0)]) :: (t0, oA .int (y0 :: y1 :: List.replicate 1022 0)) :: F) 3 19 490 #[.val (.ref g), .val (.int (8 : Int32)), .val (.ref s), .val (.ref t), .val (.null), .val (.int (2 : Int32)), .val (.int (1 : Int32)), .val (.int (1 : Int32)), .val (.long (1024 : Int64)), .second, .val (.ref a6), .val (.null), .val (.int (2 : Int32)), .val (.ref a29), .val (.null), .val (.ref a30), .val (.null), .val (.int (0 : Int32)), .val (.ref s0), .val (.ref t0), .val (.int (2 : Int32)), .val (.int (1 : Int32)), .val (.int x1), .val (.int (gt (inc (pref (pref (pref (pref (pref (pref (pref (pref (inc (inc [(0 : Int32), (0 : Int32), (0 : Int32), (0 : Int32), (0 : Int32), (0 : Int32), (0 : Int32), (0 : Int32), (0 : Int32)] (y0.toNatClampNeg + 1)) (y1.toNatClampNeg + 1)) 0) 1) 2) 3) 4) 5) 6) 7) y0.toNatClampNeg) y1.toNatClampNeg)), .unset, .unset] [] (Q_c_big g o x s s0 t t0 rs rl x0 x1 y0 y1 F)
  refine wp_aload D_prog_54_m3_490 rfl rfl ?_
  refine wp_ifnonnull_n D_prog_54_m3_492 ?_
  refine wp_aload D_prog_54_m3_495 rfl rfl ?_
  refine wp_iload D_prog_54_m3_497 rfl ?_
  refine wp_dup2 D_prog_54_m3_499 rfl rfl ?_
  refine wp_iaload (i := 0) (x1.toNatClampNeg) D_prog_54_m3_500 rfl (own_n0 x1 h_x1) rfl (own_gt _ _ (by simp only [fA1, fA0, len_inc, len_pref, len_shf, List.length_set, List.length_cons, List.length_nil, List.length_replicate]; have := own_cl x1 h_x1; omega)) ?_
  refine wp_iconst 1 D_prog_54_m3_501 (by decide) ?_
  refine wp_iadd D_prog_54_m3_502 ?_
  refine wp_iastore (i := 0) (x1.toNatClampNeg) D_prog_54_m3_503 rfl (own_n0 x1 h_x1) rfl (by simp only [fA1, fA0, len_inc, len_pref, len_shf, List.length_set, List.length_cons, List.length_nil, List.length_replicate]; have := own_cl x1 h_x1; omega) ?_
  show Wp none l Z "com/example/chainstat/chainstat/model/LinkGraph" "<init>" prog_54_method_3_code 26 none ({ frames := 2, cells := 3, slots := 19, locals := 64 } : Room) ((a30, oA .int (inc (inc [(0 : Int32), (0 : Int32), (0 : Int32), (0 : Int32), (0 : Int32), (0 : Int32), (0 : Int32), (0 : Int32)] x0.toNatClampNeg) x1.toNatClampNeg)) :: (a29, oA .int (([(0 : Int32), (0 : Int32)].set (gt (pref (pref (pref (pref (pref (pref (pref (pref (inc (inc [(0 : Int32), (0 : Int32), (0 : Int32), (0 : Int32), (0 : Int32), (0 : Int32), (0 : Int32), (0 : Int32), (0 : Int32)] (y0.toNatClampNeg + 1)) (y1.toNatClampNeg + 1)) 0) 1) 2) 3) 4) 5) 6) 7) y0.toNatClampNeg).toNatClampNeg x0).set (gt (inc (pref (pref (pref (pref (pref (pref (pref (pref (inc (inc [(0 : Int32), (0 : Int32), (0 : Int32), (0 : Int32), (0 : Int32), (0 : Int32), (0 : Int32), (0 : Int32), (0 : Int32)] (y0.toNatClampNeg + 1)) (y1.toNatClampNeg + 1)) 0) 1) 2) 3) 4) 5) 6) 7) y0.toNatClampNeg) y1.toNatClampNeg).toNatClampNeg x1)) :: (a6, oA .int (inc (inc (pref (pref (pref (pref (pref (pref (pref (pref (inc (inc [(0 : Int32), (0 : Int32), (0 : Int32), (0 : Int32), (0 : Int32), (0 : Int32), (0 : Int32), (0 : Int32), (0 : Int32)] (y0.toNatClampNeg + 1)) (y1.toNatClampNeg + 1)) 0) 1) 2) 3) 4) 5) 6) 7) y0.toNatClampNeg) y1.toNatClampNeg)) :: (g, oI "com/example/chainstat/chainstat/model/LinkGraph" sg_2 [(.int (0 : Int32)), (.null), (.null), (.null), (.null), (.null)]) :: (o, oI "com/example/chainstat/chainstat/io/LinkList" sg_1 [(.ref s), (.ref t), (.ref rs), (.ref rl), (.ref x), (.int (2 : Int32)), (.null), (.null), (.null)]) :: (s, oR "[I" (.array .int) [(.ref s0)]) :: (s0, oA .int (x0 :: x1 :: List.replicate 1022 0)) :: (t, oR "[I" (.array .int) [(.ref t0)]) :: (t0, oA .int (y0 :: y1 :: List.replicate 1022 0)) :: F) 3 19 504 #[.val (.ref g), .val (.int (8 : Int32)), .val (.ref s), .val (.ref t), .val (.null), .val (.int (2 : Int32)), .val (.int (1 : Int32)), .val (.int (1 : Int32)), .val (.long (1024 : Int64)), .second, .val (.ref a6), .val (.null), .val (.int (2 : Int32)), .val (.ref a29), .val (.null), .val (.ref a30), .val (.null), .val (.int (0 : Int32)), .val (.ref s0), .val (.ref t0), .val (.int (2 : Int32)), .val (.int (1 : Int32)), .val (.int x1), .val (.int (gt (inc (pref (pref (pref (pref (pref (pref (pref (pref (inc (inc [(0 : Int32), (0 : Int32), (0 : Int32), (0 : Int32), (0 : Int32), (0 : Int32), (0 : Int32), (0 : Int32), (0 : Int32)] (y0.toNatClampNeg + 1)) (y1.toNatClampNeg + 1)) 0) 1) 2) 3) 4) 5) 6) 7) y0.toNatClampNeg) y1.toNatClampNeg)), .unset, .unset] [] (Q_c_big g o x s s0 t t0 rs rl x0 x1 y0 y1 F)
  refine wp_goto D_prog_54_m3_504 (pc'' := 558) ⟨by decide, by decide⟩ ?_
  refine wp_iinc 1 #[.val (.ref g), .val (.int (8 : Int32)), .val (.ref s), .val (.ref t), .val (.null), .val (.int (2 : Int32)), .val (.int (1 : Int32)), .val (.int (1 : Int32)), .val (.long (1024 : Int64)), .second, .val (.ref a6), .val (.null), .val (.int (2 : Int32)), .val (.ref a29), .val (.null), .val (.ref a30), .val (.null), .val (.int (0 : Int32)), .val (.ref s0), .val (.ref t0), .val (.int (2 : Int32)), .val (.int (2 : Int32)), .val (.int x1), .val (.int (gt (inc (pref (pref (pref (pref (pref (pref (pref (pref (inc (inc [(0 : Int32), (0 : Int32), (0 : Int32), (0 : Int32), (0 : Int32), (0 : Int32), (0 : Int32), (0 : Int32), (0 : Int32)] (y0.toNatClampNeg + 1)) (y1.toNatClampNeg + 1)) 0) 1) 2) 3) 4) 5) 6) 7) y0.toNatClampNeg) y1.toNatClampNeg)), .unset, .unset] D_prog_54_m3_558 rfl rfl (by rw [show (1 : Int32) + (1 : Int32) = (2 : Int32) from by decide]; rfl) ?_
  refine wp_goto D_prog_54_m3_561 (pc'' := 454) ⟨by decide, by decide⟩ ?_
  refine wp_iload D_prog_54_m3_454 rfl ?_
  refine wp_iload D_prog_54_m3_456 rfl ?_
  refine wp_icmp_ge D_prog_54_m3_458 (pc'' := 564) ⟨by decide, by decide⟩ (fun h34 => ?_) (fun h34 => by exact absurd h34 (by decide))
  refine wp_iload D_prog_54_m3_564 rfl ?_
  refine wp_iload D_prog_54_m3_566 rfl ?_
  refine wp_isub D_prog_54_m3_568 ?_
  rw [show ((2 : Int32) - (2 : Int32)) = (0 : Int32) from by decide]
  refine wp_istore #[.val (.ref g), .val (.int (8 : Int32)), .val (.ref s), .val (.ref t), .val (.null), .val (.int (2 : Int32)), .val (.int (1 : Int32)), .val (.int (1 : Int32)), .val (.long (1024 : Int64)), .second, .val (.ref a6), .val (.null), .val (.int (0 : Int32)), .val (.ref a29), .val (.null), .val (.ref a30), .val (.null), .val (.int (0 : Int32)), .val (.ref s0), .val (.ref t0), .val (.int (2 : Int32)), .val (.int (2 : Int32)), .val (.int x1), .val (.int (gt (inc (pref (pref (pref (pref (pref (pref (pref (pref (inc (inc [(0 : Int32), (0 : Int32), (0 : Int32), (0 : Int32), (0 : Int32), (0 : Int32), (0 : Int32), (0 : Int32), (0 : Int32)] (y0.toNatClampNeg + 1)) (y1.toNatClampNeg + 1)) 0) 1) 2) 3) 4) 5) 6) 7) y0.toNatClampNeg) y1.toNatClampNeg)), .unset, .unset] D_prog_54_m3_569 rfl ?_
  refine wp_iinc 1 #[.val (.ref g), .val (.int (8 : Int32)), .val (.ref s), .val (.ref t), .val (.null), .val (.int (2 : Int32)), .val (.int (1 : Int32)), .val (.int (1 : Int32)), .val (.long (1024 : Int64)), .second, .val (.ref a6), .val (.null), .val (.int (0 : Int32)), .val (.ref a29), .val (.null), .val (.ref a30), .val (.null), .val (.int (1 : Int32)), .val (.ref s0), .val (.ref t0), .val (.int (2 : Int32)), .val (.int (2 : Int32)), .val (.int x1), .val (.int (gt (inc (pref (pref (pref (pref (pref (pref (pref (pref (inc (inc [(0 : Int32), (0 : Int32), (0 : Int32), (0 : Int32), (0 : Int32), (0 : Int32), (0 : Int32), (0 : Int32), (0 : Int32)] (y0.toNatClampNeg + 1)) (y1.toNatClampNeg + 1)) 0) 1) 2) 3) 4) 5) 6) 7) y0.toNatClampNeg) y1.toNatClampNeg)), .unset, .unset] D_prog_54_m3_571 rfl rfl (by rw [show (0 : Int32) + (1 : Int32) = (1 : Int32) from by decide]; rfl) ?_
  refine wp_goto D_prog_54_m3_574 (pc'' := 418) ⟨by decide, by decide⟩ ?_
  refine wp_iload D_prog_54_m3_418 rfl ?_
  refine wp_if_le D_prog_54_m3_420 (pc'' := 577) ⟨by decide, by decide⟩ (fun h35 => ?_) (fun h35 => by exact absurd h35 (by decide))
  refine wp_iload_n D_prog_54_m3_577 rfl ?_
  refine wp_istore #[.val (.ref g), .val (.int (8 : Int32)), .val (.ref s), .val (.ref t), .val (.null), .val (.int (2 : Int32)), .val (.int (1 : Int32)), .val (.int (1 : Int32)), .val (.long (1024 : Int64)), .second, .val (.ref a6), .val (.null), .val (.int (0 : Int32)), .val (.ref a29), .val (.null), .val (.ref a30), .val (.null), .val (.int (8 : Int32)), .val (.ref s0), .val (.ref t0), .val (.int (2 : Int32)), .val (.int (2 : Int32)), .val (.int x1), .val (.int (gt (inc (pref (pref (pref (pref (pref (pref (pref (pref (inc (inc [(0 : Int32), (0 : Int32), (0 : Int32), (0 : Int32), (0 : Int32), (0 : Int32), (0 : Int32), (0 : Int32), (0 : Int32)] (y0.toNatClampNeg + 1)) (y1.toNatClampNeg + 1)) 0) 1) 2) 3) 4) 5) 6) 7) y0.toNatClampNeg) y1.toNatClampNeg)), .unset, .unset] D_prog_54_m3_578 rfl ?_
  refine wp_iload D_prog_54_m3_580 rfl ?_
  refine wp_if_le D_prog_54_m3_582 (pc'' := 603) ⟨by decide, by decide⟩ (fun h36 => by exact absurd h36 (by decide)) (fun h36 => ?_)
  refine wp_aload D_prog_54_m3_585 rfl rfl ?_
  refine wp_iload D_prog_54_m3_587 rfl ?_
  refine wp_aload D_prog_54_m3_589 rfl rfl ?_
  refine wp_iload D_prog_54_m3_591 rfl ?_
  refine wp_iconst 1 D_prog_54_m3_593 (by decide) ?_
  refine wp_isub D_prog_54_m3_594 ?_
  rw [show ((8 : Int32) - (1 : Int32)) = (7 : Int32) from by decide]
  refine wp_iaload (i := 2) (7) D_prog_54_m3_595 rfl (by decide) (by decide) (own_gt _ _ (by simp only [fA1, fA0, len_inc, len_pref, len_shf, List.length_set, List.length_cons, List.length_nil, List.length_replicate]; omega)) ?_
  refine wp_iastore (i := 2) (8) D_prog_54_m3_596 rfl (by decide) (by decide) (by simp only [fA1, fA0, len_inc, len_pref, len_shf, List.length_set, List.length_cons, List.length_nil, List.length_replicate]; omega) ?_
  show Wp none l Z "com/example/chainstat/chainstat/model/LinkGraph" "<init>" prog_54_method_3_code 26 none ({ frames := 2, cells := 3, slots := 19, locals := 64 } : Room) ((a30, oA .int (inc (inc [(0 : Int32), (0 : Int32), (0 : Int32), (0 : Int32), (0 : Int32), (0 : Int32), (0 : Int32), (0 : Int32)] x0.toNatClampNeg) x1.toNatClampNeg)) :: (a29, oA .int (([(0 : Int32), (0 : Int32)].set (gt (pref (pref (pref (pref (pref (pref (pref (pref (inc (inc [(0 : Int32), (0 : Int32), (0 : Int32), (0 : Int32), (0 : Int32), (0 : Int32), (0 : Int32), (0 : Int32), (0 : Int32)] (y0.toNatClampNeg + 1)) (y1.toNatClampNeg + 1)) 0) 1) 2) 3) 4) 5) 6) 7) y0.toNatClampNeg).toNatClampNeg x0).set (gt (inc (pref (pref (pref (pref (pref (pref (pref (pref (inc (inc [(0 : Int32), (0 : Int32), (0 : Int32), (0 : Int32), (0 : Int32), (0 : Int32), (0 : Int32), (0 : Int32), (0 : Int32)] (y0.toNatClampNeg + 1)) (y1.toNatClampNeg + 1)) 0) 1) 2) 3) 4) 5) 6) 7) y0.toNatClampNeg) y1.toNatClampNeg).toNatClampNeg x1)) :: (a6, oA .int (shf (inc (inc (pref (pref (pref (pref (pref (pref (pref (pref (inc (inc [(0 : Int32), (0 : Int32), (0 : Int32), (0 : Int32), (0 : Int32), (0 : Int32), (0 : Int32), (0 : Int32), (0 : Int32)] (y0.toNatClampNeg + 1)) (y1.toNatClampNeg + 1)) 0) 1) 2) 3) 4) 5) 6) 7) y0.toNatClampNeg) y1.toNatClampNeg) 7)) :: (g, oI "com/example/chainstat/chainstat/model/LinkGraph" sg_2 [(.int (0 : Int32)), (.null), (.null), (.null), (.null), (.null)]) :: (o, oI "com/example/chainstat/chainstat/io/LinkList" sg_1 [(.ref s), (.ref t), (.ref rs), (.ref rl), (.ref x), (.int (2 : Int32)), (.null), (.null), (.null)]) :: (s, oR "[I" (.array .int) [(.ref s0)]) :: (s0, oA .int (x0 :: x1 :: List.replicate 1022 0)) :: (t, oR "[I" (.array .int) [(.ref t0)]) :: (t0, oA .int (y0 :: y1 :: List.replicate 1022 0)) :: F) 3 19 597 #[.val (.ref g), .val (.int (8 : Int32)), .val (.ref s), .val (.ref t), .val (.null), .val (.int (2 : Int32)), .val (.int (1 : Int32)), .val (.int (1 : Int32)), .val (.long (1024 : Int64)), .second, .val (.ref a6), .val (.null), .val (.int (0 : Int32)), .val (.ref a29), .val (.null), .val (.ref a30), .val (.null), .val (.int (8 : Int32)), .val (.ref s0), .val (.ref t0), .val (.int (2 : Int32)), .val (.int (2 : Int32)), .val (.int x1), .val (.int (gt (inc (pref (pref (pref (pref (pref (pref (pref (pref (inc (inc [(0 : Int32), (0 : Int32), (0 : Int32), (0 : Int32), (0 : Int32), (0 : Int32), (0 : Int32), (0 : Int32), (0 : Int32)] (y0.toNatClampNeg + 1)) (y1.toNatClampNeg + 1)) 0) 1) 2) 3) 4) 5) 6) 7) y0.toNatClampNeg) y1.toNatClampNeg)), .unset, .unset] [] (Q_c_big g o x s s0 t t0 rs rl x0 x1 y0 y1 F)
  refine wp_iinc (-1) #[.val (.ref g), .val (.int (8 : Int32)), .val (.ref s), .val (.ref t), .val (.null), .val (.int (2 : Int32)), .val (.int (1 : Int32)), .val (.int (1 : Int32)), .val (.long (1024 : Int64)), .second, .val (.ref a6), .val (.null), .val (.int (0 : Int32)), .val (.ref a29), .val (.null), .val (.ref a30), .val (.null), .val (.int (7 : Int32)), .val (.ref s0), .val (.ref t0), .val (.int (2 : Int32)), .val (.int (2 : Int32)), .val (.int x1), .val (.int (gt (inc (pref (pref (pref (pref (pref (pref (pref (pref (inc (inc [(0 : Int32), (0 : Int32), (0 : Int32), (0 : Int32), (0 : Int32), (0 : Int32), (0 : Int32), (0 : Int32), (0 : Int32)] (y0.toNatClampNeg + 1)) (y1.toNatClampNeg + 1)) 0) 1) 2) 3) 4) 5) 6) 7) y0.toNatClampNeg) y1.toNatClampNeg)), .unset, .unset] D_prog_54_m3_597 rfl rfl (by rw [show (8 : Int32) + (-1 : Int32) = (7 : Int32) from by decide]; rfl) ?_
  refine wp_goto D_prog_54_m3_600 (pc'' := 580) ⟨by decide, by decide⟩ ?_
  refine wp_iload D_prog_54_m3_580 rfl ?_
  refine wp_if_le D_prog_54_m3_582 (pc'' := 603) ⟨by decide, by decide⟩ (fun h37 => by exact absurd h37 (by decide)) (fun h37 => ?_)
  refine wp_aload D_prog_54_m3_585 rfl rfl ?_
  refine wp_iload D_prog_54_m3_587 rfl ?_
  refine wp_aload D_prog_54_m3_589 rfl rfl ?_
  refine wp_iload D_prog_54_m3_591 rfl ?_
  refine wp_iconst 1 D_prog_54_m3_593 (by decide) ?_
  refine wp_isub D_prog_54_m3_594 ?_
  rw [show ((7 : Int32) - (1 : Int32)) = (6 : Int32) from by decide]
  refine wp_iaload (i := 2) (6) D_prog_54_m3_595 rfl (by decide) (by decide) (own_gt _ _ (by simp only [fA1, fA0, len_inc, len_pref, len_shf, List.length_set, List.length_cons, List.length_nil, List.length_replicate]; omega)) ?_
  refine wp_iastore (i := 2) (7) D_prog_54_m3_596 rfl (by decide) (by decide) (by simp only [fA1, fA0, len_inc, len_pref, len_shf, List.length_set, List.length_cons, List.length_nil, List.length_replicate]; omega) ?_
  show Wp none l Z "com/example/chainstat/chainstat/model/LinkGraph" "<init>" prog_54_method_3_code 26 none ({ frames := 2, cells := 3, slots := 19, locals := 64 } : Room) ((a30, oA .int (inc (inc [(0 : Int32), (0 : Int32), (0 : Int32), (0 : Int32), (0 : Int32), (0 : Int32), (0 : Int32), (0 : Int32)] x0.toNatClampNeg) x1.toNatClampNeg)) :: (a29, oA .int (([(0 : Int32), (0 : Int32)].set (gt (pref (pref (pref (pref (pref (pref (pref (pref (inc (inc [(0 : Int32), (0 : Int32), (0 : Int32), (0 : Int32), (0 : Int32), (0 : Int32), (0 : Int32), (0 : Int32), (0 : Int32)] (y0.toNatClampNeg + 1)) (y1.toNatClampNeg + 1)) 0) 1) 2) 3) 4) 5) 6) 7) y0.toNatClampNeg).toNatClampNeg x0).set (gt (inc (pref (pref (pref (pref (pref (pref (pref (pref (inc (inc [(0 : Int32), (0 : Int32), (0 : Int32), (0 : Int32), (0 : Int32), (0 : Int32), (0 : Int32), (0 : Int32), (0 : Int32)] (y0.toNatClampNeg + 1)) (y1.toNatClampNeg + 1)) 0) 1) 2) 3) 4) 5) 6) 7) y0.toNatClampNeg) y1.toNatClampNeg).toNatClampNeg x1)) :: (a6, oA .int (shf (shf (inc (inc (pref (pref (pref (pref (pref (pref (pref (pref (inc (inc [(0 : Int32), (0 : Int32), (0 : Int32), (0 : Int32), (0 : Int32), (0 : Int32), (0 : Int32), (0 : Int32), (0 : Int32)] (y0.toNatClampNeg + 1)) (y1.toNatClampNeg + 1)) 0) 1) 2) 3) 4) 5) 6) 7) y0.toNatClampNeg) y1.toNatClampNeg) 7) 6)) :: (g, oI "com/example/chainstat/chainstat/model/LinkGraph" sg_2 [(.int (0 : Int32)), (.null), (.null), (.null), (.null), (.null)]) :: (o, oI "com/example/chainstat/chainstat/io/LinkList" sg_1 [(.ref s), (.ref t), (.ref rs), (.ref rl), (.ref x), (.int (2 : Int32)), (.null), (.null), (.null)]) :: (s, oR "[I" (.array .int) [(.ref s0)]) :: (s0, oA .int (x0 :: x1 :: List.replicate 1022 0)) :: (t, oR "[I" (.array .int) [(.ref t0)]) :: (t0, oA .int (y0 :: y1 :: List.replicate 1022 0)) :: F) 3 19 597 #[.val (.ref g), .val (.int (8 : Int32)), .val (.ref s), .val (.ref t), .val (.null), .val (.int (2 : Int32)), .val (.int (1 : Int32)), .val (.int (1 : Int32)), .val (.long (1024 : Int64)), .second, .val (.ref a6), .val (.null), .val (.int (0 : Int32)), .val (.ref a29), .val (.null), .val (.ref a30), .val (.null), .val (.int (7 : Int32)), .val (.ref s0), .val (.ref t0), .val (.int (2 : Int32)), .val (.int (2 : Int32)), .val (.int x1), .val (.int (gt (inc (pref (pref (pref (pref (pref (pref (pref (pref (inc (inc [(0 : Int32), (0 : Int32), (0 : Int32), (0 : Int32), (0 : Int32), (0 : Int32), (0 : Int32), (0 : Int32), (0 : Int32)] (y0.toNatClampNeg + 1)) (y1.toNatClampNeg + 1)) 0) 1) 2) 3) 4) 5) 6) 7) y0.toNatClampNeg) y1.toNatClampNeg)), .unset, .unset] [] (Q_c_big g o x s s0 t t0 rs rl x0 x1 y0 y1 F)
  refine wp_iinc (-1) #[.val (.ref g), .val (.int (8 : Int32)), .val (.ref s), .val (.ref t), .val (.null), .val (.int (2 : Int32)), .val (.int (1 : Int32)), .val (.int (1 : Int32)), .val (.long (1024 : Int64)), .second, .val (.ref a6), .val (.null), .val (.int (0 : Int32)), .val (.ref a29), .val (.null), .val (.ref a30), .val (.null), .val (.int (6 : Int32)), .val (.ref s0), .val (.ref t0), .val (.int (2 : Int32)), .val (.int (2 : Int32)), .val (.int x1), .val (.int (gt (inc (pref (pref (pref (pref (pref (pref (pref (pref (inc (inc [(0 : Int32), (0 : Int32), (0 : Int32), (0 : Int32), (0 : Int32), (0 : Int32), (0 : Int32), (0 : Int32), (0 : Int32)] (y0.toNatClampNeg + 1)) (y1.toNatClampNeg + 1)) 0) 1) 2) 3) 4) 5) 6) 7) y0.toNatClampNeg) y1.toNatClampNeg)), .unset, .unset] D_prog_54_m3_597 rfl rfl (by rw [show (7 : Int32) + (-1 : Int32) = (6 : Int32) from by decide]; rfl) ?_
  refine wp_goto D_prog_54_m3_600 (pc'' := 580) ⟨by decide, by decide⟩ ?_
  refine wp_iload D_prog_54_m3_580 rfl ?_
  refine wp_if_le D_prog_54_m3_582 (pc'' := 603) ⟨by decide, by decide⟩ (fun h38 => by exact absurd h38 (by decide)) (fun h38 => ?_)
  refine wp_aload D_prog_54_m3_585 rfl rfl ?_
  refine wp_iload D_prog_54_m3_587 rfl ?_
  refine wp_aload D_prog_54_m3_589 rfl rfl ?_
  refine wp_iload D_prog_54_m3_591 rfl ?_
  refine wp_iconst 1 D_prog_54_m3_593 (by decide) ?_
  refine wp_isub D_prog_54_m3_594 ?_
  rw [show ((6 : Int32) - (1 : Int32)) = (5 : Int32) from by decide]
  refine wp_iaload (i := 2) (5) D_prog_54_m3_595 rfl (by decide) (by decide) (own_gt _ _ (by simp only [fA1, fA0, len_inc, len_pref, len_shf, List.length_set, List.length_cons, List.length_nil, List.length_replicate]; omega)) ?_
  refine wp_iastore (i := 2) (6) D_prog_54_m3_596 rfl (by decide) (by decide) (by simp only [fA1, fA0, len_inc, len_pref, len_shf, List.length_set, List.length_cons, List.length_nil, List.length_replicate]; omega) ?_
  show Wp none l Z "com/example/chainstat/chainstat/model/LinkGraph" "<init>" prog_54_method_3_code 26 none ({ frames := 2, cells := 3, slots := 19, locals := 64 } : Room) ((a30, oA .int (inc (inc [(0 : Int32), (0 : Int32), (0 : Int32), (0 : Int32), (0 : Int32), (0 : Int32), (0 : Int32), (0 : Int32)] x0.toNatClampNeg) x1.toNatClampNeg)) :: (a29, oA .int (([(0 : Int32), (0 : Int32)].set (gt (pref (pref (pref (pref (pref (pref (pref (pref (inc (inc [(0 : Int32), (0 : Int32), (0 : Int32), (0 : Int32), (0 : Int32), (0 : Int32), (0 : Int32), (0 : Int32), (0 : Int32)] (y0.toNatClampNeg + 1)) (y1.toNatClampNeg + 1)) 0) 1) 2) 3) 4) 5) 6) 7) y0.toNatClampNeg).toNatClampNeg x0).set (gt (inc (pref (pref (pref (pref (pref (pref (pref (pref (inc (inc [(0 : Int32), (0 : Int32), (0 : Int32), (0 : Int32), (0 : Int32), (0 : Int32), (0 : Int32), (0 : Int32), (0 : Int32)] (y0.toNatClampNeg + 1)) (y1.toNatClampNeg + 1)) 0) 1) 2) 3) 4) 5) 6) 7) y0.toNatClampNeg) y1.toNatClampNeg).toNatClampNeg x1)) :: (a6, oA .int (shf (shf (shf (inc (inc (pref (pref (pref (pref (pref (pref (pref (pref (inc (inc [(0 : Int32), (0 : Int32), (0 : Int32), (0 : Int32), (0 : Int32), (0 : Int32), (0 : Int32), (0 : Int32), (0 : Int32)] (y0.toNatClampNeg + 1)) (y1.toNatClampNeg + 1)) 0) 1) 2) 3) 4) 5) 6) 7) y0.toNatClampNeg) y1.toNatClampNeg) 7) 6) 5)) :: (g, oI "com/example/chainstat/chainstat/model/LinkGraph" sg_2 [(.int (0 : Int32)), (.null), (.null), (.null), (.null), (.null)]) :: (o, oI "com/example/chainstat/chainstat/io/LinkList" sg_1 [(.ref s), (.ref t), (.ref rs), (.ref rl), (.ref x), (.int (2 : Int32)), (.null), (.null), (.null)]) :: (s, oR "[I" (.array .int) [(.ref s0)]) :: (s0, oA .int (x0 :: x1 :: List.replicate 1022 0)) :: (t, oR "[I" (.array .int) [(.ref t0)]) :: (t0, oA .int (y0 :: y1 :: List.replicate 1022 0)) :: F) 3 19 597 #[.val (.ref g), .val (.int (8 : Int32)), .val (.ref s), .val (.ref t), .val (.null), .val (.int (2 : Int32)), .val (.int (1 : Int32)), .val (.int (1 : Int32)), .val (.long (1024 : Int64)), .second, .val (.ref a6), .val (.null), .val (.int (0 : Int32)), .val (.ref a29), .val (.null), .val (.ref a30), .val (.null), .val (.int (6 : Int32)), .val (.ref s0), .val (.ref t0), .val (.int (2 : Int32)), .val (.int (2 : Int32)), .val (.int x1), .val (.int (gt (inc (pref (pref (pref (pref (pref (pref (pref (pref (inc (inc [(0 : Int32), (0 : Int32), (0 : Int32), (0 : Int32), (0 : Int32), (0 : Int32), (0 : Int32), (0 : Int32), (0 : Int32)] (y0.toNatClampNeg + 1)) (y1.toNatClampNeg + 1)) 0) 1) 2) 3) 4) 5) 6) 7) y0.toNatClampNeg) y1.toNatClampNeg)), .unset, .unset] [] (Q_c_big g o x s s0 t t0 rs rl x0 x1 y0 y1 F)
  refine wp_iinc (-1) #[.val (.ref g), .val (.int (8 : Int32)), .val (.ref s), .val (.ref t), .val (.null), .val (.int (2 : Int32)), .val (.int (1 : Int32)), .val (.int (1 : Int32)), .val (.long (1024 : Int64)), .second, .val (.ref a6), .val (.null), .val (.int (0 : Int32)), .val (.ref a29), .val (.null), .val (.ref a30), .val (.null), .val (.int (5 : Int32)), .val (.ref s0), .val (.ref t0), .val (.int (2 : Int32)), .val (.int (2 : Int32)), .val (.int x1), .val (.int (gt (inc (pref (pref (pref (pref (pref (pref (pref (pref (inc (inc [(0 : Int32), (0 : Int32), (0 : Int32), (0 : Int32), (0 : Int32), (0 : Int32), (0 : Int32), (0 : Int32), (0 : Int32)] (y0.toNatClampNeg + 1)) (y1.toNatClampNeg + 1)) 0) 1) 2) 3) 4) 5) 6) 7) y0.toNatClampNeg) y1.toNatClampNeg)), .unset, .unset] D_prog_54_m3_597 rfl rfl (by rw [show (6 : Int32) + (-1 : Int32) = (5 : Int32) from by decide]; rfl) ?_
  refine wp_goto D_prog_54_m3_600 (pc'' := 580) ⟨by decide, by decide⟩ ?_
  refine wp_iload D_prog_54_m3_580 rfl ?_
  refine wp_if_le D_prog_54_m3_582 (pc'' := 603) ⟨by decide, by decide⟩ (fun h39 => by exact absurd h39 (by decide)) (fun h39 => ?_)
  refine wp_aload D_prog_54_m3_585 rfl rfl ?_
  refine wp_iload D_prog_54_m3_587 rfl ?_
  refine wp_aload D_prog_54_m3_589 rfl rfl ?_
  refine wp_iload D_prog_54_m3_591 rfl ?_
  refine wp_iconst 1 D_prog_54_m3_593 (by decide) ?_
  refine wp_isub D_prog_54_m3_594 ?_
  rw [show ((5 : Int32) - (1 : Int32)) = (4 : Int32) from by decide]
  refine wp_iaload (i := 2) (4) D_prog_54_m3_595 rfl (by decide) (by decide) (own_gt _ _ (by simp only [fA1, fA0, len_inc, len_pref, len_shf, List.length_set, List.length_cons, List.length_nil, List.length_replicate]; omega)) ?_
  refine wp_iastore (i := 2) (5) D_prog_54_m3_596 rfl (by decide) (by decide) (by simp only [fA1, fA0, len_inc, len_pref, len_shf, List.length_set, List.length_cons, List.length_nil, List.length_replicate]; omega) ?_
  show Wp none l Z "com/example/chainstat/chainstat/model/LinkGraph" "<init>" prog_54_method_3_code 26 none ({ frames := 2, cells := 3, slots := 19, locals := 64 } : Room) ((a30, oA .int (inc (inc [(0 : Int32), (0 : Int32), (0 : Int32), (0 : Int32), (0 : Int32), (0 : Int32), (0 : Int32), (0 : Int32)] x0.toNatClampNeg) x1.toNatClampNeg)) :: (a29, oA .int (([(0 : Int32), (0 : Int32)].set (gt (pref (pref (pref (pref (pref (pref (pref (pref (inc (inc [(0 : Int32), (0 : Int32), (0 : Int32), (0 : Int32), (0 : Int32), (0 : Int32), (0 : Int32), (0 : Int32), (0 : Int32)] (y0.toNatClampNeg + 1)) (y1.toNatClampNeg + 1)) 0) 1) 2) 3) 4) 5) 6) 7) y0.toNatClampNeg).toNatClampNeg x0).set (gt (inc (pref (pref (pref (pref (pref (pref (pref (pref (inc (inc [(0 : Int32), (0 : Int32), (0 : Int32), (0 : Int32), (0 : Int32), (0 : Int32), (0 : Int32), (0 : Int32), (0 : Int32)] (y0.toNatClampNeg + 1)) (y1.toNatClampNeg + 1)) 0) 1) 2) 3) 4) 5) 6) 7) y0.toNatClampNeg) y1.toNatClampNeg).toNatClampNeg x1)) :: (a6, oA .int (shf (shf (shf (shf (inc (inc (pref (pref (pref (pref (pref (pref (pref (pref (inc (inc [(0 : Int32), (0 : Int32), (0 : Int32), (0 : Int32), (0 : Int32), (0 : Int32), (0 : Int32), (0 : Int32), (0 : Int32)] (y0.toNatClampNeg + 1)) (y1.toNatClampNeg + 1)) 0) 1) 2) 3) 4) 5) 6) 7) y0.toNatClampNeg) y1.toNatClampNeg) 7) 6) 5) 4)) :: (g, oI "com/example/chainstat/chainstat/model/LinkGraph" sg_2 [(.int (0 : Int32)), (.null), (.null), (.null), (.null), (.null)]) :: (o, oI "com/example/chainstat/chainstat/io/LinkList" sg_1 [(.ref s), (.ref t), (.ref rs), (.ref rl), (.ref x), (.int (2 : Int32)), (.null), (.null), (.null)]) :: (s, oR "[I" (.array .int) [(.ref s0)]) :: (s0, oA .int (x0 :: x1 :: List.replicate 1022 0)) :: (t, oR "[I" (.array .int) [(.ref t0)]) :: (t0, oA .int (y0 :: y1 :: List.replicate 1022 0)) :: F) 3 19 597 #[.val (.ref g), .val (.int (8 : Int32)), .val (.ref s), .val (.ref t), .val (.null), .val (.int (2 : Int32)), .val (.int (1 : Int32)), .val (.int (1 : Int32)), .val (.long (1024 : Int64)), .second, .val (.ref a6), .val (.null), .val (.int (0 : Int32)), .val (.ref a29), .val (.null), .val (.ref a30), .val (.null), .val (.int (5 : Int32)), .val (.ref s0), .val (.ref t0), .val (.int (2 : Int32)), .val (.int (2 : Int32)), .val (.int x1), .val (.int (gt (inc (pref (pref (pref (pref (pref (pref (pref (pref (inc (inc [(0 : Int32), (0 : Int32), (0 : Int32), (0 : Int32), (0 : Int32), (0 : Int32), (0 : Int32), (0 : Int32), (0 : Int32)] (y0.toNatClampNeg + 1)) (y1.toNatClampNeg + 1)) 0) 1) 2) 3) 4) 5) 6) 7) y0.toNatClampNeg) y1.toNatClampNeg)), .unset, .unset] [] (Q_c_big g o x s s0 t t0 rs rl x0 x1 y0 y1 F)
  refine wp_iinc (-1) #[.val (.ref g), .val (.int (8 : Int32)), .val (.ref s), .val (.ref t), .val (.null), .val (.int (2 : Int32)), .val (.int (1 : Int32)), .val (.int (1 : Int32)), .val (.long (1024 : Int64)), .second, .val (.ref a6), .val (.null), .val (.int (0 : Int32)), .val (.ref a29), .val (.null), .val (.ref a30), .val (.null), .val (.int (4 : Int32)), .val (.ref s0), .val (.ref t0), .val (.int (2 : Int32)), .val (.int (2 : Int32)), .val (.int x1), .val (.int (gt (inc (pref (pref (pref (pref (pref (pref (pref (pref (inc (inc [(0 : Int32), (0 : Int32), (0 : Int32), (0 : Int32), (0 : Int32), (0 : Int32), (0 : Int32), (0 : Int32), (0 : Int32)] (y0.toNatClampNeg + 1)) (y1.toNatClampNeg + 1)) 0) 1) 2) 3) 4) 5) 6) 7) y0.toNatClampNeg) y1.toNatClampNeg)), .unset, .unset] D_prog_54_m3_597 rfl rfl (by rw [show (5 : Int32) + (-1 : Int32) = (4 : Int32) from by decide]; rfl) ?_
  refine wp_goto D_prog_54_m3_600 (pc'' := 580) ⟨by decide, by decide⟩ ?_
  refine wp_iload D_prog_54_m3_580 rfl ?_
  refine wp_if_le D_prog_54_m3_582 (pc'' := 603) ⟨by decide, by decide⟩ (fun h40 => by exact absurd h40 (by decide)) (fun h40 => ?_)
  refine wp_aload D_prog_54_m3_585 rfl rfl ?_
  refine wp_iload D_prog_54_m3_587 rfl ?_
  refine wp_aload D_prog_54_m3_589 rfl rfl ?_
  refine wp_iload D_prog_54_m3_591 rfl ?_
  refine wp_iconst 1 D_prog_54_m3_593 (by decide) ?_
  refine wp_isub D_prog_54_m3_594 ?_
  rw [show ((4 : Int32) - (1 : Int32)) = (3 : Int32) from by decide]
  refine wp_iaload (i := 2) (3) D_prog_54_m3_595 rfl (by decide) (by decide) (own_gt _ _ (by simp only [fA1, fA0, len_inc, len_pref, len_shf, List.length_set, List.length_cons, List.length_nil, List.length_replicate]; omega)) ?_
  refine wp_iastore (i := 2) (4) D_prog_54_m3_596 rfl (by decide) (by decide) (by simp only [fA1, fA0, len_inc, len_pref, len_shf, List.length_set, List.length_cons, List.length_nil, List.length_replicate]; omega) ?_
  show Wp none l Z "com/example/chainstat/chainstat/model/LinkGraph" "<init>" prog_54_method_3_code 26 none ({ frames := 2, cells := 3, slots := 19, locals := 64 } : Room) ((a30, oA .int (inc (inc [(0 : Int32), (0 : Int32), (0 : Int32), (0 : Int32), (0 : Int32), (0 : Int32), (0 : Int32), (0 : Int32)] x0.toNatClampNeg) x1.toNatClampNeg)) :: (a29, oA .int (([(0 : Int32), (0 : Int32)].set (gt (pref (pref (pref (pref (pref (pref (pref (pref (inc (inc [(0 : Int32), (0 : Int32), (0 : Int32), (0 : Int32), (0 : Int32), (0 : Int32), (0 : Int32), (0 : Int32), (0 : Int32)] (y0.toNatClampNeg + 1)) (y1.toNatClampNeg + 1)) 0) 1) 2) 3) 4) 5) 6) 7) y0.toNatClampNeg).toNatClampNeg x0).set (gt (inc (pref (pref (pref (pref (pref (pref (pref (pref (inc (inc [(0 : Int32), (0 : Int32), (0 : Int32), (0 : Int32), (0 : Int32), (0 : Int32), (0 : Int32), (0 : Int32), (0 : Int32)] (y0.toNatClampNeg + 1)) (y1.toNatClampNeg + 1)) 0) 1) 2) 3) 4) 5) 6) 7) y0.toNatClampNeg) y1.toNatClampNeg).toNatClampNeg x1)) :: (a6, oA .int (shf (shf (shf (shf (shf (inc (inc (pref (pref (pref (pref (pref (pref (pref (pref (inc (inc [(0 : Int32), (0 : Int32), (0 : Int32), (0 : Int32), (0 : Int32), (0 : Int32), (0 : Int32), (0 : Int32), (0 : Int32)] (y0.toNatClampNeg + 1)) (y1.toNatClampNeg + 1)) 0) 1) 2) 3) 4) 5) 6) 7) y0.toNatClampNeg) y1.toNatClampNeg) 7) 6) 5) 4) 3)) :: (g, oI "com/example/chainstat/chainstat/model/LinkGraph" sg_2 [(.int (0 : Int32)), (.null), (.null), (.null), (.null), (.null)]) :: (o, oI "com/example/chainstat/chainstat/io/LinkList" sg_1 [(.ref s), (.ref t), (.ref rs), (.ref rl), (.ref x), (.int (2 : Int32)), (.null), (.null), (.null)]) :: (s, oR "[I" (.array .int) [(.ref s0)]) :: (s0, oA .int (x0 :: x1 :: List.replicate 1022 0)) :: (t, oR "[I" (.array .int) [(.ref t0)]) :: (t0, oA .int (y0 :: y1 :: List.replicate 1022 0)) :: F) 3 19 597 #[.val (.ref g), .val (.int (8 : Int32)), .val (.ref s), .val (.ref t), .val (.null), .val (.int (2 : Int32)), .val (.int (1 : Int32)), .val (.int (1 : Int32)), .val (.long (1024 : Int64)), .second, .val (.ref a6), .val (.null), .val (.int (0 : Int32)), .val (.ref a29), .val (.null), .val (.ref a30), .val (.null), .val (.int (4 : Int32)), .val (.ref s0), .val (.ref t0), .val (.int (2 : Int32)), .val (.int (2 : Int32)), .val (.int x1), .val (.int (gt (inc (pref (pref (pref (pref (pref (pref (pref (pref (inc (inc [(0 : Int32), (0 : Int32), (0 : Int32), (0 : Int32), (0 : Int32), (0 : Int32), (0 : Int32), (0 : Int32), (0 : Int32)] (y0.toNatClampNeg + 1)) (y1.toNatClampNeg + 1)) 0) 1) 2) 3) 4) 5) 6) 7) y0.toNatClampNeg) y1.toNatClampNeg)), .unset, .unset] [] (Q_c_big g o x s s0 t t0 rs rl x0 x1 y0 y1 F)
  refine wp_iinc (-1) #[.val (.ref g), .val (.int (8 : Int32)), .val (.ref s), .val (.ref t), .val (.null), .val (.int (2 : Int32)), .val (.int (1 : Int32)), .val (.int (1 : Int32)), .val (.long (1024 : Int64)), .second, .val (.ref a6), .val (.null), .val (.int (0 : Int32)), .val (.ref a29), .val (.null), .val (.ref a30), .val (.null), .val (.int (3 : Int32)), .val (.ref s0), .val (.ref t0), .val (.int (2 : Int32)), .val (.int (2 : Int32)), .val (.int x1), .val (.int (gt (inc (pref (pref (pref (pref (pref (pref (pref (pref (inc (inc [(0 : Int32), (0 : Int32), (0 : Int32), (0 : Int32), (0 : Int32), (0 : Int32), (0 : Int32), (0 : Int32), (0 : Int32)] (y0.toNatClampNeg + 1)) (y1.toNatClampNeg + 1)) 0) 1) 2) 3) 4) 5) 6) 7) y0.toNatClampNeg) y1.toNatClampNeg)), .unset, .unset] D_prog_54_m3_597 rfl rfl (by rw [show (4 : Int32) + (-1 : Int32) = (3 : Int32) from by decide]; rfl) ?_
  refine wp_goto D_prog_54_m3_600 (pc'' := 580) ⟨by decide, by decide⟩ ?_
  refine wp_iload D_prog_54_m3_580 rfl ?_
  refine wp_if_le D_prog_54_m3_582 (pc'' := 603) ⟨by decide, by decide⟩ (fun h41 => by exact absurd h41 (by decide)) (fun h41 => ?_)
  refine wp_aload D_prog_54_m3_585 rfl rfl ?_
  refine wp_iload D_prog_54_m3_587 rfl ?_
  refine wp_aload D_prog_54_m3_589 rfl rfl ?_
  refine wp_iload D_prog_54_m3_591 rfl ?_
  refine wp_iconst 1 D_prog_54_m3_593 (by decide) ?_
  refine wp_isub D_prog_54_m3_594 ?_
  rw [show ((3 : Int32) - (1 : Int32)) = (2 : Int32) from by decide]
  refine wp_iaload (i := 2) (2) D_prog_54_m3_595 rfl (by decide) (by decide) (own_gt _ _ (by simp only [fA1, fA0, len_inc, len_pref, len_shf, List.length_set, List.length_cons, List.length_nil, List.length_replicate]; omega)) ?_
  refine wp_iastore (i := 2) (3) D_prog_54_m3_596 rfl (by decide) (by decide) (by simp only [fA1, fA0, len_inc, len_pref, len_shf, List.length_set, List.length_cons, List.length_nil, List.length_replicate]; omega) ?_
  show Wp none l Z "com/example/chainstat/chainstat/model/LinkGraph" "<init>" prog_54_method_3_code 26 none ({ frames := 2, cells := 3, slots := 19, locals := 64 } : Room) ((a30, oA .int (inc (inc [(0 : Int32), (0 : Int32), (0 : Int32), (0 : Int32), (0 : Int32), (0 : Int32), (0 : Int32), (0 : Int32)] x0.toNatClampNeg) x1.toNatClampNeg)) :: (a29, oA .int (([(0 : Int32), (0 : Int32)].set (gt (pref (pref (pref (pref (pref (pref (pref (pref (inc (inc [(0 : Int32), (0 : Int32), (0 : Int32), (0 : Int32), (0 : Int32), (0 : Int32), (0 : Int32), (0 : Int32), (0 : Int32)] (y0.toNatClampNeg + 1)) (y1.toNatClampNeg + 1)) 0) 1) 2) 3) 4) 5) 6) 7) y0.toNatClampNeg).toNatClampNeg x0).set (gt (inc (pref (pref (pref (pref (pref (pref (pref (pref (inc (inc [(0 : Int32), (0 : Int32), (0 : Int32), (0 : Int32), (0 : Int32), (0 : Int32), (0 : Int32), (0 : Int32), (0 : Int32)] (y0.toNatClampNeg + 1)) (y1.toNatClampNeg + 1)) 0) 1) 2) 3) 4) 5) 6) 7) y0.toNatClampNeg) y1.toNatClampNeg).toNatClampNeg x1)) :: (a6, oA .int (shf (shf (shf (shf (shf (shf (inc (inc (pref (pref (pref (pref (pref (pref (pref (pref (inc (inc [(0 : Int32), (0 : Int32), (0 : Int32), (0 : Int32), (0 : Int32), (0 : Int32), (0 : Int32), (0 : Int32), (0 : Int32)] (y0.toNatClampNeg + 1)) (y1.toNatClampNeg + 1)) 0) 1) 2) 3) 4) 5) 6) 7) y0.toNatClampNeg) y1.toNatClampNeg) 7) 6) 5) 4) 3) 2)) :: (g, oI "com/example/chainstat/chainstat/model/LinkGraph" sg_2 [(.int (0 : Int32)), (.null), (.null), (.null), (.null), (.null)]) :: (o, oI "com/example/chainstat/chainstat/io/LinkList" sg_1 [(.ref s), (.ref t), (.ref rs), (.ref rl), (.ref x), (.int (2 : Int32)), (.null), (.null), (.null)]) :: (s, oR "[I" (.array .int) [(.ref s0)]) :: (s0, oA .int (x0 :: x1 :: List.replicate 1022 0)) :: (t, oR "[I" (.array .int) [(.ref t0)]) :: (t0, oA .int (y0 :: y1 :: List.replicate 1022 0)) :: F) 3 19 597 #[.val (.ref g), .val (.int (8 : Int32)), .val (.ref s), .val (.ref t), .val (.null), .val (.int (2 : Int32)), .val (.int (1 : Int32)), .val (.int (1 : Int32)), .val (.long (1024 : Int64)), .second, .val (.ref a6), .val (.null), .val (.int (0 : Int32)), .val (.ref a29), .val (.null), .val (.ref a30), .val (.null), .val (.int (3 : Int32)), .val (.ref s0), .val (.ref t0), .val (.int (2 : Int32)), .val (.int (2 : Int32)), .val (.int x1), .val (.int (gt (inc (pref (pref (pref (pref (pref (pref (pref (pref (inc (inc [(0 : Int32), (0 : Int32), (0 : Int32), (0 : Int32), (0 : Int32), (0 : Int32), (0 : Int32), (0 : Int32), (0 : Int32)] (y0.toNatClampNeg + 1)) (y1.toNatClampNeg + 1)) 0) 1) 2) 3) 4) 5) 6) 7) y0.toNatClampNeg) y1.toNatClampNeg)), .unset, .unset] [] (Q_c_big g o x s s0 t t0 rs rl x0 x1 y0 y1 F)
  refine wp_iinc (-1) #[.val (.ref g), .val (.int (8 : Int32)), .val (.ref s), .val (.ref t), .val (.null), .val (.int (2 : Int32)), .val (.int (1 : Int32)), .val (.int (1 : Int32)), .val (.long (1024 : Int64)), .second, .val (.ref a6), .val (.null), .val (.int (0 : Int32)), .val (.ref a29), .val (.null), .val (.ref a30), .val (.null), .val (.int (2 : Int32)), .val (.ref s0), .val (.ref t0), .val (.int (2 : Int32)), .val (.int (2 : Int32)), .val (.int x1), .val (.int (gt (inc (pref (pref (pref (pref (pref (pref (pref (pref (inc (inc [(0 : Int32), (0 : Int32), (0 : Int32), (0 : Int32), (0 : Int32), (0 : Int32), (0 : Int32), (0 : Int32), (0 : Int32)] (y0.toNatClampNeg + 1)) (y1.toNatClampNeg + 1)) 0) 1) 2) 3) 4) 5) 6) 7) y0.toNatClampNeg) y1.toNatClampNeg)), .unset, .unset] D_prog_54_m3_597 rfl rfl (by rw [show (3 : Int32) + (-1 : Int32) = (2 : Int32) from by decide]; rfl) ?_
  refine wp_goto D_prog_54_m3_600 (pc'' := 580) ⟨by decide, by decide⟩ ?_
  refine wp_iload D_prog_54_m3_580 rfl ?_
  refine wp_if_le D_prog_54_m3_582 (pc'' := 603) ⟨by decide, by decide⟩ (fun h42 => by exact absurd h42 (by decide)) (fun h42 => ?_)
  refine wp_aload D_prog_54_m3_585 rfl rfl ?_
  refine wp_iload D_prog_54_m3_587 rfl ?_
  refine wp_aload D_prog_54_m3_589 rfl rfl ?_
  refine wp_iload D_prog_54_m3_591 rfl ?_
  refine wp_iconst 1 D_prog_54_m3_593 (by decide) ?_
  refine wp_isub D_prog_54_m3_594 ?_
  rw [show ((2 : Int32) - (1 : Int32)) = (1 : Int32) from by decide]
  refine wp_iaload (i := 2) (1) D_prog_54_m3_595 rfl (by decide) (by decide) (own_gt _ _ (by simp only [fA1, fA0, len_inc, len_pref, len_shf, List.length_set, List.length_cons, List.length_nil, List.length_replicate]; omega)) ?_
  refine wp_iastore (i := 2) (2) D_prog_54_m3_596 rfl (by decide) (by decide) (by simp only [fA1, fA0, len_inc, len_pref, len_shf, List.length_set, List.length_cons, List.length_nil, List.length_replicate]; omega) ?_
  show Wp none l Z "com/example/chainstat/chainstat/model/LinkGraph" "<init>" prog_54_method_3_code 26 none ({ frames := 2, cells := 3, slots := 19, locals := 64 } : Room) ((a30, oA .int (inc (inc [(0 : Int32), (0 : Int32), (0 : Int32), (0 : Int32), (0 : Int32), (0 : Int32), (0 : Int32), (0 : Int32)] x0.toNatClampNeg) x1.toNatClampNeg)) :: (a29, oA .int (([(0 : Int32), (0 : Int32)].set (gt (pref (pref (pref (pref (pref (pref (pref (pref (inc (inc [(0 : Int32), (0 : Int32), (0 : Int32), (0 : Int32), (0 : Int32), (0 : Int32), (0 : Int32), (0 : Int32), (0 : Int32)] (y0.toNatClampNeg + 1)) (y1.toNatClampNeg + 1)) 0) 1) 2) 3) 4) 5) 6) 7) y0.toNatClampNeg).toNatClampNeg x0).set (gt (inc (pref (pref (pref (pref (pref (pref (pref (pref (inc (inc [(0 : Int32), (0 : Int32), (0 : Int32), (0 : Int32), (0 : Int32), (0 : Int32), (0 : Int32), (0 : Int32), (0 : Int32)] (y0.toNatClampNeg + 1)) (y1.toNatClampNeg + 1)) 0) 1) 2) 3) 4) 5) 6) 7) y0.toNatClampNeg) y1.toNatClampNeg).toNatClampNeg x1)) :: (a6, oA .int (shf (shf (shf (shf (shf (shf (shf (inc (inc (pref (pref (pref (pref (pref (pref (pref (pref (inc (inc [(0 : Int32), (0 : Int32), (0 : Int32), (0 : Int32), (0 : Int32), (0 : Int32), (0 : Int32), (0 : Int32), (0 : Int32)] (y0.toNatClampNeg + 1)) (y1.toNatClampNeg + 1)) 0) 1) 2) 3) 4) 5) 6) 7) y0.toNatClampNeg) y1.toNatClampNeg) 7) 6) 5) 4) 3) 2) 1)) :: (g, oI "com/example/chainstat/chainstat/model/LinkGraph" sg_2 [(.int (0 : Int32)), (.null), (.null), (.null), (.null), (.null)]) :: (o, oI "com/example/chainstat/chainstat/io/LinkList" sg_1 [(.ref s), (.ref t), (.ref rs), (.ref rl), (.ref x), (.int (2 : Int32)), (.null), (.null), (.null)]) :: (s, oR "[I" (.array .int) [(.ref s0)]) :: (s0, oA .int (x0 :: x1 :: List.replicate 1022 0)) :: (t, oR "[I" (.array .int) [(.ref t0)]) :: (t0, oA .int (y0 :: y1 :: List.replicate 1022 0)) :: F) 3 19 597 #[.val (.ref g), .val (.int (8 : Int32)), .val (.ref s), .val (.ref t), .val (.null), .val (.int (2 : Int32)), .val (.int (1 : Int32)), .val (.int (1 : Int32)), .val (.long (1024 : Int64)), .second, .val (.ref a6), .val (.null), .val (.int (0 : Int32)), .val (.ref a29), .val (.null), .val (.ref a30), .val (.null), .val (.int (2 : Int32)), .val (.ref s0), .val (.ref t0), .val (.int (2 : Int32)), .val (.int (2 : Int32)), .val (.int x1), .val (.int (gt (inc (pref (pref (pref (pref (pref (pref (pref (pref (inc (inc [(0 : Int32), (0 : Int32), (0 : Int32), (0 : Int32), (0 : Int32), (0 : Int32), (0 : Int32), (0 : Int32), (0 : Int32)] (y0.toNatClampNeg + 1)) (y1.toNatClampNeg + 1)) 0) 1) 2) 3) 4) 5) 6) 7) y0.toNatClampNeg) y1.toNatClampNeg)), .unset, .unset] [] (Q_c_big g o x s s0 t t0 rs rl x0 x1 y0 y1 F)
  refine wp_iinc (-1) #[.val (.ref g), .val (.int (8 : Int32)), .val (.ref s), .val (.ref t), .val (.null), .val (.int (2 : Int32)), .val (.int (1 : Int32)), .val (.int (1 : Int32)), .val (.long (1024 : Int64)), .second, .val (.ref a6), .val (.null), .val (.int (0 : Int32)), .val (.ref a29), .val (.null), .val (.ref a30), .val (.null), .val (.int (1 : Int32)), .val (.ref s0), .val (.ref t0), .val (.int (2 : Int32)), .val (.int (2 : Int32)), .val (.int x1), .val (.int (gt (inc (pref (pref (pref (pref (pref (pref (pref (pref (inc (inc [(0 : Int32), (0 : Int32), (0 : Int32), (0 : Int32), (0 : Int32), (0 : Int32), (0 : Int32), (0 : Int32), (0 : Int32)] (y0.toNatClampNeg + 1)) (y1.toNatClampNeg + 1)) 0) 1) 2) 3) 4) 5) 6) 7) y0.toNatClampNeg) y1.toNatClampNeg)), .unset, .unset] D_prog_54_m3_597 rfl rfl (by rw [show (2 : Int32) + (-1 : Int32) = (1 : Int32) from by decide]; rfl) ?_
  refine wp_goto D_prog_54_m3_600 (pc'' := 580) ⟨by decide, by decide⟩ ?_
  refine wp_iload D_prog_54_m3_580 rfl ?_
  refine wp_if_le D_prog_54_m3_582 (pc'' := 603) ⟨by decide, by decide⟩ (fun h43 => by exact absurd h43 (by decide)) (fun h43 => ?_)
  refine wp_aload D_prog_54_m3_585 rfl rfl ?_
  refine wp_iload D_prog_54_m3_587 rfl ?_
  refine wp_aload D_prog_54_m3_589 rfl rfl ?_
  refine wp_iload D_prog_54_m3_591 rfl ?_
  refine wp_iconst 1 D_prog_54_m3_593 (by decide) ?_
  refine wp_isub D_prog_54_m3_594 ?_
  rw [show ((1 : Int32) - (1 : Int32)) = (0 : Int32) from by decide]
  refine wp_iaload (i := 2) (0) D_prog_54_m3_595 rfl (by decide) (by decide) (own_gt _ _ (by simp only [fA1, fA0, len_inc, len_pref, len_shf, List.length_set, List.length_cons, List.length_nil, List.length_replicate]; omega)) ?_
  refine wp_iastore (i := 2) (1) D_prog_54_m3_596 rfl (by decide) (by decide) (by simp only [fA1, fA0, len_inc, len_pref, len_shf, List.length_set, List.length_cons, List.length_nil, List.length_replicate]; omega) ?_
  show Wp none l Z "com/example/chainstat/chainstat/model/LinkGraph" "<init>" prog_54_method_3_code 26 none ({ frames := 2, cells := 3, slots := 19, locals := 64 } : Room) ((a30, oA .int (inc (inc [(0 : Int32), (0 : Int32), (0 : Int32), (0 : Int32), (0 : Int32), (0 : Int32), (0 : Int32), (0 : Int32)] x0.toNatClampNeg) x1.toNatClampNeg)) :: (a29, oA .int (([(0 : Int32), (0 : Int32)].set (gt (pref (pref (pref (pref (pref (pref (pref (pref (inc (inc [(0 : Int32), (0 : Int32), (0 : Int32), (0 : Int32), (0 : Int32), (0 : Int32), (0 : Int32), (0 : Int32), (0 : Int32)] (y0.toNatClampNeg + 1)) (y1.toNatClampNeg + 1)) 0) 1) 2) 3) 4) 5) 6) 7) y0.toNatClampNeg).toNatClampNeg x0).set (gt (inc (pref (pref (pref (pref (pref (pref (pref (pref (inc (inc [(0 : Int32), (0 : Int32), (0 : Int32), (0 : Int32), (0 : Int32), (0 : Int32), (0 : Int32), (0 : Int32), (0 : Int32)] (y0.toNatClampNeg + 1)) (y1.toNatClampNeg + 1)) 0) 1) 2) 3) 4) 5) 6) 7) y0.toNatClampNeg) y1.toNatClampNeg).toNatClampNeg x1)) :: (a6, oA .int (shf (shf (shf (shf (shf (shf (shf (shf (inc (inc (pref (pref (pref (pref (pref (pref (pref (pref (inc (inc [(0 : Int32), (0 : Int32), (0 : Int32), (0 : Int32), (0 : Int32), (0 : Int32), (0 : Int32), (0 : Int32), (0 : Int32)] (y0.toNatClampNeg + 1)) (y1.toNatClampNeg + 1)) 0) 1) 2) 3) 4) 5) 6) 7) y0.toNatClampNeg) y1.toNatClampNeg) 7) 6) 5) 4) 3) 2) 1) 0)) :: (g, oI "com/example/chainstat/chainstat/model/LinkGraph" sg_2 [(.int (0 : Int32)), (.null), (.null), (.null), (.null), (.null)]) :: (o, oI "com/example/chainstat/chainstat/io/LinkList" sg_1 [(.ref s), (.ref t), (.ref rs), (.ref rl), (.ref x), (.int (2 : Int32)), (.null), (.null), (.null)]) :: (s, oR "[I" (.array .int) [(.ref s0)]) :: (s0, oA .int (x0 :: x1 :: List.replicate 1022 0)) :: (t, oR "[I" (.array .int) [(.ref t0)]) :: (t0, oA .int (y0 :: y1 :: List.replicate 1022 0)) :: F) 3 19 597 #[.val (.ref g), .val (.int (8 : Int32)), .val (.ref s), .val (.ref t), .val (.null), .val (.int (2 : Int32)), .val (.int (1 : Int32)), .val (.int (1 : Int32)), .val (.long (1024 : Int64)), .second, .val (.ref a6), .val (.null), .val (.int (0 : Int32)), .val (.ref a29), .val (.null), .val (.ref a30), .val (.null), .val (.int (1 : Int32)), .val (.ref s0), .val (.ref t0), .val (.int (2 : Int32)), .val (.int (2 : Int32)), .val (.int x1), .val (.int (gt (inc (pref (pref (pref (pref (pref (pref (pref (pref (inc (inc [(0 : Int32), (0 : Int32), (0 : Int32), (0 : Int32), (0 : Int32), (0 : Int32), (0 : Int32), (0 : Int32), (0 : Int32)] (y0.toNatClampNeg + 1)) (y1.toNatClampNeg + 1)) 0) 1) 2) 3) 4) 5) 6) 7) y0.toNatClampNeg) y1.toNatClampNeg)), .unset, .unset] [] (Q_c_big g o x s s0 t t0 rs rl x0 x1 y0 y1 F)
  refine wp_iinc (-1) #[.val (.ref g), .val (.int (8 : Int32)), .val (.ref s), .val (.ref t), .val (.null), .val (.int (2 : Int32)), .val (.int (1 : Int32)), .val (.int (1 : Int32)), .val (.long (1024 : Int64)), .second, .val (.ref a6), .val (.null), .val (.int (0 : Int32)), .val (.ref a29), .val (.null), .val (.ref a30), .val (.null), .val (.int (0 : Int32)), .val (.ref s0), .val (.ref t0), .val (.int (2 : Int32)), .val (.int (2 : Int32)), .val (.int x1), .val (.int (gt (inc (pref (pref (pref (pref (pref (pref (pref (pref (inc (inc [(0 : Int32), (0 : Int32), (0 : Int32), (0 : Int32), (0 : Int32), (0 : Int32), (0 : Int32), (0 : Int32), (0 : Int32)] (y0.toNatClampNeg + 1)) (y1.toNatClampNeg + 1)) 0) 1) 2) 3) 4) 5) 6) 7) y0.toNatClampNeg) y1.toNatClampNeg)), .unset, .unset] D_prog_54_m3_597 rfl rfl (by rw [show (1 : Int32) + (-1 : Int32) = (0 : Int32) from by decide]; rfl) ?_
  refine wp_goto D_prog_54_m3_600 (pc'' := 580) ⟨by decide, by decide⟩ ?_
  refine wp_iload D_prog_54_m3_580 rfl ?_
  refine wp_if_le D_prog_54_m3_582 (pc'' := 603) ⟨by decide, by decide⟩ (fun h44 => ?_) (fun h44 => by exact absurd h44 (by decide))
  refine wp_aload D_prog_54_m3_603 rfl rfl ?_
  refine wp_iconst 0 D_prog_54_m3_605 (by decide) ?_
  refine wp_iconst 0 D_prog_54_m3_606 (by decide) ?_
  refine wp_iastore (i := 2) (0) D_prog_54_m3_607 rfl (by decide) (by decide) (by simp only [fA1, fA0, len_inc, len_pref, len_shf, List.length_set, List.length_cons, List.length_nil, List.length_replicate]; omega) ?_
  show Wp none l Z "com/example/chainstat/chainstat/model/LinkGraph" "<init>" prog_54_method_3_code 26 none ({ frames := 2, cells := 3, slots := 19, locals := 64 } : Room) ((a30, oA .int (inc (inc [(0 : Int32), (0 : Int32), (0 : Int32), (0 : Int32), (0 : Int32), (0 : Int32), (0 : Int32), (0 : Int32)] x0.toNatClampNeg) x1.toNatClampNeg)) :: (a29, oA .int (([(0 : Int32), (0 : Int32)].set (gt (pref (pref (pref (pref (pref (pref (pref (pref (inc (inc [(0 : Int32), (0 : Int32), (0 : Int32), (0 : Int32), (0 : Int32), (0 : Int32), (0 : Int32), (0 : Int32), (0 : Int32)] (y0.toNatClampNeg + 1)) (y1.toNatClampNeg + 1)) 0) 1) 2) 3) 4) 5) 6) 7) y0.toNatClampNeg).toNatClampNeg x0).set (gt (inc (pref (pref (pref (pref (pref (pref (pref (pref (inc (inc [(0 : Int32), (0 : Int32), (0 : Int32), (0 : Int32), (0 : Int32), (0 : Int32), (0 : Int32), (0 : Int32), (0 : Int32)] (y0.toNatClampNeg + 1)) (y1.toNatClampNeg + 1)) 0) 1) 2) 3) 4) 5) 6) 7) y0.toNatClampNeg) y1.toNatClampNeg).toNatClampNeg x1)) :: (a6, oA .int ((shf (shf (shf (shf (shf (shf (shf (shf (inc (inc (pref (pref (pref (pref (pref (pref (pref (pref (inc (inc [(0 : Int32), (0 : Int32), (0 : Int32), (0 : Int32), (0 : Int32), (0 : Int32), (0 : Int32), (0 : Int32), (0 : Int32)] (y0.toNatClampNeg + 1)) (y1.toNatClampNeg + 1)) 0) 1) 2) 3) 4) 5) 6) 7) y0.toNatClampNeg) y1.toNatClampNeg) 7) 6) 5) 4) 3) 2) 1) 0).set 0 0)) :: (g, oI "com/example/chainstat/chainstat/model/LinkGraph" sg_2 [(.int (0 : Int32)), (.null), (.null), (.null), (.null), (.null)]) :: (o, oI "com/example/chainstat/chainstat/io/LinkList" sg_1 [(.ref s), (.ref t), (.ref rs), (.ref rl), (.ref x), (.int (2 : Int32)), (.null), (.null), (.null)]) :: (s, oR "[I" (.array .int) [(.ref s0)]) :: (s0, oA .int (x0 :: x1 :: List.replicate 1022 0)) :: (t, oR "[I" (.array .int) [(.ref t0)]) :: (t0, oA .int (y0 :: y1 :: List.replicate 1022 0)) :: F) 3 19 608 #[.val (.ref g), .val (.int (8 : Int32)), .val (.ref s), .val (.ref t), .val (.null), .val (.int (2 : Int32)), .val (.int (1 : Int32)), .val (.int (1 : Int32)), .val (.long (1024 : Int64)), .second, .val (.ref a6), .val (.null), .val (.int (0 : Int32)), .val (.ref a29), .val (.null), .val (.ref a30), .val (.null), .val (.int (0 : Int32)), .val (.ref s0), .val (.ref t0), .val (.int (2 : Int32)), .val (.int (2 : Int32)), .val (.int x1), .val (.int (gt (inc (pref (pref (pref (pref (pref (pref (pref (pref (inc (inc [(0 : Int32), (0 : Int32), (0 : Int32), (0 : Int32), (0 : Int32), (0 : Int32), (0 : Int32), (0 : Int32), (0 : Int32)] (y0.toNatClampNeg + 1)) (y1.toNatClampNeg + 1)) 0) 1) 2) 3) 4) 5) 6) 7) y0.toNatClampNeg) y1.toNatClampNeg)), .unset, .unset] [] (Q_c_big g o x s s0 t t0 rs rl x0 x1 y0 y1 F)
  refine wp_aload D_prog_54_m3_608 rfl rfl ?_
  refine wp_ifnull_y D_prog_54_m3_610 (pc'' := 660) ⟨by decide, by decide⟩ ?_
  refine wp_aload_n D_prog_54_m3_660 rfl rfl ?_
  refine wp_iload_n D_prog_54_m3_661 rfl ?_
  refine wp_putfield (i := 3) (fi := 0) (ty := .int) D_prog_54_m3_662 (hw _ (List.mem_of_getElem? (i := 77) rfl)) rfl rfl rfl (Or.inr ⟨(hw _ (List.mem_of_getElem? (i := 78) rfl)), rfl, rfl⟩) (hw _ (List.mem_of_getElem? (i := 61) rfl)) (by decide) rfl rfl ?_
  show Wp none l Z "com/example/chainstat/chainstat/model/LinkGraph" "<init>" prog_54_method_3_code 26 none ({ frames := 2, cells := 3, slots := 19, locals := 64 } : Room) ((a30, oA .int (inc (inc [(0 : Int32), (0 : Int32), (0 : Int32), (0 : Int32), (0 : Int32), (0 : Int32), (0 : Int32), (0 : Int32)] x0.toNatClampNeg) x1.toNatClampNeg)) :: (a29, oA .int (([(0 : Int32), (0 : Int32)].set (gt (pref (pref (pref (pref (pref (pref (pref (pref (inc (inc [(0 : Int32), (0 : Int32), (0 : Int32), (0 : Int32), (0 : Int32), (0 : Int32), (0 : Int32), (0 : Int32), (0 : Int32)] (y0.toNatClampNeg + 1)) (y1.toNatClampNeg + 1)) 0) 1) 2) 3) 4) 5) 6) 7) y0.toNatClampNeg).toNatClampNeg x0).set (gt (inc (pref (pref (pref (pref (pref (pref (pref (pref (inc (inc [(0 : Int32), (0 : Int32), (0 : Int32), (0 : Int32), (0 : Int32), (0 : Int32), (0 : Int32), (0 : Int32), (0 : Int32)] (y0.toNatClampNeg + 1)) (y1.toNatClampNeg + 1)) 0) 1) 2) 3) 4) 5) 6) 7) y0.toNatClampNeg) y1.toNatClampNeg).toNatClampNeg x1)) :: (a6, oA .int ((shf (shf (shf (shf (shf (shf (shf (shf (inc (inc (pref (pref (pref (pref (pref (pref (pref (pref (inc (inc [(0 : Int32), (0 : Int32), (0 : Int32), (0 : Int32), (0 : Int32), (0 : Int32), (0 : Int32), (0 : Int32), (0 : Int32)] (y0.toNatClampNeg + 1)) (y1.toNatClampNeg + 1)) 0) 1) 2) 3) 4) 5) 6) 7) y0.toNatClampNeg) y1.toNatClampNeg) 7) 6) 5) 4) 3) 2) 1) 0).set 0 0)) :: (g, oI "com/example/chainstat/chainstat/model/LinkGraph" sg_2 [(.int (8 : Int32)), (.null), (.null), (.null), (.null), (.null)]) :: (o, oI "com/example/chainstat/chainstat/io/LinkList" sg_1 [(.ref s), (.ref t), (.ref rs), (.ref rl), (.ref x), (.int (2 : Int32)), (.null), (.null), (.null)]) :: (s, oR "[I" (.array .int) [(.ref s0)]) :: (s0, oA .int (x0 :: x1 :: List.replicate 1022 0)) :: (t, oR "[I" (.array .int) [(.ref t0)]) :: (t0, oA .int (y0 :: y1 :: List.replicate 1022 0)) :: F) 3 19 665 #[.val (.ref g), .val (.int (8 : Int32)), .val (.ref s), .val (.ref t), .val (.null), .val (.int (2 : Int32)), .val (.int (1 : Int32)), .val (.int (1 : Int32)), .val (.long (1024 : Int64)), .second, .val (.ref a6), .val (.null), .val (.int (0 : Int32)), .val (.ref a29), .val (.null), .val (.ref a30), .val (.null), .val (.int (0 : Int32)), .val (.ref s0), .val (.ref t0), .val (.int (2 : Int32)), .val (.int (2 : Int32)), .val (.int x1), .val (.int (gt (inc (pref (pref (pref (pref (pref (pref (pref (pref (inc (inc [(0 : Int32), (0 : Int32), (0 : Int32), (0 : Int32), (0 : Int32), (0 : Int32), (0 : Int32), (0 : Int32), (0 : Int32)] (y0.toNatClampNeg + 1)) (y1.toNatClampNeg + 1)) 0) 1) 2) 3) 4) 5) 6) 7) y0.toNatClampNeg) y1.toNatClampNeg)), .unset, .unset] [] (Q_c_big g o x s s0 t t0 rs rl x0 x1 y0 y1 F)
  refine wp_aload_n D_prog_54_m3_665 rfl rfl ?_
  refine wp_aload D_prog_54_m3_666 rfl rfl ?_
  refine wp_putfield (i := 3) (fi := 1) (ty := (.array .int)) D_prog_54_m3_668 (hw _ (List.mem_of_getElem? (i := 79) rfl)) rfl rfl rfl (Or.inr ⟨(hw _ (List.mem_of_getElem? (i := 80) rfl)), rfl, rfl⟩) (hw _ (List.mem_of_getElem? (i := 61) rfl)) (by decide) rfl rfl ?_
  show Wp none l Z "com/example/chainstat/chainstat/model/LinkGraph" "<init>" prog_54_method_3_code 26 none ({ frames := 2, cells := 3, slots := 19, locals := 64 } : Room) ((a30, oA .int (inc (inc [(0 : Int32), (0 : Int32), (0 : Int32), (0 : Int32), (0 : Int32), (0 : Int32), (0 : Int32), (0 : Int32)] x0.toNatClampNeg) x1.toNatClampNeg)) :: (a29, oA .int (([(0 : Int32), (0 : Int32)].set (gt (pref (pref (pref (pref (pref (pref (pref (pref (inc (inc [(0 : Int32), (0 : Int32), (0 : Int32), (0 : Int32), (0 : Int32), (0 : Int32), (0 : Int32), (0 : Int32), (0 : Int32)] (y0.toNatClampNeg + 1)) (y1.toNatClampNeg + 1)) 0) 1) 2) 3) 4) 5) 6) 7) y0.toNatClampNeg).toNatClampNeg x0).set (gt (inc (pref (pref (pref (pref (pref (pref (pref (pref (inc (inc [(0 : Int32), (0 : Int32), (0 : Int32), (0 : Int32), (0 : Int32), (0 : Int32), (0 : Int32), (0 : Int32), (0 : Int32)] (y0.toNatClampNeg + 1)) (y1.toNatClampNeg + 1)) 0) 1) 2) 3) 4) 5) 6) 7) y0.toNatClampNeg) y1.toNatClampNeg).toNatClampNeg x1)) :: (a6, oA .int ((shf (shf (shf (shf (shf (shf (shf (shf (inc (inc (pref (pref (pref (pref (pref (pref (pref (pref (inc (inc [(0 : Int32), (0 : Int32), (0 : Int32), (0 : Int32), (0 : Int32), (0 : Int32), (0 : Int32), (0 : Int32), (0 : Int32)] (y0.toNatClampNeg + 1)) (y1.toNatClampNeg + 1)) 0) 1) 2) 3) 4) 5) 6) 7) y0.toNatClampNeg) y1.toNatClampNeg) 7) 6) 5) 4) 3) 2) 1) 0).set 0 0)) :: (g, oI "com/example/chainstat/chainstat/model/LinkGraph" sg_2 [(.int (8 : Int32)), (.ref a30), (.null), (.null), (.null), (.null)]) :: (o, oI "com/example/chainstat/chainstat/io/LinkList" sg_1 [(.ref s), (.ref t), (.ref rs), (.ref rl), (.ref x), (.int (2 : Int32)), (.null), (.null), (.null)]) :: (s, oR "[I" (.array .int) [(.ref s0)]) :: (s0, oA .int (x0 :: x1 :: List.replicate 1022 0)) :: (t, oR "[I" (.array .int) [(.ref t0)]) :: (t0, oA .int (y0 :: y1 :: List.replicate 1022 0)) :: F) 3 19 671 #[.val (.ref g), .val (.int (8 : Int32)), .val (.ref s), .val (.ref t), .val (.null), .val (.int (2 : Int32)), .val (.int (1 : Int32)), .val (.int (1 : Int32)), .val (.long (1024 : Int64)), .second, .val (.ref a6), .val (.null), .val (.int (0 : Int32)), .val (.ref a29), .val (.null), .val (.ref a30), .val (.null), .val (.int (0 : Int32)), .val (.ref s0), .val (.ref t0), .val (.int (2 : Int32)), .val (.int (2 : Int32)), .val (.int x1), .val (.int (gt (inc (pref (pref (pref (pref (pref (pref (pref (pref (inc (inc [(0 : Int32), (0 : Int32), (0 : Int32), (0 : Int32), (0 : Int32), (0 : Int32), (0 : Int32), (0 : Int32), (0 : Int32)] (y0.toNatClampNeg + 1)) (y1.toNatClampNeg + 1)) 0) 1) 2) 3) 4) 5) 6) 7) y0.toNatClampNeg) y1.toNatClampNeg)), .unset, .unset] [] (Q_c_big g o x s s0 t t0 rs rl x0 x1 y0 y1 F)
  refine wp_aload_n D_prog_54_m3_671 rfl rfl ?_
  refine wp_aload D_prog_54_m3_672 rfl rfl ?_
  refine wp_putfield (i := 3) (fi := 2) (ty := (.array .long)) D_prog_54_m3_674 (hw _ (List.mem_of_getElem? (i := 81) rfl)) rfl rfl rfl (Or.inr ⟨(hw _ (List.mem_of_getElem? (i := 82) rfl)), rfl, rfl⟩) (hw _ (List.mem_of_getElem? (i := 61) rfl)) (by decide) rfl rfl ?_
  show Wp none l Z "com/example/chainstat/chainstat/model/LinkGraph" "<init>" prog_54_method_3_code 26 none ({ frames := 2, cells := 3, slots := 19, locals := 64 } : Room) ((a30, oA .int (inc (inc [(0 : Int32), (0 : Int32), (0 : Int32), (0 : Int32), (0 : Int32), (0 : Int32), (0 : Int32), (0 : Int32)] x0.toNatClampNeg) x1.toNatClampNeg)) :: (a29, oA .int (([(0 : Int32), (0 : Int32)].set (gt (pref (pref (pref (pref (pref (pref (pref (pref (inc (inc [(0 : Int32), (0 : Int32), (0 : Int32), (0 : Int32), (0 : Int32), (0 : Int32), (0 : Int32), (0 : Int32), (0 : Int32)] (y0.toNatClampNeg + 1)) (y1.toNatClampNeg + 1)) 0) 1) 2) 3) 4) 5) 6) 7) y0.toNatClampNeg).toNatClampNeg x0).set (gt (inc (pref (pref (pref (pref (pref (pref (pref (pref (inc (inc [(0 : Int32), (0 : Int32), (0 : Int32), (0 : Int32), (0 : Int32), (0 : Int32), (0 : Int32), (0 : Int32), (0 : Int32)] (y0.toNatClampNeg + 1)) (y1.toNatClampNeg + 1)) 0) 1) 2) 3) 4) 5) 6) 7) y0.toNatClampNeg) y1.toNatClampNeg).toNatClampNeg x1)) :: (a6, oA .int ((shf (shf (shf (shf (shf (shf (shf (shf (inc (inc (pref (pref (pref (pref (pref (pref (pref (pref (inc (inc [(0 : Int32), (0 : Int32), (0 : Int32), (0 : Int32), (0 : Int32), (0 : Int32), (0 : Int32), (0 : Int32), (0 : Int32)] (y0.toNatClampNeg + 1)) (y1.toNatClampNeg + 1)) 0) 1) 2) 3) 4) 5) 6) 7) y0.toNatClampNeg) y1.toNatClampNeg) 7) 6) 5) 4) 3) 2) 1) 0).set 0 0)) :: (g, oI "com/example/chainstat/chainstat/model/LinkGraph" sg_2 [(.int (8 : Int32)), (.ref a30), (.null), (.null), (.null), (.null)]) :: (o, oI "com/example/chainstat/chainstat/io/LinkList" sg_1 [(.ref s), (.ref t), (.ref rs), (.ref rl), (.ref x), (.int (2 : Int32)), (.null), (.null), (.null)]) :: (s, oR "[I" (.array .int) [(.ref s0)]) :: (s0, oA .int (x0 :: x1 :: List.replicate 1022 0)) :: (t, oR "[I" (.array .int) [(.ref t0)]) :: (t0, oA .int (y0 :: y1 :: List.replicate 1022 0)) :: F) 3 19 677 #[.val (.ref g), .val (.int (8 : Int32)), .val (.ref s), .val (.ref t), .val (.null), .val (.int (2 : Int32)), .val (.int (1 : Int32)), .val (.int (1 : Int32)), .val (.long (1024 : Int64)), .second, .val (.ref a6), .val (.null), .val (.int (0 : Int32)), .val (.ref a29), .val (.null), .val (.ref a30), .val (.null), .val (.int (0 : Int32)), .val (.ref s0), .val (.ref t0), .val (.int (2 : Int32)), .val (.int (2 : Int32)), .val (.int x1), .val (.int (gt (inc (pref (pref (pref (pref (pref (pref (pref (pref (inc (inc [(0 : Int32), (0 : Int32), (0 : Int32), (0 : Int32), (0 : Int32), (0 : Int32), (0 : Int32), (0 : Int32), (0 : Int32)] (y0.toNatClampNeg + 1)) (y1.toNatClampNeg + 1)) 0) 1) 2) 3) 4) 5) 6) 7) y0.toNatClampNeg) y1.toNatClampNeg)), .unset, .unset] [] (Q_c_big g o x s s0 t t0 rs rl x0 x1 y0 y1 F)
  refine wp_aload_n D_prog_54_m3_677 rfl rfl ?_
  refine wp_aload D_prog_54_m3_678 rfl rfl ?_
  refine wp_putfield (i := 3) (fi := 3) (ty := (.array .int)) D_prog_54_m3_680 (hw _ (List.mem_of_getElem? (i := 83) rfl)) rfl rfl rfl (Or.inr ⟨(hw _ (List.mem_of_getElem? (i := 84) rfl)), rfl, rfl⟩) (hw _ (List.mem_of_getElem? (i := 61) rfl)) (by decide) rfl rfl ?_
  show Wp none l Z "com/example/chainstat/chainstat/model/LinkGraph" "<init>" prog_54_method_3_code 26 none ({ frames := 2, cells := 3, slots := 19, locals := 64 } : Room) ((a30, oA .int (inc (inc [(0 : Int32), (0 : Int32), (0 : Int32), (0 : Int32), (0 : Int32), (0 : Int32), (0 : Int32), (0 : Int32)] x0.toNatClampNeg) x1.toNatClampNeg)) :: (a29, oA .int (([(0 : Int32), (0 : Int32)].set (gt (pref (pref (pref (pref (pref (pref (pref (pref (inc (inc [(0 : Int32), (0 : Int32), (0 : Int32), (0 : Int32), (0 : Int32), (0 : Int32), (0 : Int32), (0 : Int32), (0 : Int32)] (y0.toNatClampNeg + 1)) (y1.toNatClampNeg + 1)) 0) 1) 2) 3) 4) 5) 6) 7) y0.toNatClampNeg).toNatClampNeg x0).set (gt (inc (pref (pref (pref (pref (pref (pref (pref (pref (inc (inc [(0 : Int32), (0 : Int32), (0 : Int32), (0 : Int32), (0 : Int32), (0 : Int32), (0 : Int32), (0 : Int32), (0 : Int32)] (y0.toNatClampNeg + 1)) (y1.toNatClampNeg + 1)) 0) 1) 2) 3) 4) 5) 6) 7) y0.toNatClampNeg) y1.toNatClampNeg).toNatClampNeg x1)) :: (a6, oA .int ((shf (shf (shf (shf (shf (shf (shf (shf (inc (inc (pref (pref (pref (pref (pref (pref (pref (pref (inc (inc [(0 : Int32), (0 : Int32), (0 : Int32), (0 : Int32), (0 : Int32), (0 : Int32), (0 : Int32), (0 : Int32), (0 : Int32)] (y0.toNatClampNeg + 1)) (y1.toNatClampNeg + 1)) 0) 1) 2) 3) 4) 5) 6) 7) y0.toNatClampNeg) y1.toNatClampNeg) 7) 6) 5) 4) 3) 2) 1) 0).set 0 0)) :: (g, oI "com/example/chainstat/chainstat/model/LinkGraph" sg_2 [(.int (8 : Int32)), (.ref a30), (.null), (.ref a6), (.null), (.null)]) :: (o, oI "com/example/chainstat/chainstat/io/LinkList" sg_1 [(.ref s), (.ref t), (.ref rs), (.ref rl), (.ref x), (.int (2 : Int32)), (.null), (.null), (.null)]) :: (s, oR "[I" (.array .int) [(.ref s0)]) :: (s0, oA .int (x0 :: x1 :: List.replicate 1022 0)) :: (t, oR "[I" (.array .int) [(.ref t0)]) :: (t0, oA .int (y0 :: y1 :: List.replicate 1022 0)) :: F) 3 19 683 #[.val (.ref g), .val (.int (8 : Int32)), .val (.ref s), .val (.ref t), .val (.null), .val (.int (2 : Int32)), .val (.int (1 : Int32)), .val (.int (1 : Int32)), .val (.long (1024 : Int64)), .second, .val (.ref a6), .val (.null), .val (.int (0 : Int32)), .val (.ref a29), .val (.null), .val (.ref a30), .val (.null), .val (.int (0 : Int32)), .val (.ref s0), .val (.ref t0), .val (.int (2 : Int32)), .val (.int (2 : Int32)), .val (.int x1), .val (.int (gt (inc (pref (pref (pref (pref (pref (pref (pref (pref (inc (inc [(0 : Int32), (0 : Int32), (0 : Int32), (0 : Int32), (0 : Int32), (0 : Int32), (0 : Int32), (0 : Int32), (0 : Int32)] (y0.toNatClampNeg + 1)) (y1.toNatClampNeg + 1)) 0) 1) 2) 3) 4) 5) 6) 7) y0.toNatClampNeg) y1.toNatClampNeg)), .unset, .unset] [] (Q_c_big g o x s s0 t t0 rs rl x0 x1 y0 y1 F)
  refine wp_aload_n D_prog_54_m3_683 rfl rfl ?_
  refine wp_aload D_prog_54_m3_684 rfl rfl ?_
  refine wp_putfield (i := 3) (fi := 4) (ty := (.array .int)) D_prog_54_m3_686 (hw _ (List.mem_of_getElem? (i := 85) rfl)) rfl rfl rfl (Or.inr ⟨(hw _ (List.mem_of_getElem? (i := 86) rfl)), rfl, rfl⟩) (hw _ (List.mem_of_getElem? (i := 61) rfl)) (by decide) rfl rfl ?_
  show Wp none l Z "com/example/chainstat/chainstat/model/LinkGraph" "<init>" prog_54_method_3_code 26 none ({ frames := 2, cells := 3, slots := 19, locals := 64 } : Room) ((a30, oA .int (inc (inc [(0 : Int32), (0 : Int32), (0 : Int32), (0 : Int32), (0 : Int32), (0 : Int32), (0 : Int32), (0 : Int32)] x0.toNatClampNeg) x1.toNatClampNeg)) :: (a29, oA .int (([(0 : Int32), (0 : Int32)].set (gt (pref (pref (pref (pref (pref (pref (pref (pref (inc (inc [(0 : Int32), (0 : Int32), (0 : Int32), (0 : Int32), (0 : Int32), (0 : Int32), (0 : Int32), (0 : Int32), (0 : Int32)] (y0.toNatClampNeg + 1)) (y1.toNatClampNeg + 1)) 0) 1) 2) 3) 4) 5) 6) 7) y0.toNatClampNeg).toNatClampNeg x0).set (gt (inc (pref (pref (pref (pref (pref (pref (pref (pref (inc (inc [(0 : Int32), (0 : Int32), (0 : Int32), (0 : Int32), (0 : Int32), (0 : Int32), (0 : Int32), (0 : Int32), (0 : Int32)] (y0.toNatClampNeg + 1)) (y1.toNatClampNeg + 1)) 0) 1) 2) 3) 4) 5) 6) 7) y0.toNatClampNeg) y1.toNatClampNeg).toNatClampNeg x1)) :: (a6, oA .int ((shf (shf (shf (shf (shf (shf (shf (shf (inc (inc (pref (pref (pref (pref (pref (pref (pref (pref (inc (inc [(0 : Int32), (0 : Int32), (0 : Int32), (0 : Int32), (0 : Int32), (0 : Int32), (0 : Int32), (0 : Int32), (0 : Int32)] (y0.toNatClampNeg + 1)) (y1.toNatClampNeg + 1)) 0) 1) 2) 3) 4) 5) 6) 7) y0.toNatClampNeg) y1.toNatClampNeg) 7) 6) 5) 4) 3) 2) 1) 0).set 0 0)) :: (g, oI "com/example/chainstat/chainstat/model/LinkGraph" sg_2 [(.int (8 : Int32)), (.ref a30), (.null), (.ref a6), (.ref a29), (.null)]) :: (o, oI "com/example/chainstat/chainstat/io/LinkList" sg_1 [(.ref s), (.ref t), (.ref rs), (.ref rl), (.ref x), (.int (2 : Int32)), (.null), (.null), (.null)]) :: (s, oR "[I" (.array .int) [(.ref s0)]) :: (s0, oA .int (x0 :: x1 :: List.replicate 1022 0)) :: (t, oR "[I" (.array .int) [(.ref t0)]) :: (t0, oA .int (y0 :: y1 :: List.replicate 1022 0)) :: F) 3 19 689 #[.val (.ref g), .val (.int (8 : Int32)), .val (.ref s), .val (.ref t), .val (.null), .val (.int (2 : Int32)), .val (.int (1 : Int32)), .val (.int (1 : Int32)), .val (.long (1024 : Int64)), .second, .val (.ref a6), .val (.null), .val (.int (0 : Int32)), .val (.ref a29), .val (.null), .val (.ref a30), .val (.null), .val (.int (0 : Int32)), .val (.ref s0), .val (.ref t0), .val (.int (2 : Int32)), .val (.int (2 : Int32)), .val (.int x1), .val (.int (gt (inc (pref (pref (pref (pref (pref (pref (pref (pref (inc (inc [(0 : Int32), (0 : Int32), (0 : Int32), (0 : Int32), (0 : Int32), (0 : Int32), (0 : Int32), (0 : Int32), (0 : Int32)] (y0.toNatClampNeg + 1)) (y1.toNatClampNeg + 1)) 0) 1) 2) 3) 4) 5) 6) 7) y0.toNatClampNeg) y1.toNatClampNeg)), .unset, .unset] [] (Q_c_big g o x s s0 t t0 rs rl x0 x1 y0 y1 F)
  refine wp_aload_n D_prog_54_m3_689 rfl rfl ?_
  refine wp_aload D_prog_54_m3_690 rfl rfl ?_
  refine wp_putfield (i := 3) (fi := 5) (ty := (.array .long)) D_prog_54_m3_692 (hw _ (List.mem_of_getElem? (i := 87) rfl)) rfl rfl rfl (Or.inr ⟨(hw _ (List.mem_of_getElem? (i := 88) rfl)), rfl, rfl⟩) (hw _ (List.mem_of_getElem? (i := 61) rfl)) (by decide) rfl rfl ?_
  show Wp none l Z "com/example/chainstat/chainstat/model/LinkGraph" "<init>" prog_54_method_3_code 26 none ({ frames := 2, cells := 3, slots := 19, locals := 64 } : Room) ((a30, oA .int (inc (inc [(0 : Int32), (0 : Int32), (0 : Int32), (0 : Int32), (0 : Int32), (0 : Int32), (0 : Int32), (0 : Int32)] x0.toNatClampNeg) x1.toNatClampNeg)) :: (a29, oA .int (([(0 : Int32), (0 : Int32)].set (gt (pref (pref (pref (pref (pref (pref (pref (pref (inc (inc [(0 : Int32), (0 : Int32), (0 : Int32), (0 : Int32), (0 : Int32), (0 : Int32), (0 : Int32), (0 : Int32), (0 : Int32)] (y0.toNatClampNeg + 1)) (y1.toNatClampNeg + 1)) 0) 1) 2) 3) 4) 5) 6) 7) y0.toNatClampNeg).toNatClampNeg x0).set (gt (inc (pref (pref (pref (pref (pref (pref (pref (pref (inc (inc [(0 : Int32), (0 : Int32), (0 : Int32), (0 : Int32), (0 : Int32), (0 : Int32), (0 : Int32), (0 : Int32), (0 : Int32)] (y0.toNatClampNeg + 1)) (y1.toNatClampNeg + 1)) 0) 1) 2) 3) 4) 5) 6) 7) y0.toNatClampNeg) y1.toNatClampNeg).toNatClampNeg x1)) :: (a6, oA .int ((shf (shf (shf (shf (shf (shf (shf (shf (inc (inc (pref (pref (pref (pref (pref (pref (pref (pref (inc (inc [(0 : Int32), (0 : Int32), (0 : Int32), (0 : Int32), (0 : Int32), (0 : Int32), (0 : Int32), (0 : Int32), (0 : Int32)] (y0.toNatClampNeg + 1)) (y1.toNatClampNeg + 1)) 0) 1) 2) 3) 4) 5) 6) 7) y0.toNatClampNeg) y1.toNatClampNeg) 7) 6) 5) 4) 3) 2) 1) 0).set 0 0)) :: (g, oI "com/example/chainstat/chainstat/model/LinkGraph" sg_2 [(.int (8 : Int32)), (.ref a30), (.null), (.ref a6), (.ref a29), (.null)]) :: (o, oI "com/example/chainstat/chainstat/io/LinkList" sg_1 [(.ref s), (.ref t), (.ref rs), (.ref rl), (.ref x), (.int (2 : Int32)), (.null), (.null), (.null)]) :: (s, oR "[I" (.array .int) [(.ref s0)]) :: (s0, oA .int (x0 :: x1 :: List.replicate 1022 0)) :: (t, oR "[I" (.array .int) [(.ref t0)]) :: (t0, oA .int (y0 :: y1 :: List.replicate 1022 0)) :: F) 3 19 695 #[.val (.ref g), .val (.int (8 : Int32)), .val (.ref s), .val (.ref t), .val (.null), .val (.int (2 : Int32)), .val (.int (1 : Int32)), .val (.int (1 : Int32)), .val (.long (1024 : Int64)), .second, .val (.ref a6), .val (.null), .val (.int (0 : Int32)), .val (.ref a29), .val (.null), .val (.ref a30), .val (.null), .val (.int (0 : Int32)), .val (.ref s0), .val (.ref t0), .val (.int (2 : Int32)), .val (.int (2 : Int32)), .val (.int x1), .val (.int (gt (inc (pref (pref (pref (pref (pref (pref (pref (pref (inc (inc [(0 : Int32), (0 : Int32), (0 : Int32), (0 : Int32), (0 : Int32), (0 : Int32), (0 : Int32), (0 : Int32), (0 : Int32)] (y0.toNatClampNeg + 1)) (y1.toNatClampNeg + 1)) 0) 1) 2) 3) 4) 5) 6) 7) y0.toNatClampNeg) y1.toNatClampNeg)), .unset, .unset] [] (Q_c_big g o x s s0 t t0 rs rl x0 x1 y0 y1 F)
  refine wp_return D_prog_54_m3_695 rfl (by decide) (by decide) ?_
  exact ⟨rfl, _, _, _, rfl⟩
theorem pn_8 : plainFor (⟨"com/example/chainstat/chainstat/model/LinkGraph", "<init>", "(I[[I[[I[[JI)V"⟩ : MethodName) = true := by first | exact plainFor_of_name (by first | (simp [plainName, overriddenIn]; done) | decide +kernel) | decide +kernel
theorem D_prog_54_m2_0 : Dc prog_54_method_2_code 0 (.aload_n 0) 1 1 := ⟨by decide +kernel, rfl⟩
theorem D_prog_54_m2_1 : Dc prog_54_method_2_code 1 (.iload_n 1) 1 2 := ⟨by decide +kernel, rfl⟩
theorem D_prog_54_m2_2 : Dc prog_54_method_2_code 2 (.aload_n 2) 1 3 := ⟨by decide +kernel, rfl⟩
theorem D_prog_54_m2_3 : Dc prog_54_method_2_code 3 (.aload_n 3) 1 4 := ⟨by decide +kernel, rfl⟩
theorem D_prog_54_m2_4 : Dc prog_54_method_2_code 4 (.aload 4) 2 6 := ⟨by decide +kernel, rfl⟩
theorem D_prog_54_m2_6 : Dc prog_54_method_2_code 6 (.iload 5) 2 8 := ⟨by decide +kernel, rfl⟩
theorem D_prog_54_m2_8 : Dc prog_54_method_2_code 8 (.iconst 1) 1 9 := ⟨by decide +kernel, rfl⟩
theorem D_prog_54_m2_9 : Dc prog_54_method_2_code 9 (.invokespecial 11) 3 12 := ⟨by decide +kernel, rfl⟩
theorem D_prog_54_m2_12 : Dc prog_54_method_2_code 12 (.return_) 1 13 := ⟨by decide +kernel, rfl⟩
set_option maxRecDepth 65536 in
set_option maxHeartbeats 40000000 in
theorem c_gr (l : Launch) (Z : State) (a0 : Array Value) (hw : ∀ d ∈ tables_1, d.before a0 Z = true) (g : Addr) (o x s s0 t t0 rs rl : Addr) (x0 x1 y0 y1 : Int32) (F : OH) (h_x0 : 0 ≤ x0.toInt ∧ x0.toInt ≤ 7) (h_x1 : 0 ≤ x1.toInt ∧ x1.toInt ≤ 7) (h_y0 : 0 ≤ y0.toInt ∧ y0.toInt ≤ 7) (h_y1 : 0 ≤ y1.toInt ∧ y1.toInt ≤ 7) :
    Met l Z (⟨"com/example/chainstat/chainstat/model/LinkGraph", "<init>", "(I[[I[[I[[JI)V"⟩ : MethodName) prog_54_method_2_code 6 none ({ frames := 3, cells := 3, slots := 19, locals := 101 } : Room) [(.ref g), (.int (8 : Int32)), (.ref s), (.ref t), (.null), (.int (2 : Int32))] ((g, oI "com/example/chainstat/chainstat/model/LinkGraph" sg_2 [(.int (0 : Int32)), (.null), (.null), (.null), (.null), (.null)]) :: (o, oI "com/example/chainstat/chainstat/io/LinkList" sg_1 [(.ref s), (.ref t), (.ref rs), (.ref rl), (.ref x), (.int (2 : Int32)), (.null), (.null), (.null)]) :: (s, oR "[I" (.array .int) [(.ref s0)]) :: (s0, oA .int (x0 :: x1 :: List.replicate 1022 0)) :: (t, oR "[I" (.array .int) [(.ref t0)]) :: (t0, oA .int (y0 :: y1 :: List.replicate 1022 0)) :: F) (Q_c_gr g o x s s0 t t0 rs rl x0 x1 y0 y1 F) := by
  refine Met.of_wp (Ls := #[.val (.ref g), .val (.int (8 : Int32)), .val (.ref s), .val (.ref t), .val (.null), .val (.int (2 : Int32))]) pn_8 (fun m => (entry_loc m _ _).trans rfl) ?_
  show Wp none l Z "com/example/chainstat/chainstat/model/LinkGraph" "<init>" prog_54_method_2_code 6 none ({ frames := 3, cells := 3, slots := 19, locals := 101 } : Room) ((g, oI "com/example/chainstat/chainstat/model/LinkGraph" sg_2 [(.int (0 : Int32)), (.null), (.null), (.null), (.null), (.null)]) :: (o, oI "com/example/chainstat/chainstat/io/LinkList" sg_1 [(.ref s), (.ref t), (.ref rs), (.ref rl), (.ref x), (.int (2 : Int32)), (.null), (.null), (.null)]) :: (s, oR "[I" (.array .int) [(.ref s0)]) :: (s0, oA .int (x0 :: x1 :: List.replicate 1022 0)) :: (t, oR "[I" (.array .int) [(.ref t0)]) :: (t0, oA .int (y0 :: y1 :: List.replicate 1022 0)) :: F) 0 0 0 #[.val (.ref g), .val (.int (8 : Int32)), .val (.ref s), .val (.ref t), .val (.null), .val (.int (2 : Int32))] [] (Q_c_gr g o x s s0 t t0 rs rl x0 x1 y0 y1 F)
  refine wp_aload_n D_prog_54_m2_0 rfl rfl ?_
  refine wp_iload_n D_prog_54_m2_1 rfl ?_
  refine wp_aload_n D_prog_54_m2_2 rfl rfl ?_
  refine wp_aload_n D_prog_54_m2_3 rfl rfl ?_
  refine wp_aload D_prog_54_m2_4 rfl rfl ?_
  refine wp_iload D_prog_54_m2_6 rfl ?_
  refine wp_iconst 1 D_prog_54_m2_8 (by decide) ?_
  refine wp_init (c_big l Z a0 hw g o x s s0 t t0 rs rl x0 x1 y0 y1 F h_x0 h_x1 h_y0 h_y1) D_prog_54_m2_9 rfl (hw _ (List.mem_of_getElem? (i := 66) rfl)) (hw _ (List.mem_of_getElem? (i := 67) rfl)) (hw _ (List.mem_of_getElem? (i := 62) rfl)) (hw _ (List.mem_of_getElem? (i := 68) rfl)) (by decide) pd_5 rfl rfl rfl (Nat.le_of_ble_eq_true rfl) (Nat.le_of_ble_eq_true rfl) (Nat.le_of_ble_eq_true rfl) (Nat.le_of_ble_eq_true rfl) ?_
  rintro _ _ ⟨rfl, D1, B2, A3, rfl⟩
  show Wp none l Z "com/example/chainstat/chainstat/model/LinkGraph" "<init>" prog_54_method_2_code 6 none ({ frames := 3, cells := 3, slots := 19, locals := 101 } : Room) ((D1, oA .int (fDeg x0.toNatClampNeg x1.toNatClampNeg)) :: (B2, oA .int (fSrc x0 x1 y0.toNatClampNeg y1.toNatClampNeg)) :: (A3, oA .int (fStart y0.toNatClampNeg y1.toNatClampNeg)) :: (g, oI "com/example/chainstat/chainstat/model/LinkGraph" sg_2 [(.int (8 : Int32)), (.ref D1), (.null), (.ref A3), (.ref B2), (.null)]) :: (o, oI "com/example/chainstat/chainstat/io/LinkList" sg_1 [(.ref s), (.ref t), (.ref rs), (.ref rl), (.ref x), (.int (2 : Int32)), (.null), (.null), (.null)]) :: (s, oR "[I" (.array .int) [(.ref s0)]) :: (s0, oA .int (x0 :: x1 :: List.replicate 1022 0)) :: (t, oR "[I" (.array .int) [(.ref t0)]) :: (t0, oA .int (y0 :: y1 :: List.replicate 1022 0)) :: F) 3 19 12 #[.val (.ref g), .val (.int (8 : Int32)), .val (.ref s), .val (.ref t), .val (.null), .val (.int (2 : Int32))] [] (Q_c_gr g o x s s0 t t0 rs rl x0 x1 y0 y1 F)
  refine wp_return D_prog_54_m2_12 rfl (by decide) (by decide) ?_
  exact ⟨rfl, _, _, _, rfl⟩
def Q_c_tog (o x s s0 t t0 rs rl : Addr) (x0 x1 y0 y1 : Int32) (F : OH) : Option Value → OH → Prop := fun v H' => ∃ g D B A, v = some (.ref g) ∧ H' = ((D, oA .int (fDeg x0.toNatClampNeg x1.toNatClampNeg)) :: (B, oA .int (fSrc x0 x1 y0.toNatClampNeg y1.toNatClampNeg)) :: (A, oA .int (fStart y0.toNatClampNeg y1.toNatClampNeg)) :: (g, oI "com/example/chainstat/chainstat/model/LinkGraph" sg_2 [(.int (8 : Int32)), (.ref D), (.null), (.ref A), (.ref B), (.null)]) :: (o, oI "com/example/chainstat/chainstat/io/LinkList" sg_1 [(.ref s), (.ref t), (.ref rs), (.ref rl), (.ref x), (.int (2 : Int32)), (.null), (.null), (.null)]) :: (s, oR "[I" (.array .int) [(.ref s0)]) :: (s0, oA .int (x0 :: x1 :: List.replicate 1022 0)) :: (t, oR "[I" (.array .int) [(.ref t0)]) :: (t0, oA .int (y0 :: y1 :: List.replicate 1022 0)) :: F)
theorem pn_9 : plainFor (⟨"com/example/chainstat/chainstat/io/LinkList", "toGraph", "(I)Lcom/example/chainstat/chainstat/model/LinkGraph;"⟩ : MethodName) = true := by first | exact plainFor_of_name (by first | (simp [plainName, overriddenIn]; done) | decide +kernel) | decide +kernel
theorem D_prog_37_m18_0 : Dc prog_37_method_18_code 0 (.new 56) 3 3 := ⟨by decide +kernel, rfl⟩
theorem D_prog_37_m18_3 : Dc prog_37_method_18_code 3 (.dup) 1 4 := ⟨by decide +kernel, rfl⟩
theorem D_prog_37_m18_4 : Dc prog_37_method_18_code 4 (.iload_n 1) 1 5 := ⟨by decide +kernel, rfl⟩
theorem D_prog_37_m18_5 : Dc prog_37_method_18_code 5 (.aload_n 0) 1 6 := ⟨by decide +kernel, rfl⟩
theorem D_prog_37_m18_6 : Dc prog_37_method_18_code 6 (.getfield 11) 3 9 := ⟨by decide +kernel, rfl⟩
theorem D_prog_37_m18_9 : Dc prog_37_method_18_code 9 (.aload_n 0) 1 10 := ⟨by decide +kernel, rfl⟩
theorem D_prog_37_m18_10 : Dc prog_37_method_18_code 10 (.getfield 15) 3 13 := ⟨by decide +kernel, rfl⟩
theorem D_prog_37_m18_13 : Dc prog_37_method_18_code 13 (.aload_n 0) 1 14 := ⟨by decide +kernel, rfl⟩
theorem D_prog_37_m18_14 : Dc prog_37_method_18_code 14 (.getfield 49) 3 17 := ⟨by decide +kernel, rfl⟩
theorem D_prog_37_m18_17 : Dc prog_37_method_18_code 17 (.aload_n 0) 1 18 := ⟨by decide +kernel, rfl⟩
theorem D_prog_37_m18_18 : Dc prog_37_method_18_code 18 (.getfield 44) 3 21 := ⟨by decide +kernel, rfl⟩
theorem D_prog_37_m18_21 : Dc prog_37_method_18_code 21 (.invokespecial 133) 3 24 := ⟨by decide +kernel, rfl⟩
theorem D_prog_37_m18_24 : Dc prog_37_method_18_code 24 (.areturn) 1 25 := ⟨by decide +kernel, rfl⟩
theorem D_prog_37_m18_25 : Dc prog_37_method_18_code 25 (.astore_n 2) 1 26 := ⟨by decide +kernel, rfl⟩
theorem D_prog_37_m18_26 : Dc prog_37_method_18_code 26 (.new 62) 3 29 := ⟨by decide +kernel, rfl⟩
theorem D_prog_37_m18_29 : Dc prog_37_method_18_code 29 (.dup) 1 30 := ⟨by decide +kernel, rfl⟩
theorem D_prog_37_m18_30 : Dc prog_37_method_18_code 30 (.aload_n 0) 1 31 := ⟨by decide +kernel, rfl⟩
theorem D_prog_37_m18_31 : Dc prog_37_method_18_code 31 (.getfield 25) 3 34 := ⟨by decide +kernel, rfl⟩
theorem D_prog_37_m18_34 : Dc prog_37_method_18_code 34 (.aload_n 2) 1 35 := ⟨by decide +kernel, rfl⟩
theorem D_prog_37_m18_35 : Dc prog_37_method_18_code 35 (.invokevirtual 138) 3 38 := ⟨by decide +kernel, rfl⟩
theorem D_prog_37_m18_38 : Dc prog_37_method_18_code 38 (.invokedynamic 142) 5 43 := ⟨by decide +kernel, rfl⟩
theorem D_prog_37_m18_43 : Dc prog_37_method_18_code 43 (.invokespecial 145) 3 46 := ⟨by decide +kernel, rfl⟩
theorem D_prog_37_m18_46 : Dc prog_37_method_18_code 46 (.athrow) 1 47 := ⟨by decide +kernel, rfl⟩
set_option maxRecDepth 65536 in
set_option maxHeartbeats 40000000 in
theorem c_tog (l : Launch) (Z : State) (a0 : Array Value) (hw : ∀ d ∈ tables_1, d.before a0 Z = true) (o x s s0 t t0 rs rl : Addr) (x0 x1 y0 y1 : Int32) (F : OH) (h_x0 : 0 ≤ x0.toInt ∧ x0.toInt ≤ 7) (h_x1 : 0 ≤ x1.toInt ∧ x1.toInt ≤ 7) (h_y0 : 0 ≤ y0.toInt ∧ y0.toInt ≤ 7) (h_y1 : 0 ≤ y1.toInt ∧ y1.toInt ≤ 7) :
    MetX l Z (⟨"com/example/chainstat/chainstat/io/LinkList", "toGraph", "(I)Lcom/example/chainstat/chainstat/model/LinkGraph;"⟩ : MethodName) prog_37_method_18_code 3 (some (.object "com/example/chainstat/chainstat/model/LinkGraph")) [(0, 24, 25, 136)] ({ frames := 4, cells := 4, slots := 25, locals := 120 } : Room) [(.ref o), (.int (8 : Int32))] ((o, oI "com/example/chainstat/chainstat/io/LinkList" sg_1 [(.ref s), (.ref t), (.ref rs), (.ref rl), (.ref x), (.int (2 : Int32)), (.null), (.null), (.null)]) :: (s, oR "[I" (.array .int) [(.ref s0)]) :: (s0, oA .int (x0 :: x1 :: List.replicate 1022 0)) :: (t, oR "[I" (.array .int) [(.ref t0)]) :: (t0, oA .int (y0 :: y1 :: List.replicate 1022 0)) :: F) (Q_c_tog o x s s0 t t0 rs rl x0 x1 y0 y1 F) := by
  refine MetX.of_wp (Ls := #[.val (.ref o), .val (.int (8 : Int32)), .unset]) pn_9 (fun m => (entry_loc m _ _).trans rfl) ?_
  show Wp none l Z "com/example/chainstat/chainstat/io/LinkList" "toGraph" prog_37_method_18_code 3 (some (.object "com/example/chainstat/chainstat/model/LinkGraph")) ({ frames := 4, cells := 4, slots := 25, locals := 120 } : Room) ((o, oI "com/example/chainstat/chainstat/io/LinkList" sg_1 [(.ref s), (.ref t), (.ref rs), (.ref rl), (.ref x), (.int (2 : Int32)), (.null), (.null), (.null)]) :: (s, oR "[I" (.array .int) [(.ref s0)]) :: (s0, oA .int (x0 :: x1 :: List.replicate 1022 0)) :: (t, oR "[I" (.array .int) [(.ref t0)]) :: (t0, oA .int (y0 :: y1 :: List.replicate 1022 0)) :: F) 0 0 0 #[.val (.ref o), .val (.int (8 : Int32)), .unset] [] (Q_c_tog o x s s0 t t0 rs rl x0 x1 y0 y1 F)
  refine wp_new sg_2 [(.int (0 : Int32)), (.null), (.null), (.null), (.null), (.null)] D_prog_37_m18_0 (hw _ (List.mem_of_getElem? (i := 60) rfl)) (hw _ (List.mem_of_getElem? (i := 61) rfl)) (hw _ (List.mem_of_getElem? (i := 62) rfl)) (laid_sg_2 l Z a0 hw) (by decide) dfl_sg_2 (by decide) (by decide) ?_
  intro a1
  show Wp none l Z "com/example/chainstat/chainstat/io/LinkList" "toGraph" prog_37_method_18_code 3 (some (.object "com/example/chainstat/chainstat/model/LinkGraph")) ({ frames := 4, cells := 4, slots := 25, locals := 120 } : Room) ((a1, oI "com/example/chainstat/chainstat/model/LinkGraph" sg_2 [(.int (0 : Int32)), (.null), (.null), (.null), (.null), (.null)]) :: (o, oI "com/example/chainstat/chainstat/io/LinkList" sg_1 [(.ref s), (.ref t), (.ref rs), (.ref rl), (.ref x), (.int (2 : Int32)), (.null), (.null), (.null)]) :: (s, oR "[I" (.array .int) [(.ref s0)]) :: (s0, oA .int (x0 :: x1 :: List.replicate 1022 0)) :: (t, oR "[I" (.array .int) [(.ref t0)]) :: (t0, oA .int (y0 :: y1 :: List.replicate 1022 0)) :: F) 1 6 3 #[.val (.ref o), .val (.int (8 : Int32)), .unset] [(.ref a1)] (Q_c_tog o x s s0 t t0 rs rl x0 x1 y0 y1 F)
  refine wp_dup D_prog_37_m18_3 rfl ?_
  refine wp_iload_n D_prog_37_m18_4 rfl ?_
  refine wp_aload_n D_prog_37_m18_5 rfl rfl ?_
  refine wp_getfield D_prog_37_m18_6 (hw _ (List.mem_of_getElem? (i := 21) rfl)) (fld_new (i := 1) (fi := 0) rfl rfl rfl) ?_
  refine wp_aload_n D_prog_37_m18_9 rfl rfl ?_
  refine wp_getfield D_prog_37_m18_10 (hw _ (List.mem_of_getElem? (i := 23) rfl)) (fld_new (i := 1) (fi := 1) rfl rfl rfl) ?_
  refine wp_aload_n D_prog_37_m18_13 rfl rfl ?_
  refine wp_getfield D_prog_37_m18_14 (hw _ (List.mem_of_getElem? (i := 48) rfl)) (fld_new (i := 1) (fi := 6) rfl rfl rfl) ?_
  refine wp_aload_n D_prog_37_m18_17 rfl rfl ?_
  refine wp_getfield D_prog_37_m18_18 (hw _ (List.mem_of_getElem? (i := 45) rfl)) (fld_new (i := 1) (fi := 5) rfl rfl rfl) ?_
  refine wp_init (c_gr l Z a0 hw a1 o x s s0 t t0 rs rl x0 x1 y0 y1 F h_x0 h_x1 h_y0 h_y1) D_prog_37_m18_21 rfl (hw _ (List.mem_of_getElem? (i := 63) rfl)) (hw _ (List.mem_of_getElem? (i := 64) rfl)) (hw _ (List.mem_of_getElem? (i := 62) rfl)) (hw _ (List.mem_of_getElem? (i := 65) rfl)) (by decide) pd_3 rfl rfl rfl (Nat.le_of_ble_eq_true rfl) (Nat.le_of_ble_eq_true rfl) (Nat.le_of_ble_eq_true rfl) (Nat.le_of_ble_eq_true rfl) ?_
  rintro _ _ ⟨rfl, D2, B3, A4, rfl⟩
  show Wp none l Z "com/example/chainstat/chainstat/io/LinkList" "toGraph" prog_37_method_18_code 3 (some (.object "com/example/chainstat/chainstat/model/LinkGraph")) ({ frames := 4, cells := 4, slots := 25, locals := 120 } : Room) ((D2, oA .int (fDeg x0.toNatClampNeg x1.toNatClampNeg)) :: (B3, oA .int (fSrc x0 x1 y0.toNatClampNeg y1.toNatClampNeg)) :: (A4, oA .int (fStart y0.toNatClampNeg y1.toNatClampNeg)) :: (a1, oI "com/example/chainstat/chainstat/model/LinkGraph" sg_2 [(.int (8 : Int32)), (.ref D2), (.null), (.ref A4), (.ref B3), (.null)]) :: (o, oI "com/example/chainstat/chainstat/io/LinkList" sg_1 [(.ref s), (.ref t), (.ref rs), (.ref rl), (.ref x), (.int (2 : Int32)), (.null), (.null), (.null)]) :: (s, oR "[I" (.array .int) [(.ref s0)]) :: (s0, oA .int (x0 :: x1 :: List.replicate 1022 0)) :: (t, oR "[I" (.array .int) [(.ref t0)]) :: (t0, oA .int (y0 :: y1 :: List.replicate 1022 0)) :: F) 4 25 24 #[.val (.ref o), .val (.int (8 : Int32)), .unset] [(.ref a1)] (Q_c_tog o x s s0 t t0 rs rl x0 x1 y0 y1 F)
  refine wp_areturn D_prog_37_m18_24 rfl rfl rfl rfl (by decide) (by decide) ?_
  exact ⟨_, _, _, _, rfl, rfl⟩
def Q_c_ren (q : Addr) (ps : List Int32) (o x s s0 t t0 rs rl : Addr) (x0 x1 y0 y1 : Int32) (F : OH) : Option Value → OH → Prop := fun v H' => v = none ∧ H' = ((o, oI "com/example/chainstat/chainstat/io/LinkList" sg_1 [(.ref s), (.ref t), (.ref rs), (.ref rl), (.ref x), (.int (2 : Int32)), (.null), (.null), (.null)]) :: (s, oR "[I" (.array .int) [(.ref s0)]) :: (s0, oA .int ((gt ps x0.toNatClampNeg) :: (gt ps x1.toNatClampNeg) :: List.replicate 1022 0)) :: (t, oR "[I" (.array .int) [(.ref t0)]) :: (t0, oA .int ((gt ps y0.toNatClampNeg) :: (gt ps y1.toNatClampNeg) :: List.replicate 1022 0)) :: (q, oA .int ps) :: F)
theorem pn_10 : plainFor (⟨"com/example/chainstat/chainstat/io/LinkList", "renumber", "([I)V"⟩ : MethodName) = true := by first | exact plainFor_of_name (by first | (simp [plainName, overriddenIn]; done) | decide +kernel) | decide +kernel
theorem D_prog_37_m17_0 : Dc prog_37_method_17_code 0 (.iconst 0) 1 1 := ⟨by decide +kernel, rfl⟩
theorem D_prog_37_m17_1 : Dc prog_37_method_17_code 1 (.istore_n 2) 1 2 := ⟨by decide +kernel, rfl⟩
theorem D_prog_37_m17_2 : Dc prog_37_method_17_code 2 (.iload_n 2) 1 3 := ⟨by decide +kernel, rfl⟩
theorem D_prog_37_m17_3 : Dc prog_37_method_17_code 3 (.aload_n 0) 1 4 := ⟨by decide +kernel, rfl⟩
theorem D_prog_37_m17_4 : Dc prog_37_method_17_code 4 (.getfield 44) 3 7 := ⟨by decide +kernel, rfl⟩
theorem D_prog_37_m17_7 : Dc prog_37_method_17_code 7 (.if_icmp .ge 58) 3 10 := ⟨by decide +kernel, rfl⟩
theorem D_prog_37_m17_10 : Dc prog_37_method_17_code 10 (.aload_n 0) 1 11 := ⟨by decide +kernel, rfl⟩
theorem D_prog_37_m17_11 : Dc prog_37_method_17_code 11 (.getfield 11) 3 14 := ⟨by decide +kernel, rfl⟩
theorem D_prog_37_m17_14 : Dc prog_37_method_17_code 14 (.iload_n 2) 1 15 := ⟨by decide +kernel, rfl⟩
theorem D_prog_37_m17_15 : Dc prog_37_method_17_code 15 (.bipush 20) 2 17 := ⟨by decide +kernel, rfl⟩
theorem D_prog_37_m17_17 : Dc prog_37_method_17_code 17 (.iushr) 1 18 := ⟨by decide +kernel, rfl⟩
theorem D_prog_37_m17_18 : Dc prog_37_method_17_code 18 (.aaload) 1 19 := ⟨by decide +kernel, rfl⟩
theorem D_prog_37_m17_19 : Dc prog_37_method_17_code 19 (.astore_n 3) 1 20 := ⟨by decide +kernel, rfl⟩
theorem D_prog_37_m17_20 : Dc prog_37_method_17_code 20 (.aload_n 0) 1 21 := ⟨by decide +kernel, rfl⟩
theorem D_prog_37_m17_21 : Dc prog_37_method_17_code 21 (.getfield 15) 3 24 := ⟨by decide +kernel, rfl⟩
theorem D_prog_37_m17_24 : Dc prog_37_method_17_code 24 (.iload_n 2) 1 25 := ⟨by decide +kernel, rfl⟩
theorem D_prog_37_m17_25 : Dc prog_37_method_17_code 25 (.bipush 20) 2 27 := ⟨by decide +kernel, rfl⟩
theorem D_prog_37_m17_27 : Dc prog_37_method_17_code 27 (.iushr) 1 28 := ⟨by decide +kernel, rfl⟩
theorem D_prog_37_m17_28 : Dc prog_37_method_17_code 28 (.aaload) 1 29 := ⟨by decide +kernel, rfl⟩
theorem D_prog_37_m17_29 : Dc prog_37_method_17_code 29 (.astore 4) 2 31 := ⟨by decide +kernel, rfl⟩
theorem D_prog_37_m17_31 : Dc prog_37_method_17_code 31 (.iload_n 2) 1 32 := ⟨by decide +kernel, rfl⟩
theorem D_prog_37_m17_32 : Dc prog_37_method_17_code 32 (.ldc 48) 2 34 := ⟨by decide +kernel, rfl⟩
theorem D_prog_37_m17_34 : Dc prog_37_method_17_code 34 (.iand) 1 35 := ⟨by decide +kernel, rfl⟩
theorem D_prog_37_m17_35 : Dc prog_37_method_17_code 35 (.istore 5) 2 37 := ⟨by decide +kernel, rfl⟩
theorem D_prog_37_m17_37 : Dc prog_37_method_17_code 37 (.aload_n 3) 1 38 := ⟨by decide +kernel, rfl⟩
theorem D_prog_37_m17_38 : Dc prog_37_method_17_code 38 (.iload 5) 2 40 := ⟨by decide +kernel, rfl⟩
theorem D_prog_37_m17_40 : Dc prog_37_method_17_code 40 (.aload_n 1) 1 41 := ⟨by decide +kernel, rfl⟩
theorem D_prog_37_m17_41 : Dc prog_37_method_17_code 41 (.aload_n 3) 1 42 := ⟨by decide +kernel, rfl⟩
theorem D_prog_37_m17_42 : Dc prog_37_method_17_code 42 (.iload 5) 2 44 := ⟨by decide +kernel, rfl⟩
theorem D_prog_37_m17_44 : Dc prog_37_method_17_code 44 (.iaload) 1 45 := ⟨by decide +kernel, rfl⟩
theorem D_prog_37_m17_45 : Dc prog_37_method_17_code 45 (.iaload) 1 46 := ⟨by decide +kernel, rfl⟩
theorem D_prog_37_m17_46 : Dc prog_37_method_17_code 46 (.iastore) 1 47 := ⟨by decide +kernel, rfl⟩
theorem D_prog_37_m17_47 : Dc prog_37_method_17_code 47 (.aload 4) 2 49 := ⟨by decide +kernel, rfl⟩
theorem D_prog_37_m17_49 : Dc prog_37_method_17_code 49 (.iload 5) 2 51 := ⟨by decide +kernel, rfl⟩
theorem D_prog_37_m17_51 : Dc prog_37_method_17_code 51 (.aload_n 1) 1 52 := ⟨by decide +kernel, rfl⟩
theorem D_prog_37_m17_52 : Dc prog_37_method_17_code 52 (.aload 4) 2 54 := ⟨by decide +kernel, rfl⟩
theorem D_prog_37_m17_54 : Dc prog_37_method_17_code 54 (.iload 5) 2 56 := ⟨by decide +kernel, rfl⟩
theorem D_prog_37_m17_56 : Dc prog_37_method_17_code 56 (.iaload) 1 57 := ⟨by decide +kernel, rfl⟩
theorem D_prog_37_m17_57 : Dc prog_37_method_17_code 57 (.iaload) 1 58 := ⟨by decide +kernel, rfl⟩
theorem D_prog_37_m17_58 : Dc prog_37_method_17_code 58 (.iastore) 1 59 := ⟨by decide +kernel, rfl⟩
theorem D_prog_37_m17_59 : Dc prog_37_method_17_code 59 (.iinc 2 1) 3 62 := ⟨by decide +kernel, rfl⟩
theorem D_prog_37_m17_62 : Dc prog_37_method_17_code 62 (.goto (-60)) 3 65 := ⟨by decide +kernel, rfl⟩
theorem D_prog_37_m17_65 : Dc prog_37_method_17_code 65 (.return_) 1 66 := ⟨by decide +kernel, rfl⟩
set_option maxRecDepth 65536 in
set_option maxHeartbeats 40000000 in
theorem c_ren (l : Launch) (Z : State) (a0 : Array Value) (hw : ∀ d ∈ tables_1, d.before a0 Z = true) (q : Addr) (ps : List Int32) (o x s s0 t t0 rs rl : Addr) (x0 x1 y0 y1 : Int32) (F : OH) (hps : ps.length = 8) (h_x0 : 0 ≤ x0.toInt ∧ x0.toInt ≤ 7) (h_x1 : 0 ≤ x1.toInt ∧ x1.toInt ≤ 7) (h_y0 : 0 ≤ y0.toInt ∧ y0.toInt ≤ 7) (h_y1 : 0 ≤ y1.toInt ∧ y1.toInt ≤ 7) :
    Met l Z (⟨"com/example/chainstat/chainstat/io/LinkList", "renumber", "([I)V"⟩ : MethodName) prog_37_method_17_code 6 none ({ frames := 0, cells := 0, slots := 0, locals := 0 } : Room) [(.ref o), (.ref q)] ((o, oI "com/example/chainstat/chainstat/io/LinkList" sg_1 [(.ref s), (.ref t), (.ref rs), (.ref rl), (.ref x), (.int (2 : Int32)), (.null), (.null), (.null)]) :: (s, oR "[I" (.array .int) [(.ref s0)]) :: (s0, oA .int (x0 :: x1 :: List.replicate 1022 0)) :: (t, oR "[I" (.array .int) [(.ref t0)]) :: (t0, oA .int (y0 :: y1 :: List.replicate 1022 0)) :: (q, oA .int ps) :: F) (Q_c_ren q ps o x s s0 t t0 rs rl x0 x1 y0 y1 F) := by
  refine Met.of_wp (Ls := #[.val (.ref o), .val (.ref q), .unset, .unset, .unset, .unset]) pn_10 (fun m => (entry_loc m _ _).trans rfl) ?_
  show Wp none l Z "com/example/chainstat/chainstat/io/LinkList" "renumber" prog_37_method_17_code 6 none ({ frames := 0, cells := 0, slots := 0, locals := 0 } : Room) ((o, oI "com/example/chainstat/chainstat/io/LinkList" sg_1 [(.ref s), (.ref t), (.ref rs), (.ref rl), (.ref x), (.int (2 : Int32)), (.null), (.null), (.null)]) :: (s, oR "[I" (.array .int) [(.ref s0)]) :: (s0, oA .int (x0 :: x1 :: List.replicate 1022 0)) :: (t, oR "[I" (.array .int) [(.ref t0)]) :: (t0, oA .int (y0 :: y1 :: List.replicate 1022 0)) :: (q, oA .int ps) :: F) 0 0 0 #[.val (.ref o), .val (.ref q), .unset, .unset, .unset, .unset] [] (Q_c_ren q ps o x s s0 t t0 rs rl x0 x1 y0 y1 F)
  refine wp_iconst 0 D_prog_37_m17_0 (by decide) ?_
  refine wp_istore_n #[.val (.ref o), .val (.ref q), .val (.int (0 : Int32)), .unset, .unset, .unset] D_prog_37_m17_1 rfl ?_
  refine wp_iload_n D_prog_37_m17_2 rfl ?_
  refine wp_aload_n D_prog_37_m17_3 rfl rfl ?_
  refine wp_getfield D_prog_37_m17_4 (hw _ (List.mem_of_getElem? (i := 45) rfl)) (fld_new (i := 0) (fi := 5) rfl rfl rfl) ?_
  refine wp_icmp_ge D_prog_37_m17_7 (pc'' := 65) ⟨by decide, by decide⟩ (fun h1 => by exact absurd h1 (by decide)) (fun h1 => ?_)
  refine wp_aload_n D_prog_37_m17_10 rfl rfl ?_
  refine wp_getfield D_prog_37_m17_11 (hw _ (List.mem_of_getElem? (i := 21) rfl)) (fld_new (i := 0) (fi := 0) rfl rfl rfl) ?_
  refine wp_iload_n D_prog_37_m17_14 rfl ?_
  refine wp_bipush 20 D_prog_37_m17_15 (by decide) ?_
  refine wp_iushr D_prog_37_m17_17 ?_
  rw [show (XT.ushr (0 : Int32) (20 : Int32)) = (0 : Int32) from by decide]
  refine wp_aaload (i := 1) (0) D_prog_37_m17_18 rfl rfl (by decide) (by decide) rfl ?_
  refine wp_astore_n #[.val (.ref o), .val (.ref q), .val (.int (0 : Int32)), .val (.ref s0), .unset, .unset] D_prog_37_m17_19 rfl rfl ?_
  refine wp_aload_n D_prog_37_m17_20 rfl rfl ?_
  refine wp_getfield D_prog_37_m17_21 (hw _ (List.mem_of_getElem? (i := 23) rfl)) (fld_new (i := 0) (fi := 1) rfl rfl rfl) ?_
  refine wp_iload_n D_prog_37_m17_24 rfl ?_
  refine wp_bipush 20 D_prog_37_m17_25 (by decide) ?_
  refine wp_iushr D_prog_37_m17_27 ?_
  rw [show (XT.ushr (0 : Int32) (20 : Int32)) = (0 : Int32) from by decide]
  refine wp_aaload (i := 3) (0) D_prog_37_m17_28 rfl rfl (by decide) (by decide) rfl ?_
  refine wp_astore #[.val (.ref o), .val (.ref q), .val (.int (0 : Int32)), .val (.ref s0), .val (.ref t0), .unset] D_prog_37_m17_29 rfl rfl ?_
  refine wp_iload_n D_prog_37_m17_31 rfl ?_
  refine wp_ldcI D_prog_37_m17_32 (hw _ (List.mem_of_getElem? (i := 47) rfl)) ?_
  refine wp_iand D_prog_37_m17_34 ?_
  rw [show ((0 : Int32) &&& (1048575 : Int32)) = (0 : Int32) from by decide]
  refine wp_istore #[.val (.ref o), .val (.ref q), .val (.int (0 : Int32)), .val (.ref s0), .val (.ref t0), .val (.int (0 : Int32))] D_prog_37_m17_35 rfl ?_
  refine wp_aload_n D_prog_37_m17_37 rfl rfl ?_
  refine wp_iload D_prog_37_m17_38 rfl ?_
  refine wp_aload_n D_prog_37_m17_40 rfl rfl ?_
  refine wp_aload_n D_prog_37_m17_41 rfl rfl ?_
  refine wp_iload D_prog_37_m17_42 rfl ?_
  refine wp_iaload (i := 2) (0) D_prog_37_m17_44 rfl (by decide) (by decide) rfl ?_
  refine wp_iaload (i := 5) (x0.toNatClampNeg) D_prog_37_m17_45 rfl (own_n0 x0 h_x0) rfl (own_gt _ _ (by rw [hps]; exact own_cl x0 h_x0)) ?_
  refine wp_iastore (i := 2) (0) D_prog_37_m17_46 rfl (by decide) (by decide) (by simp only [List.length_cons, List.length_replicate]; decide) ?_
  show Wp none l Z "com/example/chainstat/chainstat/io/LinkList" "renumber" prog_37_method_17_code 6 none ({ frames := 0, cells := 0, slots := 0, locals := 0 } : Room) ((o, oI "com/example/chainstat/chainstat/io/LinkList" sg_1 [(.ref s), (.ref t), (.ref rs), (.ref rl), (.ref x), (.int (2 : Int32)), (.null), (.null), (.null)]) :: (s, oR "[I" (.array .int) [(.ref s0)]) :: (s0, oA .int ((gt ps x0.toNatClampNeg) :: x1 :: List.replicate 1022 0)) :: (t, oR "[I" (.array .int) [(.ref t0)]) :: (t0, oA .int (y0 :: y1 :: List.replicate 1022 0)) :: (q, oA .int ps) :: F) 0 0 47 #[.val (.ref o), .val (.ref q), .val (.int (0 : Int32)), .val (.ref s0), .val (.ref t0), .val (.int (0 : Int32))] [] (Q_c_ren q ps o x s s0 t t0 rs rl x0 x1 y0 y1 F)
  refine wp_aload D_prog_37_m17_47 rfl rfl ?_
  refine wp_iload D_prog_37_m17_49 rfl ?_
  refine wp_aload_n D_prog_37_m17_51 rfl rfl ?_
  refine wp_aload D_prog_37_m17_52 rfl rfl ?_
  refine wp_iload D_prog_37_m17_54 rfl ?_
  refine wp_iaload (i := 4) (0) D_prog_37_m17_56 rfl (by decide) (by decide) rfl ?_
  refine wp_iaload (i := 5) (y0.toNatClampNeg) D_prog_37_m17_57 rfl (own_n0 y0 h_y0) rfl (own_gt _ _ (by rw [hps]; exact own_cl y0 h_y0)) ?_
  refine wp_iastore (i := 4) (0) D_prog_37_m17_58 rfl (by decide) (by decide) (by simp only [List.length_cons, List.length_replicate]; decide) ?_
  show Wp none l Z "com/example/chainstat/chainstat/io/LinkList" "renumber" prog_37_method_17_code 6 none ({ frames := 0, cells := 0, slots := 0, locals := 0 } : Room) ((o, oI "com/example/chainstat/chainstat/io/LinkList" sg_1 [(.ref s), (.ref t), (.ref rs), (.ref rl), (.ref x), (.int (2 : Int32)), (.null), (.null), (.null)]) :: (s, oR "[I" (.array .int) [(.ref s0)]) :: (s0, oA .int ((gt ps x0.toNatClampNeg) :: x1 :: List.replicate 1022 0)) :: (t, oR "[I" (.array .int) [(.ref t0)]) :: (t0, oA .int ((gt ps y0.toNatClampNeg) :: y1 :: List.replicate 1022 0)) :: (q, oA .int ps) :: F) 0 0 59 #[.val (.ref o), .val (.ref q), .val (.int (0 : Int32)), .val (.ref s0), .val (.ref t0), .val (.int (0 : Int32))] [] (Q_c_ren q ps o x s s0 t t0 rs rl x0 x1 y0 y1 F)
  refine wp_iinc 1 #[.val (.ref o), .val (.ref q), .val (.int (1 : Int32)), .val (.ref s0), .val (.ref t0), .val (.int (0 : Int32))] D_prog_37_m17_59 rfl rfl (by rw [show (0 : Int32) + (1 : Int32) = (1 : Int32) from by decide]; rfl) ?_
  refine wp_goto D_prog_37_m17_62 (pc'' := 2) ⟨by decide, by decide⟩ ?_
  refine wp_iload_n D_prog_37_m17_2 rfl ?_
  refine wp_aload_n D_prog_37_m17_3 rfl rfl ?_
  refine wp_getfield D_prog_37_m17_4 (hw _ (List.mem_of_getElem? (i := 45) rfl)) (fld_new (i := 0) (fi := 5) rfl rfl rfl) ?_
  refine wp_icmp_ge D_prog_37_m17_7 (pc'' := 65) ⟨by decide, by decide⟩ (fun h2 => by exact absurd h2 (by decide)) (fun h2 => ?_)
  refine wp_aload_n D_prog_37_m17_10 rfl rfl ?_
  refine wp_getfield D_prog_37_m17_11 (hw _ (List.mem_of_getElem? (i := 21) rfl)) (fld_new (i := 0) (fi := 0) rfl rfl rfl) ?_
  refine wp_iload_n D_prog_37_m17_14 rfl ?_
  refine wp_bipush 20 D_prog_37_m17_15 (by decide) ?_
  refine wp_iushr D_prog_37_m17_17 ?_
  rw [show (XT.ushr (1 : Int32) (20 : Int32)) = (0 : Int32) from by decide]
  refine wp_aaload (i := 1) (0) D_prog_37_m17_18 rfl rfl (by decide) (by decide) rfl ?_
  refine wp_astore_n #[.val (.ref o), .val (.ref q), .val (.int (1 : Int32)), .val (.ref s0), .val (.ref t0), .val (.int (0 : Int32))] D_prog_37_m17_19 rfl rfl ?_
  refine wp_aload_n D_prog_37_m17_20 rfl rfl ?_
  refine wp_getfield D_prog_37_m17_21 (hw _ (List.mem_of_getElem? (i := 23) rfl)) (fld_new (i := 0) (fi := 1) rfl rfl rfl) ?_
  refine wp_iload_n D_prog_37_m17_24 rfl ?_
  refine wp_bipush 20 D_prog_37_m17_25 (by decide) ?_
  refine wp_iushr D_prog_37_m17_27 ?_
  rw [show (XT.ushr (1 : Int32) (20 : Int32)) = (0 : Int32) from by decide]
  refine wp_aaload (i := 3) (0) D_prog_37_m17_28 rfl rfl (by decide) (by decide) rfl ?_
  refine wp_astore #[.val (.ref o), .val (.ref q), .val (.int (1 : Int32)), .val (.ref s0), .val (.ref t0), .val (.int (0 : Int32))] D_prog_37_m17_29 rfl rfl ?_
  refine wp_iload_n D_prog_37_m17_31 rfl ?_
  refine wp_ldcI D_prog_37_m17_32 (hw _ (List.mem_of_getElem? (i := 47) rfl)) ?_
  refine wp_iand D_prog_37_m17_34 ?_
  rw [show ((1 : Int32) &&& (1048575 : Int32)) = (1 : Int32) from by decide]
  refine wp_istore #[.val (.ref o), .val (.ref q), .val (.int (1 : Int32)), .val (.ref s0), .val (.ref t0), .val (.int (1 : Int32))] D_prog_37_m17_35 rfl ?_
  refine wp_aload_n D_prog_37_m17_37 rfl rfl ?_
  refine wp_iload D_prog_37_m17_38 rfl ?_
  refine wp_aload_n D_prog_37_m17_40 rfl rfl ?_
  refine wp_aload_n D_prog_37_m17_41 rfl rfl ?_
  refine wp_iload D_prog_37_m17_42 rfl ?_
  refine wp_iaload (i := 2) (1) D_prog_37_m17_44 rfl (by decide) (by decide) rfl ?_
  refine wp_iaload (i := 5) (x1.toNatClampNeg) D_prog_37_m17_45 rfl (own_n0 x1 h_x1) rfl (own_gt _ _ (by rw [hps]; exact own_cl x1 h_x1)) ?_
  refine wp_iastore (i := 2) (1) D_prog_37_m17_46 rfl (by decide) (by decide) (by simp only [List.length_cons, List.length_replicate]; decide) ?_
  show Wp none l Z "com/example/chainstat/chainstat/io/LinkList" "renumber" prog_37_method_17_code 6 none ({ frames := 0, cells := 0, slots := 0, locals := 0 } : Room) ((o, oI "com/example/chainstat/chainstat/io/LinkList" sg_1 [(.ref s), (.ref t), (.ref rs), (.ref rl), (.ref x), (.int (2 : Int32)), (.null), (.null), (.null)]) :: (s, oR "[I" (.array .int) [(.ref s0)]) :: (s0, oA .int ((gt ps x0.toNatClampNeg) :: (gt ps x1.toNatClampNeg) :: List.replicate 1022 0)) :: (t, oR "[I" (.array .int) [(.ref t0)]) :: (t0, oA .int ((gt ps y0.toNatClampNeg) :: y1 :: List.replicate 1022 0)) :: (q, oA .int ps) :: F) 0 0 47 #[.val (.ref o), .val (.ref q), .val (.int (1 : Int32)), .val (.ref s0), .val (.ref t0), .val (.int (1 : Int32))] [] (Q_c_ren q ps o x s s0 t t0 rs rl x0 x1 y0 y1 F)
  refine wp_aload D_prog_37_m17_47 rfl rfl ?_
  refine wp_iload D_prog_37_m17_49 rfl ?_
  refine wp_aload_n D_prog_37_m17_51 rfl rfl ?_
  refine wp_aload D_prog_37_m17_52 rfl rfl ?_
  refine wp_iload D_prog_37_m17_54 rfl ?_
  refine wp_iaload (i := 4) (1) D_prog_37_m17_56 rfl (by decide) (by decide) rfl ?_
  refine wp_iaload (i := 5) (y1.toNatClampNeg) D_prog_37_m17_57 rfl (own_n0 y1 h_y1) rfl (own_gt _ _ (by rw [hps]; exact own_cl y1 h_y1)) ?_
  refine wp_iastore (i := 4) (1) D_prog_37_m17_58 rfl (by decide) (by decide) (by simp only [List.length_cons, List.length_replicate]; decide) ?_
  show Wp none l Z "com/example/chainstat/chainstat/io/LinkList" "renumber" prog_37_method_17_code 6 none ({ frames := 0, cells := 0, slots := 0, locals := 0 } : Room) ((o, oI "com/example/chainstat/chainstat/io/LinkList" sg_1 [(.ref s), (.ref t), (.ref rs), (.ref rl), (.ref x), (.int (2 : Int32)), (.null), (.null), (.null)]) :: (s, oR "[I" (.array .int) [(.ref s0)]) :: (s0, oA .int ((gt ps x0.toNatClampNeg) :: (gt ps x1.toNatClampNeg) :: List.replicate 1022 0)) :: (t, oR "[I" (.array .int) [(.ref t0)]) :: (t0, oA .int ((gt ps y0.toNatClampNeg) :: (gt ps y1.toNatClampNeg) :: List.replicate 1022 0)) :: (q, oA .int ps) :: F) 0 0 59 #[.val (.ref o), .val (.ref q), .val (.int (1 : Int32)), .val (.ref s0), .val (.ref t0), .val (.int (1 : Int32))] [] (Q_c_ren q ps o x s s0 t t0 rs rl x0 x1 y0 y1 F)
  refine wp_iinc 1 #[.val (.ref o), .val (.ref q), .val (.int (2 : Int32)), .val (.ref s0), .val (.ref t0), .val (.int (1 : Int32))] D_prog_37_m17_59 rfl rfl (by rw [show (1 : Int32) + (1 : Int32) = (2 : Int32) from by decide]; rfl) ?_
  refine wp_goto D_prog_37_m17_62 (pc'' := 2) ⟨by decide, by decide⟩ ?_
  refine wp_iload_n D_prog_37_m17_2 rfl ?_
  refine wp_aload_n D_prog_37_m17_3 rfl rfl ?_
  refine wp_getfield D_prog_37_m17_4 (hw _ (List.mem_of_getElem? (i := 45) rfl)) (fld_new (i := 0) (fi := 5) rfl rfl rfl) ?_
  refine wp_icmp_ge D_prog_37_m17_7 (pc'' := 65) ⟨by decide, by decide⟩ (fun h3 => ?_) (fun h3 => by exact absurd h3 (by decide))
  refine wp_return D_prog_37_m17_65 rfl (by decide) (by decide) ?_
  exact ⟨rfl, rfl⟩
theorem pn_11 : plainFor (⟨"com/example/chainstat/chainstat/model/LinkGraph", "incomingSource", "(I)I"⟩ : MethodName) = true := by first | exact plainFor_of_name (by first | (simp [plainName, overriddenIn]; done) | decide +kernel) | decide +kernel
theorem D_prog_54_m15_0 : Dc prog_54_method_15_code 0 (.aload_n 0) 1 1 := ⟨by decide +kernel, rfl⟩
theorem D_prog_54_m15_1 : Dc prog_54_method_15_code 1 (.getfield 73) 3 4 := ⟨by decide +kernel, rfl⟩
theorem D_prog_54_m15_4 : Dc prog_54_method_15_code 4 (.iload_n 1) 1 5 := ⟨by decide +kernel, rfl⟩
theorem D_prog_54_m15_5 : Dc prog_54_method_15_code 5 (.iaload) 1 6 := ⟨by decide +kernel, rfl⟩
theorem D_prog_54_m15_6 : Dc prog_54_method_15_code 6 (.ireturn) 1 7 := ⟨by decide +kernel, rfl⟩
def Q_c_isrc (g A B D : Addr) (i r : Int32) (zs : List Int32) (F : OH) : Option Value → OH → Prop := fun v H' => v = some (.int r) ∧ H' = (g, oI "com/example/chainstat/chainstat/model/LinkGraph" sg_2 [(.int (8 : Int32)), (.ref D), (.null), (.ref A), (.ref B), (.null)]) :: (B, oA .int zs) :: F
set_option maxRecDepth 65536 in
set_option maxHeartbeats 40000000 in
theorem c_isrc (l : Launch) (Z : State) (a0 : Array Value) (hw : ∀ d ∈ tables_1, d.before a0 Z = true) (g A B D : Addr) (i r : Int32) (zs : List Int32) (F : OH)  (h0 : ¬ i < 0) (m : Nat) (hm : i.toNatClampNeg = m) (hv : zs[m]? = some r) :
    Met l Z (⟨"com/example/chainstat/chainstat/model/LinkGraph", "incomingSource", "(I)I"⟩ : MethodName) prog_54_method_15_code 2 (some .int) ({ frames := 0, cells := 0, slots := 0, locals := 0 } : Room) [(.ref g), (.int i)] ((g, oI "com/example/chainstat/chainstat/model/LinkGraph" sg_2 [(.int (8 : Int32)), (.ref D), (.null), (.ref A), (.ref B), (.null)]) :: (B, oA .int zs) :: F) (Q_c_isrc g A B D i r zs F) := by
  refine Met.of_wp (Ls := #[.val (.ref g), .val (.int i)]) pn_11 (fun m => (entry_loc m _ _).trans rfl) ?_
  show Wp none l Z "com/example/chainstat/chainstat/model/LinkGraph" "incomingSource" prog_54_method_15_code 2 (some .int) ({ frames := 0, cells := 0, slots := 0, locals := 0 } : Room) ((g, oI "com/example/chainstat/chainstat/model/LinkGraph" sg_2 [(.int (8 : Int32)), (.ref D), (.null), (.ref A), (.ref B), (.null)]) :: (B, oA .int zs) :: F) 0 0 0 #[.val (.ref g), .val (.int i)] [] (Q_c_isrc g A B D i r zs F)
  refine wp_aload_n D_prog_54_m15_0 rfl rfl ?_
  refine wp_getfield D_prog_54_m15_1 (hw _ (List.mem_of_getElem? (i := 85) rfl)) (fld_new (i := 0) (fi := 4) rfl rfl rfl) ?_
  refine wp_iload_n D_prog_54_m15_4 rfl ?_
  refine wp_iaload (i := 1) (m) D_prog_54_m15_5 rfl h0 hm hv ?_
  refine wp_ireturn D_prog_54_m15_6 rfl (by decide) (by decide) ?_
  exact ⟨rfl, rfl⟩
theorem pn_12 : plainFor (⟨"com/example/chainstat/chainstat/model/LinkGraph", "incomingStart", "(I)I"⟩ : MethodName) = true := by first | exact plainFor_of_name (by first | (simp [plainName, overriddenIn]; done) | decide +kernel) | decide +kernel
theorem D_prog_54_m14_0 : Dc prog_54_method_14_code 0 (.aload_n 0) 1 1 := ⟨by decide +kernel, rfl⟩
theorem D_prog_54_m14_1 : Dc prog_54_method_14_code 1 (.getfield 70) 3 4 := ⟨by decide +kernel, rfl⟩
theorem D_prog_54_m14_4 : Dc prog_54_method_14_code 4 (.iload_n 1) 1 5 := ⟨by decide +kernel, rfl⟩
theorem D_prog_54_m14_5 : Dc prog_54_method_14_code 5 (.iaload) 1 6 := ⟨by decide +kernel, rfl⟩
theorem D_prog_54_m14_6 : Dc prog_54_method_14_code 6 (.ireturn) 1 7 := ⟨by decide +kernel, rfl⟩
def Q_c_ist (g A B D : Addr) (i r : Int32) (zs : List Int32) (F : OH) : Option Value → OH → Prop := fun v H' => v = some (.int r) ∧ H' = (g, oI "com/example/chainstat/chainstat/model/LinkGraph" sg_2 [(.int (8 : Int32)), (.ref D), (.null), (.ref A), (.ref B), (.null)]) :: (A, oA .int zs) :: F
set_option maxRecDepth 65536 in
set_option maxHeartbeats 40000000 in
theorem c_ist (l : Launch) (Z : State) (a0 : Array Value) (hw : ∀ d ∈ tables_1, d.before a0 Z = true) (g A B D : Addr) (i r : Int32) (zs : List Int32) (F : OH)  (h0 : ¬ i < 0) (m : Nat) (hm : i.toNatClampNeg = m) (hv : zs[m]? = some r) :
    Met l Z (⟨"com/example/chainstat/chainstat/model/LinkGraph", "incomingStart", "(I)I"⟩ : MethodName) prog_54_method_14_code 2 (some .int) ({ frames := 0, cells := 0, slots := 0, locals := 0 } : Room) [(.ref g), (.int i)] ((g, oI "com/example/chainstat/chainstat/model/LinkGraph" sg_2 [(.int (8 : Int32)), (.ref D), (.null), (.ref A), (.ref B), (.null)]) :: (A, oA .int zs) :: F) (Q_c_ist g A B D i r zs F) := by
  refine Met.of_wp (Ls := #[.val (.ref g), .val (.int i)]) pn_12 (fun m => (entry_loc m _ _).trans rfl) ?_
  show Wp none l Z "com/example/chainstat/chainstat/model/LinkGraph" "incomingStart" prog_54_method_14_code 2 (some .int) ({ frames := 0, cells := 0, slots := 0, locals := 0 } : Room) ((g, oI "com/example/chainstat/chainstat/model/LinkGraph" sg_2 [(.int (8 : Int32)), (.ref D), (.null), (.ref A), (.ref B), (.null)]) :: (A, oA .int zs) :: F) 0 0 0 #[.val (.ref g), .val (.int i)] [] (Q_c_ist g A B D i r zs F)
  refine wp_aload_n D_prog_54_m14_0 rfl rfl ?_
  refine wp_getfield D_prog_54_m14_1 (hw _ (List.mem_of_getElem? (i := 83) rfl)) (fld_new (i := 0) (fi := 3) rfl rfl rfl) ?_
  refine wp_iload_n D_prog_54_m14_4 rfl ?_
  refine wp_iaload (i := 1) (m) D_prog_54_m14_5 rfl h0 hm hv ?_
  refine wp_ireturn D_prog_54_m14_6 rfl (by decide) (by decide) ?_
  exact ⟨rfl, rfl⟩
theorem pn_13 : plainFor (⟨"com/example/chainstat/chainstat/model/LinkGraph", "linkCount", "()I"⟩ : MethodName) = true := by first | exact plainFor_of_name (by first | (simp [plainName, overriddenIn]; done) | decide +kernel) | decide +kernel
theorem D_prog_54_m11_0 : Dc prog_54_method_11_code 0 (.aload_n 0) 1 1 := ⟨by decide +kernel, rfl⟩
theorem D_prog_54_m11_1 : Dc prog_54_method_11_code 1 (.getfield 73) 3 4 := ⟨by decide +kernel, rfl⟩
theorem D_prog_54_m11_4 : Dc prog_54_method_11_code 4 (.arraylength) 1 5 := ⟨by decide +kernel, rfl⟩
theorem D_prog_54_m11_5 : Dc prog_54_method_11_code 5 (.ireturn) 1 6 := ⟨by decide +kernel, rfl⟩
def Q_c_lc (g A B D : Addr) (zs : List Int32) (F : OH) : Option Value → OH → Prop := fun v H' => v = some (.int 2) ∧ H' = (g, oI "com/example/chainstat/chainstat/model/LinkGraph" sg_2 [(.int (8 : Int32)), (.ref D), (.null), (.ref A), (.ref B), (.null)]) :: (B, oA .int zs) :: F
set_option maxRecDepth 65536 in
set_option maxHeartbeats 40000000 in
theorem c_lc (l : Launch) (Z : State) (a0 : Array Value) (hw : ∀ d ∈ tables_1, d.before a0 Z = true) (g A B D : Addr) (zs : List Int32) (F : OH)  (hl : zs.length = 2) :
    Met l Z (⟨"com/example/chainstat/chainstat/model/LinkGraph", "linkCount", "()I"⟩ : MethodName) prog_54_method_11_code 1 (some .int) ({ frames := 0, cells := 0, slots := 0, locals := 0 } : Room) [(.ref g)] ((g, oI "com/example/chainstat/chainstat/model/LinkGraph" sg_2 [(.int (8 : Int32)), (.ref D), (.null), (.ref A), (.ref B), (.null)]) :: (B, oA .int zs) :: F) (Q_c_lc g A B D zs F) := by
  refine Met.of_wp (Ls := #[.val (.ref g)]) pn_13 (fun m => (entry_loc m _ _).trans rfl) ?_
  show Wp none l Z "com/example/chainstat/chainstat/model/LinkGraph" "linkCount" prog_54_method_11_code 1 (some .int) ({ frames := 0, cells := 0, slots := 0, locals := 0 } : Room) ((g, oI "com/example/chainstat/chainstat/model/LinkGraph" sg_2 [(.int (8 : Int32)), (.ref D), (.null), (.ref A), (.ref B), (.null)]) :: (B, oA .int zs) :: F) 0 0 0 #[.val (.ref g)] [] (Q_c_lc g A B D zs F)
  refine wp_aload_n D_prog_54_m11_0 rfl rfl ?_
  refine wp_getfield D_prog_54_m11_1 (hw _ (List.mem_of_getElem? (i := 85) rfl)) (fld_new (i := 0) (fi := 4) rfl rfl rfl) ?_
  refine wp_lengthI (i := 1) (2 : Int32) D_prog_54_m11_4 rfl (by rw [hl]; rfl) ?_
  refine wp_ireturn D_prog_54_m11_5 rfl (by decide) (by decide) ?_
  exact ⟨rfl, rfl⟩
theorem pd_7 : parseMethodDescriptor "(Ljava/lang/String;)V" = some ⟨[(.object "java/lang/String")], none⟩ := by decide +kernel
theorem pd_8 : parseMethodDescriptor "(II)V" = some ⟨[.int, .int], none⟩ := by decide +kernel
theorem pd_9 : parseMethodDescriptor "([I)V" = some ⟨[(.array .int)], none⟩ := by decide +kernel
theorem pd_10 : parseMethodDescriptor "(I)Lcom/example/chainstat/chainstat/model/LinkGraph;" = some ⟨[.int], (some (.object "com/example/chainstat/chainstat/model/LinkGraph"))⟩ := by decide +kernel
theorem pd_11 : parseMethodDescriptor "()I" = some ⟨[], (some .int)⟩ := by decide +kernel
theorem pd_12 : parseMethodDescriptor "(I)I" = some ⟨[.int], (some .int)⟩ := by decide +kernel
theorem pn_14 : plainFor (⟨"com/example/chainstat/chainstat/io/LinkListRenumberPinLaw", "law", "(II)Z"⟩ : MethodName) = true := by first | exact plainFor_of_name (by first | (simp [plainName, overriddenIn]; done) | decide +kernel) | decide +kernel
def Q_law : Option Value → OH → Prop := fun v H' => v = some (.int 1)
theorem D_0 : Dc code 0 (.bipush 8) 2 2 := ⟨at_0, rfl⟩
theorem D_2 : Dc code 2 (.newarray .int) 2 4 := ⟨at_2, rfl⟩
theorem D_4 : Dc code 4 (.astore_n 2) 1 5 := ⟨at_4, rfl⟩
theorem D_5 : Dc code 5 (.aload_n 2) 1 6 := ⟨at_5, rfl⟩
theorem D_6 : Dc code 6 (.iconst 0) 1 7 := ⟨at_6, rfl⟩
theorem D_7 : Dc code 7 (.iload_n 0) 1 8 := ⟨at_7, rfl⟩
theorem D_8 : Dc code 8 (.bipush 7) 2 10 := ⟨at_8, rfl⟩
theorem D_10 : Dc code 10 (.iand) 1 11 := ⟨at_10, rfl⟩
theorem D_11 : Dc code 11 (.iastore) 1 12 := ⟨at_11, rfl⟩
theorem D_12 : Dc code 12 (.aload_n 2) 1 13 := ⟨at_12, rfl⟩
theorem D_13 : Dc code 13 (.iconst 1) 1 14 := ⟨at_13, rfl⟩
theorem D_14 : Dc code 14 (.iload_n 0) 1 15 := ⟨at_14, rfl⟩
theorem D_15 : Dc code 15 (.iconst 3) 1 16 := ⟨at_15, rfl⟩
theorem D_16 : Dc code 16 (.iushr) 1 17 := ⟨at_16, rfl⟩
theorem D_17 : Dc code 17 (.bipush 7) 2 19 := ⟨at_17, rfl⟩
theorem D_19 : Dc code 19 (.iand) 1 20 := ⟨at_19, rfl⟩
theorem D_20 : Dc code 20 (.iastore) 1 21 := ⟨at_20, rfl⟩
theorem D_21 : Dc code 21 (.aload_n 2) 1 22 := ⟨at_21, rfl⟩
theorem D_22 : Dc code 22 (.iconst 2) 1 23 := ⟨at_22, rfl⟩
theorem D_23 : Dc code 23 (.iload_n 0) 1 24 := ⟨at_23, rfl⟩
theorem D_24 : Dc code 24 (.bipush 6) 2 26 := ⟨at_24, rfl⟩
theorem D_26 : Dc code 26 (.iushr) 1 27 := ⟨at_26, rfl⟩
theorem D_27 : Dc code 27 (.bipush 7) 2 29 := ⟨at_27, rfl⟩
theorem D_29 : Dc code 29 (.iand) 1 30 := ⟨at_29, rfl⟩
theorem D_30 : Dc code 30 (.iastore) 1 31 := ⟨at_30, rfl⟩
theorem D_31 : Dc code 31 (.aload_n 2) 1 32 := ⟨at_31, rfl⟩
theorem D_32 : Dc code 32 (.iconst 3) 1 33 := ⟨at_32, rfl⟩
theorem D_33 : Dc code 33 (.iload_n 0) 1 34 := ⟨at_33, rfl⟩
theorem D_34 : Dc code 34 (.bipush 9) 2 36 := ⟨at_34, rfl⟩
theorem D_36 : Dc code 36 (.iushr) 1 37 := ⟨at_36, rfl⟩
theorem D_37 : Dc code 37 (.bipush 7) 2 39 := ⟨at_37, rfl⟩
theorem D_39 : Dc code 39 (.iand) 1 40 := ⟨at_39, rfl⟩
theorem D_40 : Dc code 40 (.iastore) 1 41 := ⟨at_40, rfl⟩
theorem D_41 : Dc code 41 (.aload_n 2) 1 42 := ⟨at_41, rfl⟩
theorem D_42 : Dc code 42 (.iconst 4) 1 43 := ⟨at_42, rfl⟩
theorem D_43 : Dc code 43 (.iload_n 0) 1 44 := ⟨at_43, rfl⟩
theorem D_44 : Dc code 44 (.bipush 12) 2 46 := ⟨at_44, rfl⟩
theorem D_46 : Dc code 46 (.iushr) 1 47 := ⟨at_46, rfl⟩
theorem D_47 : Dc code 47 (.bipush 7) 2 49 := ⟨at_47, rfl⟩
theorem D_49 : Dc code 49 (.iand) 1 50 := ⟨at_49, rfl⟩
theorem D_50 : Dc code 50 (.iastore) 1 51 := ⟨at_50, rfl⟩
theorem D_51 : Dc code 51 (.aload_n 2) 1 52 := ⟨at_51, rfl⟩
theorem D_52 : Dc code 52 (.iconst 5) 1 53 := ⟨at_52, rfl⟩
theorem D_53 : Dc code 53 (.iload_n 0) 1 54 := ⟨at_53, rfl⟩
theorem D_54 : Dc code 54 (.bipush 15) 2 56 := ⟨at_54, rfl⟩
theorem D_56 : Dc code 56 (.iushr) 1 57 := ⟨at_56, rfl⟩
theorem D_57 : Dc code 57 (.bipush 7) 2 59 := ⟨at_57, rfl⟩
theorem D_59 : Dc code 59 (.iand) 1 60 := ⟨at_59, rfl⟩
theorem D_60 : Dc code 60 (.iastore) 1 61 := ⟨at_60, rfl⟩
theorem D_61 : Dc code 61 (.aload_n 2) 1 62 := ⟨at_61, rfl⟩
theorem D_62 : Dc code 62 (.bipush 6) 2 64 := ⟨at_62, rfl⟩
theorem D_64 : Dc code 64 (.iload_n 0) 1 65 := ⟨at_64, rfl⟩
theorem D_65 : Dc code 65 (.bipush 18) 2 67 := ⟨at_65, rfl⟩
theorem D_67 : Dc code 67 (.iushr) 1 68 := ⟨at_67, rfl⟩
theorem D_68 : Dc code 68 (.bipush 7) 2 70 := ⟨at_68, rfl⟩
theorem D_70 : Dc code 70 (.iand) 1 71 := ⟨at_70, rfl⟩
theorem D_71 : Dc code 71 (.iastore) 1 72 := ⟨at_71, rfl⟩
theorem D_72 : Dc code 72 (.aload_n 2) 1 73 := ⟨at_72, rfl⟩
theorem D_73 : Dc code 73 (.bipush 7) 2 75 := ⟨at_73, rfl⟩
theorem D_75 : Dc code 75 (.iload_n 0) 1 76 := ⟨at_75, rfl⟩
theorem D_76 : Dc code 76 (.bipush 21) 2 78 := ⟨at_76, rfl⟩
theorem D_78 : Dc code 78 (.iushr) 1 79 := ⟨at_78, rfl⟩
theorem D_79 : Dc code 79 (.bipush 7) 2 81 := ⟨at_79, rfl⟩
theorem D_81 : Dc code 81 (.iand) 1 82 := ⟨at_81, rfl⟩
theorem D_82 : Dc code 82 (.iastore) 1 83 := ⟨at_82, rfl⟩
theorem D_83 : Dc code 83 (.iload_n 1) 1 84 := ⟨at_83, rfl⟩
theorem D_84 : Dc code 84 (.bipush 7) 2 86 := ⟨at_84, rfl⟩
theorem D_86 : Dc code 86 (.iand) 1 87 := ⟨at_86, rfl⟩
theorem D_87 : Dc code 87 (.istore_n 3) 1 88 := ⟨at_87, rfl⟩
theorem D_88 : Dc code 88 (.iload_n 1) 1 89 := ⟨at_88, rfl⟩
theorem D_89 : Dc code 89 (.iconst 3) 1 90 := ⟨at_89, rfl⟩
theorem D_90 : Dc code 90 (.iushr) 1 91 := ⟨at_90, rfl⟩
theorem D_91 : Dc code 91 (.bipush 7) 2 93 := ⟨at_91, rfl⟩
theorem D_93 : Dc code 93 (.iand) 1 94 := ⟨at_93, rfl⟩
theorem D_94 : Dc code 94 (.istore 4) 2 96 := ⟨at_94, rfl⟩
theorem D_96 : Dc code 96 (.iload_n 1) 1 97 := ⟨at_96, rfl⟩
theorem D_97 : Dc code 97 (.bipush 6) 2 99 := ⟨at_97, rfl⟩
theorem D_99 : Dc code 99 (.iushr) 1 100 := ⟨at_99, rfl⟩
theorem D_100 : Dc code 100 (.bipush 7) 2 102 := ⟨at_100, rfl⟩
theorem D_102 : Dc code 102 (.iand) 1 103 := ⟨at_102, rfl⟩
theorem D_103 : Dc code 103 (.istore 5) 2 105 := ⟨at_103, rfl⟩
theorem D_105 : Dc code 105 (.iload_n 1) 1 106 := ⟨at_105, rfl⟩
theorem D_106 : Dc code 106 (.bipush 9) 2 108 := ⟨at_106, rfl⟩
theorem D_108 : Dc code 108 (.iushr) 1 109 := ⟨at_108, rfl⟩
theorem D_109 : Dc code 109 (.bipush 7) 2 111 := ⟨at_109, rfl⟩
theorem D_111 : Dc code 111 (.iand) 1 112 := ⟨at_111, rfl⟩
theorem D_112 : Dc code 112 (.istore 6) 2 114 := ⟨at_112, rfl⟩
theorem D_114 : Dc code 114 (.aload_n 2) 1 115 := ⟨at_114, rfl⟩
theorem D_115 : Dc code 115 (.iload_n 3) 1 116 := ⟨at_115, rfl⟩
theorem D_116 : Dc code 116 (.iaload) 1 117 := ⟨at_116, rfl⟩
theorem D_117 : Dc code 117 (.istore 7) 2 119 := ⟨at_117, rfl⟩
theorem D_119 : Dc code 119 (.aload_n 2) 1 120 := ⟨at_119, rfl⟩
theorem D_120 : Dc code 120 (.iload 4) 2 122 := ⟨at_120, rfl⟩
theorem D_122 : Dc code 122 (.iaload) 1 123 := ⟨at_122, rfl⟩
theorem D_123 : Dc code 123 (.istore 8) 2 125 := ⟨at_123, rfl⟩
theorem D_125 : Dc code 125 (.aload_n 2) 1 126 := ⟨at_125, rfl⟩
theorem D_126 : Dc code 126 (.iload 5) 2 128 := ⟨at_126, rfl⟩
theorem D_128 : Dc code 128 (.iaload) 1 129 := ⟨at_128, rfl⟩
theorem D_129 : Dc code 129 (.istore 9) 2 131 := ⟨at_129, rfl⟩
theorem D_131 : Dc code 131 (.aload_n 2) 1 132 := ⟨at_131, rfl⟩
theorem D_132 : Dc code 132 (.iload 6) 2 134 := ⟨at_132, rfl⟩
theorem D_134 : Dc code 134 (.iaload) 1 135 := ⟨at_134, rfl⟩
theorem D_135 : Dc code 135 (.istore 10) 2 137 := ⟨at_135, rfl⟩
theorem D_137 : Dc code 137 (.iload 8) 2 139 := ⟨at_137, rfl⟩
theorem D_139 : Dc code 139 (.iload 10) 2 141 := ⟨at_139, rfl⟩
theorem D_141 : Dc code 141 (.if_icmp .gt 22) 3 144 := ⟨at_141, rfl⟩
theorem D_144 : Dc code 144 (.iload 8) 2 146 := ⟨at_144, rfl⟩
theorem D_146 : Dc code 146 (.istore 11) 2 148 := ⟨at_146, rfl⟩
theorem D_148 : Dc code 148 (.iload 10) 2 150 := ⟨at_148, rfl⟩
theorem D_150 : Dc code 150 (.istore 12) 2 152 := ⟨at_150, rfl⟩
theorem D_152 : Dc code 152 (.iload 7) 2 154 := ⟨at_152, rfl⟩
theorem D_154 : Dc code 154 (.istore 13) 2 156 := ⟨at_154, rfl⟩
theorem D_156 : Dc code 156 (.iload 9) 2 158 := ⟨at_156, rfl⟩
theorem D_158 : Dc code 158 (.istore 14) 2 160 := ⟨at_158, rfl⟩
theorem D_160 : Dc code 160 (.goto 19) 3 163 := ⟨at_160, rfl⟩
theorem D_163 : Dc code 163 (.iload 10) 2 165 := ⟨at_163, rfl⟩
theorem D_165 : Dc code 165 (.istore 11) 2 167 := ⟨at_165, rfl⟩
theorem D_167 : Dc code 167 (.iload 8) 2 169 := ⟨at_167, rfl⟩
theorem D_169 : Dc code 169 (.istore 12) 2 171 := ⟨at_169, rfl⟩
theorem D_171 : Dc code 171 (.iload 9) 2 173 := ⟨at_171, rfl⟩
theorem D_173 : Dc code 173 (.istore 13) 2 175 := ⟨at_173, rfl⟩
theorem D_175 : Dc code 175 (.iload 7) 2 177 := ⟨at_175, rfl⟩
theorem D_177 : Dc code 177 (.istore 14) 2 179 := ⟨at_177, rfl⟩
theorem D_179 : Dc code 179 (.new 7) 3 182 := ⟨at_179, rfl⟩
theorem D_182 : Dc code 182 (.dup) 1 183 := ⟨at_182, rfl⟩
theorem D_183 : Dc code 183 (.ldc 9) 2 185 := ⟨at_183, rfl⟩
theorem D_185 : Dc code 185 (.invokespecial 11) 3 188 := ⟨at_185, rfl⟩
theorem D_188 : Dc code 188 (.astore 15) 2 190 := ⟨at_188, rfl⟩
theorem D_190 : Dc code 190 (.aload 15) 2 192 := ⟨at_190, rfl⟩
theorem D_192 : Dc code 192 (.iload_n 3) 1 193 := ⟨at_192, rfl⟩
theorem D_193 : Dc code 193 (.iload 4) 2 195 := ⟨at_193, rfl⟩
theorem D_195 : Dc code 195 (.invokevirtual 14) 3 198 := ⟨at_195, rfl⟩
theorem D_198 : Dc code 198 (.aload 15) 2 200 := ⟨at_198, rfl⟩
theorem D_200 : Dc code 200 (.iload 5) 2 202 := ⟨at_200, rfl⟩
theorem D_202 : Dc code 202 (.iload 6) 2 204 := ⟨at_202, rfl⟩
theorem D_204 : Dc code 204 (.invokevirtual 14) 3 207 := ⟨at_204, rfl⟩
theorem D_207 : Dc code 207 (.aload 15) 2 209 := ⟨at_207, rfl⟩
theorem D_209 : Dc code 209 (.aload_n 2) 1 210 := ⟨at_209, rfl⟩
theorem D_210 : Dc code 210 (.invokevirtual 18) 3 213 := ⟨at_210, rfl⟩
theorem D_213 : Dc code 213 (.aload 15) 2 215 := ⟨at_213, rfl⟩
theorem D_215 : Dc code 215 (.bipush 8) 2 217 := ⟨at_215, rfl⟩
theorem D_217 : Dc code 217 (.invokevirtual 22) 3 220 := ⟨at_217, rfl⟩
theorem D_220 : Dc code 220 (.astore 16) 2 222 := ⟨at_220, rfl⟩
theorem D_222 : Dc code 222 (.iload 11) 2 224 := ⟨at_222, rfl⟩
theorem D_224 : Dc code 224 (.iload 12) 2 226 := ⟨at_224, rfl⟩
theorem D_226 : Dc code 226 (.if_icmp .ne 7) 3 229 := ⟨at_226, rfl⟩
theorem D_229 : Dc code 229 (.iconst 1) 1 230 := ⟨at_229, rfl⟩
theorem D_230 : Dc code 230 (.goto 4) 3 233 := ⟨at_230, rfl⟩
theorem D_233 : Dc code 233 (.iconst 0) 1 234 := ⟨at_233, rfl⟩
theorem D_234 : Dc code 234 (.istore 17) 2 236 := ⟨at_234, rfl⟩
theorem D_236 : Dc code 236 (.aload 16) 2 238 := ⟨at_236, rfl⟩
theorem D_238 : Dc code 238 (.invokevirtual 26) 3 241 := ⟨at_238, rfl⟩
theorem D_241 : Dc code 241 (.iconst 2) 1 242 := ⟨at_241, rfl⟩
theorem D_242 : Dc code 242 (.if_icmp .ne 94) 3 245 := ⟨at_242, rfl⟩
theorem D_245 : Dc code 245 (.aload 16) 2 247 := ⟨at_245, rfl⟩
theorem D_247 : Dc code 247 (.iconst 0) 1 248 := ⟨at_247, rfl⟩
theorem D_248 : Dc code 248 (.invokevirtual 32) 3 251 := ⟨at_248, rfl⟩
theorem D_251 : Dc code 251 (.iload 13) 2 253 := ⟨at_251, rfl⟩
theorem D_253 : Dc code 253 (.if_icmp .ne 83) 3 256 := ⟨at_253, rfl⟩
theorem D_256 : Dc code 256 (.aload 16) 2 258 := ⟨at_256, rfl⟩
theorem D_258 : Dc code 258 (.iconst 1) 1 259 := ⟨at_258, rfl⟩
theorem D_259 : Dc code 259 (.invokevirtual 32) 3 262 := ⟨at_259, rfl⟩
theorem D_262 : Dc code 262 (.iload 14) 2 264 := ⟨at_262, rfl⟩
theorem D_264 : Dc code 264 (.if_icmp .ne 72) 3 267 := ⟨at_264, rfl⟩
theorem D_267 : Dc code 267 (.aload 16) 2 269 := ⟨at_267, rfl⟩
theorem D_269 : Dc code 269 (.iload 11) 2 271 := ⟨at_269, rfl⟩
theorem D_271 : Dc code 271 (.invokevirtual 36) 3 274 := ⟨at_271, rfl⟩
theorem D_274 : Dc code 274 (.ifCond .ne 62) 3 277 := ⟨at_274, rfl⟩
theorem D_277 : Dc code 277 (.aload 16) 2 279 := ⟨at_277, rfl⟩
theorem D_279 : Dc code 279 (.iload 11) 2 281 := ⟨at_279, rfl⟩
theorem D_281 : Dc code 281 (.iconst 1) 1 282 := ⟨at_281, rfl⟩
theorem D_282 : Dc code 282 (.iadd) 1 283 := ⟨at_282, rfl⟩
theorem D_283 : Dc code 283 (.invokevirtual 36) 3 286 := ⟨at_283, rfl⟩
theorem D_286 : Dc code 286 (.iload 17) 2 288 := ⟨at_286, rfl⟩
theorem D_288 : Dc code 288 (.ifCond .eq 7) 3 291 := ⟨at_288, rfl⟩
theorem D_291 : Dc code 291 (.iconst 2) 1 292 := ⟨at_291, rfl⟩
theorem D_292 : Dc code 292 (.goto 4) 3 295 := ⟨at_292, rfl⟩
theorem D_295 : Dc code 295 (.iconst 1) 1 296 := ⟨at_295, rfl⟩
theorem D_296 : Dc code 296 (.if_icmp .ne 40) 3 299 := ⟨at_296, rfl⟩
theorem D_299 : Dc code 299 (.aload 16) 2 301 := ⟨at_299, rfl⟩
theorem D_301 : Dc code 301 (.iload 12) 2 303 := ⟨at_301, rfl⟩
theorem D_303 : Dc code 303 (.invokevirtual 36) 3 306 := ⟨at_303, rfl⟩
theorem D_306 : Dc code 306 (.iload 17) 2 308 := ⟨at_306, rfl⟩
theorem D_308 : Dc code 308 (.ifCond .eq 7) 3 311 := ⟨at_308, rfl⟩
theorem D_311 : Dc code 311 (.iconst 0) 1 312 := ⟨at_311, rfl⟩
theorem D_312 : Dc code 312 (.goto 4) 3 315 := ⟨at_312, rfl⟩
theorem D_315 : Dc code 315 (.iconst 1) 1 316 := ⟨at_315, rfl⟩
theorem D_316 : Dc code 316 (.if_icmp .ne 20) 3 319 := ⟨at_316, rfl⟩
theorem D_319 : Dc code 319 (.aload 16) 2 321 := ⟨at_319, rfl⟩
theorem D_321 : Dc code 321 (.iload 12) 2 323 := ⟨at_321, rfl⟩
theorem D_323 : Dc code 323 (.iconst 1) 1 324 := ⟨at_323, rfl⟩
theorem D_324 : Dc code 324 (.iadd) 1 325 := ⟨at_324, rfl⟩
theorem D_325 : Dc code 325 (.invokevirtual 36) 3 328 := ⟨at_325, rfl⟩
theorem D_328 : Dc code 328 (.iconst 2) 1 329 := ⟨at_328, rfl⟩
theorem D_329 : Dc code 329 (.if_icmp .ne 7) 3 332 := ⟨at_329, rfl⟩
theorem D_332 : Dc code 332 (.iconst 1) 1 333 := ⟨at_332, rfl⟩
theorem D_333 : Dc code 333 (.goto 4) 3 336 := ⟨at_333, rfl⟩
theorem D_336 : Dc code 336 (.iconst 0) 1 337 := ⟨at_336, rfl⟩
theorem D_337 : Dc code 337 (.ireturn) 1 338 := ⟨at_337, rfl⟩
set_option maxRecDepth 65536 in
set_option maxHeartbeats 40000000 in
theorem law_wp (l : Launch) (Z : State) (a0 : Array Value) (hw : ∀ d ∈ tables_1, d.before a0 Z = true) (a : Int32) (b : Int32)  : Wp (some none) l Z "com/example/chainstat/chainstat/io/LinkListRenumberPinLaw" "law" code maxLocals ret room_1 [] 0 0 0 #[.val (.int a), .val (.int b), .unset, .unset, .unset, .unset, .unset, .unset, .unset, .unset, .unset, .unset, .unset, .unset, .unset, .unset, .unset, .unset] [] Q_law := by
  have wS : ∀ a ∈ Bundle.stringAtoms, a.before a0 Z = true := by
    intro d hd
    simp only [Bundle.stringAtoms, List.mem_cons, List.not_mem_nil, or_false] at hd
    rcases hd with rfl | rfl | rfl | rfl | rfl | rfl | rfl
    · exact (hw _ (List.mem_of_getElem? (i := 5) rfl))
    · exact (hw _ (List.mem_of_getElem? (i := 6) rfl))
    · exact (hw _ (List.mem_of_getElem? (i := 7) rfl))
    · exact (hw _ (List.mem_of_getElem? (i := 8) rfl))
    · exact (hw _ (List.mem_of_getElem? (i := 9) rfl))
    · exact (hw _ (List.mem_of_getElem? (i := 10) rfl))
    · exact (hw _ (List.mem_of_getElem? (i := 11) rfl))
  refine wp_bipush 8 D_0 (by decide) ?_
  refine wp_newarrayI (n := (8 : Int32)) (8) 8 D_2 rfl rfl rfl (hw _ (List.mem_of_getElem? (i := 0) rfl)) (by decide) (by decide) (by decide) (by decide) (by decide) (by decide) ?_
  intro a1
  show Wp (some none) l Z "com/example/chainstat/chainstat/io/LinkListRenumberPinLaw" "law" code maxLocals ret room_1 [(a1, oA .int [(0 : Int32), (0 : Int32), (0 : Int32), (0 : Int32), (0 : Int32), (0 : Int32), (0 : Int32), (0 : Int32)])] 1 8 4 #[.val (.int a), .val (.int b), .unset, .unset, .unset, .unset, .unset, .unset, .unset, .unset, .unset, .unset, .unset, .unset, .unset, .unset, .unset, .unset] [(.ref a1)] Q_law
  refine wp_astore_n #[.val (.int a), .val (.int b), .val (.ref a1), .unset, .unset, .unset, .unset, .unset, .unset, .unset, .unset, .unset, .unset, .unset, .unset, .unset, .unset, .unset] D_4 rfl rfl ?_
  refine wp_aload_n D_5 rfl rfl ?_
  refine wp_iconst 0 D_6 (by decide) ?_
  refine wp_iload_n D_7 rfl ?_
  refine wp_bipush 7 D_8 (by decide) ?_
  refine wp_iand D_10 ?_
  refine wp_iastore (i := 0) (0) D_11 rfl (by decide) (by decide) (by first | decide | exact Nat.le_of_ble_eq_true rfl | simp) ?_
  show Wp (some none) l Z "com/example/chainstat/chainstat/io/LinkListRenumberPinLaw" "law" code maxLocals ret room_1 [(a1, oA .int [(a &&& (7 : Int32)), (0 : Int32), (0 : Int32), (0 : Int32), (0 : Int32), (0 : Int32), (0 : Int32), (0 : Int32)])] 1 8 12 #[.val (.int a), .val (.int b), .val (.ref a1), .unset, .unset, .unset, .unset, .unset, .unset, .unset, .unset, .unset, .unset, .unset, .unset, .unset, .unset, .unset] [] Q_law
  refine wp_aload_n D_12 rfl rfl ?_
  refine wp_iconst 1 D_13 (by decide) ?_
  refine wp_iload_n D_14 rfl ?_
  refine wp_iconst 3 D_15 (by decide) ?_
  refine wp_iushr D_16 ?_
  refine wp_bipush 7 D_17 (by decide) ?_
  refine wp_iand D_19 ?_
  refine wp_iastore (i := 0) (1) D_20 rfl (by decide) (by decide) (by first | decide | exact Nat.le_of_ble_eq_true rfl | simp) ?_
  show Wp (some none) l Z "com/example/chainstat/chainstat/io/LinkListRenumberPinLaw" "law" code maxLocals ret room_1 [(a1, oA .int [(a &&& (7 : Int32)), ((XT.ushr a (3 : Int32)) &&& (7 : Int32)), (0 : Int32), (0 : Int32), (0 : Int32), (0 : Int32), (0 : Int32), (0 : Int32)])] 1 8 21 #[.val (.int a), .val (.int b), .val (.ref a1), .unset, .unset, .unset, .unset, .unset, .unset, .unset, .unset, .unset, .unset, .unset, .unset, .unset, .unset, .unset] [] Q_law
  refine wp_aload_n D_21 rfl rfl ?_
  refine wp_iconst 2 D_22 (by decide) ?_
  refine wp_iload_n D_23 rfl ?_
  refine wp_bipush 6 D_24 (by decide) ?_
  refine wp_iushr D_26 ?_
  refine wp_bipush 7 D_27 (by decide) ?_
  refine wp_iand D_29 ?_
  refine wp_iastore (i := 0) (2) D_30 rfl (by decide) (by decide) (by first | decide | exact Nat.le_of_ble_eq_true rfl | simp) ?_
  show Wp (some none) l Z "com/example/chainstat/chainstat/io/LinkListRenumberPinLaw" "law" code maxLocals ret room_1 [(a1, oA .int [(a &&& (7 : Int32)), ((XT.ushr a (3 : Int32)) &&& (7 : Int32)), ((XT.ushr a (6 : Int32)) &&& (7 : Int32)), (0 : Int32), (0 : Int32), (0 : Int32), (0 : Int32), (0 : Int32)])] 1 8 31 #[.val (.int a), .val (.int b), .val (.ref a1), .unset, .unset, .unset, .unset, .unset, .unset, .unset, .unset, .unset, .unset, .unset, .unset, .unset, .unset, .unset] [] Q_law
  refine wp_aload_n D_31 rfl rfl ?_
  refine wp_iconst 3 D_32 (by decide) ?_
  refine wp_iload_n D_33 rfl ?_
  refine wp_bipush 9 D_34 (by decide) ?_
  refine wp_iushr D_36 ?_
  refine wp_bipush 7 D_37 (by decide) ?_
  refine wp_iand D_39 ?_
  refine wp_iastore (i := 0) (3) D_40 rfl (by decide) (by decide) (by first | decide | exact Nat.le_of_ble_eq_true rfl | simp) ?_
  show Wp (some none) l Z "com/example/chainstat/chainstat/io/LinkListRenumberPinLaw" "law" code maxLocals ret room_1 [(a1, oA .int [(a &&& (7 : Int32)), ((XT.ushr a (3 : Int32)) &&& (7 : Int32)), ((XT.ushr a (6 : Int32)) &&& (7 : Int32)), ((XT.ushr a (9 : Int32)) &&& (7 : Int32)), (0 : Int32), (0 : Int32), (0 : Int32), (0 : Int32)])] 1 8 41 #[.val (.int a), .val (.int b), .val (.ref a1), .unset, .unset, .unset, .unset, .unset, .unset, .unset, .unset, .unset, .unset, .unset, .unset, .unset, .unset, .unset] [] Q_law
  refine wp_aload_n D_41 rfl rfl ?_
  refine wp_iconst 4 D_42 (by decide) ?_
  refine wp_iload_n D_43 rfl ?_
  refine wp_bipush 12 D_44 (by decide) ?_
  refine wp_iushr D_46 ?_
  refine wp_bipush 7 D_47 (by decide) ?_
  refine wp_iand D_49 ?_
  refine wp_iastore (i := 0) (4) D_50 rfl (by decide) (by decide) (by first | decide | exact Nat.le_of_ble_eq_true rfl | simp) ?_
  show Wp (some none) l Z "com/example/chainstat/chainstat/io/LinkListRenumberPinLaw" "law" code maxLocals ret room_1 [(a1, oA .int [(a &&& (7 : Int32)), ((XT.ushr a (3 : Int32)) &&& (7 : Int32)), ((XT.ushr a (6 : Int32)) &&& (7 : Int32)), ((XT.ushr a (9 : Int32)) &&& (7 : Int32)), ((XT.ushr a (12 : Int32)) &&& (7 : Int32)), (0 : Int32), (0 : Int32), (0 : Int32)])] 1 8 51 #[.val (.int a), .val (.int b), .val (.ref a1), .unset, .unset, .unset, .unset, .unset, .unset, .unset, .unset, .unset, .unset, .unset, .unset, .unset, .unset, .unset] [] Q_law
  refine wp_aload_n D_51 rfl rfl ?_
  refine wp_iconst 5 D_52 (by decide) ?_
  refine wp_iload_n D_53 rfl ?_
  refine wp_bipush 15 D_54 (by decide) ?_
  refine wp_iushr D_56 ?_
  refine wp_bipush 7 D_57 (by decide) ?_
  refine wp_iand D_59 ?_
  refine wp_iastore (i := 0) (5) D_60 rfl (by decide) (by decide) (by first | decide | exact Nat.le_of_ble_eq_true rfl | simp) ?_
  show Wp (some none) l Z "com/example/chainstat/chainstat/io/LinkListRenumberPinLaw" "law" code maxLocals ret room_1 [(a1, oA .int [(a &&& (7 : Int32)), ((XT.ushr a (3 : Int32)) &&& (7 : Int32)), ((XT.ushr a (6 : Int32)) &&& (7 : Int32)), ((XT.ushr a (9 : Int32)) &&& (7 : Int32)), ((XT.ushr a (12 : Int32)) &&& (7 : Int32)), ((XT.ushr a (15 : Int32)) &&& (7 : Int32)), (0 : Int32), (0 : Int32)])] 1 8 61 #[.val (.int a), .val (.int b), .val (.ref a1), .unset, .unset, .unset, .unset, .unset, .unset, .unset, .unset, .unset, .unset, .unset, .unset, .unset, .unset, .unset] [] Q_law
  refine wp_aload_n D_61 rfl rfl ?_
  refine wp_bipush 6 D_62 (by decide) ?_
  refine wp_iload_n D_64 rfl ?_
  refine wp_bipush 18 D_65 (by decide) ?_
  refine wp_iushr D_67 ?_
  refine wp_bipush 7 D_68 (by decide) ?_
  refine wp_iand D_70 ?_
  refine wp_iastore (i := 0) (6) D_71 rfl (by decide) (by decide) (by first | decide | exact Nat.le_of_ble_eq_true rfl | simp) ?_
  show Wp (some none) l Z "com/example/chainstat/chainstat/io/LinkListRenumberPinLaw" "law" code maxLocals ret room_1 [(a1, oA .int [(a &&& (7 : Int32)), ((XT.ushr a (3 : Int32)) &&& (7 : Int32)), ((XT.ushr a (6 : Int32)) &&& (7 : Int32)), ((XT.ushr a (9 : Int32)) &&& (7 : Int32)), ((XT.ushr a (12 : Int32)) &&& (7 : Int32)), ((XT.ushr a (15 : Int32)) &&& (7 : Int32)), ((XT.ushr a (18 : Int32)) &&& (7 : Int32)), (0 : Int32)])] 1 8 72 #[.val (.int a), .val (.int b), .val (.ref a1), .unset, .unset, .unset, .unset, .unset, .unset, .unset, .unset, .unset, .unset, .unset, .unset, .unset, .unset, .unset] [] Q_law
  refine wp_aload_n D_72 rfl rfl ?_
  refine wp_bipush 7 D_73 (by decide) ?_
  refine wp_iload_n D_75 rfl ?_
  refine wp_bipush 21 D_76 (by decide) ?_
  refine wp_iushr D_78 ?_
  refine wp_bipush 7 D_79 (by decide) ?_
  refine wp_iand D_81 ?_
  refine wp_iastore (i := 0) (7) D_82 rfl (by decide) (by decide) (by first | decide | exact Nat.le_of_ble_eq_true rfl | simp) ?_
  show Wp (some none) l Z "com/example/chainstat/chainstat/io/LinkListRenumberPinLaw" "law" code maxLocals ret room_1 [(a1, oA .int [(a &&& (7 : Int32)), ((XT.ushr a (3 : Int32)) &&& (7 : Int32)), ((XT.ushr a (6 : Int32)) &&& (7 : Int32)), ((XT.ushr a (9 : Int32)) &&& (7 : Int32)), ((XT.ushr a (12 : Int32)) &&& (7 : Int32)), ((XT.ushr a (15 : Int32)) &&& (7 : Int32)), ((XT.ushr a (18 : Int32)) &&& (7 : Int32)), ((XT.ushr a (21 : Int32)) &&& (7 : Int32))])] 1 8 83 #[.val (.int a), .val (.int b), .val (.ref a1), .unset, .unset, .unset, .unset, .unset, .unset, .unset, .unset, .unset, .unset, .unset, .unset, .unset, .unset, .unset] [] Q_law
  obtain ⟨ps, ep⟩ : ∃ ps : List Int32, ps = [(a &&& (7 : Int32)), ((XT.ushr a (3 : Int32)) &&& (7 : Int32)), ((XT.ushr a (6 : Int32)) &&& (7 : Int32)), ((XT.ushr a (9 : Int32)) &&& (7 : Int32)), ((XT.ushr a (12 : Int32)) &&& (7 : Int32)), ((XT.ushr a (15 : Int32)) &&& (7 : Int32)), ((XT.ushr a (18 : Int32)) &&& (7 : Int32)), ((XT.ushr a (21 : Int32)) &&& (7 : Int32))] := ⟨_, rfl⟩
  rw [← ep]
  have hps : ps.length = 8 := by rw [ep]; rfl
  have hpr : ∀ m, m < 8 → 0 ≤ (gt ps m).toInt ∧ (gt ps m).toInt ≤ 7 := by
    intro m hm
    rw [ep]
    rcases m with _ | _ | _ | _ | _ | _ | _ | _ | m
    · exact own_mask7 _
    · exact own_mask7 _
    · exact own_mask7 _
    · exact own_mask7 _
    · exact own_mask7 _
    · exact own_mask7 _
    · exact own_mask7 _
    · exact own_mask7 _
    · omega
  show Wp (some none) l Z "com/example/chainstat/chainstat/io/LinkListRenumberPinLaw" "law" code maxLocals ret room_1 [(a1, oA .int ps)] 1 8 83 #[.val (.int a), .val (.int b), .val (.ref a1), .unset, .unset, .unset, .unset, .unset, .unset, .unset, .unset, .unset, .unset, .unset, .unset, .unset, .unset, .unset] [] Q_law
  refine wp_iload_n D_83 rfl ?_
  refine wp_bipush 7 D_84 (by decide) ?_
  refine wp_iand D_86 ?_
  generalize hg_x2 : (b &&& (7 : Int32)) = x2
  have h_x2 : 0 ≤ x2.toInt ∧ x2.toInt ≤ 7 := by rw [← hg_x2]; exact own_mask7 _
  refine wp_istore_n #[.val (.int a), .val (.int b), .val (.ref a1), .val (.int x2), .unset, .unset, .unset, .unset, .unset, .unset, .unset, .unset, .unset, .unset, .unset, .unset, .unset, .unset] D_87 rfl ?_
  refine wp_iload_n D_88 rfl ?_
  refine wp_iconst 3 D_89 (by decide) ?_
  refine wp_iushr D_90 ?_
  refine wp_bipush 7 D_91 (by decide) ?_
  refine wp_iand D_93 ?_
  generalize hg_x3 : ((XT.ushr b (3 : Int32)) &&& (7 : Int32)) = x3
  have h_x3 : 0 ≤ x3.toInt ∧ x3.toInt ≤ 7 := by rw [← hg_x3]; exact own_mask7 _
  refine wp_istore #[.val (.int a), .val (.int b), .val (.ref a1), .val (.int x2), .val (.int x3), .unset, .unset, .unset, .unset, .unset, .unset, .unset, .unset, .unset, .unset, .unset, .unset, .unset] D_94 rfl ?_
  refine wp_iload_n D_96 rfl ?_
  refine wp_bipush 6 D_97 (by decide) ?_
  refine wp_iushr D_99 ?_
  refine wp_bipush 7 D_100 (by decide) ?_
  refine wp_iand D_102 ?_
  generalize hg_x4 : ((XT.ushr b (6 : Int32)) &&& (7 : Int32)) = x4
  have h_x4 : 0 ≤ x4.toInt ∧ x4.toInt ≤ 7 := by rw [← hg_x4]; exact own_mask7 _
  refine wp_istore #[.val (.int a), .val (.int b), .val (.ref a1), .val (.int x2), .val (.int x3), .val (.int x4), .unset, .unset, .unset, .unset, .unset, .unset, .unset, .unset, .unset, .unset, .unset, .unset] D_103 rfl ?_
  refine wp_iload_n D_105 rfl ?_
  refine wp_bipush 9 D_106 (by decide) ?_
  refine wp_iushr D_108 ?_
  refine wp_bipush 7 D_109 (by decide) ?_
  refine wp_iand D_111 ?_
  generalize hg_x5 : ((XT.ushr b (9 : Int32)) &&& (7 : Int32)) = x5
  have h_x5 : 0 ≤ x5.toInt ∧ x5.toInt ≤ 7 := by rw [← hg_x5]; exact own_mask7 _
  refine wp_istore #[.val (.int a), .val (.int b), .val (.ref a1), .val (.int x2), .val (.int x3), .val (.int x4), .val (.int x5), .unset, .unset, .unset, .unset, .unset, .unset, .unset, .unset, .unset, .unset, .unset] D_112 rfl ?_
  refine wp_aload_n D_114 rfl rfl ?_
  refine wp_iload_n D_115 rfl ?_
  refine wp_iaload (i := 0) (x2.toNatClampNeg) D_116 rfl (own_n0 x2 h_x2) rfl (own_gt _ _ (by rw [hps]; exact own_cl x2 h_x2)) ?_
  generalize hg_x6 : (gt ps x2.toNatClampNeg) = x6
  have h_x6 : 0 ≤ x6.toInt ∧ x6.toInt ≤ 7 := by rw [← hg_x6]; exact hpr _ (own_cl _ h_x2)
  refine wp_istore #[.val (.int a), .val (.int b), .val (.ref a1), .val (.int x2), .val (.int x3), .val (.int x4), .val (.int x5), .val (.int x6), .unset, .unset, .unset, .unset, .unset, .unset, .unset, .unset, .unset, .unset] D_117 rfl ?_
  refine wp_aload_n D_119 rfl rfl ?_
  refine wp_iload D_120 rfl ?_
  refine wp_iaload (i := 0) (x3.toNatClampNeg) D_122 rfl (own_n0 x3 h_x3) rfl (own_gt _ _ (by rw [hps]; exact own_cl x3 h_x3)) ?_
  generalize hg_x7 : (gt ps x3.toNatClampNeg) = x7
  have h_x7 : 0 ≤ x7.toInt ∧ x7.toInt ≤ 7 := by rw [← hg_x7]; exact hpr _ (own_cl _ h_x3)
  refine wp_istore #[.val (.int a), .val (.int b), .val (.ref a1), .val (.int x2), .val (.int x3), .val (.int x4), .val (.int x5), .val (.int x6), .val (.int x7), .unset, .unset, .unset, .unset, .unset, .unset, .unset, .unset, .unset] D_123 rfl ?_
  refine wp_aload_n D_125 rfl rfl ?_
  refine wp_iload D_126 rfl ?_
  refine wp_iaload (i := 0) (x4.toNatClampNeg) D_128 rfl (own_n0 x4 h_x4) rfl (own_gt _ _ (by rw [hps]; exact own_cl x4 h_x4)) ?_
  generalize hg_x8 : (gt ps x4.toNatClampNeg) = x8
  have h_x8 : 0 ≤ x8.toInt ∧ x8.toInt ≤ 7 := by rw [← hg_x8]; exact hpr _ (own_cl _ h_x4)
  refine wp_istore #[.val (.int a), .val (.int b), .val (.ref a1), .val (.int x2), .val (.int x3), .val (.int x4), .val (.int x5), .val (.int x6), .val (.int x7), .val (.int x8), .unset, .unset, .unset, .unset, .unset, .unset, .unset, .unset] D_129 rfl ?_
  refine wp_aload_n D_131 rfl rfl ?_
  refine wp_iload D_132 rfl ?_
  refine wp_iaload (i := 0) (x5.toNatClampNeg) D_134 rfl (own_n0 x5 h_x5) rfl (own_gt _ _ (by rw [hps]; exact own_cl x5 h_x5)) ?_
  generalize hg_x9 : (gt ps x5.toNatClampNeg) = x9
  have h_x9 : 0 ≤ x9.toInt ∧ x9.toInt ≤ 7 := by rw [← hg_x9]; exact hpr _ (own_cl _ h_x5)
  refine wp_istore #[.val (.int a), .val (.int b), .val (.ref a1), .val (.int x2), .val (.int x3), .val (.int x4), .val (.int x5), .val (.int x6), .val (.int x7), .val (.int x8), .val (.int x9), .unset, .unset, .unset, .unset, .unset, .unset, .unset] D_135 rfl ?_
  refine wp_iload D_137 rfl ?_
  refine wp_iload D_139 rfl ?_
  refine wp_icmp_gt D_141 (pc'' := 163) ⟨by decide, by decide⟩ (fun h10 => ?_) (fun h10 => ?_)
  · skip
    refine wp_iload D_163 rfl ?_
    refine wp_istore #[.val (.int a), .val (.int b), .val (.ref a1), .val (.int x2), .val (.int x3), .val (.int x4), .val (.int x5), .val (.int x6), .val (.int x7), .val (.int x8), .val (.int x9), .val (.int x9), .unset, .unset, .unset, .unset, .unset, .unset] D_165 rfl ?_
    refine wp_iload D_167 rfl ?_
    refine wp_istore #[.val (.int a), .val (.int b), .val (.ref a1), .val (.int x2), .val (.int x3), .val (.int x4), .val (.int x5), .val (.int x6), .val (.int x7), .val (.int x8), .val (.int x9), .val (.int x9), .val (.int x7), .unset, .unset, .unset, .unset, .unset] D_169 rfl ?_
    refine wp_iload D_171 rfl ?_
    refine wp_istore #[.val (.int a), .val (.int b), .val (.ref a1), .val (.int x2), .val (.int x3), .val (.int x4), .val (.int x5), .val (.int x6), .val (.int x7), .val (.int x8), .val (.int x9), .val (.int x9), .val (.int x7), .val (.int x8), .unset, .unset, .unset, .unset] D_173 rfl ?_
    refine wp_iload D_175 rfl ?_
    refine wp_istore #[.val (.int a), .val (.int b), .val (.ref a1), .val (.int x2), .val (.int x3), .val (.int x4), .val (.int x5), .val (.int x6), .val (.int x7), .val (.int x8), .val (.int x9), .val (.int x9), .val (.int x7), .val (.int x8), .val (.int x6), .unset, .unset, .unset] D_177 rfl ?_
    refine wp_new sg_1 [(.null), (.null), (.null), (.null), (.null), (.int (0 : Int32)), (.null), (.null), (.null)] D_179 (hw _ (List.mem_of_getElem? (i := 1) rfl)) (hw _ (List.mem_of_getElem? (i := 2) rfl)) (hw _ (List.mem_of_getElem? (i := 3) rfl)) (laid_sg_1 l Z a0 hw) (by decide) dfl_sg_1 (by decide) (by decide) ?_
    intro a11
    show Wp (some none) l Z "com/example/chainstat/chainstat/io/LinkListRenumberPinLaw" "law" code maxLocals ret room_1 [(a11, oI "com/example/chainstat/chainstat/io/LinkList" sg_1 [(.null), (.null), (.null), (.null), (.null), (.int (0 : Int32)), (.null), (.null), (.null)]), (a1, oA .int ps)] 2 18 182 #[.val (.int a), .val (.int b), .val (.ref a1), .val (.int x2), .val (.int x3), .val (.int x4), .val (.int x5), .val (.int x6), .val (.int x7), .val (.int x8), .val (.int x9), .val (.int x9), .val (.int x7), .val (.int x8), .val (.int x6), .unset, .unset, .unset] [(.ref a11)] Q_law
    refine wp_dup D_182 rfl ?_
    refine wp_ldcS (n := 4) D_183 rfl (hw _ (List.mem_of_getElem? (i := 4) rfl)) wS (by decide) (by decide) (by decide) (by decide) ?_
    intro s12
    show Wp (some none) l Z "com/example/chainstat/chainstat/io/LinkListRenumberPinLaw" "law" code maxLocals ret room_1 [(a11, oI "com/example/chainstat/chainstat/io/LinkList" sg_1 [(.null), (.null), (.null), (.null), (.null), (.int (0 : Int32)), (.null), (.null), (.null)]), (a1, oA .int ps)] 4 26 185 #[.val (.int a), .val (.int b), .val (.ref a1), .val (.int x2), .val (.int x3), .val (.int x4), .val (.int x5), .val (.int x6), .val (.int x7), .val (.int x8), .val (.int x9), .val (.int x9), .val (.int x7), .val (.int x8), .val (.int x6), .unset, .unset, .unset] [(.ref s12), (.ref a11), (.ref a11)] Q_law
    refine wp_init (c_new l Z a0 hw a11 s12 [(a1, oA .int ps)]) D_185 rfl (hw _ (List.mem_of_getElem? (i := 12) rfl)) (hw _ (List.mem_of_getElem? (i := 13) rfl)) (hw _ (List.mem_of_getElem? (i := 3) rfl)) (hw _ (List.mem_of_getElem? (i := 14) rfl)) (by decide) pd_7 rfl rfl rfl (Nat.le_of_ble_eq_true rfl) (Nat.le_of_ble_eq_true rfl) (Nat.le_of_ble_eq_true rfl) (Nat.le_of_ble_eq_true rfl) ?_
    rintro _ _ ⟨rfl, s13, s0_14, t15, t0_16, rs17, rl18, rfl⟩
    show Wp (some none) l Z "com/example/chainstat/chainstat/io/LinkListRenumberPinLaw" "law" code maxLocals ret room_1 [(rl18, oJ [(0 : Int64)]), (rs17, oA .int [(0 : Int32)]), (t0_16, oA .int (List.replicate 1024 0)), (t15, oR "[I" (.array .int) [(.ref t0_16)]), (s0_14, oA .int (List.replicate 1024 0)), (s13, oR "[I" (.array .int) [(.ref s0_14)]), (a11, oI "com/example/chainstat/chainstat/io/LinkList" sg_1 [(.ref s13), (.ref t15), (.ref rs17), (.ref rl18), (.ref s12), (.int (0 : Int32)), (.null), (.null), (.null)]), (a1, oA .int ps)] 10 2078 188 #[.val (.int a), .val (.int b), .val (.ref a1), .val (.int x2), .val (.int x3), .val (.int x4), .val (.int x5), .val (.int x6), .val (.int x7), .val (.int x8), .val (.int x9), .val (.int x9), .val (.int x7), .val (.int x8), .val (.int x6), .unset, .unset, .unset] [(.ref a11)] Q_law
    refine wp_astore #[.val (.int a), .val (.int b), .val (.ref a1), .val (.int x2), .val (.int x3), .val (.int x4), .val (.int x5), .val (.int x6), .val (.int x7), .val (.int x8), .val (.int x9), .val (.int x9), .val (.int x7), .val (.int x8), .val (.int x6), .val (.ref a11), .unset, .unset] D_188 rfl rfl ?_
    refine wp_aload D_190 rfl rfl ?_
    refine wp_iload_n D_192 rfl ?_
    refine wp_iload D_193 rfl ?_
    refine Wp.pick [6, 5, 4, 3, 2, 0, 1, 7] (by decide) ?_
    show Wp (some none) l Z "com/example/chainstat/chainstat/io/LinkListRenumberPinLaw" "law" code maxLocals ret room_1 [(a11, oI "com/example/chainstat/chainstat/io/LinkList" sg_1 [(.ref s13), (.ref t15), (.ref rs17), (.ref rl18), (.ref s12), (.int (0 : Int32)), (.null), (.null), (.null)]), (s13, oR "[I" (.array .int) [(.ref s0_14)]), (s0_14, oA .int (List.replicate 1024 0)), (t15, oR "[I" (.array .int) [(.ref t0_16)]), (t0_16, oA .int (List.replicate 1024 0)), (rl18, oJ [(0 : Int64)]), (rs17, oA .int [(0 : Int32)]), (a1, oA .int ps)] 10 2078 195 #[.val (.int a), .val (.int b), .val (.ref a1), .val (.int x2), .val (.int x3), .val (.int x4), .val (.int x5), .val (.int x6), .val (.int x7), .val (.int x8), .val (.int x9), .val (.int x9), .val (.int x7), .val (.int x8), .val (.int x6), .val (.ref a11), .unset, .unset] [(.int x3), (.int x2), (.ref a11)] Q_law
    refine wp_virtual (c_add0 l Z a0 hw x2 x3 a11 s12 s13 s0_14 t15 t0_16 rs17 rl18  [(rl18, oJ [(0 : Int64)]), (rs17, oA .int [(0 : Int32)]), (a1, oA .int ps)]) (exa_new (i := 0) rfl) D_195 (hw _ (List.mem_of_getElem? (i := 32) rfl)) (hw _ (List.mem_of_getElem? (i := 33) rfl)) (hw _ (List.mem_of_getElem? (i := 35) rfl)) (hw _ (List.mem_of_getElem? (i := 35) rfl)) (hw _ (List.mem_of_getElem? (i := 34) rfl)) (hw _ (List.mem_of_getElem? (i := 3) rfl)) (hw _ (List.mem_of_getElem? (i := 36) rfl)) (by decide) pd_8 rfl rfl rfl (Nat.le_of_ble_eq_true rfl) (Nat.le_of_ble_eq_true rfl) (Nat.le_of_ble_eq_true rfl) (Nat.le_of_ble_eq_true rfl) ?_
    rintro _ _ ⟨rfl, rfl⟩
    show Wp (some none) l Z "com/example/chainstat/chainstat/io/LinkListRenumberPinLaw" "law" code maxLocals ret room_1 [(a11, oI "com/example/chainstat/chainstat/io/LinkList" sg_1 [(.ref s13), (.ref t15), (.ref rs17), (.ref rl18), (.ref s12), (.int (1 : Int32)), (.null), (.null), (.null)]), (s13, oR "[I" (.array .int) [(.ref s0_14)]), (s0_14, oA .int (x2 :: List.replicate 1023 0)), (t15, oR "[I" (.array .int) [(.ref t0_16)]), (t0_16, oA .int (x3 :: List.replicate 1023 0)), (rl18, oJ [(0 : Int64)]), (rs17, oA .int [(0 : Int32)]), (a1, oA .int ps)] 10 2078 198 #[.val (.int a), .val (.int b), .val (.ref a1), .val (.int x2), .val (.int x3), .val (.int x4), .val (.int x5), .val (.int x6), .val (.int x7), .val (.int x8), .val (.int x9), .val (.int x9), .val (.int x7), .val (.int x8), .val (.int x6), .val (.ref a11), .unset, .unset] [] Q_law
    refine wp_aload D_198 rfl rfl ?_
    refine wp_iload D_200 rfl ?_
    refine wp_iload D_202 rfl ?_
    refine wp_virtual (c_add1 l Z a0 hw x4 x5 a11 s12 s13 s0_14 t15 t0_16 rs17 rl18 x2 x3 [(rl18, oJ [(0 : Int64)]), (rs17, oA .int [(0 : Int32)]), (a1, oA .int ps)]) (exa_new (i := 0) rfl) D_204 (hw _ (List.mem_of_getElem? (i := 32) rfl)) (hw _ (List.mem_of_getElem? (i := 33) rfl)) (hw _ (List.mem_of_getElem? (i := 35) rfl)) (hw _ (List.mem_of_getElem? (i := 35) rfl)) (hw _ (List.mem_of_getElem? (i := 34) rfl)) (hw _ (List.mem_of_getElem? (i := 3) rfl)) (hw _ (List.mem_of_getElem? (i := 36) rfl)) (by decide) pd_8 rfl rfl rfl (Nat.le_of_ble_eq_true rfl) (Nat.le_of_ble_eq_true rfl) (Nat.le_of_ble_eq_true rfl) (Nat.le_of_ble_eq_true rfl) ?_
    rintro _ _ ⟨rfl, rfl⟩
    show Wp (some none) l Z "com/example/chainstat/chainstat/io/LinkListRenumberPinLaw" "law" code maxLocals ret room_1 [(a11, oI "com/example/chainstat/chainstat/io/LinkList" sg_1 [(.ref s13), (.ref t15), (.ref rs17), (.ref rl18), (.ref s12), (.int (2 : Int32)), (.null), (.null), (.null)]), (s13, oR "[I" (.array .int) [(.ref s0_14)]), (s0_14, oA .int (x2 :: x4 :: List.replicate 1022 0)), (t15, oR "[I" (.array .int) [(.ref t0_16)]), (t0_16, oA .int (x3 :: x5 :: List.replicate 1022 0)), (rl18, oJ [(0 : Int64)]), (rs17, oA .int [(0 : Int32)]), (a1, oA .int ps)] 10 2078 207 #[.val (.int a), .val (.int b), .val (.ref a1), .val (.int x2), .val (.int x3), .val (.int x4), .val (.int x5), .val (.int x6), .val (.int x7), .val (.int x8), .val (.int x9), .val (.int x9), .val (.int x7), .val (.int x8), .val (.int x6), .val (.ref a11), .unset, .unset] [] Q_law
    refine wp_aload D_207 rfl rfl ?_
    refine wp_aload_n D_209 rfl rfl ?_
    refine Wp.pick [0, 1, 2, 3, 4, 7, 5, 6] (by decide) ?_
    show Wp (some none) l Z "com/example/chainstat/chainstat/io/LinkListRenumberPinLaw" "law" code maxLocals ret room_1 [(a11, oI "com/example/chainstat/chainstat/io/LinkList" sg_1 [(.ref s13), (.ref t15), (.ref rs17), (.ref rl18), (.ref s12), (.int (2 : Int32)), (.null), (.null), (.null)]), (s13, oR "[I" (.array .int) [(.ref s0_14)]), (s0_14, oA .int (x2 :: x4 :: List.replicate 1022 0)), (t15, oR "[I" (.array .int) [(.ref t0_16)]), (t0_16, oA .int (x3 :: x5 :: List.replicate 1022 0)), (a1, oA .int ps), (rl18, oJ [(0 : Int64)]), (rs17, oA .int [(0 : Int32)])] 10 2078 210 #[.val (.int a), .val (.int b), .val (.ref a1), .val (.int x2), .val (.int x3), .val (.int x4), .val (.int x5), .val (.int x6), .val (.int x7), .val (.int x8), .val (.int x9), .val (.int x9), .val (.int x7), .val (.int x8), .val (.int x6), .val (.ref a11), .unset, .unset] [(.ref a1), (.ref a11)] Q_law
    refine wp_virtual (c_ren l Z a0 hw a1 ps a11 s12 s13 s0_14 t15 t0_16 rs17 rl18 x2 x4 x3 x5 [(rl18, oJ [(0 : Int64)]), (rs17, oA .int [(0 : Int32)])] hps h_x2 h_x4 h_x3 h_x5) (exa_new (i := 0) rfl) D_210 (hw _ (List.mem_of_getElem? (i := 50) rfl)) (hw _ (List.mem_of_getElem? (i := 51) rfl)) (hw _ (List.mem_of_getElem? (i := 53) rfl)) (hw _ (List.mem_of_getElem? (i := 53) rfl)) (hw _ (List.mem_of_getElem? (i := 52) rfl)) (hw _ (List.mem_of_getElem? (i := 3) rfl)) (hw _ (List.mem_of_getElem? (i := 54) rfl)) (by decide) pd_9 rfl rfl rfl (Nat.le_of_ble_eq_true rfl) (Nat.le_of_ble_eq_true rfl) (Nat.le_of_ble_eq_true rfl) (Nat.le_of_ble_eq_true rfl) ?_
    rintro _ _ ⟨rfl, rfl⟩
    rw [hg_x6, hg_x8, hg_x7, hg_x9]
    show Wp (some none) l Z "com/example/chainstat/chainstat/io/LinkListRenumberPinLaw" "law" code maxLocals ret room_1 [(a11, oI "com/example/chainstat/chainstat/io/LinkList" sg_1 [(.ref s13), (.ref t15), (.ref rs17), (.ref rl18), (.ref s12), (.int (2 : Int32)), (.null), (.null), (.null)]), (s13, oR "[I" (.array .int) [(.ref s0_14)]), (s0_14, oA .int (x6 :: x8 :: List.replicate 1022 0)), (t15, oR "[I" (.array .int) [(.ref t0_16)]), (t0_16, oA .int (x7 :: x9 :: List.replicate 1022 0)), (a1, oA .int ps), (rl18, oJ [(0 : Int64)]), (rs17, oA .int [(0 : Int32)])] 10 2078 213 #[.val (.int a), .val (.int b), .val (.ref a1), .val (.int x2), .val (.int x3), .val (.int x4), .val (.int x5), .val (.int x6), .val (.int x7), .val (.int x8), .val (.int x9), .val (.int x9), .val (.int x7), .val (.int x8), .val (.int x6), .val (.ref a11), .unset, .unset] [] Q_law
    refine wp_aload D_213 rfl rfl ?_
    refine wp_bipush 8 D_215 (by decide) ?_
    refine wp_virtualX (c_tog l Z a0 hw a11 s12 s13 s0_14 t15 t0_16 rs17 rl18 x6 x8 x7 x9 [(a1, oA .int ps), (rl18, oJ [(0 : Int64)]), (rs17, oA .int [(0 : Int32)])] h_x6 h_x8 h_x7 h_x9) (exa_new (i := 0) rfl) D_217 (hw _ (List.mem_of_getElem? (i := 55) rfl)) (hw _ (List.mem_of_getElem? (i := 56) rfl)) (hw _ (List.mem_of_getElem? (i := 58) rfl)) (hw _ (List.mem_of_getElem? (i := 58) rfl)) (hw _ (List.mem_of_getElem? (i := 57) rfl)) (hw _ (List.mem_of_getElem? (i := 3) rfl)) (hw _ (List.mem_of_getElem? (i := 59) rfl)) (by decide) pd_10 rfl rfl rfl (Nat.le_of_ble_eq_true rfl) (Nat.le_of_ble_eq_true rfl) (Nat.le_of_ble_eq_true rfl) (Nat.le_of_ble_eq_true rfl) ?_
    rintro _ _ ⟨g19, D20, B21, A22, rfl, rfl⟩
    show Wp (some none) l Z "com/example/chainstat/chainstat/io/LinkListRenumberPinLaw" "law" code maxLocals ret room_1 [(D20, oA .int (fDeg x6.toNatClampNeg x8.toNatClampNeg)), (B21, oA .int (fSrc x6 x8 x7.toNatClampNeg x9.toNatClampNeg)), (A22, oA .int (fStart x7.toNatClampNeg x9.toNatClampNeg)), (g19, oI "com/example/chainstat/chainstat/model/LinkGraph" sg_2 [(.int (8 : Int32)), (.ref D20), (.null), (.ref A22), (.ref B21), (.null)]), (a11, oI "com/example/chainstat/chainstat/io/LinkList" sg_1 [(.ref s13), (.ref t15), (.ref rs17), (.ref rl18), (.ref s12), (.int (2 : Int32)), (.null), (.null), (.null)]), (s13, oR "[I" (.array .int) [(.ref s0_14)]), (s0_14, oA .int (x6 :: x8 :: List.replicate 1022 0)), (t15, oR "[I" (.array .int) [(.ref t0_16)]), (t0_16, oA .int (x7 :: x9 :: List.replicate 1022 0)), (a1, oA .int ps), (rl18, oJ [(0 : Int64)]), (rs17, oA .int [(0 : Int32)])] 14 2103 220 #[.val (.int a), .val (.int b), .val (.ref a1), .val (.int x2), .val (.int x3), .val (.int x4), .val (.int x5), .val (.int x6), .val (.int x7), .val (.int x8), .val (.int x9), .val (.int x9), .val (.int x7), .val (.int x8), .val (.int x6), .val (.ref a11), .unset, .unset] [(.ref g19)] Q_law
    refine wp_astore #[.val (.int a), .val (.int b), .val (.ref a1), .val (.int x2), .val (.int x3), .val (.int x4), .val (.int x5), .val (.int x6), .val (.int x7), .val (.int x8), .val (.int x9), .val (.int x9), .val (.int x7), .val (.int x8), .val (.int x6), .val (.ref a11), .val (.ref g19), .unset] D_220 rfl rfl ?_
    refine wp_iload D_222 rfl ?_
    refine wp_iload D_224 rfl ?_
    refine wp_icmp_ne D_226 (pc'' := 233) ⟨by decide, by decide⟩ (fun h23 => ?_) (fun h23 => by exfalso; (simp only [Int32.lt_iff_toInt_lt, Int32.le_iff_toInt_le, ← Int32.toInt_inj, Int32.reduceToInt, Int64.lt_iff_toInt_lt, ← Int64.toInt_inj, Int64.reduceToInt] at *; omega))
    refine wp_iconst 0 D_233 (by decide) ?_
    refine wp_istore #[.val (.int a), .val (.int b), .val (.ref a1), .val (.int x2), .val (.int x3), .val (.int x4), .val (.int x5), .val (.int x6), .val (.int x7), .val (.int x8), .val (.int x9), .val (.int x9), .val (.int x7), .val (.int x8), .val (.int x6), .val (.ref a11), .val (.ref g19), .val (.int (0 : Int32))] D_234 rfl ?_
    refine wp_aload D_236 rfl rfl ?_
    refine Wp.pick [3, 1, 0, 2, 4, 5, 6, 7, 8, 9, 10, 11] (by decide) ?_
    show Wp (some none) l Z "com/example/chainstat/chainstat/io/LinkListRenumberPinLaw" "law" code maxLocals ret room_1 [(g19, oI "com/example/chainstat/chainstat/model/LinkGraph" sg_2 [(.int (8 : Int32)), (.ref D20), (.null), (.ref A22), (.ref B21), (.null)]), (B21, oA .int (fSrc x6 x8 x7.toNatClampNeg x9.toNatClampNeg)), (D20, oA .int (fDeg x6.toNatClampNeg x8.toNatClampNeg)), (A22, oA .int (fStart x7.toNatClampNeg x9.toNatClampNeg)), (a11, oI "com/example/chainstat/chainstat/io/LinkList" sg_1 [(.ref s13), (.ref t15), (.ref rs17), (.ref rl18), (.ref s12), (.int (2 : Int32)), (.null), (.null), (.null)]), (s13, oR "[I" (.array .int) [(.ref s0_14)]), (s0_14, oA .int (x6 :: x8 :: List.replicate 1022 0)), (t15, oR "[I" (.array .int) [(.ref t0_16)]), (t0_16, oA .int (x7 :: x9 :: List.replicate 1022 0)), (a1, oA .int ps), (rl18, oJ [(0 : Int64)]), (rs17, oA .int [(0 : Int32)])] 14 2103 238 #[.val (.int a), .val (.int b), .val (.ref a1), .val (.int x2), .val (.int x3), .val (.int x4), .val (.int x5), .val (.int x6), .val (.int x7), .val (.int x8), .val (.int x9), .val (.int x9), .val (.int x7), .val (.int x8), .val (.int x6), .val (.ref a11), .val (.ref g19), .val (.int (0 : Int32))] [(.ref g19)] Q_law
    refine wp_virtual (c_lc l Z a0 hw g19 A22 B21 D20 (fSrc x6 x8 x7.toNatClampNeg x9.toNatClampNeg) [(D20, oA .int (fDeg x6.toNatClampNeg x8.toNatClampNeg)), (A22, oA .int (fStart x7.toNatClampNeg x9.toNatClampNeg)), (a11, oI "com/example/chainstat/chainstat/io/LinkList" sg_1 [(.ref s13), (.ref t15), (.ref rs17), (.ref rl18), (.ref s12), (.int (2 : Int32)), (.null), (.null), (.null)]), (s13, oR "[I" (.array .int) [(.ref s0_14)]), (s0_14, oA .int (x6 :: x8 :: List.replicate 1022 0)), (t15, oR "[I" (.array .int) [(.ref t0_16)]), (t0_16, oA .int (x7 :: x9 :: List.replicate 1022 0)), (a1, oA .int ps), (rl18, oJ [(0 : Int64)]), (rs17, oA .int [(0 : Int32)])] (by simp [fSrc])) (exa_new (i := 0) rfl) D_238 (hw _ (List.mem_of_getElem? (i := 89) rfl)) (hw _ (List.mem_of_getElem? (i := 90) rfl)) (hw _ (List.mem_of_getElem? (i := 92) rfl)) (hw _ (List.mem_of_getElem? (i := 92) rfl)) (hw _ (List.mem_of_getElem? (i := 91) rfl)) (hw _ (List.mem_of_getElem? (i := 62) rfl)) (hw _ (List.mem_of_getElem? (i := 93) rfl)) (by decide) pd_11 rfl rfl rfl (Nat.le_of_ble_eq_true rfl) (Nat.le_of_ble_eq_true rfl) (Nat.le_of_ble_eq_true rfl) (Nat.le_of_ble_eq_true rfl) ?_
    rintro _ _ ⟨rfl, rfl⟩
    show Wp (some none) l Z "com/example/chainstat/chainstat/io/LinkListRenumberPinLaw" "law" code maxLocals ret room_1 [(g19, oI "com/example/chainstat/chainstat/model/LinkGraph" sg_2 [(.int (8 : Int32)), (.ref D20), (.null), (.ref A22), (.ref B21), (.null)]), (B21, oA .int (fSrc x6 x8 x7.toNatClampNeg x9.toNatClampNeg)), (D20, oA .int (fDeg x6.toNatClampNeg x8.toNatClampNeg)), (A22, oA .int (fStart x7.toNatClampNeg x9.toNatClampNeg)), (a11, oI "com/example/chainstat/chainstat/io/LinkList" sg_1 [(.ref s13), (.ref t15), (.ref rs17), (.ref rl18), (.ref s12), (.int (2 : Int32)), (.null), (.null), (.null)]), (s13, oR "[I" (.array .int) [(.ref s0_14)]), (s0_14, oA .int (x6 :: x8 :: List.replicate 1022 0)), (t15, oR "[I" (.array .int) [(.ref t0_16)]), (t0_16, oA .int (x7 :: x9 :: List.replicate 1022 0)), (a1, oA .int ps), (rl18, oJ [(0 : Int64)]), (rs17, oA .int [(0 : Int32)])] 14 2103 241 #[.val (.int a), .val (.int b), .val (.ref a1), .val (.int x2), .val (.int x3), .val (.int x4), .val (.int x5), .val (.int x6), .val (.int x7), .val (.int x8), .val (.int x9), .val (.int x9), .val (.int x7), .val (.int x8), .val (.int x6), .val (.ref a11), .val (.ref g19), .val (.int (0 : Int32))] [(.int (2 : Int32))] Q_law
    refine wp_iconst 2 D_241 (by decide) ?_
    refine wp_icmp_ne D_242 (pc'' := 336) ⟨by decide, by decide⟩ (fun h24 => by exact absurd h24 (by decide)) (fun h24 => ?_)
    refine wp_aload D_245 rfl rfl ?_
    refine wp_iconst 0 D_247 (by decide) ?_
    refine wp_virtual (c_isrc l Z a0 hw g19 A22 B21 D20 (0 : Int32) x8 (fSrc x6 x8 x7.toNatClampNeg x9.toNatClampNeg) [(D20, oA .int (fDeg x6.toNatClampNeg x8.toNatClampNeg)), (A22, oA .int (fStart x7.toNatClampNeg x9.toNatClampNeg)), (a11, oI "com/example/chainstat/chainstat/io/LinkList" sg_1 [(.ref s13), (.ref t15), (.ref rs17), (.ref rl18), (.ref s12), (.int (2 : Int32)), (.null), (.null), (.null)]), (s13, oR "[I" (.array .int) [(.ref s0_14)]), (s0_14, oA .int (x6 :: x8 :: List.replicate 1022 0)), (t15, oR "[I" (.array .int) [(.ref t0_16)]), (t0_16, oA .int (x7 :: x9 :: List.replicate 1022 0)), (a1, oA .int ps), (rl18, oJ [(0 : Int64)]), (rs17, oA .int [(0 : Int32)])] (by decide) 0 (by decide) (by rw [own_src _ _ _ _ (own_cl _ h_x7) (own_cl _ h_x9), if_neg (by simp only [Int32.lt_iff_toInt_lt, Int32.toNatClampNeg] at *; omega)]; rfl)) (exa_new (i := 0) rfl) D_248 (hw _ (List.mem_of_getElem? (i := 94) rfl)) (hw _ (List.mem_of_getElem? (i := 95) rfl)) (hw _ (List.mem_of_getElem? (i := 97) rfl)) (hw _ (List.mem_of_getElem? (i := 97) rfl)) (hw _ (List.mem_of_getElem? (i := 96) rfl)) (hw _ (List.mem_of_getElem? (i := 62) rfl)) (hw _ (List.mem_of_getElem? (i := 98) rfl)) (by decide) pd_12 rfl rfl rfl (Nat.le_of_ble_eq_true rfl) (Nat.le_of_ble_eq_true rfl) (Nat.le_of_ble_eq_true rfl) (Nat.le_of_ble_eq_true rfl) ?_
    rintro _ _ ⟨rfl, rfl⟩
    show Wp (some none) l Z "com/example/chainstat/chainstat/io/LinkListRenumberPinLaw" "law" code maxLocals ret room_1 [(g19, oI "com/example/chainstat/chainstat/model/LinkGraph" sg_2 [(.int (8 : Int32)), (.ref D20), (.null), (.ref A22), (.ref B21), (.null)]), (B21, oA .int (fSrc x6 x8 x7.toNatClampNeg x9.toNatClampNeg)), (D20, oA .int (fDeg x6.toNatClampNeg x8.toNatClampNeg)), (A22, oA .int (fStart x7.toNatClampNeg x9.toNatClampNeg)), (a11, oI "com/example/chainstat/chainstat/io/LinkList" sg_1 [(.ref s13), (.ref t15), (.ref rs17), (.ref rl18), (.ref s12), (.int (2 : Int32)), (.null), (.null), (.null)]), (s13, oR "[I" (.array .int) [(.ref s0_14)]), (s0_14, oA .int (x6 :: x8 :: List.replicate 1022 0)), (t15, oR "[I" (.array .int) [(.ref t0_16)]), (t0_16, oA .int (x7 :: x9 :: List.replicate 1022 0)), (a1, oA .int ps), (rl18, oJ [(0 : Int64)]), (rs17, oA .int [(0 : Int32)])] 14 2103 251 #[.val (.int a), .val (.int b), .val (.ref a1), .val (.int x2), .val (.int x3), .val (.int x4), .val (.int x5), .val (.int x6), .val (.int x7), .val (.int x8), .val (.int x9), .val (.int x9), .val (.int x7), .val (.int x8), .val (.int x6), .val (.ref a11), .val (.ref g19), .val (.int (0 : Int32))] [(.int x8)] Q_law
    refine wp_iload D_251 rfl ?_
    refine wp_icmp_ne D_253 (pc'' := 336) ⟨by decide, by decide⟩ (fun h25 => by exact absurd rfl h25) (fun h25 => ?_)
    refine wp_aload D_256 rfl rfl ?_
    refine wp_iconst 1 D_258 (by decide) ?_
    refine wp_virtual (c_isrc l Z a0 hw g19 A22 B21 D20 (1 : Int32) x6 (fSrc x6 x8 x7.toNatClampNeg x9.toNatClampNeg) [(D20, oA .int (fDeg x6.toNatClampNeg x8.toNatClampNeg)), (A22, oA .int (fStart x7.toNatClampNeg x9.toNatClampNeg)), (a11, oI "com/example/chainstat/chainstat/io/LinkList" sg_1 [(.ref s13), (.ref t15), (.ref rs17), (.ref rl18), (.ref s12), (.int (2 : Int32)), (.null), (.null), (.null)]), (s13, oR "[I" (.array .int) [(.ref s0_14)]), (s0_14, oA .int (x6 :: x8 :: List.replicate 1022 0)), (t15, oR "[I" (.array .int) [(.ref t0_16)]), (t0_16, oA .int (x7 :: x9 :: List.replicate 1022 0)), (a1, oA .int ps), (rl18, oJ [(0 : Int64)]), (rs17, oA .int [(0 : Int32)])] (by decide) 1 (by decide) (by rw [own_src _ _ _ _ (own_cl _ h_x7) (own_cl _ h_x9), if_neg (by simp only [Int32.lt_iff_toInt_lt, Int32.toNatClampNeg] at *; omega)]; rfl)) (exa_new (i := 0) rfl) D_259 (hw _ (List.mem_of_getElem? (i := 94) rfl)) (hw _ (List.mem_of_getElem? (i := 95) rfl)) (hw _ (List.mem_of_getElem? (i := 97) rfl)) (hw _ (List.mem_of_getElem? (i := 97) rfl)) (hw _ (List.mem_of_getElem? (i := 96) rfl)) (hw _ (List.mem_of_getElem? (i := 62) rfl)) (hw _ (List.mem_of_getElem? (i := 98) rfl)) (by decide) pd_12 rfl rfl rfl (Nat.le_of_ble_eq_true rfl) (Nat.le_of_ble_eq_true rfl) (Nat.le_of_ble_eq_true rfl) (Nat.le_of_ble_eq_true rfl) ?_
    rintro _ _ ⟨rfl, rfl⟩
    show Wp (some none) l Z "com/example/chainstat/chainstat/io/LinkListRenumberPinLaw" "law" code maxLocals ret room_1 [(g19, oI "com/example/chainstat/chainstat/model/LinkGraph" sg_2 [(.int (8 : Int32)), (.ref D20), (.null), (.ref A22), (.ref B21), (.null)]), (B21, oA .int (fSrc x6 x8 x7.toNatClampNeg x9.toNatClampNeg)), (D20, oA .int (fDeg x6.toNatClampNeg x8.toNatClampNeg)), (A22, oA .int (fStart x7.toNatClampNeg x9.toNatClampNeg)), (a11, oI "com/example/chainstat/chainstat/io/LinkList" sg_1 [(.ref s13), (.ref t15), (.ref rs17), (.ref rl18), (.ref s12), (.int (2 : Int32)), (.null), (.null), (.null)]), (s13, oR "[I" (.array .int) [(.ref s0_14)]), (s0_14, oA .int (x6 :: x8 :: List.replicate 1022 0)), (t15, oR "[I" (.array .int) [(.ref t0_16)]), (t0_16, oA .int (x7 :: x9 :: List.replicate 1022 0)), (a1, oA .int ps), (rl18, oJ [(0 : Int64)]), (rs17, oA .int [(0 : Int32)])] 14 2103 262 #[.val (.int a), .val (.int b), .val (.ref a1), .val (.int x2), .val (.int x3), .val (.int x4), .val (.int x5), .val (.int x6), .val (.int x7), .val (.int x8), .val (.int x9), .val (.int x9), .val (.int x7), .val (.int x8), .val (.int x6), .val (.ref a11), .val (.ref g19), .val (.int (0 : Int32))] [(.int x6)] Q_law
    refine wp_iload D_262 rfl ?_
    refine wp_icmp_ne D_264 (pc'' := 336) ⟨by decide, by decide⟩ (fun h26 => by exact absurd rfl h26) (fun h26 => ?_)
    refine wp_aload D_267 rfl rfl ?_
    refine wp_iload D_269 rfl ?_
    refine Wp.pick [0, 3, 1, 2, 4, 5, 6, 7, 8, 9, 10, 11] (by decide) ?_
    show Wp (some none) l Z "com/example/chainstat/chainstat/io/LinkListRenumberPinLaw" "law" code maxLocals ret room_1 [(g19, oI "com/example/chainstat/chainstat/model/LinkGraph" sg_2 [(.int (8 : Int32)), (.ref D20), (.null), (.ref A22), (.ref B21), (.null)]), (A22, oA .int (fStart x7.toNatClampNeg x9.toNatClampNeg)), (B21, oA .int (fSrc x6 x8 x7.toNatClampNeg x9.toNatClampNeg)), (D20, oA .int (fDeg x6.toNatClampNeg x8.toNatClampNeg)), (a11, oI "com/example/chainstat/chainstat/io/LinkList" sg_1 [(.ref s13), (.ref t15), (.ref rs17), (.ref rl18), (.ref s12), (.int (2 : Int32)), (.null), (.null), (.null)]), (s13, oR "[I" (.array .int) [(.ref s0_14)]), (s0_14, oA .int (x6 :: x8 :: List.replicate 1022 0)), (t15, oR "[I" (.array .int) [(.ref t0_16)]), (t0_16, oA .int (x7 :: x9 :: List.replicate 1022 0)), (a1, oA .int ps), (rl18, oJ [(0 : Int64)]), (rs17, oA .int [(0 : Int32)])] 14 2103 271 #[.val (.int a), .val (.int b), .val (.ref a1), .val (.int x2), .val (.int x3), .val (.int x4), .val (.int x5), .val (.int x6), .val (.int x7), .val (.int x8), .val (.int x9), .val (.int x9), .val (.int x7), .val (.int x8), .val (.int x6), .val (.ref a11), .val (.ref g19), .val (.int (0 : Int32))] [(.int x9), (.ref g19)] Q_law
    refine wp_virtual (c_ist l Z a0 hw g19 A22 B21 D20 x9 0 (fStart x7.toNatClampNeg x9.toNatClampNeg) [(B21, oA .int (fSrc x6 x8 x7.toNatClampNeg x9.toNatClampNeg)), (D20, oA .int (fDeg x6.toNatClampNeg x8.toNatClampNeg)), (a11, oI "com/example/chainstat/chainstat/io/LinkList" sg_1 [(.ref s13), (.ref t15), (.ref rs17), (.ref rl18), (.ref s12), (.int (2 : Int32)), (.null), (.null), (.null)]), (s13, oR "[I" (.array .int) [(.ref s0_14)]), (s0_14, oA .int (x6 :: x8 :: List.replicate 1022 0)), (t15, oR "[I" (.array .int) [(.ref t0_16)]), (t0_16, oA .int (x7 :: x9 :: List.replicate 1022 0)), (a1, oA .int ps), (rl18, oJ [(0 : Int64)]), (rs17, oA .int [(0 : Int32)])] (own_n0 x9 h_x9) x9.toNatClampNeg rfl ((own_start _ (own_cl _ h_x7) _ (own_cl _ h_x9)).2.resolve_left (by simp only [Int32.lt_iff_toInt_lt, Int32.toNatClampNeg, ← Int32.toInt_inj] at *; omega)).1) (exa_new (i := 0) rfl) D_271 (hw _ (List.mem_of_getElem? (i := 99) rfl)) (hw _ (List.mem_of_getElem? (i := 100) rfl)) (hw _ (List.mem_of_getElem? (i := 102) rfl)) (hw _ (List.mem_of_getElem? (i := 102) rfl)) (hw _ (List.mem_of_getElem? (i := 101) rfl)) (hw _ (List.mem_of_getElem? (i := 62) rfl)) (hw _ (List.mem_of_getElem? (i := 103) rfl)) (by decide) pd_12 rfl rfl rfl (Nat.le_of_ble_eq_true rfl) (Nat.le_of_ble_eq_true rfl) (Nat.le_of_ble_eq_true rfl) (Nat.le_of_ble_eq_true rfl) ?_
    rintro _ _ ⟨rfl, rfl⟩
    show Wp (some none) l Z "com/example/chainstat/chainstat/io/LinkListRenumberPinLaw" "law" code maxLocals ret room_1 [(g19, oI "com/example/chainstat/chainstat/model/LinkGraph" sg_2 [(.int (8 : Int32)), (.ref D20), (.null), (.ref A22), (.ref B21), (.null)]), (A22, oA .int (fStart x7.toNatClampNeg x9.toNatClampNeg)), (B21, oA .int (fSrc x6 x8 x7.toNatClampNeg x9.toNatClampNeg)), (D20, oA .int (fDeg x6.toNatClampNeg x8.toNatClampNeg)), (a11, oI "com/example/chainstat/chainstat/io/LinkList" sg_1 [(.ref s13), (.ref t15), (.ref rs17), (.ref rl18), (.ref s12), (.int (2 : Int32)), (.null), (.null), (.null)]), (s13, oR "[I" (.array .int) [(.ref s0_14)]), (s0_14, oA .int (x6 :: x8 :: List.replicate 1022 0)), (t15, oR "[I" (.array .int) [(.ref t0_16)]), (t0_16, oA .int (x7 :: x9 :: List.replicate 1022 0)), (a1, oA .int ps), (rl18, oJ [(0 : Int64)]), (rs17, oA .int [(0 : Int32)])] 14 2103 274 #[.val (.int a), .val (.int b), .val (.ref a1), .val (.int x2), .val (.int x3), .val (.int x4), .val (.int x5), .val (.int x6), .val (.int x7), .val (.int x8), .val (.int x9), .val (.int x9), .val (.int x7), .val (.int x8), .val (.int x6), .val (.ref a11), .val (.ref g19), .val (.int (0 : Int32))] [(.int (0 : Int32))] Q_law
    refine wp_if_ne D_274 (pc'' := 336) ⟨by decide, by decide⟩ (fun h27 => by exact absurd h27 (by decide)) (fun h27 => ?_)
    refine wp_aload D_277 rfl rfl ?_
    refine wp_iload D_279 rfl ?_
    refine wp_iconst 1 D_281 (by decide) ?_
    refine wp_iadd D_282 ?_
    refine wp_virtual (c_ist l Z a0 hw g19 A22 B21 D20 (x9 + (1 : Int32)) 1 (fStart x7.toNatClampNeg x9.toNatClampNeg) [(B21, oA .int (fSrc x6 x8 x7.toNatClampNeg x9.toNatClampNeg)), (D20, oA .int (fDeg x6.toNatClampNeg x8.toNatClampNeg)), (a11, oI "com/example/chainstat/chainstat/io/LinkList" sg_1 [(.ref s13), (.ref t15), (.ref rs17), (.ref rl18), (.ref s12), (.int (2 : Int32)), (.null), (.null), (.null)]), (s13, oR "[I" (.array .int) [(.ref s0_14)]), (s0_14, oA .int (x6 :: x8 :: List.replicate 1022 0)), (t15, oR "[I" (.array .int) [(.ref t0_16)]), (t0_16, oA .int (x7 :: x9 :: List.replicate 1022 0)), (a1, oA .int ps), (rl18, oJ [(0 : Int64)]), (rs17, oA .int [(0 : Int32)])] (own_n1 x9 h_x9) (x9.toNatClampNeg + 1) (own_p1 x9 h_x9).2 ((own_start _ (own_cl _ h_x7) _ (own_cl _ h_x9)).2.resolve_left (by simp only [Int32.lt_iff_toInt_lt, Int32.toNatClampNeg, ← Int32.toInt_inj] at *; omega)).2.1) (exa_new (i := 0) rfl) D_283 (hw _ (List.mem_of_getElem? (i := 99) rfl)) (hw _ (List.mem_of_getElem? (i := 100) rfl)) (hw _ (List.mem_of_getElem? (i := 102) rfl)) (hw _ (List.mem_of_getElem? (i := 102) rfl)) (hw _ (List.mem_of_getElem? (i := 101) rfl)) (hw _ (List.mem_of_getElem? (i := 62) rfl)) (hw _ (List.mem_of_getElem? (i := 103) rfl)) (by decide) pd_12 rfl rfl rfl (Nat.le_of_ble_eq_true rfl) (Nat.le_of_ble_eq_true rfl) (Nat.le_of_ble_eq_true rfl) (Nat.le_of_ble_eq_true rfl) ?_
    rintro _ _ ⟨rfl, rfl⟩
    show Wp (some none) l Z "com/example/chainstat/chainstat/io/LinkListRenumberPinLaw" "law" code maxLocals ret room_1 [(g19, oI "com/example/chainstat/chainstat/model/LinkGraph" sg_2 [(.int (8 : Int32)), (.ref D20), (.null), (.ref A22), (.ref B21), (.null)]), (A22, oA .int (fStart x7.toNatClampNeg x9.toNatClampNeg)), (B21, oA .int (fSrc x6 x8 x7.toNatClampNeg x9.toNatClampNeg)), (D20, oA .int (fDeg x6.toNatClampNeg x8.toNatClampNeg)), (a11, oI "com/example/chainstat/chainstat/io/LinkList" sg_1 [(.ref s13), (.ref t15), (.ref rs17), (.ref rl18), (.ref s12), (.int (2 : Int32)), (.null), (.null), (.null)]), (s13, oR "[I" (.array .int) [(.ref s0_14)]), (s0_14, oA .int (x6 :: x8 :: List.replicate 1022 0)), (t15, oR "[I" (.array .int) [(.ref t0_16)]), (t0_16, oA .int (x7 :: x9 :: List.replicate 1022 0)), (a1, oA .int ps), (rl18, oJ [(0 : Int64)]), (rs17, oA .int [(0 : Int32)])] 14 2103 286 #[.val (.int a), .val (.int b), .val (.ref a1), .val (.int x2), .val (.int x3), .val (.int x4), .val (.int x5), .val (.int x6), .val (.int x7), .val (.int x8), .val (.int x9), .val (.int x9), .val (.int x7), .val (.int x8), .val (.int x6), .val (.ref a11), .val (.ref g19), .val (.int (0 : Int32))] [(.int (1 : Int32))] Q_law
    refine wp_iload D_286 rfl ?_
    refine wp_if_eq D_288 (pc'' := 295) ⟨by decide, by decide⟩ (fun h28 => ?_) (fun h28 => by exact absurd h28 (by decide))
    refine wp_iconst 1 D_295 (by decide) ?_
    refine wp_icmp_ne D_296 (pc'' := 336) ⟨by decide, by decide⟩ (fun h29 => by exact absurd h29 (by decide)) (fun h29 => ?_)
    refine wp_aload D_299 rfl rfl ?_
    refine wp_iload D_301 rfl ?_
    refine wp_virtual (c_ist l Z a0 hw g19 A22 B21 D20 x7 1 (fStart x7.toNatClampNeg x9.toNatClampNeg) [(B21, oA .int (fSrc x6 x8 x7.toNatClampNeg x9.toNatClampNeg)), (D20, oA .int (fDeg x6.toNatClampNeg x8.toNatClampNeg)), (a11, oI "com/example/chainstat/chainstat/io/LinkList" sg_1 [(.ref s13), (.ref t15), (.ref rs17), (.ref rl18), (.ref s12), (.int (2 : Int32)), (.null), (.null), (.null)]), (s13, oR "[I" (.array .int) [(.ref s0_14)]), (s0_14, oA .int (x6 :: x8 :: List.replicate 1022 0)), (t15, oR "[I" (.array .int) [(.ref t0_16)]), (t0_16, oA .int (x7 :: x9 :: List.replicate 1022 0)), (a1, oA .int ps), (rl18, oJ [(0 : Int64)]), (rs17, oA .int [(0 : Int32)])] (own_n0 x7 h_x7) x7.toNatClampNeg rfl ((own_start _ (own_cl _ h_x7) _ (own_cl _ h_x9)).2.resolve_left (by simp only [Int32.lt_iff_toInt_lt, Int32.toNatClampNeg, ← Int32.toInt_inj] at *; omega)).2.2.1) (exa_new (i := 0) rfl) D_303 (hw _ (List.mem_of_getElem? (i := 99) rfl)) (hw _ (List.mem_of_getElem? (i := 100) rfl)) (hw _ (List.mem_of_getElem? (i := 102) rfl)) (hw _ (List.mem_of_getElem? (i := 102) rfl)) (hw _ (List.mem_of_getElem? (i := 101) rfl)) (hw _ (List.mem_of_getElem? (i := 62) rfl)) (hw _ (List.mem_of_getElem? (i := 103) rfl)) (by decide) pd_12 rfl rfl rfl (Nat.le_of_ble_eq_true rfl) (Nat.le_of_ble_eq_true rfl) (Nat.le_of_ble_eq_true rfl) (Nat.le_of_ble_eq_true rfl) ?_
    rintro _ _ ⟨rfl, rfl⟩
    show Wp (some none) l Z "com/example/chainstat/chainstat/io/LinkListRenumberPinLaw" "law" code maxLocals ret room_1 [(g19, oI "com/example/chainstat/chainstat/model/LinkGraph" sg_2 [(.int (8 : Int32)), (.ref D20), (.null), (.ref A22), (.ref B21), (.null)]), (A22, oA .int (fStart x7.toNatClampNeg x9.toNatClampNeg)), (B21, oA .int (fSrc x6 x8 x7.toNatClampNeg x9.toNatClampNeg)), (D20, oA .int (fDeg x6.toNatClampNeg x8.toNatClampNeg)), (a11, oI "com/example/chainstat/chainstat/io/LinkList" sg_1 [(.ref s13), (.ref t15), (.ref rs17), (.ref rl18), (.ref s12), (.int (2 : Int32)), (.null), (.null), (.null)]), (s13, oR "[I" (.array .int) [(.ref s0_14)]), (s0_14, oA .int (x6 :: x8 :: List.replicate 1022 0)), (t15, oR "[I" (.array .int) [(.ref t0_16)]), (t0_16, oA .int (x7 :: x9 :: List.replicate 1022 0)), (a1, oA .int ps), (rl18, oJ [(0 : Int64)]), (rs17, oA .int [(0 : Int32)])] 14 2103 306 #[.val (.int a), .val (.int b), .val (.ref a1), .val (.int x2), .val (.int x3), .val (.int x4), .val (.int x5), .val (.int x6), .val (.int x7), .val (.int x8), .val (.int x9), .val (.int x9), .val (.int x7), .val (.int x8), .val (.int x6), .val (.ref a11), .val (.ref g19), .val (.int (0 : Int32))] [(.int (1 : Int32))] Q_law
    refine wp_iload D_306 rfl ?_
    refine wp_if_eq D_308 (pc'' := 315) ⟨by decide, by decide⟩ (fun h30 => ?_) (fun h30 => by exact absurd h30 (by decide))
    refine wp_iconst 1 D_315 (by decide) ?_
    refine wp_icmp_ne D_316 (pc'' := 336) ⟨by decide, by decide⟩ (fun h31 => by exact absurd h31 (by decide)) (fun h31 => ?_)
    refine wp_aload D_319 rfl rfl ?_
    refine wp_iload D_321 rfl ?_
    refine wp_iconst 1 D_323 (by decide) ?_
    refine wp_iadd D_324 ?_
    refine wp_virtual (c_ist l Z a0 hw g19 A22 B21 D20 (x7 + (1 : Int32)) 2 (fStart x7.toNatClampNeg x9.toNatClampNeg) [(B21, oA .int (fSrc x6 x8 x7.toNatClampNeg x9.toNatClampNeg)), (D20, oA .int (fDeg x6.toNatClampNeg x8.toNatClampNeg)), (a11, oI "com/example/chainstat/chainstat/io/LinkList" sg_1 [(.ref s13), (.ref t15), (.ref rs17), (.ref rl18), (.ref s12), (.int (2 : Int32)), (.null), (.null), (.null)]), (s13, oR "[I" (.array .int) [(.ref s0_14)]), (s0_14, oA .int (x6 :: x8 :: List.replicate 1022 0)), (t15, oR "[I" (.array .int) [(.ref t0_16)]), (t0_16, oA .int (x7 :: x9 :: List.replicate 1022 0)), (a1, oA .int ps), (rl18, oJ [(0 : Int64)]), (rs17, oA .int [(0 : Int32)])] (own_n1 x7 h_x7) (x7.toNatClampNeg + 1) (own_p1 x7 h_x7).2 ((own_start _ (own_cl _ h_x7) _ (own_cl _ h_x9)).2.resolve_left (by simp only [Int32.lt_iff_toInt_lt, Int32.toNatClampNeg, ← Int32.toInt_inj] at *; omega)).2.2.2) (exa_new (i := 0) rfl) D_325 (hw _ (List.mem_of_getElem? (i := 99) rfl)) (hw _ (List.mem_of_getElem? (i := 100) rfl)) (hw _ (List.mem_of_getElem? (i := 102) rfl)) (hw _ (List.mem_of_getElem? (i := 102) rfl)) (hw _ (List.mem_of_getElem? (i := 101) rfl)) (hw _ (List.mem_of_getElem? (i := 62) rfl)) (hw _ (List.mem_of_getElem? (i := 103) rfl)) (by decide) pd_12 rfl rfl rfl (Nat.le_of_ble_eq_true rfl) (Nat.le_of_ble_eq_true rfl) (Nat.le_of_ble_eq_true rfl) (Nat.le_of_ble_eq_true rfl) ?_
    rintro _ _ ⟨rfl, rfl⟩
    show Wp (some none) l Z "com/example/chainstat/chainstat/io/LinkListRenumberPinLaw" "law" code maxLocals ret room_1 [(g19, oI "com/example/chainstat/chainstat/model/LinkGraph" sg_2 [(.int (8 : Int32)), (.ref D20), (.null), (.ref A22), (.ref B21), (.null)]), (A22, oA .int (fStart x7.toNatClampNeg x9.toNatClampNeg)), (B21, oA .int (fSrc x6 x8 x7.toNatClampNeg x9.toNatClampNeg)), (D20, oA .int (fDeg x6.toNatClampNeg x8.toNatClampNeg)), (a11, oI "com/example/chainstat/chainstat/io/LinkList" sg_1 [(.ref s13), (.ref t15), (.ref rs17), (.ref rl18), (.ref s12), (.int (2 : Int32)), (.null), (.null), (.null)]), (s13, oR "[I" (.array .int) [(.ref s0_14)]), (s0_14, oA .int (x6 :: x8 :: List.replicate 1022 0)), (t15, oR "[I" (.array .int) [(.ref t0_16)]), (t0_16, oA .int (x7 :: x9 :: List.replicate 1022 0)), (a1, oA .int ps), (rl18, oJ [(0 : Int64)]), (rs17, oA .int [(0 : Int32)])] 14 2103 328 #[.val (.int a), .val (.int b), .val (.ref a1), .val (.int x2), .val (.int x3), .val (.int x4), .val (.int x5), .val (.int x6), .val (.int x7), .val (.int x8), .val (.int x9), .val (.int x9), .val (.int x7), .val (.int x8), .val (.int x6), .val (.ref a11), .val (.ref g19), .val (.int (0 : Int32))] [(.int (2 : Int32))] Q_law
    refine wp_iconst 2 D_328 (by decide) ?_
    refine wp_icmp_ne D_329 (pc'' := 336) ⟨by decide, by decide⟩ (fun h32 => by exact absurd h32 (by decide)) (fun h32 => ?_)
    refine wp_iconst 1 D_332 (by decide) ?_
    refine wp_goto D_333 (pc'' := 337) ⟨by decide, by decide⟩ ?_
    refine wp_ireturnN D_337 rfl (by simp) (by decide) (by decide) ?_
    exact rfl
  · skip
    refine wp_iload D_144 rfl ?_
    refine wp_istore #[.val (.int a), .val (.int b), .val (.ref a1), .val (.int x2), .val (.int x3), .val (.int x4), .val (.int x5), .val (.int x6), .val (.int x7), .val (.int x8), .val (.int x9), .val (.int x7), .unset, .unset, .unset, .unset, .unset, .unset] D_146 rfl ?_
    refine wp_iload D_148 rfl ?_
    refine wp_istore #[.val (.int a), .val (.int b), .val (.ref a1), .val (.int x2), .val (.int x3), .val (.int x4), .val (.int x5), .val (.int x6), .val (.int x7), .val (.int x8), .val (.int x9), .val (.int x7), .val (.int x9), .unset, .unset, .unset, .unset, .unset] D_150 rfl ?_
    refine wp_iload D_152 rfl ?_
    refine wp_istore #[.val (.int a), .val (.int b), .val (.ref a1), .val (.int x2), .val (.int x3), .val (.int x4), .val (.int x5), .val (.int x6), .val (.int x7), .val (.int x8), .val (.int x9), .val (.int x7), .val (.int x9), .val (.int x6), .unset, .unset, .unset, .unset] D_154 rfl ?_
    refine wp_iload D_156 rfl ?_
    refine wp_istore #[.val (.int a), .val (.int b), .val (.ref a1), .val (.int x2), .val (.int x3), .val (.int x4), .val (.int x5), .val (.int x6), .val (.int x7), .val (.int x8), .val (.int x9), .val (.int x7), .val (.int x9), .val (.int x6), .val (.int x8), .unset, .unset, .unset] D_158 rfl ?_
    refine wp_goto D_160 (pc'' := 179) ⟨by decide, by decide⟩ ?_
    refine wp_new sg_1 [(.null), (.null), (.null), (.null), (.null), (.int (0 : Int32)), (.null), (.null), (.null)] D_179 (hw _ (List.mem_of_getElem? (i := 1) rfl)) (hw _ (List.mem_of_getElem? (i := 2) rfl)) (hw _ (List.mem_of_getElem? (i := 3) rfl)) (laid_sg_1 l Z a0 hw) (by decide) dfl_sg_1 (by decide) (by decide) ?_
    intro a33
    show Wp (some none) l Z "com/example/chainstat/chainstat/io/LinkListRenumberPinLaw" "law" code maxLocals ret room_1 [(a33, oI "com/example/chainstat/chainstat/io/LinkList" sg_1 [(.null), (.null), (.null), (.null), (.null), (.int (0 : Int32)), (.null), (.null), (.null)]), (a1, oA .int ps)] 2 18 182 #[.val (.int a), .val (.int b), .val (.ref a1), .val (.int x2), .val (.int x3), .val (.int x4), .val (.int x5), .val (.int x6), .val (.int x7), .val (.int x8), .val (.int x9), .val (.int x7), .val (.int x9), .val (.int x6), .val (.int x8), .unset, .unset, .unset] [(.ref a33)] Q_law
    refine wp_dup D_182 rfl ?_
    refine wp_ldcS (n := 4) D_183 rfl (hw _ (List.mem_of_getElem? (i := 4) rfl)) wS (by decide) (by decide) (by decide) (by decide) ?_
    intro s34
    show Wp (some none) l Z "com/example/chainstat/chainstat/io/LinkListRenumberPinLaw" "law" code maxLocals ret room_1 [(a33, oI "com/example/chainstat/chainstat/io/LinkList" sg_1 [(.null), (.null), (.null), (.null), (.null), (.int (0 : Int32)), (.null), (.null), (.null)]), (a1, oA .int ps)] 4 26 185 #[.val (.int a), .val (.int b), .val (.ref a1), .val (.int x2), .val (.int x3), .val (.int x4), .val (.int x5), .val (.int x6), .val (.int x7), .val (.int x8), .val (.int x9), .val (.int x7), .val (.int x9), .val (.int x6), .val (.int x8), .unset, .unset, .unset] [(.ref s34), (.ref a33), (.ref a33)] Q_law
    refine wp_init (c_new l Z a0 hw a33 s34 [(a1, oA .int ps)]) D_185 rfl (hw _ (List.mem_of_getElem? (i := 12) rfl)) (hw _ (List.mem_of_getElem? (i := 13) rfl)) (hw _ (List.mem_of_getElem? (i := 3) rfl)) (hw _ (List.mem_of_getElem? (i := 14) rfl)) (by decide) pd_7 rfl rfl rfl (Nat.le_of_ble_eq_true rfl) (Nat.le_of_ble_eq_true rfl) (Nat.le_of_ble_eq_true rfl) (Nat.le_of_ble_eq_true rfl) ?_
    rintro _ _ ⟨rfl, s35, s0_36, t37, t0_38, rs39, rl40, rfl⟩
    show Wp (some none) l Z "com/example/chainstat/chainstat/io/LinkListRenumberPinLaw" "law" code maxLocals ret room_1 [(rl40, oJ [(0 : Int64)]), (rs39, oA .int [(0 : Int32)]), (t0_38, oA .int (List.replicate 1024 0)), (t37, oR "[I" (.array .int) [(.ref t0_38)]), (s0_36, oA .int (List.replicate 1024 0)), (s35, oR "[I" (.array .int) [(.ref s0_36)]), (a33, oI "com/example/chainstat/chainstat/io/LinkList" sg_1 [(.ref s35), (.ref t37), (.ref rs39), (.ref rl40), (.ref s34), (.int (0 : Int32)), (.null), (.null), (.null)]), (a1, oA .int ps)] 10 2078 188 #[.val (.int a), .val (.int b), .val (.ref a1), .val (.int x2), .val (.int x3), .val (.int x4), .val (.int x5), .val (.int x6), .val (.int x7), .val (.int x8), .val (.int x9), .val (.int x7), .val (.int x9), .val (.int x6), .val (.int x8), .unset, .unset, .unset] [(.ref a33)] Q_law
    refine wp_astore #[.val (.int a), .val (.int b), .val (.ref a1), .val (.int x2), .val (.int x3), .val (.int x4), .val (.int x5), .val (.int x6), .val (.int x7), .val (.int x8), .val (.int x9), .val (.int x7), .val (.int x9), .val (.int x6), .val (.int x8), .val (.ref a33), .unset, .unset] D_188 rfl rfl ?_
    refine wp_aload D_190 rfl rfl ?_
    refine wp_iload_n D_192 rfl ?_
    refine wp_iload D_193 rfl ?_
    refine Wp.pick [6, 5, 4, 3, 2, 0, 1, 7] (by decide) ?_
    show Wp (some none) l Z "com/example/chainstat/chainstat/io/LinkListRenumberPinLaw" "law" code maxLocals ret room_1 [(a33, oI "com/example/chainstat/chainstat/io/LinkList" sg_1 [(.ref s35), (.ref t37), (.ref rs39), (.ref rl40), (.ref s34), (.int (0 : Int32)), (.null), (.null), (.null)]), (s35, oR "[I" (.array .int) [(.ref s0_36)]), (s0_36, oA .int (List.replicate 1024 0)), (t37, oR "[I" (.array .int) [(.ref t0_38)]), (t0_38, oA .int (List.replicate 1024 0)), (rl40, oJ [(0 : Int64)]), (rs39, oA .int [(0 : Int32)]), (a1, oA .int ps)] 10 2078 195 #[.val (.int a), .val (.int b), .val (.ref a1), .val (.int x2), .val (.int x3), .val (.int x4), .val (.int x5), .val (.int x6), .val (.int x7), .val (.int x8), .val (.int x9), .val (.int x7), .val (.int x9), .val (.int x6), .val (.int x8), .val (.ref a33), .unset, .unset] [(.int x3), (.int x2), (.ref a33)] Q_law
    refine wp_virtual (c_add0 l Z a0 hw x2 x3 a33 s34 s35 s0_36 t37 t0_38 rs39 rl40  [(rl40, oJ [(0 : Int64)]), (rs39, oA .int [(0 : Int32)]), (a1, oA .int ps)]) (exa_new (i := 0) rfl) D_195 (hw _ (List.mem_of_getElem? (i := 32) rfl)) (hw _ (List.mem_of_getElem? (i := 33) rfl)) (hw _ (List.mem_of_getElem? (i := 35) rfl)) (hw _ (List.mem_of_getElem? (i := 35) rfl)) (hw _ (List.mem_of_getElem? (i := 34) rfl)) (hw _ (List.mem_of_getElem? (i := 3) rfl)) (hw _ (List.mem_of_getElem? (i := 36) rfl)) (by decide) pd_8 rfl rfl rfl (Nat.le_of_ble_eq_true rfl) (Nat.le_of_ble_eq_true rfl) (Nat.le_of_ble_eq_true rfl) (Nat.le_of_ble_eq_true rfl) ?_
    rintro _ _ ⟨rfl, rfl⟩
    show Wp (some none) l Z "com/example/chainstat/chainstat/io/LinkListRenumberPinLaw" "law" code maxLocals ret room_1 [(a33, oI "com/example/chainstat/chainstat/io/LinkList" sg_1 [(.ref s35), (.ref t37), (.ref rs39), (.ref rl40), (.ref s34), (.int (1 : Int32)), (.null), (.null), (.null)]), (s35, oR "[I" (.array .int) [(.ref s0_36)]), (s0_36, oA .int (x2 :: List.replicate 1023 0)), (t37, oR "[I" (.array .int) [(.ref t0_38)]), (t0_38, oA .int (x3 :: List.replicate 1023 0)), (rl40, oJ [(0 : Int64)]), (rs39, oA .int [(0 : Int32)]), (a1, oA .int ps)] 10 2078 198 #[.val (.int a), .val (.int b), .val (.ref a1), .val (.int x2), .val (.int x3), .val (.int x4), .val (.int x5), .val (.int x6), .val (.int x7), .val (.int x8), .val (.int x9), .val (.int x7), .val (.int x9), .val (.int x6), .val (.int x8), .val (.ref a33), .unset, .unset] [] Q_law
    refine wp_aload D_198 rfl rfl ?_
    refine wp_iload D_200 rfl ?_
    refine wp_iload D_202 rfl ?_
    refine wp_virtual (c_add1 l Z a0 hw x4 x5 a33 s34 s35 s0_36 t37 t0_38 rs39 rl40 x2 x3 [(rl40, oJ [(0 : Int64)]), (rs39, oA .int [(0 : Int32)]), (a1, oA .int ps)]) (exa_new (i := 0) rfl) D_204 (hw _ (List.mem_of_getElem? (i := 32) rfl)) (hw _ (List.mem_of_getElem? (i := 33) rfl)) (hw _ (List.mem_of_getElem? (i := 35) rfl)) (hw _ (List.mem_of_getElem? (i := 35) rfl)) (hw _ (List.mem_of_getElem? (i := 34) rfl)) (hw _ (List.mem_of_getElem? (i := 3) rfl)) (hw _ (List.mem_of_getElem? (i := 36) rfl)) (by decide) pd_8 rfl rfl rfl (Nat.le_of_ble_eq_true rfl) (Nat.le_of_ble_eq_true rfl) (Nat.le_of_ble_eq_true rfl) (Nat.le_of_ble_eq_true rfl) ?_
    rintro _ _ ⟨rfl, rfl⟩
    show Wp (some none) l Z "com/example/chainstat/chainstat/io/LinkListRenumberPinLaw" "law" code maxLocals ret room_1 [(a33, oI "com/example/chainstat/chainstat/io/LinkList" sg_1 [(.ref s35), (.ref t37), (.ref rs39), (.ref rl40), (.ref s34), (.int (2 : Int32)), (.null), (.null), (.null)]), (s35, oR "[I" (.array .int) [(.ref s0_36)]), (s0_36, oA .int (x2 :: x4 :: List.replicate 1022 0)), (t37, oR "[I" (.array .int) [(.ref t0_38)]), (t0_38, oA .int (x3 :: x5 :: List.replicate 1022 0)), (rl40, oJ [(0 : Int64)]), (rs39, oA .int [(0 : Int32)]), (a1, oA .int ps)] 10 2078 207 #[.val (.int a), .val (.int b), .val (.ref a1), .val (.int x2), .val (.int x3), .val (.int x4), .val (.int x5), .val (.int x6), .val (.int x7), .val (.int x8), .val (.int x9), .val (.int x7), .val (.int x9), .val (.int x6), .val (.int x8), .val (.ref a33), .unset, .unset] [] Q_law
    refine wp_aload D_207 rfl rfl ?_
    refine wp_aload_n D_209 rfl rfl ?_
    refine Wp.pick [0, 1, 2, 3, 4, 7, 5, 6] (by decide) ?_
    show Wp (some none) l Z "com/example/chainstat/chainstat/io/LinkListRenumberPinLaw" "law" code maxLocals ret room_1 [(a33, oI "com/example/chainstat/chainstat/io/LinkList" sg_1 [(.ref s35), (.ref t37), (.ref rs39), (.ref rl40), (.ref s34), (.int (2 : Int32)), (.null), (.null), (.null)]), (s35, oR "[I" (.array .int) [(.ref s0_36)]), (s0_36, oA .int (x2 :: x4 :: List.replicate 1022 0)), (t37, oR "[I" (.array .int) [(.ref t0_38)]), (t0_38, oA .int (x3 :: x5 :: List.replicate 1022 0)), (a1, oA .int ps), (rl40, oJ [(0 : Int64)]), (rs39, oA .int [(0 : Int32)])] 10 2078 210 #[.val (.int a), .val (.int b), .val (.ref a1), .val (.int x2), .val (.int x3), .val (.int x4), .val (.int x5), .val (.int x6), .val (.int x7), .val (.int x8), .val (.int x9), .val (.int x7), .val (.int x9), .val (.int x6), .val (.int x8), .val (.ref a33), .unset, .unset] [(.ref a1), (.ref a33)] Q_law
    refine wp_virtual (c_ren l Z a0 hw a1 ps a33 s34 s35 s0_36 t37 t0_38 rs39 rl40 x2 x4 x3 x5 [(rl40, oJ [(0 : Int64)]), (rs39, oA .int [(0 : Int32)])] hps h_x2 h_x4 h_x3 h_x5) (exa_new (i := 0) rfl) D_210 (hw _ (List.mem_of_getElem? (i := 50) rfl)) (hw _ (List.mem_of_getElem? (i := 51) rfl)) (hw _ (List.mem_of_getElem? (i := 53) rfl)) (hw _ (List.mem_of_getElem? (i := 53) rfl)) (hw _ (List.mem_of_getElem? (i := 52) rfl)) (hw _ (List.mem_of_getElem? (i := 3) rfl)) (hw _ (List.mem_of_getElem? (i := 54) rfl)) (by decide) pd_9 rfl rfl rfl (Nat.le_of_ble_eq_true rfl) (Nat.le_of_ble_eq_true rfl) (Nat.le_of_ble_eq_true rfl) (Nat.le_of_ble_eq_true rfl) ?_
    rintro _ _ ⟨rfl, rfl⟩
    rw [hg_x6, hg_x8, hg_x7, hg_x9]
    show Wp (some none) l Z "com/example/chainstat/chainstat/io/LinkListRenumberPinLaw" "law" code maxLocals ret room_1 [(a33, oI "com/example/chainstat/chainstat/io/LinkList" sg_1 [(.ref s35), (.ref t37), (.ref rs39), (.ref rl40), (.ref s34), (.int (2 : Int32)), (.null), (.null), (.null)]), (s35, oR "[I" (.array .int) [(.ref s0_36)]), (s0_36, oA .int (x6 :: x8 :: List.replicate 1022 0)), (t37, oR "[I" (.array .int) [(.ref t0_38)]), (t0_38, oA .int (x7 :: x9 :: List.replicate 1022 0)), (a1, oA .int ps), (rl40, oJ [(0 : Int64)]), (rs39, oA .int [(0 : Int32)])] 10 2078 213 #[.val (.int a), .val (.int b), .val (.ref a1), .val (.int x2), .val (.int x3), .val (.int x4), .val (.int x5), .val (.int x6), .val (.int x7), .val (.int x8), .val (.int x9), .val (.int x7), .val (.int x9), .val (.int x6), .val (.int x8), .val (.ref a33), .unset, .unset] [] Q_law
    refine wp_aload D_213 rfl rfl ?_
    refine wp_bipush 8 D_215 (by decide) ?_
    refine wp_virtualX (c_tog l Z a0 hw a33 s34 s35 s0_36 t37 t0_38 rs39 rl40 x6 x8 x7 x9 [(a1, oA .int ps), (rl40, oJ [(0 : Int64)]), (rs39, oA .int [(0 : Int32)])] h_x6 h_x8 h_x7 h_x9) (exa_new (i := 0) rfl) D_217 (hw _ (List.mem_of_getElem? (i := 55) rfl)) (hw _ (List.mem_of_getElem? (i := 56) rfl)) (hw _ (List.mem_of_getElem? (i := 58) rfl)) (hw _ (List.mem_of_getElem? (i := 58) rfl)) (hw _ (List.mem_of_getElem? (i := 57) rfl)) (hw _ (List.mem_of_getElem? (i := 3) rfl)) (hw _ (List.mem_of_getElem? (i := 59) rfl)) (by decide) pd_10 rfl rfl rfl (Nat.le_of_ble_eq_true rfl) (Nat.le_of_ble_eq_true rfl) (Nat.le_of_ble_eq_true rfl) (Nat.le_of_ble_eq_true rfl) ?_
    rintro _ _ ⟨g41, D42, B43, A44, rfl, rfl⟩
    show Wp (some none) l Z "com/example/chainstat/chainstat/io/LinkListRenumberPinLaw" "law" code maxLocals ret room_1 [(D42, oA .int (fDeg x6.toNatClampNeg x8.toNatClampNeg)), (B43, oA .int (fSrc x6 x8 x7.toNatClampNeg x9.toNatClampNeg)), (A44, oA .int (fStart x7.toNatClampNeg x9.toNatClampNeg)), (g41, oI "com/example/chainstat/chainstat/model/LinkGraph" sg_2 [(.int (8 : Int32)), (.ref D42), (.null), (.ref A44), (.ref B43), (.null)]), (a33, oI "com/example/chainstat/chainstat/io/LinkList" sg_1 [(.ref s35), (.ref t37), (.ref rs39), (.ref rl40), (.ref s34), (.int (2 : Int32)), (.null), (.null), (.null)]), (s35, oR "[I" (.array .int) [(.ref s0_36)]), (s0_36, oA .int (x6 :: x8 :: List.replicate 1022 0)), (t37, oR "[I" (.array .int) [(.ref t0_38)]), (t0_38, oA .int (x7 :: x9 :: List.replicate 1022 0)), (a1, oA .int ps), (rl40, oJ [(0 : Int64)]), (rs39, oA .int [(0 : Int32)])] 14 2103 220 #[.val (.int a), .val (.int b), .val (.ref a1), .val (.int x2), .val (.int x3), .val (.int x4), .val (.int x5), .val (.int x6), .val (.int x7), .val (.int x8), .val (.int x9), .val (.int x7), .val (.int x9), .val (.int x6), .val (.int x8), .val (.ref a33), .unset, .unset] [(.ref g41)] Q_law
    refine wp_astore #[.val (.int a), .val (.int b), .val (.ref a1), .val (.int x2), .val (.int x3), .val (.int x4), .val (.int x5), .val (.int x6), .val (.int x7), .val (.int x8), .val (.int x9), .val (.int x7), .val (.int x9), .val (.int x6), .val (.int x8), .val (.ref a33), .val (.ref g41), .unset] D_220 rfl rfl ?_
    refine wp_iload D_222 rfl ?_
    refine wp_iload D_224 rfl ?_
    refine wp_icmp_ne D_226 (pc'' := 233) ⟨by decide, by decide⟩ (fun h45 => ?_) (fun h45 => ?_)
    · skip
      refine wp_iconst 0 D_233 (by decide) ?_
      refine wp_istore #[.val (.int a), .val (.int b), .val (.ref a1), .val (.int x2), .val (.int x3), .val (.int x4), .val (.int x5), .val (.int x6), .val (.int x7), .val (.int x8), .val (.int x9), .val (.int x7), .val (.int x9), .val (.int x6), .val (.int x8), .val (.ref a33), .val (.ref g41), .val (.int (0 : Int32))] D_234 rfl ?_
      refine wp_aload D_236 rfl rfl ?_
      refine Wp.pick [3, 1, 0, 2, 4, 5, 6, 7, 8, 9, 10, 11] (by decide) ?_
      show Wp (some none) l Z "com/example/chainstat/chainstat/io/LinkListRenumberPinLaw" "law" code maxLocals ret room_1 [(g41, oI "com/example/chainstat/chainstat/model/LinkGraph" sg_2 [(.int (8 : Int32)), (.ref D42), (.null), (.ref A44), (.ref B43), (.null)]), (B43, oA .int (fSrc x6 x8 x7.toNatClampNeg x9.toNatClampNeg)), (D42, oA .int (fDeg x6.toNatClampNeg x8.toNatClampNeg)), (A44, oA .int (fStart x7.toNatClampNeg x9.toNatClampNeg)), (a33, oI "com/example/chainstat/chainstat/io/LinkList" sg_1 [(.ref s35), (.ref t37), (.ref rs39), (.ref rl40), (.ref s34), (.int (2 : Int32)), (.null), (.null), (.null)]), (s35, oR "[I" (.array .int) [(.ref s0_36)]), (s0_36, oA .int (x6 :: x8 :: List.replicate 1022 0)), (t37, oR "[I" (.array .int) [(.ref t0_38)]), (t0_38, oA .int (x7 :: x9 :: List.replicate 1022 0)), (a1, oA .int ps), (rl40, oJ [(0 : Int64)]), (rs39, oA .int [(0 : Int32)])] 14 2103 238 #[.val (.int a), .val (.int b), .val (.ref a1), .val (.int x2), .val (.int x3), .val (.int x4), .val (.int x5), .val (.int x6), .val (.int x7), .val (.int x8), .val (.int x9), .val (.int x7), .val (.int x9), .val (.int x6), .val (.int x8), .val (.ref a33), .val (.ref g41), .val (.int (0 : Int32))] [(.ref g41)] Q_law
      refine wp_virtual (c_lc l Z a0 hw g41 A44 B43 D42 (fSrc x6 x8 x7.toNatClampNeg x9.toNatClampNeg) [(D42, oA .int (fDeg x6.toNatClampNeg x8.toNatClampNeg)), (A44, oA .int (fStart x7.toNatClampNeg x9.toNatClampNeg)), (a33, oI "com/example/chainstat/chainstat/io/LinkList" sg_1 [(.ref s35), (.ref t37), (.ref rs39), (.ref rl40), (.ref s34), (.int (2 : Int32)), (.null), (.null), (.null)]), (s35, oR "[I" (.array .int) [(.ref s0_36)]), (s0_36, oA .int (x6 :: x8 :: List.replicate 1022 0)), (t37, oR "[I" (.array .int) [(.ref t0_38)]), (t0_38, oA .int (x7 :: x9 :: List.replicate 1022 0)), (a1, oA .int ps), (rl40, oJ [(0 : Int64)]), (rs39, oA .int [(0 : Int32)])] (by simp [fSrc])) (exa_new (i := 0) rfl) D_238 (hw _ (List.mem_of_getElem? (i := 89) rfl)) (hw _ (List.mem_of_getElem? (i := 90) rfl)) (hw _ (List.mem_of_getElem? (i := 92) rfl)) (hw _ (List.mem_of_getElem? (i := 92) rfl)) (hw _ (List.mem_of_getElem? (i := 91) rfl)) (hw _ (List.mem_of_getElem? (i := 62) rfl)) (hw _ (List.mem_of_getElem? (i := 93) rfl)) (by decide) pd_11 rfl rfl rfl (Nat.le_of_ble_eq_true rfl) (Nat.le_of_ble_eq_true rfl) (Nat.le_of_ble_eq_true rfl) (Nat.le_of_ble_eq_true rfl) ?_
      rintro _ _ ⟨rfl, rfl⟩
      show Wp (some none) l Z "com/example/chainstat/chainstat/io/LinkListRenumberPinLaw" "law" code maxLocals ret room_1 [(g41, oI "com/example/chainstat/chainstat/model/LinkGraph" sg_2 [(.int (8 : Int32)), (.ref D42), (.null), (.ref A44), (.ref B43), (.null)]), (B43, oA .int (fSrc x6 x8 x7.toNatClampNeg x9.toNatClampNeg)), (D42, oA .int (fDeg x6.toNatClampNeg x8.toNatClampNeg)), (A44, oA .int (fStart x7.toNatClampNeg x9.toNatClampNeg)), (a33, oI "com/example/chainstat/chainstat/io/LinkList" sg_1 [(.ref s35), (.ref t37), (.ref rs39), (.ref rl40), (.ref s34), (.int (2 : Int32)), (.null), (.null), (.null)]), (s35, oR "[I" (.array .int) [(.ref s0_36)]), (s0_36, oA .int (x6 :: x8 :: List.replicate 1022 0)), (t37, oR "[I" (.array .int) [(.ref t0_38)]), (t0_38, oA .int (x7 :: x9 :: List.replicate 1022 0)), (a1, oA .int ps), (rl40, oJ [(0 : Int64)]), (rs39, oA .int [(0 : Int32)])] 14 2103 241 #[.val (.int a), .val (.int b), .val (.ref a1), .val (.int x2), .val (.int x3), .val (.int x4), .val (.int x5), .val (.int x6), .val (.int x7), .val (.int x8), .val (.int x9), .val (.int x7), .val (.int x9), .val (.int x6), .val (.int x8), .val (.ref a33), .val (.ref g41), .val (.int (0 : Int32))] [(.int (2 : Int32))] Q_law
      refine wp_iconst 2 D_241 (by decide) ?_
      refine wp_icmp_ne D_242 (pc'' := 336) ⟨by decide, by decide⟩ (fun h46 => by exact absurd h46 (by decide)) (fun h46 => ?_)
      refine wp_aload D_245 rfl rfl ?_
      refine wp_iconst 0 D_247 (by decide) ?_
      refine wp_virtual (c_isrc l Z a0 hw g41 A44 B43 D42 (0 : Int32) x6 (fSrc x6 x8 x7.toNatClampNeg x9.toNatClampNeg) [(D42, oA .int (fDeg x6.toNatClampNeg x8.toNatClampNeg)), (A44, oA .int (fStart x7.toNatClampNeg x9.toNatClampNeg)), (a33, oI "com/example/chainstat/chainstat/io/LinkList" sg_1 [(.ref s35), (.ref t37), (.ref rs39), (.ref rl40), (.ref s34), (.int (2 : Int32)), (.null), (.null), (.null)]), (s35, oR "[I" (.array .int) [(.ref s0_36)]), (s0_36, oA .int (x6 :: x8 :: List.replicate 1022 0)), (t37, oR "[I" (.array .int) [(.ref t0_38)]), (t0_38, oA .int (x7 :: x9 :: List.replicate 1022 0)), (a1, oA .int ps), (rl40, oJ [(0 : Int64)]), (rs39, oA .int [(0 : Int32)])] (by decide) 0 (by decide) (by rw [own_src _ _ _ _ (own_cl _ h_x7) (own_cl _ h_x9), if_pos (by simp only [Int32.lt_iff_toInt_lt, Int32.toNatClampNeg] at *; omega)]; rfl)) (exa_new (i := 0) rfl) D_248 (hw _ (List.mem_of_getElem? (i := 94) rfl)) (hw _ (List.mem_of_getElem? (i := 95) rfl)) (hw _ (List.mem_of_getElem? (i := 97) rfl)) (hw _ (List.mem_of_getElem? (i := 97) rfl)) (hw _ (List.mem_of_getElem? (i := 96) rfl)) (hw _ (List.mem_of_getElem? (i := 62) rfl)) (hw _ (List.mem_of_getElem? (i := 98) rfl)) (by decide) pd_12 rfl rfl rfl (Nat.le_of_ble_eq_true rfl) (Nat.le_of_ble_eq_true rfl) (Nat.le_of_ble_eq_true rfl) (Nat.le_of_ble_eq_true rfl) ?_
      rintro _ _ ⟨rfl, rfl⟩
      show Wp (some none) l Z "com/example/chainstat/chainstat/io/LinkListRenumberPinLaw" "law" code maxLocals ret room_1 [(g41, oI "com/example/chainstat/chainstat/model/LinkGraph" sg_2 [(.int (8 : Int32)), (.ref D42), (.null), (.ref A44), (.ref B43), (.null)]), (B43, oA .int (fSrc x6 x8 x7.toNatClampNeg x9.toNatClampNeg)), (D42, oA .int (fDeg x6.toNatClampNeg x8.toNatClampNeg)), (A44, oA .int (fStart x7.toNatClampNeg x9.toNatClampNeg)), (a33, oI "com/example/chainstat/chainstat/io/LinkList" sg_1 [(.ref s35), (.ref t37), (.ref rs39), (.ref rl40), (.ref s34), (.int (2 : Int32)), (.null), (.null), (.null)]), (s35, oR "[I" (.array .int) [(.ref s0_36)]), (s0_36, oA .int (x6 :: x8 :: List.replicate 1022 0)), (t37, oR "[I" (.array .int) [(.ref t0_38)]), (t0_38, oA .int (x7 :: x9 :: List.replicate 1022 0)), (a1, oA .int ps), (rl40, oJ [(0 : Int64)]), (rs39, oA .int [(0 : Int32)])] 14 2103 251 #[.val (.int a), .val (.int b), .val (.ref a1), .val (.int x2), .val (.int x3), .val (.int x4), .val (.int x5), .val (.int x6), .val (.int x7), .val (.int x8), .val (.int x9), .val (.int x7), .val (.int x9), .val (.int x6), .val (.int x8), .val (.ref a33), .val (.ref g41), .val (.int (0 : Int32))] [(.int x6)] Q_law
      refine wp_iload D_251 rfl ?_
      refine wp_icmp_ne D_253 (pc'' := 336) ⟨by decide, by decide⟩ (fun h47 => by exact absurd rfl h47) (fun h47 => ?_)
      refine wp_aload D_256 rfl rfl ?_
      refine wp_iconst 1 D_258 (by decide) ?_
      refine wp_virtual (c_isrc l Z a0 hw g41 A44 B43 D42 (1 : Int32) x8 (fSrc x6 x8 x7.toNatClampNeg x9.toNatClampNeg) [(D42, oA .int (fDeg x6.toNatClampNeg x8.toNatClampNeg)), (A44, oA .int (fStart x7.toNatClampNeg x9.toNatClampNeg)), (a33, oI "com/example/chainstat/chainstat/io/LinkList" sg_1 [(.ref s35), (.ref t37), (.ref rs39), (.ref rl40), (.ref s34), (.int (2 : Int32)), (.null), (.null), (.null)]), (s35, oR "[I" (.array .int) [(.ref s0_36)]), (s0_36, oA .int (x6 :: x8 :: List.replicate 1022 0)), (t37, oR "[I" (.array .int) [(.ref t0_38)]), (t0_38, oA .int (x7 :: x9 :: List.replicate 1022 0)), (a1, oA .int ps), (rl40, oJ [(0 : Int64)]), (rs39, oA .int [(0 : Int32)])] (by decide) 1 (by decide) (by rw [own_src _ _ _ _ (own_cl _ h_x7) (own_cl _ h_x9), if_pos (by simp only [Int32.lt_iff_toInt_lt, Int32.toNatClampNeg] at *; omega)]; rfl)) (exa_new (i := 0) rfl) D_259 (hw _ (List.mem_of_getElem? (i := 94) rfl)) (hw _ (List.mem_of_getElem? (i := 95) rfl)) (hw _ (List.mem_of_getElem? (i := 97) rfl)) (hw _ (List.mem_of_getElem? (i := 97) rfl)) (hw _ (List.mem_of_getElem? (i := 96) rfl)) (hw _ (List.mem_of_getElem? (i := 62) rfl)) (hw _ (List.mem_of_getElem? (i := 98) rfl)) (by decide) pd_12 rfl rfl rfl (Nat.le_of_ble_eq_true rfl) (Nat.le_of_ble_eq_true rfl) (Nat.le_of_ble_eq_true rfl) (Nat.le_of_ble_eq_true rfl) ?_
      rintro _ _ ⟨rfl, rfl⟩
      show Wp (some none) l Z "com/example/chainstat/chainstat/io/LinkListRenumberPinLaw" "law" code maxLocals ret room_1 [(g41, oI "com/example/chainstat/chainstat/model/LinkGraph" sg_2 [(.int (8 : Int32)), (.ref D42), (.null), (.ref A44), (.ref B43), (.null)]), (B43, oA .int (fSrc x6 x8 x7.toNatClampNeg x9.toNatClampNeg)), (D42, oA .int (fDeg x6.toNatClampNeg x8.toNatClampNeg)), (A44, oA .int (fStart x7.toNatClampNeg x9.toNatClampNeg)), (a33, oI "com/example/chainstat/chainstat/io/LinkList" sg_1 [(.ref s35), (.ref t37), (.ref rs39), (.ref rl40), (.ref s34), (.int (2 : Int32)), (.null), (.null), (.null)]), (s35, oR "[I" (.array .int) [(.ref s0_36)]), (s0_36, oA .int (x6 :: x8 :: List.replicate 1022 0)), (t37, oR "[I" (.array .int) [(.ref t0_38)]), (t0_38, oA .int (x7 :: x9 :: List.replicate 1022 0)), (a1, oA .int ps), (rl40, oJ [(0 : Int64)]), (rs39, oA .int [(0 : Int32)])] 14 2103 262 #[.val (.int a), .val (.int b), .val (.ref a1), .val (.int x2), .val (.int x3), .val (.int x4), .val (.int x5), .val (.int x6), .val (.int x7), .val (.int x8), .val (.int x9), .val (.int x7), .val (.int x9), .val (.int x6), .val (.int x8), .val (.ref a33), .val (.ref g41), .val (.int (0 : Int32))] [(.int x8)] Q_law
      refine wp_iload D_262 rfl ?_
      refine wp_icmp_ne D_264 (pc'' := 336) ⟨by decide, by decide⟩ (fun h48 => by exact absurd rfl h48) (fun h48 => ?_)
      refine wp_aload D_267 rfl rfl ?_
      refine wp_iload D_269 rfl ?_
      refine Wp.pick [0, 3, 1, 2, 4, 5, 6, 7, 8, 9, 10, 11] (by decide) ?_
      show Wp (some none) l Z "com/example/chainstat/chainstat/io/LinkListRenumberPinLaw" "law" code maxLocals ret room_1 [(g41, oI "com/example/chainstat/chainstat/model/LinkGraph" sg_2 [(.int (8 : Int32)), (.ref D42), (.null), (.ref A44), (.ref B43), (.null)]), (A44, oA .int (fStart x7.toNatClampNeg x9.toNatClampNeg)), (B43, oA .int (fSrc x6 x8 x7.toNatClampNeg x9.toNatClampNeg)), (D42, oA .int (fDeg x6.toNatClampNeg x8.toNatClampNeg)), (a33, oI "com/example/chainstat/chainstat/io/LinkList" sg_1 [(.ref s35), (.ref t37), (.ref rs39), (.ref rl40), (.ref s34), (.int (2 : Int32)), (.null), (.null), (.null)]), (s35, oR "[I" (.array .int) [(.ref s0_36)]), (s0_36, oA .int (x6 :: x8 :: List.replicate 1022 0)), (t37, oR "[I" (.array .int) [(.ref t0_38)]), (t0_38, oA .int (x7 :: x9 :: List.replicate 1022 0)), (a1, oA .int ps), (rl40, oJ [(0 : Int64)]), (rs39, oA .int [(0 : Int32)])] 14 2103 271 #[.val (.int a), .val (.int b), .val (.ref a1), .val (.int x2), .val (.int x3), .val (.int x4), .val (.int x5), .val (.int x6), .val (.int x7), .val (.int x8), .val (.int x9), .val (.int x7), .val (.int x9), .val (.int x6), .val (.int x8), .val (.ref a33), .val (.ref g41), .val (.int (0 : Int32))] [(.int x7), (.ref g41)] Q_law
      refine wp_virtual (c_ist l Z a0 hw g41 A44 B43 D42 x7 0 (fStart x7.toNatClampNeg x9.toNatClampNeg) [(B43, oA .int (fSrc x6 x8 x7.toNatClampNeg x9.toNatClampNeg)), (D42, oA .int (fDeg x6.toNatClampNeg x8.toNatClampNeg)), (a33, oI "com/example/chainstat/chainstat/io/LinkList" sg_1 [(.ref s35), (.ref t37), (.ref rs39), (.ref rl40), (.ref s34), (.int (2 : Int32)), (.null), (.null), (.null)]), (s35, oR "[I" (.array .int) [(.ref s0_36)]), (s0_36, oA .int (x6 :: x8 :: List.replicate 1022 0)), (t37, oR "[I" (.array .int) [(.ref t0_38)]), (t0_38, oA .int (x7 :: x9 :: List.replicate 1022 0)), (a1, oA .int ps), (rl40, oJ [(0 : Int64)]), (rs39, oA .int [(0 : Int32)])] (own_n0 x7 h_x7) x7.toNatClampNeg rfl ((own_start _ (own_cl _ h_x7) _ (own_cl _ h_x9)).1.resolve_left (by simp only [Int32.lt_iff_toInt_lt, Int32.toNatClampNeg, ← Int32.toInt_inj] at *; omega)).1) (exa_new (i := 0) rfl) D_271 (hw _ (List.mem_of_getElem? (i := 99) rfl)) (hw _ (List.mem_of_getElem? (i := 100) rfl)) (hw _ (List.mem_of_getElem? (i := 102) rfl)) (hw _ (List.mem_of_getElem? (i := 102) rfl)) (hw _ (List.mem_of_getElem? (i := 101) rfl)) (hw _ (List.mem_of_getElem? (i := 62) rfl)) (hw _ (List.mem_of_getElem? (i := 103) rfl)) (by decide) pd_12 rfl rfl rfl (Nat.le_of_ble_eq_true rfl) (Nat.le_of_ble_eq_true rfl) (Nat.le_of_ble_eq_true rfl) (Nat.le_of_ble_eq_true rfl) ?_
      rintro _ _ ⟨rfl, rfl⟩
      show Wp (some none) l Z "com/example/chainstat/chainstat/io/LinkListRenumberPinLaw" "law" code maxLocals ret room_1 [(g41, oI "com/example/chainstat/chainstat/model/LinkGraph" sg_2 [(.int (8 : Int32)), (.ref D42), (.null), (.ref A44), (.ref B43), (.null)]), (A44, oA .int (fStart x7.toNatClampNeg x9.toNatClampNeg)), (B43, oA .int (fSrc x6 x8 x7.toNatClampNeg x9.toNatClampNeg)), (D42, oA .int (fDeg x6.toNatClampNeg x8.toNatClampNeg)), (a33, oI "com/example/chainstat/chainstat/io/LinkList" sg_1 [(.ref s35), (.ref t37), (.ref rs39), (.ref rl40), (.ref s34), (.int (2 : Int32)), (.null), (.null), (.null)]), (s35, oR "[I" (.array .int) [(.ref s0_36)]), (s0_36, oA .int (x6 :: x8 :: List.replicate 1022 0)), (t37, oR "[I" (.array .int) [(.ref t0_38)]), (t0_38, oA .int (x7 :: x9 :: List.replicate 1022 0)), (a1, oA .int ps), (rl40, oJ [(0 : Int64)]), (rs39, oA .int [(0 : Int32)])] 14 2103 274 #[.val (.int a), .val (.int b), .val (.ref a1), .val (.int x2), .val (.int x3), .val (.int x4), .val (.int x5), .val (.int x6), .val (.int x7), .val (.int x8), .val (.int x9), .val (.int x7), .val (.int x9), .val (.int x6), .val (.int x8), .val (.ref a33), .val (.ref g41), .val (.int (0 : Int32))] [(.int (0 : Int32))] Q_law
      refine wp_if_ne D_274 (pc'' := 336) ⟨by decide, by decide⟩ (fun h49 => by exact absurd h49 (by decide)) (fun h49 => ?_)
      refine wp_aload D_277 rfl rfl ?_
      refine wp_iload D_279 rfl ?_
      refine wp_iconst 1 D_281 (by decide) ?_
      refine wp_iadd D_282 ?_
      refine wp_virtual (c_ist l Z a0 hw g41 A44 B43 D42 (x7 + (1 : Int32)) 1 (fStart x7.toNatClampNeg x9.toNatClampNeg) [(B43, oA .int (fSrc x6 x8 x7.toNatClampNeg x9.toNatClampNeg)), (D42, oA .int (fDeg x6.toNatClampNeg x8.toNatClampNeg)), (a33, oI "com/example/chainstat/chainstat/io/LinkList" sg_1 [(.ref s35), (.ref t37), (.ref rs39), (.ref rl40), (.ref s34), (.int (2 : Int32)), (.null), (.null), (.null)]), (s35, oR "[I" (.array .int) [(.ref s0_36)]), (s0_36, oA .int (x6 :: x8 :: List.replicate 1022 0)), (t37, oR "[I" (.array .int) [(.ref t0_38)]), (t0_38, oA .int (x7 :: x9 :: List.replicate 1022 0)), (a1, oA .int ps), (rl40, oJ [(0 : Int64)]), (rs39, oA .int [(0 : Int32)])] (own_n1 x7 h_x7) (x7.toNatClampNeg + 1) (own_p1 x7 h_x7).2 (((own_start _ (own_cl _ h_x7) _ (own_cl _ h_x9)).1.resolve_left (by simp only [Int32.lt_iff_toInt_lt, Int32.toNatClampNeg, ← Int32.toInt_inj] at *; omega)).2.1.trans (by rw [if_neg (by simp only [Int32.toNatClampNeg, ← Int32.toInt_inj] at *; omega)]))) (exa_new (i := 0) rfl) D_283 (hw _ (List.mem_of_getElem? (i := 99) rfl)) (hw _ (List.mem_of_getElem? (i := 100) rfl)) (hw _ (List.mem_of_getElem? (i := 102) rfl)) (hw _ (List.mem_of_getElem? (i := 102) rfl)) (hw _ (List.mem_of_getElem? (i := 101) rfl)) (hw _ (List.mem_of_getElem? (i := 62) rfl)) (hw _ (List.mem_of_getElem? (i := 103) rfl)) (by decide) pd_12 rfl rfl rfl (Nat.le_of_ble_eq_true rfl) (Nat.le_of_ble_eq_true rfl) (Nat.le_of_ble_eq_true rfl) (Nat.le_of_ble_eq_true rfl) ?_
      rintro _ _ ⟨rfl, rfl⟩
      show Wp (some none) l Z "com/example/chainstat/chainstat/io/LinkListRenumberPinLaw" "law" code maxLocals ret room_1 [(g41, oI "com/example/chainstat/chainstat/model/LinkGraph" sg_2 [(.int (8 : Int32)), (.ref D42), (.null), (.ref A44), (.ref B43), (.null)]), (A44, oA .int (fStart x7.toNatClampNeg x9.toNatClampNeg)), (B43, oA .int (fSrc x6 x8 x7.toNatClampNeg x9.toNatClampNeg)), (D42, oA .int (fDeg x6.toNatClampNeg x8.toNatClampNeg)), (a33, oI "com/example/chainstat/chainstat/io/LinkList" sg_1 [(.ref s35), (.ref t37), (.ref rs39), (.ref rl40), (.ref s34), (.int (2 : Int32)), (.null), (.null), (.null)]), (s35, oR "[I" (.array .int) [(.ref s0_36)]), (s0_36, oA .int (x6 :: x8 :: List.replicate 1022 0)), (t37, oR "[I" (.array .int) [(.ref t0_38)]), (t0_38, oA .int (x7 :: x9 :: List.replicate 1022 0)), (a1, oA .int ps), (rl40, oJ [(0 : Int64)]), (rs39, oA .int [(0 : Int32)])] 14 2103 286 #[.val (.int a), .val (.int b), .val (.ref a1), .val (.int x2), .val (.int x3), .val (.int x4), .val (.int x5), .val (.int x6), .val (.int x7), .val (.int x8), .val (.int x9), .val (.int x7), .val (.int x9), .val (.int x6), .val (.int x8), .val (.ref a33), .val (.ref g41), .val (.int (0 : Int32))] [(.int (1 : Int32))] Q_law
      refine wp_iload D_286 rfl ?_
      refine wp_if_eq D_288 (pc'' := 295) ⟨by decide, by decide⟩ (fun h50 => ?_) (fun h50 => by exact absurd h50 (by decide))
      refine wp_iconst 1 D_295 (by decide) ?_
      refine wp_icmp_ne D_296 (pc'' := 336) ⟨by decide, by decide⟩ (fun h51 => by exact absurd h51 (by decide)) (fun h51 => ?_)
      refine wp_aload D_299 rfl rfl ?_
      refine wp_iload D_301 rfl ?_
      refine wp_virtual (c_ist l Z a0 hw g41 A44 B43 D42 x9 1 (fStart x7.toNatClampNeg x9.toNatClampNeg) [(B43, oA .int (fSrc x6 x8 x7.toNatClampNeg x9.toNatClampNeg)), (D42, oA .int (fDeg x6.toNatClampNeg x8.toNatClampNeg)), (a33, oI "com/example/chainstat/chainstat/io/LinkList" sg_1 [(.ref s35), (.ref t37), (.ref rs39), (.ref rl40), (.ref s34), (.int (2 : Int32)), (.null), (.null), (.null)]), (s35, oR "[I" (.array .int) [(.ref s0_36)]), (s0_36, oA .int (x6 :: x8 :: List.replicate 1022 0)), (t37, oR "[I" (.array .int) [(.ref t0_38)]), (t0_38, oA .int (x7 :: x9 :: List.replicate 1022 0)), (a1, oA .int ps), (rl40, oJ [(0 : Int64)]), (rs39, oA .int [(0 : Int32)])] (own_n0 x9 h_x9) x9.toNatClampNeg rfl (((own_start _ (own_cl _ h_x7) _ (own_cl _ h_x9)).1.resolve_left (by simp only [Int32.lt_iff_toInt_lt, Int32.toNatClampNeg, ← Int32.toInt_inj] at *; omega)).2.2.1.trans (by rw [if_neg (by simp only [Int32.toNatClampNeg, ← Int32.toInt_inj] at *; omega)]))) (exa_new (i := 0) rfl) D_303 (hw _ (List.mem_of_getElem? (i := 99) rfl)) (hw _ (List.mem_of_getElem? (i := 100) rfl)) (hw _ (List.mem_of_getElem? (i := 102) rfl)) (hw _ (List.mem_of_getElem? (i := 102) rfl)) (hw _ (List.mem_of_getElem? (i := 101) rfl)) (hw _ (List.mem_of_getElem? (i := 62) rfl)) (hw _ (List.mem_of_getElem? (i := 103) rfl)) (by decide) pd_12 rfl rfl rfl (Nat.le_of_ble_eq_true rfl) (Nat.le_of_ble_eq_true rfl) (Nat.le_of_ble_eq_true rfl) (Nat.le_of_ble_eq_true rfl) ?_
      rintro _ _ ⟨rfl, rfl⟩
      show Wp (some none) l Z "com/example/chainstat/chainstat/io/LinkListRenumberPinLaw" "law" code maxLocals ret room_1 [(g41, oI "com/example/chainstat/chainstat/model/LinkGraph" sg_2 [(.int (8 : Int32)), (.ref D42), (.null), (.ref A44), (.ref B43), (.null)]), (A44, oA .int (fStart x7.toNatClampNeg x9.toNatClampNeg)), (B43, oA .int (fSrc x6 x8 x7.toNatClampNeg x9.toNatClampNeg)), (D42, oA .int (fDeg x6.toNatClampNeg x8.toNatClampNeg)), (a33, oI "com/example/chainstat/chainstat/io/LinkList" sg_1 [(.ref s35), (.ref t37), (.ref rs39), (.ref rl40), (.ref s34), (.int (2 : Int32)), (.null), (.null), (.null)]), (s35, oR "[I" (.array .int) [(.ref s0_36)]), (s0_36, oA .int (x6 :: x8 :: List.replicate 1022 0)), (t37, oR "[I" (.array .int) [(.ref t0_38)]), (t0_38, oA .int (x7 :: x9 :: List.replicate 1022 0)), (a1, oA .int ps), (rl40, oJ [(0 : Int64)]), (rs39, oA .int [(0 : Int32)])] 14 2103 306 #[.val (.int a), .val (.int b), .val (.ref a1), .val (.int x2), .val (.int x3), .val (.int x4), .val (.int x5), .val (.int x6), .val (.int x7), .val (.int x8), .val (.int x9), .val (.int x7), .val (.int x9), .val (.int x6), .val (.int x8), .val (.ref a33), .val (.ref g41), .val (.int (0 : Int32))] [(.int (1 : Int32))] Q_law
      refine wp_iload D_306 rfl ?_
      refine wp_if_eq D_308 (pc'' := 315) ⟨by decide, by decide⟩ (fun h52 => ?_) (fun h52 => by exact absurd h52 (by decide))
      refine wp_iconst 1 D_315 (by decide) ?_
      refine wp_icmp_ne D_316 (pc'' := 336) ⟨by decide, by decide⟩ (fun h53 => by exact absurd h53 (by decide)) (fun h53 => ?_)
      refine wp_aload D_319 rfl rfl ?_
      refine wp_iload D_321 rfl ?_
      refine wp_iconst 1 D_323 (by decide) ?_
      refine wp_iadd D_324 ?_
      refine wp_virtual (c_ist l Z a0 hw g41 A44 B43 D42 (x9 + (1 : Int32)) 2 (fStart x7.toNatClampNeg x9.toNatClampNeg) [(B43, oA .int (fSrc x6 x8 x7.toNatClampNeg x9.toNatClampNeg)), (D42, oA .int (fDeg x6.toNatClampNeg x8.toNatClampNeg)), (a33, oI "com/example/chainstat/chainstat/io/LinkList" sg_1 [(.ref s35), (.ref t37), (.ref rs39), (.ref rl40), (.ref s34), (.int (2 : Int32)), (.null), (.null), (.null)]), (s35, oR "[I" (.array .int) [(.ref s0_36)]), (s0_36, oA .int (x6 :: x8 :: List.replicate 1022 0)), (t37, oR "[I" (.array .int) [(.ref t0_38)]), (t0_38, oA .int (x7 :: x9 :: List.replicate 1022 0)), (a1, oA .int ps), (rl40, oJ [(0 : Int64)]), (rs39, oA .int [(0 : Int32)])] (own_n1 x9 h_x9) (x9.toNatClampNeg + 1) (own_p1 x9 h_x9).2 ((own_start _ (own_cl _ h_x7) _ (own_cl _ h_x9)).1.resolve_left (by simp only [Int32.lt_iff_toInt_lt, Int32.toNatClampNeg, ← Int32.toInt_inj] at *; omega)).2.2.2) (exa_new (i := 0) rfl) D_325 (hw _ (List.mem_of_getElem? (i := 99) rfl)) (hw _ (List.mem_of_getElem? (i := 100) rfl)) (hw _ (List.mem_of_getElem? (i := 102) rfl)) (hw _ (List.mem_of_getElem? (i := 102) rfl)) (hw _ (List.mem_of_getElem? (i := 101) rfl)) (hw _ (List.mem_of_getElem? (i := 62) rfl)) (hw _ (List.mem_of_getElem? (i := 103) rfl)) (by decide) pd_12 rfl rfl rfl (Nat.le_of_ble_eq_true rfl) (Nat.le_of_ble_eq_true rfl) (Nat.le_of_ble_eq_true rfl) (Nat.le_of_ble_eq_true rfl) ?_
      rintro _ _ ⟨rfl, rfl⟩
      show Wp (some none) l Z "com/example/chainstat/chainstat/io/LinkListRenumberPinLaw" "law" code maxLocals ret room_1 [(g41, oI "com/example/chainstat/chainstat/model/LinkGraph" sg_2 [(.int (8 : Int32)), (.ref D42), (.null), (.ref A44), (.ref B43), (.null)]), (A44, oA .int (fStart x7.toNatClampNeg x9.toNatClampNeg)), (B43, oA .int (fSrc x6 x8 x7.toNatClampNeg x9.toNatClampNeg)), (D42, oA .int (fDeg x6.toNatClampNeg x8.toNatClampNeg)), (a33, oI "com/example/chainstat/chainstat/io/LinkList" sg_1 [(.ref s35), (.ref t37), (.ref rs39), (.ref rl40), (.ref s34), (.int (2 : Int32)), (.null), (.null), (.null)]), (s35, oR "[I" (.array .int) [(.ref s0_36)]), (s0_36, oA .int (x6 :: x8 :: List.replicate 1022 0)), (t37, oR "[I" (.array .int) [(.ref t0_38)]), (t0_38, oA .int (x7 :: x9 :: List.replicate 1022 0)), (a1, oA .int ps), (rl40, oJ [(0 : Int64)]), (rs39, oA .int [(0 : Int32)])] 14 2103 328 #[.val (.int a), .val (.int b), .val (.ref a1), .val (.int x2), .val (.int x3), .val (.int x4), .val (.int x5), .val (.int x6), .val (.int x7), .val (.int x8), .val (.int x9), .val (.int x7), .val (.int x9), .val (.int x6), .val (.int x8), .val (.ref a33), .val (.ref g41), .val (.int (0 : Int32))] [(.int (2 : Int32))] Q_law
      refine wp_iconst 2 D_328 (by decide) ?_
      refine wp_icmp_ne D_329 (pc'' := 336) ⟨by decide, by decide⟩ (fun h54 => by exact absurd h54 (by decide)) (fun h54 => ?_)
      refine wp_iconst 1 D_332 (by decide) ?_
      refine wp_goto D_333 (pc'' := 337) ⟨by decide, by decide⟩ ?_
      refine wp_ireturnN D_337 rfl (by simp) (by decide) (by decide) ?_
      exact rfl
    · skip
      refine wp_iconst 1 D_229 (by decide) ?_
      refine wp_goto D_230 (pc'' := 234) ⟨by decide, by decide⟩ ?_
      refine wp_istore #[.val (.int a), .val (.int b), .val (.ref a1), .val (.int x2), .val (.int x3), .val (.int x4), .val (.int x5), .val (.int x6), .val (.int x7), .val (.int x8), .val (.int x9), .val (.int x7), .val (.int x9), .val (.int x6), .val (.int x8), .val (.ref a33), .val (.ref g41), .val (.int (1 : Int32))] D_234 rfl ?_
      refine wp_aload D_236 rfl rfl ?_
      refine Wp.pick [3, 1, 0, 2, 4, 5, 6, 7, 8, 9, 10, 11] (by decide) ?_
      show Wp (some none) l Z "com/example/chainstat/chainstat/io/LinkListRenumberPinLaw" "law" code maxLocals ret room_1 [(g41, oI "com/example/chainstat/chainstat/model/LinkGraph" sg_2 [(.int (8 : Int32)), (.ref D42), (.null), (.ref A44), (.ref B43), (.null)]), (B43, oA .int (fSrc x6 x8 x7.toNatClampNeg x9.toNatClampNeg)), (D42, oA .int (fDeg x6.toNatClampNeg x8.toNatClampNeg)), (A44, oA .int (fStart x7.toNatClampNeg x9.toNatClampNeg)), (a33, oI "com/example/chainstat/chainstat/io/LinkList" sg_1 [(.ref s35), (.ref t37), (.ref rs39), (.ref rl40), (.ref s34), (.int (2 : Int32)), (.null), (.null), (.null)]), (s35, oR "[I" (.array .int) [(.ref s0_36)]), (s0_36, oA .int (x6 :: x8 :: List.replicate 1022 0)), (t37, oR "[I" (.array .int) [(.ref t0_38)]), (t0_38, oA .int (x7 :: x9 :: List.replicate 1022 0)), (a1, oA .int ps), (rl40, oJ [(0 : Int64)]), (rs39, oA .int [(0 : Int32)])] 14 2103 238 #[.val (.int a), .val (.int b), .val (.ref a1), .val (.int x2), .val (.int x3), .val (.int x4), .val (.int x5), .val (.int x6), .val (.int x7), .val (.int x8), .val (.int x9), .val (.int x7), .val (.int x9), .val (.int x6), .val (.int x8), .val (.ref a33), .val (.ref g41), .val (.int (1 : Int32))] [(.ref g41)] Q_law
      refine wp_virtual (c_lc l Z a0 hw g41 A44 B43 D42 (fSrc x6 x8 x7.toNatClampNeg x9.toNatClampNeg) [(D42, oA .int (fDeg x6.toNatClampNeg x8.toNatClampNeg)), (A44, oA .int (fStart x7.toNatClampNeg x9.toNatClampNeg)), (a33, oI "com/example/chainstat/chainstat/io/LinkList" sg_1 [(.ref s35), (.ref t37), (.ref rs39), (.ref rl40), (.ref s34), (.int (2 : Int32)), (.null), (.null), (.null)]), (s35, oR "[I" (.array .int) [(.ref s0_36)]), (s0_36, oA .int (x6 :: x8 :: List.replicate 1022 0)), (t37, oR "[I" (.array .int) [(.ref t0_38)]), (t0_38, oA .int (x7 :: x9 :: List.replicate 1022 0)), (a1, oA .int ps), (rl40, oJ [(0 : Int64)]), (rs39, oA .int [(0 : Int32)])] (by simp [fSrc])) (exa_new (i := 0) rfl) D_238 (hw _ (List.mem_of_getElem? (i := 89) rfl)) (hw _ (List.mem_of_getElem? (i := 90) rfl)) (hw _ (List.mem_of_getElem? (i := 92) rfl)) (hw _ (List.mem_of_getElem? (i := 92) rfl)) (hw _ (List.mem_of_getElem? (i := 91) rfl)) (hw _ (List.mem_of_getElem? (i := 62) rfl)) (hw _ (List.mem_of_getElem? (i := 93) rfl)) (by decide) pd_11 rfl rfl rfl (Nat.le_of_ble_eq_true rfl) (Nat.le_of_ble_eq_true rfl) (Nat.le_of_ble_eq_true rfl) (Nat.le_of_ble_eq_true rfl) ?_
      rintro _ _ ⟨rfl, rfl⟩
      show Wp (some none) l Z "com/example/chainstat/chainstat/io/LinkListRenumberPinLaw" "law" code maxLocals ret room_1 [(g41, oI "com/example/chainstat/chainstat/model/LinkGraph" sg_2 [(.int (8 : Int32)), (.ref D42), (.null), (.ref A44), (.ref B43), (.null)]), (B43, oA .int (fSrc x6 x8 x7.toNatClampNeg x9.toNatClampNeg)), (D42, oA .int (fDeg x6.toNatClampNeg x8.toNatClampNeg)), (A44, oA .int (fStart x7.toNatClampNeg x9.toNatClampNeg)), (a33, oI "com/example/chainstat/chainstat/io/LinkList" sg_1 [(.ref s35), (.ref t37), (.ref rs39), (.ref rl40), (.ref s34), (.int (2 : Int32)), (.null), (.null), (.null)]), (s35, oR "[I" (.array .int) [(.ref s0_36)]), (s0_36, oA .int (x6 :: x8 :: List.replicate 1022 0)), (t37, oR "[I" (.array .int) [(.ref t0_38)]), (t0_38, oA .int (x7 :: x9 :: List.replicate 1022 0)), (a1, oA .int ps), (rl40, oJ [(0 : Int64)]), (rs39, oA .int [(0 : Int32)])] 14 2103 241 #[.val (.int a), .val (.int b), .val (.ref a1), .val (.int x2), .val (.int x3), .val (.int x4), .val (.int x5), .val (.int x6), .val (.int x7), .val (.int x8), .val (.int x9), .val (.int x7), .val (.int x9), .val (.int x6), .val (.int x8), .val (.ref a33), .val (.ref g41), .val (.int (1 : Int32))] [(.int (2 : Int32))] Q_law
      refine wp_iconst 2 D_241 (by decide) ?_
      refine wp_icmp_ne D_242 (pc'' := 336) ⟨by decide, by decide⟩ (fun h55 => by exact absurd h55 (by decide)) (fun h55 => ?_)
      refine wp_aload D_245 rfl rfl ?_
      refine wp_iconst 0 D_247 (by decide) ?_
      refine wp_virtual (c_isrc l Z a0 hw g41 A44 B43 D42 (0 : Int32) x6 (fSrc x6 x8 x7.toNatClampNeg x9.toNatClampNeg) [(D42, oA .int (fDeg x6.toNatClampNeg x8.toNatClampNeg)), (A44, oA .int (fStart x7.toNatClampNeg x9.toNatClampNeg)), (a33, oI "com/example/chainstat/chainstat/io/LinkList" sg_1 [(.ref s35), (.ref t37), (.ref rs39), (.ref rl40), (.ref s34), (.int (2 : Int32)), (.null), (.null), (.null)]), (s35, oR "[I" (.array .int) [(.ref s0_36)]), (s0_36, oA .int (x6 :: x8 :: List.replicate 1022 0)), (t37, oR "[I" (.array .int) [(.ref t0_38)]), (t0_38, oA .int (x7 :: x9 :: List.replicate 1022 0)), (a1, oA .int ps), (rl40, oJ [(0 : Int64)]), (rs39, oA .int [(0 : Int32)])] (by decide) 0 (by decide) (by rw [own_src _ _ _ _ (own_cl _ h_x7) (own_cl _ h_x9), if_pos (by simp only [Int32.lt_iff_toInt_lt, Int32.toNatClampNeg] at *; omega)]; rfl)) (exa_new (i := 0) rfl) D_248 (hw _ (List.mem_of_getElem? (i := 94) rfl)) (hw _ (List.mem_of_getElem? (i := 95) rfl)) (hw _ (List.mem_of_getElem? (i := 97) rfl)) (hw _ (List.mem_of_getElem? (i := 97) rfl)) (hw _ (List.mem_of_getElem? (i := 96) rfl)) (hw _ (List.mem_of_getElem? (i := 62) rfl)) (hw _ (List.mem_of_getElem? (i := 98) rfl)) (by decide) pd_12 rfl rfl rfl (Nat.le_of_ble_eq_true rfl) (Nat.le_of_ble_eq_true rfl) (Nat.le_of_ble_eq_true rfl) (Nat.le_of_ble_eq_true rfl) ?_
      rintro _ _ ⟨rfl, rfl⟩
      show Wp (some none) l Z "com/example/chainstat/chainstat/io/LinkListRenumberPinLaw" "law" code maxLocals ret room_1 [(g41, oI "com/example/chainstat/chainstat/model/LinkGraph" sg_2 [(.int (8 : Int32)), (.ref D42), (.null), (.ref A44), (.ref B43), (.null)]), (B43, oA .int (fSrc x6 x8 x7.toNatClampNeg x9.toNatClampNeg)), (D42, oA .int (fDeg x6.toNatClampNeg x8.toNatClampNeg)), (A44, oA .int (fStart x7.toNatClampNeg x9.toNatClampNeg)), (a33, oI "com/example/chainstat/chainstat/io/LinkList" sg_1 [(.ref s35), (.ref t37), (.ref rs39), (.ref rl40), (.ref s34), (.int (2 : Int32)), (.null), (.null), (.null)]), (s35, oR "[I" (.array .int) [(.ref s0_36)]), (s0_36, oA .int (x6 :: x8 :: List.replicate 1022 0)), (t37, oR "[I" (.array .int) [(.ref t0_38)]), (t0_38, oA .int (x7 :: x9 :: List.replicate 1022 0)), (a1, oA .int ps), (rl40, oJ [(0 : Int64)]), (rs39, oA .int [(0 : Int32)])] 14 2103 251 #[.val (.int a), .val (.int b), .val (.ref a1), .val (.int x2), .val (.int x3), .val (.int x4), .val (.int x5), .val (.int x6), .val (.int x7), .val (.int x8), .val (.int x9), .val (.int x7), .val (.int x9), .val (.int x6), .val (.int x8), .val (.ref a33), .val (.ref g41), .val (.int (1 : Int32))] [(.int x6)] Q_law
      refine wp_iload D_251 rfl ?_
      refine wp_icmp_ne D_253 (pc'' := 336) ⟨by decide, by decide⟩ (fun h56 => by exact absurd rfl h56) (fun h56 => ?_)
      refine wp_aload D_256 rfl rfl ?_
      refine wp_iconst 1 D_258 (by decide) ?_
      refine wp_virtual (c_isrc l Z a0 hw g41 A44 B43 D42 (1 : Int32) x8 (fSrc x6 x8 x7.toNatClampNeg x9.toNatClampNeg) [(D42, oA .int (fDeg x6.toNatClampNeg x8.toNatClampNeg)), (A44, oA .int (fStart x7.toNatClampNeg x9.toNatClampNeg)), (a33, oI "com/example/chainstat/chainstat/io/LinkList" sg_1 [(.ref s35), (.ref t37), (.ref rs39), (.ref rl40), (.ref s34), (.int (2 : Int32)), (.null), (.null), (.null)]), (s35, oR "[I" (.array .int) [(.ref s0_36)]), (s0_36, oA .int (x6 :: x8 :: List.replicate 1022 0)), (t37, oR "[I" (.array .int) [(.ref t0_38)]), (t0_38, oA .int (x7 :: x9 :: List.replicate 1022 0)), (a1, oA .int ps), (rl40, oJ [(0 : Int64)]), (rs39, oA .int [(0 : Int32)])] (by decide) 1 (by decide) (by rw [own_src _ _ _ _ (own_cl _ h_x7) (own_cl _ h_x9), if_pos (by simp only [Int32.lt_iff_toInt_lt, Int32.toNatClampNeg] at *; omega)]; rfl)) (exa_new (i := 0) rfl) D_259 (hw _ (List.mem_of_getElem? (i := 94) rfl)) (hw _ (List.mem_of_getElem? (i := 95) rfl)) (hw _ (List.mem_of_getElem? (i := 97) rfl)) (hw _ (List.mem_of_getElem? (i := 97) rfl)) (hw _ (List.mem_of_getElem? (i := 96) rfl)) (hw _ (List.mem_of_getElem? (i := 62) rfl)) (hw _ (List.mem_of_getElem? (i := 98) rfl)) (by decide) pd_12 rfl rfl rfl (Nat.le_of_ble_eq_true rfl) (Nat.le_of_ble_eq_true rfl) (Nat.le_of_ble_eq_true rfl) (Nat.le_of_ble_eq_true rfl) ?_
      rintro _ _ ⟨rfl, rfl⟩
      show Wp (some none) l Z "com/example/chainstat/chainstat/io/LinkListRenumberPinLaw" "law" code maxLocals ret room_1 [(g41, oI "com/example/chainstat/chainstat/model/LinkGraph" sg_2 [(.int (8 : Int32)), (.ref D42), (.null), (.ref A44), (.ref B43), (.null)]), (B43, oA .int (fSrc x6 x8 x7.toNatClampNeg x9.toNatClampNeg)), (D42, oA .int (fDeg x6.toNatClampNeg x8.toNatClampNeg)), (A44, oA .int (fStart x7.toNatClampNeg x9.toNatClampNeg)), (a33, oI "com/example/chainstat/chainstat/io/LinkList" sg_1 [(.ref s35), (.ref t37), (.ref rs39), (.ref rl40), (.ref s34), (.int (2 : Int32)), (.null), (.null), (.null)]), (s35, oR "[I" (.array .int) [(.ref s0_36)]), (s0_36, oA .int (x6 :: x8 :: List.replicate 1022 0)), (t37, oR "[I" (.array .int) [(.ref t0_38)]), (t0_38, oA .int (x7 :: x9 :: List.replicate 1022 0)), (a1, oA .int ps), (rl40, oJ [(0 : Int64)]), (rs39, oA .int [(0 : Int32)])] 14 2103 262 #[.val (.int a), .val (.int b), .val (.ref a1), .val (.int x2), .val (.int x3), .val (.int x4), .val (.int x5), .val (.int x6), .val (.int x7), .val (.int x8), .val (.int x9), .val (.int x7), .val (.int x9), .val (.int x6), .val (.int x8), .val (.ref a33), .val (.ref g41), .val (.int (1 : Int32))] [(.int x8)] Q_law
      refine wp_iload D_262 rfl ?_
      refine wp_icmp_ne D_264 (pc'' := 336) ⟨by decide, by decide⟩ (fun h57 => by exact absurd rfl h57) (fun h57 => ?_)
      refine wp_aload D_267 rfl rfl ?_
      refine wp_iload D_269 rfl ?_
      refine Wp.pick [0, 3, 1, 2, 4, 5, 6, 7, 8, 9, 10, 11] (by decide) ?_
      show Wp (some none) l Z "com/example/chainstat/chainstat/io/LinkListRenumberPinLaw" "law" code maxLocals ret room_1 [(g41, oI "com/example/chainstat/chainstat/model/LinkGraph" sg_2 [(.int (8 : Int32)), (.ref D42), (.null), (.ref A44), (.ref B43), (.null)]), (A44, oA .int (fStart x7.toNatClampNeg x9.toNatClampNeg)), (B43, oA .int (fSrc x6 x8 x7.toNatClampNeg x9.toNatClampNeg)), (D42, oA .int (fDeg x6.toNatClampNeg x8.toNatClampNeg)), (a33, oI "com/example/chainstat/chainstat/io/LinkList" sg_1 [(.ref s35), (.ref t37), (.ref rs39), (.ref rl40), (.ref s34), (.int (2 : Int32)), (.null), (.null), (.null)]), (s35, oR "[I" (.array .int) [(.ref s0_36)]), (s0_36, oA .int (x6 :: x8 :: List.replicate 1022 0)), (t37, oR "[I" (.array .int) [(.ref t0_38)]), (t0_38, oA .int (x7 :: x9 :: List.replicate 1022 0)), (a1, oA .int ps), (rl40, oJ [(0 : Int64)]), (rs39, oA .int [(0 : Int32)])] 14 2103 271 #[.val (.int a), .val (.int b), .val (.ref a1), .val (.int x2), .val (.int x3), .val (.int x4), .val (.int x5), .val (.int x6), .val (.int x7), .val (.int x8), .val (.int x9), .val (.int x7), .val (.int x9), .val (.int x6), .val (.int x8), .val (.ref a33), .val (.ref g41), .val (.int (1 : Int32))] [(.int x7), (.ref g41)] Q_law
      refine wp_virtual (c_ist l Z a0 hw g41 A44 B43 D42 x7 0 (fStart x7.toNatClampNeg x9.toNatClampNeg) [(B43, oA .int (fSrc x6 x8 x7.toNatClampNeg x9.toNatClampNeg)), (D42, oA .int (fDeg x6.toNatClampNeg x8.toNatClampNeg)), (a33, oI "com/example/chainstat/chainstat/io/LinkList" sg_1 [(.ref s35), (.ref t37), (.ref rs39), (.ref rl40), (.ref s34), (.int (2 : Int32)), (.null), (.null), (.null)]), (s35, oR "[I" (.array .int) [(.ref s0_36)]), (s0_36, oA .int (x6 :: x8 :: List.replicate 1022 0)), (t37, oR "[I" (.array .int) [(.ref t0_38)]), (t0_38, oA .int (x7 :: x9 :: List.replicate 1022 0)), (a1, oA .int ps), (rl40, oJ [(0 : Int64)]), (rs39, oA .int [(0 : Int32)])] (own_n0 x7 h_x7) x7.toNatClampNeg rfl ((own_start _ (own_cl _ h_x7) _ (own_cl _ h_x9)).1.resolve_left (by simp only [Int32.lt_iff_toInt_lt, Int32.toNatClampNeg, ← Int32.toInt_inj] at *; omega)).1) (exa_new (i := 0) rfl) D_271 (hw _ (List.mem_of_getElem? (i := 99) rfl)) (hw _ (List.mem_of_getElem? (i := 100) rfl)) (hw _ (List.mem_of_getElem? (i := 102) rfl)) (hw _ (List.mem_of_getElem? (i := 102) rfl)) (hw _ (List.mem_of_getElem? (i := 101) rfl)) (hw _ (List.mem_of_getElem? (i := 62) rfl)) (hw _ (List.mem_of_getElem? (i := 103) rfl)) (by decide) pd_12 rfl rfl rfl (Nat.le_of_ble_eq_true rfl) (Nat.le_of_ble_eq_true rfl) (Nat.le_of_ble_eq_true rfl) (Nat.le_of_ble_eq_true rfl) ?_
      rintro _ _ ⟨rfl, rfl⟩
      show Wp (some none) l Z "com/example/chainstat/chainstat/io/LinkListRenumberPinLaw" "law" code maxLocals ret room_1 [(g41, oI "com/example/chainstat/chainstat/model/LinkGraph" sg_2 [(.int (8 : Int32)), (.ref D42), (.null), (.ref A44), (.ref B43), (.null)]), (A44, oA .int (fStart x7.toNatClampNeg x9.toNatClampNeg)), (B43, oA .int (fSrc x6 x8 x7.toNatClampNeg x9.toNatClampNeg)), (D42, oA .int (fDeg x6.toNatClampNeg x8.toNatClampNeg)), (a33, oI "com/example/chainstat/chainstat/io/LinkList" sg_1 [(.ref s35), (.ref t37), (.ref rs39), (.ref rl40), (.ref s34), (.int (2 : Int32)), (.null), (.null), (.null)]), (s35, oR "[I" (.array .int) [(.ref s0_36)]), (s0_36, oA .int (x6 :: x8 :: List.replicate 1022 0)), (t37, oR "[I" (.array .int) [(.ref t0_38)]), (t0_38, oA .int (x7 :: x9 :: List.replicate 1022 0)), (a1, oA .int ps), (rl40, oJ [(0 : Int64)]), (rs39, oA .int [(0 : Int32)])] 14 2103 274 #[.val (.int a), .val (.int b), .val (.ref a1), .val (.int x2), .val (.int x3), .val (.int x4), .val (.int x5), .val (.int x6), .val (.int x7), .val (.int x8), .val (.int x9), .val (.int x7), .val (.int x9), .val (.int x6), .val (.int x8), .val (.ref a33), .val (.ref g41), .val (.int (1 : Int32))] [(.int (0 : Int32))] Q_law
      refine wp_if_ne D_274 (pc'' := 336) ⟨by decide, by decide⟩ (fun h58 => by exact absurd h58 (by decide)) (fun h58 => ?_)
      refine wp_aload D_277 rfl rfl ?_
      refine wp_iload D_279 rfl ?_
      refine wp_iconst 1 D_281 (by decide) ?_
      refine wp_iadd D_282 ?_
      refine wp_virtual (c_ist l Z a0 hw g41 A44 B43 D42 (x7 + (1 : Int32)) 2 (fStart x7.toNatClampNeg x9.toNatClampNeg) [(B43, oA .int (fSrc x6 x8 x7.toNatClampNeg x9.toNatClampNeg)), (D42, oA .int (fDeg x6.toNatClampNeg x8.toNatClampNeg)), (a33, oI "com/example/chainstat/chainstat/io/LinkList" sg_1 [(.ref s35), (.ref t37), (.ref rs39), (.ref rl40), (.ref s34), (.int (2 : Int32)), (.null), (.null), (.null)]), (s35, oR "[I" (.array .int) [(.ref s0_36)]), (s0_36, oA .int (x6 :: x8 :: List.replicate 1022 0)), (t37, oR "[I" (.array .int) [(.ref t0_38)]), (t0_38, oA .int (x7 :: x9 :: List.replicate 1022 0)), (a1, oA .int ps), (rl40, oJ [(0 : Int64)]), (rs39, oA .int [(0 : Int32)])] (own_n1 x7 h_x7) (x7.toNatClampNeg + 1) (own_p1 x7 h_x7).2 (((own_start _ (own_cl _ h_x7) _ (own_cl _ h_x9)).1.resolve_left (by simp only [Int32.lt_iff_toInt_lt, Int32.toNatClampNeg, ← Int32.toInt_inj] at *; omega)).2.1.trans (by rw [if_pos (by simp only [Int32.toNatClampNeg, ← Int32.toInt_inj] at *; omega)]))) (exa_new (i := 0) rfl) D_283 (hw _ (List.mem_of_getElem? (i := 99) rfl)) (hw _ (List.mem_of_getElem? (i := 100) rfl)) (hw _ (List.mem_of_getElem? (i := 102) rfl)) (hw _ (List.mem_of_getElem? (i := 102) rfl)) (hw _ (List.mem_of_getElem? (i := 101) rfl)) (hw _ (List.mem_of_getElem? (i := 62) rfl)) (hw _ (List.mem_of_getElem? (i := 103) rfl)) (by decide) pd_12 rfl rfl rfl (Nat.le_of_ble_eq_true rfl) (Nat.le_of_ble_eq_true rfl) (Nat.le_of_ble_eq_true rfl) (Nat.le_of_ble_eq_true rfl) ?_
      rintro _ _ ⟨rfl, rfl⟩
      show Wp (some none) l Z "com/example/chainstat/chainstat/io/LinkListRenumberPinLaw" "law" code maxLocals ret room_1 [(g41, oI "com/example/chainstat/chainstat/model/LinkGraph" sg_2 [(.int (8 : Int32)), (.ref D42), (.null), (.ref A44), (.ref B43), (.null)]), (A44, oA .int (fStart x7.toNatClampNeg x9.toNatClampNeg)), (B43, oA .int (fSrc x6 x8 x7.toNatClampNeg x9.toNatClampNeg)), (D42, oA .int (fDeg x6.toNatClampNeg x8.toNatClampNeg)), (a33, oI "com/example/chainstat/chainstat/io/LinkList" sg_1 [(.ref s35), (.ref t37), (.ref rs39), (.ref rl40), (.ref s34), (.int (2 : Int32)), (.null), (.null), (.null)]), (s35, oR "[I" (.array .int) [(.ref s0_36)]), (s0_36, oA .int (x6 :: x8 :: List.replicate 1022 0)), (t37, oR "[I" (.array .int) [(.ref t0_38)]), (t0_38, oA .int (x7 :: x9 :: List.replicate 1022 0)), (a1, oA .int ps), (rl40, oJ [(0 : Int64)]), (rs39, oA .int [(0 : Int32)])] 14 2103 286 #[.val (.int a), .val (.int b), .val (.ref a1), .val (.int x2), .val (.int x3), .val (.int x4), .val (.int x5), .val (.int x6), .val (.int x7), .val (.int x8), .val (.int x9), .val (.int x7), .val (.int x9), .val (.int x6), .val (.int x8), .val (.ref a33), .val (.ref g41), .val (.int (1 : Int32))] [(.int (2 : Int32))] Q_law
      refine wp_iload D_286 rfl ?_
      refine wp_if_eq D_288 (pc'' := 295) ⟨by decide, by decide⟩ (fun h59 => by exact absurd h59 (by decide)) (fun h59 => ?_)
      refine wp_iconst 2 D_291 (by decide) ?_
      refine wp_goto D_292 (pc'' := 296) ⟨by decide, by decide⟩ ?_
      refine wp_icmp_ne D_296 (pc'' := 336) ⟨by decide, by decide⟩ (fun h60 => by exact absurd h60 (by decide)) (fun h60 => ?_)
      refine wp_aload D_299 rfl rfl ?_
      refine wp_iload D_301 rfl ?_
      refine wp_virtual (c_ist l Z a0 hw g41 A44 B43 D42 x9 0 (fStart x7.toNatClampNeg x9.toNatClampNeg) [(B43, oA .int (fSrc x6 x8 x7.toNatClampNeg x9.toNatClampNeg)), (D42, oA .int (fDeg x6.toNatClampNeg x8.toNatClampNeg)), (a33, oI "com/example/chainstat/chainstat/io/LinkList" sg_1 [(.ref s35), (.ref t37), (.ref rs39), (.ref rl40), (.ref s34), (.int (2 : Int32)), (.null), (.null), (.null)]), (s35, oR "[I" (.array .int) [(.ref s0_36)]), (s0_36, oA .int (x6 :: x8 :: List.replicate 1022 0)), (t37, oR "[I" (.array .int) [(.ref t0_38)]), (t0_38, oA .int (x7 :: x9 :: List.replicate 1022 0)), (a1, oA .int ps), (rl40, oJ [(0 : Int64)]), (rs39, oA .int [(0 : Int32)])] (own_n0 x9 h_x9) x9.toNatClampNeg rfl (((own_start _ (own_cl _ h_x7) _ (own_cl _ h_x9)).1.resolve_left (by simp only [Int32.lt_iff_toInt_lt, Int32.toNatClampNeg, ← Int32.toInt_inj] at *; omega)).2.2.1.trans (by rw [if_pos (by simp only [Int32.toNatClampNeg, ← Int32.toInt_inj] at *; omega)]))) (exa_new (i := 0) rfl) D_303 (hw _ (List.mem_of_getElem? (i := 99) rfl)) (hw _ (List.mem_of_getElem? (i := 100) rfl)) (hw _ (List.mem_of_getElem? (i := 102) rfl)) (hw _ (List.mem_of_getElem? (i := 102) rfl)) (hw _ (List.mem_of_getElem? (i := 101) rfl)) (hw _ (List.mem_of_getElem? (i := 62) rfl)) (hw _ (List.mem_of_getElem? (i := 103) rfl)) (by decide) pd_12 rfl rfl rfl (Nat.le_of_ble_eq_true rfl) (Nat.le_of_ble_eq_true rfl) (Nat.le_of_ble_eq_true rfl) (Nat.le_of_ble_eq_true rfl) ?_
      rintro _ _ ⟨rfl, rfl⟩
      show Wp (some none) l Z "com/example/chainstat/chainstat/io/LinkListRenumberPinLaw" "law" code maxLocals ret room_1 [(g41, oI "com/example/chainstat/chainstat/model/LinkGraph" sg_2 [(.int (8 : Int32)), (.ref D42), (.null), (.ref A44), (.ref B43), (.null)]), (A44, oA .int (fStart x7.toNatClampNeg x9.toNatClampNeg)), (B43, oA .int (fSrc x6 x8 x7.toNatClampNeg x9.toNatClampNeg)), (D42, oA .int (fDeg x6.toNatClampNeg x8.toNatClampNeg)), (a33, oI "com/example/chainstat/chainstat/io/LinkList" sg_1 [(.ref s35), (.ref t37), (.ref rs39), (.ref rl40), (.ref s34), (.int (2 : Int32)), (.null), (.null), (.null)]), (s35, oR "[I" (.array .int) [(.ref s0_36)]), (s0_36, oA .int (x6 :: x8 :: List.replicate 1022 0)), (t37, oR "[I" (.array .int) [(.ref t0_38)]), (t0_38, oA .int (x7 :: x9 :: List.replicate 1022 0)), (a1, oA .int ps), (rl40, oJ [(0 : Int64)]), (rs39, oA .int [(0 : Int32)])] 14 2103 306 #[.val (.int a), .val (.int b), .val (.ref a1), .val (.int x2), .val (.int x3), .val (.int x4), .val (.int x5), .val (.int x6), .val (.int x7), .val (.int x8), .val (.int x9), .val (.int x7), .val (.int x9), .val (.int x6), .val (.int x8), .val (.ref a33), .val (.ref g41), .val (.int (1 : Int32))] [(.int (0 : Int32))] Q_law
      refine wp_iload D_306 rfl ?_
      refine wp_if_eq D_308 (pc'' := 315) ⟨by decide, by decide⟩ (fun h61 => by exact absurd h61 (by decide)) (fun h61 => ?_)
      refine wp_iconst 0 D_311 (by decide) ?_
      refine wp_goto D_312 (pc'' := 316) ⟨by decide, by decide⟩ ?_
      refine wp_icmp_ne D_316 (pc'' := 336) ⟨by decide, by decide⟩ (fun h62 => by exact absurd h62 (by decide)) (fun h62 => ?_)
      refine wp_aload D_319 rfl rfl ?_
      refine wp_iload D_321 rfl ?_
      refine wp_iconst 1 D_323 (by decide) ?_
      refine wp_iadd D_324 ?_
      refine wp_virtual (c_ist l Z a0 hw g41 A44 B43 D42 (x9 + (1 : Int32)) 2 (fStart x7.toNatClampNeg x9.toNatClampNeg) [(B43, oA .int (fSrc x6 x8 x7.toNatClampNeg x9.toNatClampNeg)), (D42, oA .int (fDeg x6.toNatClampNeg x8.toNatClampNeg)), (a33, oI "com/example/chainstat/chainstat/io/LinkList" sg_1 [(.ref s35), (.ref t37), (.ref rs39), (.ref rl40), (.ref s34), (.int (2 : Int32)), (.null), (.null), (.null)]), (s35, oR "[I" (.array .int) [(.ref s0_36)]), (s0_36, oA .int (x6 :: x8 :: List.replicate 1022 0)), (t37, oR "[I" (.array .int) [(.ref t0_38)]), (t0_38, oA .int (x7 :: x9 :: List.replicate 1022 0)), (a1, oA .int ps), (rl40, oJ [(0 : Int64)]), (rs39, oA .int [(0 : Int32)])] (own_n1 x9 h_x9) (x9.toNatClampNeg + 1) (own_p1 x9 h_x9).2 ((own_start _ (own_cl _ h_x7) _ (own_cl _ h_x9)).1.resolve_left (by simp only [Int32.lt_iff_toInt_lt, Int32.toNatClampNeg, ← Int32.toInt_inj] at *; omega)).2.2.2) (exa_new (i := 0) rfl) D_325 (hw _ (List.mem_of_getElem? (i := 99) rfl)) (hw _ (List.mem_of_getElem? (i := 100) rfl)) (hw _ (List.mem_of_getElem? (i := 102) rfl)) (hw _ (List.mem_of_getElem? (i := 102) rfl)) (hw _ (List.mem_of_getElem? (i := 101) rfl)) (hw _ (List.mem_of_getElem? (i := 62) rfl)) (hw _ (List.mem_of_getElem? (i := 103) rfl)) (by decide) pd_12 rfl rfl rfl (Nat.le_of_ble_eq_true rfl) (Nat.le_of_ble_eq_true rfl) (Nat.le_of_ble_eq_true rfl) (Nat.le_of_ble_eq_true rfl) ?_
      rintro _ _ ⟨rfl, rfl⟩
      show Wp (some none) l Z "com/example/chainstat/chainstat/io/LinkListRenumberPinLaw" "law" code maxLocals ret room_1 [(g41, oI "com/example/chainstat/chainstat/model/LinkGraph" sg_2 [(.int (8 : Int32)), (.ref D42), (.null), (.ref A44), (.ref B43), (.null)]), (A44, oA .int (fStart x7.toNatClampNeg x9.toNatClampNeg)), (B43, oA .int (fSrc x6 x8 x7.toNatClampNeg x9.toNatClampNeg)), (D42, oA .int (fDeg x6.toNatClampNeg x8.toNatClampNeg)), (a33, oI "com/example/chainstat/chainstat/io/LinkList" sg_1 [(.ref s35), (.ref t37), (.ref rs39), (.ref rl40), (.ref s34), (.int (2 : Int32)), (.null), (.null), (.null)]), (s35, oR "[I" (.array .int) [(.ref s0_36)]), (s0_36, oA .int (x6 :: x8 :: List.replicate 1022 0)), (t37, oR "[I" (.array .int) [(.ref t0_38)]), (t0_38, oA .int (x7 :: x9 :: List.replicate 1022 0)), (a1, oA .int ps), (rl40, oJ [(0 : Int64)]), (rs39, oA .int [(0 : Int32)])] 14 2103 328 #[.val (.int a), .val (.int b), .val (.ref a1), .val (.int x2), .val (.int x3), .val (.int x4), .val (.int x5), .val (.int x6), .val (.int x7), .val (.int x8), .val (.int x9), .val (.int x7), .val (.int x9), .val (.int x6), .val (.int x8), .val (.ref a33), .val (.ref g41), .val (.int (1 : Int32))] [(.int (2 : Int32))] Q_law
      refine wp_iconst 2 D_328 (by decide) ?_
      refine wp_icmp_ne D_329 (pc'' := 336) ⟨by decide, by decide⟩ (fun h63 => by exact absurd h63 (by decide)) (fun h63 => ?_)
      refine wp_iconst 1 D_332 (by decide) ?_
      refine wp_goto D_333 (pc'' := 337) ⟨by decide, by decide⟩ ?_
      refine wp_ireturnN D_337 rfl (by simp) (by decide) (by decide) ?_
      exact rfl
set_option maxRecDepth 65536 in
set_option maxHeartbeats 40000000 in
theorem comes_1 {Post : Tables → Env → Array Value → State → Outcome → State → Prop} (hpost : ∀ tb e args s v u, (limb_1_1.after args s (.returned v) u = true ∧ limb_1_2.after args s (.returned v) u = true ∧ True) → ReturnedEndW s (.returned v) u (Jvm.fieldLocs frame_1_writes args s ++ Jvm.arrayLocs frame_1_arrays args s ++ Jvm.staticLocs frame_1_statics s) 40 5312 → Post tb e args s (.returned v) u) :
    ArmFor flags0 classFile x code maxLocals ret World_1 tables_1 room_1 Calls_1 rest_1 Pre_1 Post := by
  intro l hfl _ _ p e ha hc hk s m args below hf hA hF happ hP
  obtain ⟨hcalls, hrest, hpre⟩ := hP
  obtain ⟨-, -, -, hnamed, -, -, -, hat⟩ := (Spec.applies_iff hf).mp happ
  obtain ⟨hg, hn⟩ := and_e (Cond.before_iff.mp (show (Jvm.Cond.and given_1 narrow_1).before args s = true from hpre))
  obtain ⟨hcnt, hk0⟩ := and_e hg
  obtain ⟨hz0, hk1⟩ := and_e hk0
  have hz1 := hk1
  obtain ⟨w0, w1, rfl⟩ : ∃ w0 w1 : Value, args = #[w0, w1] := by
    have hs : args.size = 2 := by simpa [Cond.value, given_1] using hcnt
    obtain ⟨L⟩ := args
    match L, hs with
    | [w0, w1], _ => exact ⟨w0, w1, rfl⟩
  have hw := fun d (hd : d ∈ tables_1) => atoms_spec (ws := Jvm.Cond.code x code maxLocals ret :: tables_1) hat d (List.mem_cons_of_mem _ hd)
  have hfit : Fit s := fun {y c} hc i hi => by
    obtain ⟨ha, rfl⟩ := Array.getElem?_eq_some_iff.mp hc
    have q := List.all_eq_true.mp ((Array.all_eq_true_iff_forall_mem.mp hF) _ (Array.getElem_mem ha)) i (List.mem_range.mpr hi)
    simpa [Array.getElem?_eq_getElem hi] using q
  obtain ⟨a, e0⟩ := is_v hz0
  obtain rfl : w0 = (.int a) := Option.some.inj e0
  obtain ⟨b, e1⟩ := is_v hz1
  obtain rfl : w1 = (.int b) := Option.some.inj e1
  have hm := (law_wp l s _ hw a b )
  obtain ⟨n, o, h1, h2, h3, v, L, rfl, ⟨N, H', -, hQ⟩, hq⟩ := MetW.of_wp (y := x) (as' := [(.int a), (.int b)]) pn_14 (fun m => (entry_loc m _ _).trans rfl) hm tables_1 s.heap (Hp.nil s) p e ha hc hk s m _ below hf ((Spec.applies_iff_loose hf).mp happ).1 ⟨rfl, State.Warmed39.refl s, rfl, fun Ts q => by first | (cases q; exact ⟨rfl, Jvm.RoadKit.IB.start⟩) | cases q⟩ trivial
  obtain rfl : v = some (.int 1) := hQ
  refine ⟨n, _, h1, h2, h3, hpost _ _ _ _ _ _ ⟨Cond.after_iff.mpr rfl, Cond.after_iff.mpr (eq_i res_at (Term.int_eval (1)) rfl), trivial⟩ ⟨hq.1, hq.2.1, hq.2.2.1, (hq.2.2.2.sift fun y hy => Or.inr (N y hy)).mono (by decide) (by decide)⟩⟩
theorem main_1_1 : Claimed_1_1 := comes_1 fun _ _ _ _ _ _ h hF => ⟨h.1, hF⟩
theorem main_1_2 : Claimed_1_2 := comes_1 fun _ _ _ _ _ _ h hF => ⟨h.2.1, hF⟩
end Jvm.Pilot.@@N@@
namespace Jvm.Pilot.@@N@@
open Jvm Jvm.ClassFile Sem Op Lib Jvm.Free Jvm.Stand Jvm.Pilot.@@N@@.Jvm.D
/-! MADE BY PROGRAM (witnessworld.py) out of the Statement's table words and the real class files: 18 classes; the members and pool entries that the words name. The judged class is class 1, her method 1. -/
namespace start1
open Jvm.ClassFile
def u (s : String) : CpInfo := .utf8 (stringToUtf16 s)
/-- a pool by its gaps: so many unusable entries, then the entry; so many at the end -/
def gap : Nat → List CpInfo → List CpInfo
  | 0, r => r
  | n + 1, r => .unusable :: gap n r
def poolList (es : List (Nat × CpInfo)) (last : Nat) : List CpInfo := es.foldr (fun e r => gap e.1 (e.2 :: r)) (gap last [])
def pool (es : List (Nat × CpInfo)) (last : Nat) : Array CpInfo := ⟨poolList es last⟩
def fileOf (pool : Array CpInfo) (this : Nat) (attrs : Array Attribute := #[]) (ms : Array MethodInfo := #[]) (fl : Nat := 33) (sup : Nat := 0) (ifs : Array Nat := #[]) (fds : Array FieldInfo := #[]) : ClassFile where
  minorVersion := 0
  majorVersion := 65
  constantPool := pool
  accessFlags := fl
  thisClass := this
  superClass := sup
  interfaces := ifs
  fields := fds
  methods := ms
  attributes := attrs
def plain (name : String) (sup : Option ClassId) : Class where
  name := name
  kind := .ordinary
  loader := none
  accessFlags := 33
  super := sup
  interfaces := #[]
  cf := none
  fields := #[]
  methods := #[]
  instanceTypes := #[]
  staticTypes := #[]
  resolved := #[]
  callSites := []
  init := .initialized
  statics := none
  mirror := none

def pool0 : Array CpInfo := pool [(5, u "<init>"), (0, u "()V"), (1, .class_ 10), (1, u "java/lang/Object")] 113

def k0c0 : Code := { maxStack := 0, maxLocals := 1, code := object_method_1_code, exceptionTable := #[], attributes := #[] }
def k0m0 : Method := { name := "<init>", desc := "()V", sig := { parameters := [], returnType := none }, accessFlags := 1, code := some k0c0 }
/-- java/lang/Object -/
def k0 : Class := { plain "java/lang/Object" none with
  accessFlags := 33
  interfaces := #[]
  cf := some (fileOf pool0 8 #[] #[{ accessFlags := 1, nameIndex := 5, descriptorIndex := 6, attributes := #[] }] 33 0 #[] #[])
  fields := #[]
  methods := #[k0m0]
  instanceTypes := #[]
  staticTypes := #[]
  resolved := Array.replicate 124 none
  statics := none }

def pool1 : Array CpInfo := pool [(2, .class_ 4), (1, u "java/lang/Object"), (0, u "<init>"), (0, u "()V"), (0, .class_ 8), (0, u "com/example/chainstat/chainstat/io/LinkList"), (0, .string 10), (0, u "x"), (0, .methodref 7 12), (0, .nameAndType 5 13), (0, u "(Ljava/lang/String;)V"), (0, .methodref 7 15), (0, .nameAndType 16 17), (0, u "add"), (0, u "(II)V"), (0, .methodref 7 19), (0, .nameAndType 20 21), (0, u "renumber"), (0, u "([I)V"), (0, .methodref 7 23), (0, .nameAndType 24 25), (0, u "toGraph"), (0, u "(I)Lcom/example/chainstat/chainstat/model/LinkGraph;"), (0, .methodref 27 28), (0, .class_ 29), (0, .nameAndType 30 31), (0, u "com/example/chainstat/chainstat/model/LinkGraph"), (0, u "linkCount"), (0, u "()I"), (0, .methodref 27 33), (0, .nameAndType 34 35), (0, u "incomingSource"), (0, u "(I)I"), (0, .methodref 27 37), (0, .nameAndType 38 35), (0, u "incomingStart"), (0, .class_ 40), (0, u "com/example/chainstat/chainstat/io/LinkListRenumberPinLaw"), (2, u "law"), (0, u "(II)Z")] 5

def k1m0 : Method := { name := "<init>", desc := "()V", sig := { parameters := [], returnType := none }, accessFlags := 1, code := none }
def k1c1 : Code := { maxStack := 4, maxLocals := 18, code := code, exceptionTable := #[], attributes := #[] }
def k1m1 : Method := { name := "law", desc := "(II)Z", sig := { parameters := [.int, .int], returnType := some .boolean }, accessFlags := 9, code := some k1c1 }
/-- com/example/chainstat/chainstat/io/LinkListRenumberPinLaw -/
def k1 : Class := { plain "com/example/chainstat/chainstat/io/LinkListRenumberPinLaw" (some 0) with
  accessFlags := 49
  interfaces := #[]
  cf := some (fileOf pool1 39 #[] #[{ accessFlags := 1, nameIndex := 5, descriptorIndex := 6, attributes := #[] }, { accessFlags := 9, nameIndex := 43, descriptorIndex := 44, attributes := #[] }] 49 2 #[] #[])
  fields := #[]
  methods := #[k1m0, k1m1]
  instanceTypes := #[]
  staticTypes := #[]
  resolved := Array.replicate 50 none
  statics := none }

def pool2 : Array CpInfo := pool [(1, .class_ 2), (0, u "com/example/chainstat/chainstat/io/LinkList"), (0, .methodref 4 5), (0, .class_ 6), (0, .nameAndType 7 8), (0, u "java/lang/Object"), (0, u "<init>"), (0, u "()V"), (0, .class_ 10), (0, u "[I"), (0, .fieldref 1 12), (0, .nameAndType 13 14), (0, u "sources"), (0, u "[[I"), (0, .fieldref 1 16), (0, .nameAndType 17 14), (0, u "targets"), (0, .fieldref 1 19), (0, .nameAndType 20 10), (0, u "runStart"), (0, .fieldref 1 22), (0, .nameAndType 23 24), (0, u "runLine"), (0, u "[J"), (0, .fieldref 1 26), (0, .nameAndType 27 28), (0, u "inputName"), (0, u "Ljava/lang/String;"), (6, u "add"), (1, .methodref 1 38), (0, .nameAndType 39 40), (0, u "append"), (0, u "(IIJ)V"), (0, .methodref 1 42), (0, .nameAndType 43 8), (0, u "makeRoom"), (0, .fieldref 1 45), (0, .nameAndType 46 47), (0, u "count"), (0, u "I"), (0, .integer 1048575), (0, .fieldref 1 50), (0, .nameAndType 51 52), (0, u "weights"), (0, u "[[J"), (3, .class_ 57), (0, u "com/example/chainstat/chainstat/model/LinkGraph"), (9, .fieldref 1 68), (0, .nameAndType 69 70), (0, u "values"), (0, u "[[D"), (4, .fieldref 1 76), (0, .nameAndType 77 78), (0, u "exactValues"), (0, u "[[Ljava/math/BigDecimal;"), (12, u "runCount"), (13, .integer 1048576), (0, .methodref 107 108), (0, .class_ 109), (0, .nameAndType 110 111), (0, u "java/lang/Math"), (0, u "min"), (0, u "(II)I"), (21, .methodref 56 134), (0, .nameAndType 7 135), (0, u "(I[[I[[I[[JI)V"), (11, u "(Ljava/lang/String;)V"), (24, u "BLOCK_BITS"), (2, u "BLOCK"), (3, u "(II)V"), (10, u "renumber"), (0, u "([I)V"), (0, u "toGraph"), (0, u "(I)Lcom/example/chainstat/chainstat/model/LinkGraph;")] 23

def k2c0 : Code := { maxStack := 5, maxLocals := 2, code := prog_37_method_1_code, exceptionTable := #[], attributes := #[] }
def k2m0 : Method := { name := "<init>", desc := "(Ljava/lang/String;)V", sig := { parameters := [(.object "java/lang/String")], returnType := none }, accessFlags := 0, code := some k2c0 }
def k2c1 : Code := { maxStack := 5, maxLocals := 3, code := prog_37_method_4_code, exceptionTable := #[], attributes := #[] }
def k2m1 : Method := { name := "add", desc := "(II)V", sig := { parameters := [.int, .int], returnType := none }, accessFlags := 0, code := some k2c1 }
def k2c2 : Code := { maxStack := 4, maxLocals := 7, code := prog_37_method_5_code, exceptionTable := #[], attributes := #[] }
def k2m2 : Method := { name := "append", desc := "(IIJ)V", sig := { parameters := [.int, .int, .long], returnType := none }, accessFlags := 2, code := some k2c2 }
def k2c3 : Code := { maxStack := 4, maxLocals := 4, code := prog_37_method_10_code, exceptionTable := #[], attributes := #[] }
def k2m3 : Method := { name := "makeRoom", desc := "()V", sig := { parameters := [], returnType := none }, accessFlags := 2, code := some k2c3 }
def k2c4 : Code := { maxStack := 5, maxLocals := 6, code := prog_37_method_17_code, exceptionTable := #[], attributes := #[] }
def k2m4 : Method := { name := "renumber", desc := "([I)V", sig := { parameters := [(.array .int)], returnType := none }, accessFlags := 0, code := some k2c4 }
def k2c5 : Code := { maxStack := 7, maxLocals := 3, code := prog_37_method_18_code, exceptionTable := #[{ startPc := 0, endPc := 24, handlerPc := 25, catchType := 136 }], attributes := #[] }
def k2m5 : Method := { name := "toGraph", desc := "(I)Lcom/example/chainstat/chainstat/model/LinkGraph;", sig := { parameters := [.int], returnType := some (.object "com/example/chainstat/chainstat/model/LinkGraph") }, accessFlags := 0, code := some k2c5 }
/-- com/example/chainstat/chainstat/io/LinkList -/
def k2 : Class := { plain "com/example/chainstat/chainstat/io/LinkList" (some 0) with
  accessFlags := 32
  interfaces := #[]
  cf := some (fileOf pool2 1 #[] #[{ accessFlags := 0, nameIndex := 7, descriptorIndex := 147, attributes := #[] }, { accessFlags := 0, nameIndex := 35, descriptorIndex := 179, attributes := #[] }, { accessFlags := 2, nameIndex := 39, descriptorIndex := 40, attributes := #[] }, { accessFlags := 2, nameIndex := 43, descriptorIndex := 8, attributes := #[] }, { accessFlags := 0, nameIndex := 190, descriptorIndex := 191, attributes := #[] }, { accessFlags := 0, nameIndex := 192, descriptorIndex := 193, attributes := #[] }] 32 4 #[] #[{ accessFlags := 26, nameIndex := 172, descriptorIndex := 47, attributes := #[] }, { accessFlags := 26, nameIndex := 175, descriptorIndex := 47, attributes := #[] }, { accessFlags := 18, nameIndex := 27, descriptorIndex := 28, attributes := #[] }, { accessFlags := 2, nameIndex := 13, descriptorIndex := 14, attributes := #[] }, { accessFlags := 2, nameIndex := 17, descriptorIndex := 14, attributes := #[] }, { accessFlags := 2, nameIndex := 51, descriptorIndex := 52, attributes := #[] }, { accessFlags := 2, nameIndex := 69, descriptorIndex := 70, attributes := #[] }, { accessFlags := 2, nameIndex := 77, descriptorIndex := 78, attributes := #[] }, { accessFlags := 2, nameIndex := 46, descriptorIndex := 47, attributes := #[] }, { accessFlags := 2, nameIndex := 20, descriptorIndex := 10, attributes := #[] }, { accessFlags := 2, nameIndex := 23, descriptorIndex := 24, attributes := #[] }, { accessFlags := 2, nameIndex := 91, descriptorIndex := 47, attributes := #[] }])
  fields := #[{ name := "BLOCK_BITS", type := .int, accessFlags := 26, slot := 0, constantValue := 0 }, { name := "BLOCK", type := .int, accessFlags := 26, slot := 1, constantValue := 0 }, { name := "inputName", type := (.object "java/lang/String"), accessFlags := 18, slot := 0, constantValue := 0 }, { name := "sources", type := (.array (.array .int)), accessFlags := 2, slot := 1, constantValue := 0 }, { name := "targets", type := (.array (.array .int)), accessFlags := 2, slot := 2, constantValue := 0 }, { name := "weights", type := (.array (.array .long)), accessFlags := 2, slot := 3, constantValue := 0 }, { name := "values", type := (.array (.array .double)), accessFlags := 2, slot := 4, constantValue := 0 }, { name := "exactValues", type := (.array (.array (.object "java/math/BigDecimal"))), accessFlags := 2, slot := 5, constantValue := 0 }, { name := "count", type := .int, accessFlags := 2, slot := 6, constantValue := 0 }, { name := "runStart", type := (.array .int), accessFlags := 2, slot := 7, constantValue := 0 }, { name := "runLine", type := (.array .long), accessFlags := 2, slot := 8, constantValue := 0 }, { name := "runCount", type := .int, accessFlags := 2, slot := 9, constantValue := 0 }]
  methods := #[k2m0, k2m1, k2m2, k2m3, k2m4, k2m5]
  instanceTypes := #[(.object "java/lang/String"), (.array (.array .int)), (.array (.array .int)), (.array (.array .long)), (.array (.array .double)), (.array (.array (.object "java/math/BigDecimal"))), .int, (.array .int), (.array .long), .int]
  staticTypes := #[.int, .int]
  resolved := Array.replicate 217 none
  statics := none }

def pool3 : Array CpInfo := pool [(1, .class_ 2), (0, u "java/io/Serializable"), (0, .class_ 4), (0, u "java/lang/Object")] 2

/-- java/io/Serializable -/
def k3 : Class := { plain "java/io/Serializable" (some 0) with
  accessFlags := 1537
  interfaces := #[]
  cf := some (fileOf pool3 1 #[] #[] 1537 3 #[] #[])
  fields := #[]
  methods := #[]
  instanceTypes := #[]
  staticTypes := #[]
  resolved := Array.replicate 7 none
  statics := none }

def pool4 : Array CpInfo := pool [(1, .class_ 2), (0, u "java/lang/Comparable"), (0, .class_ 4), (0, u "java/lang/Object")] 7

/-- java/lang/Comparable -/
def k4 : Class := { plain "java/lang/Comparable" (some 0) with
  accessFlags := 1537
  interfaces := #[]
  cf := some (fileOf pool4 1 #[] #[] 1537 3 #[] #[])
  fields := #[]
  methods := #[]
  instanceTypes := #[]
  staticTypes := #[]
  resolved := Array.replicate 12 none
  statics := none }

def pool5 : Array CpInfo := pool [(2, .class_ 4), (1, u "java/lang/CharSequence"), (42, .class_ 48), (0, u "java/lang/CharSequence$1CodePointIterator"), (10, .class_ 60), (0, u "java/lang/CharSequence$1CharIterator"), (5, .class_ 67), (0, u "java/lang/Object")] 63

/-- java/lang/CharSequence -/
def k5 : Class := { plain "java/lang/CharSequence" (some 0) with
  accessFlags := 1537
  interfaces := #[]
  cf := some (fileOf pool5 2 #[.nestMembers #[47, 59]] #[] 1537 66 #[] #[])
  fields := #[]
  methods := #[]
  instanceTypes := #[]
  staticTypes := #[]
  resolved := Array.replicate 131 none
  statics := none }

def pool6 : Array CpInfo := pool [(1, .class_ 2), (0, u "java/lang/constant/Constable"), (0, .class_ 4), (0, u "java/lang/Object")] 6

/-- java/lang/constant/Constable -/
def k6 : Class := { plain "java/lang/constant/Constable" (some 0) with
  accessFlags := 1537
  interfaces := #[]
  cf := some (fileOf pool6 1 #[] #[] 1537 3 #[] #[])
  fields := #[]
  methods := #[]
  instanceTypes := #[]
  staticTypes := #[]
  resolved := Array.replicate 11 none
  statics := none }

def pool7 : Array CpInfo := pool [(1, .class_ 2), (0, u "java/lang/constant/ConstantDesc"), (0, .class_ 4), (0, u "java/lang/Object")] 32

/-- java/lang/constant/ConstantDesc -/
def k7 : Class := { plain "java/lang/constant/ConstantDesc" (some 0) with
  accessFlags := 1537
  interfaces := #[]
  cf := some (fileOf pool7 1 #[] #[] 1537 3 #[] #[])
  fields := #[]
  methods := #[]
  instanceTypes := #[]
  staticTypes := #[]
  resolved := Array.replicate 37 none
  statics := none }

def pool8 : Array CpInfo := pool [(2, .class_ 4), (1, u "java/lang/Object"), (0, u "<init>"), (0, u "()V"), (3, .class_ 12), (1, u "java/lang/String"), (0, u "value"), (0, u "[B"), (2, u "coder"), (0, u "B"), (2, u "hash"), (0, u "I"), (2, u "hashIsZero"), (0, u "Z"), (13, u "COMPACT_STRINGS"), (534, .class_ 576), (0, u "java/lang/CharSequence"), (22, u "CASE_INSENSITIVE_ORDER"), (0, u "Ljava/util/Comparator;"), (500, u "serialPersistentFields"), (0, u "[Ljava/io/ObjectStreamField;"), (0, .class_ 1104), (0, u "java/lang/String$CaseInsensitiveComparator"), (1, .class_ 1107), (0, u "java/io/Serializable"), (0, .class_ 1109), (0, u "java/lang/Comparable"), (0, .class_ 1111), (0, u "java/lang/constant/Constable"), (0, .class_ 1113), (0, u "java/lang/constant/ConstantDesc"), (2, u "serialVersionUID"), (0, u "J"), (3, u "REPL"), (0, u "C"), (2, u "LATIN1"), (1, u "UTF16")] 323

def k8m0 : Method := { name := "<init>", desc := "()V", sig := { parameters := [], returnType := none }, accessFlags := 1, code := none }
/-- java/lang/String -/
def k8 : Class := { plain "java/lang/String" (some 0) with
  accessFlags := 49
  interfaces := #[3, 4, 5, 6, 7]
  cf := some (fileOf pool8 10 #[.nestMembers #[1103]] #[{ accessFlags := 1, nameIndex := 5, descriptorIndex := 6, attributes := #[] }] 49 2 #[1106, 1108, 575, 1110, 1112] #[{ accessFlags := 18, nameIndex := 13, descriptorIndex := 14, attributes := #[] }, { accessFlags := 18, nameIndex := 17, descriptorIndex := 18, attributes := #[] }, { accessFlags := 2, nameIndex := 21, descriptorIndex := 22, attributes := #[] }, { accessFlags := 2, nameIndex := 25, descriptorIndex := 26, attributes := #[] }, { accessFlags := 26, nameIndex := 1116, descriptorIndex := 1117, attributes := #[] }, { accessFlags := 24, nameIndex := 40, descriptorIndex := 26, attributes := #[] }, { accessFlags := 26, nameIndex := 1101, descriptorIndex := 1102, attributes := #[] }, { accessFlags := 26, nameIndex := 1121, descriptorIndex := 1122, attributes := #[] }, { accessFlags := 25, nameIndex := 599, descriptorIndex := 600, attributes := #[] }, { accessFlags := 24, nameIndex := 1125, descriptorIndex := 18, attributes := #[] }, { accessFlags := 24, nameIndex := 1127, descriptorIndex := 18, attributes := #[] }])
  fields := #[{ name := "value", type := (.array .byte), accessFlags := 18, slot := 0, constantValue := 0 }, { name := "coder", type := .byte, accessFlags := 18, slot := 1, constantValue := 0 }, { name := "hash", type := .int, accessFlags := 2, slot := 2, constantValue := 0 }, { name := "hashIsZero", type := .boolean, accessFlags := 2, slot := 3, constantValue := 0 }, { name := "serialVersionUID", type := .long, accessFlags := 26, slot := 0, constantValue := 0 }, { name := "COMPACT_STRINGS", type := .boolean, accessFlags := 24, slot := 1, constantValue := 0 }, { name := "serialPersistentFields", type := (.array (.object "java/io/ObjectStreamField")), accessFlags := 26, slot := 2, constantValue := 0 }, { name := "REPL", type := .char, accessFlags := 26, slot := 3, constantValue := 0 }, { name := "CASE_INSENSITIVE_ORDER", type := (.object "java/util/Comparator"), accessFlags := 25, slot := 4, constantValue := 0 }, { name := "LATIN1", type := .byte, accessFlags := 24, slot := 5, constantValue := 0 }, { name := "UTF16", type := .byte, accessFlags := 24, slot := 6, constantValue := 0 }]
  methods := #[k8m0]
  instanceTypes := #[(.array .byte), .byte, .int, .boolean]
  staticTypes := #[.long, .boolean, (.array (.object "java/io/ObjectStreamField")), .char, (.object "java/util/Comparator"), .byte, .byte]
  resolved := Array.replicate 1451 none
  statics := none }

def pool9 : Array CpInfo := pool [(4, u "[I"), (1, .class_ 8), (1, u "com/example/chainstat/chainstat/model/LinkGraph"), (0, u "<init>"), (0, u "(I[[I[[I[[JI)V"), (0, .methodref 6 12), (0, .nameAndType 9 13), (0, u "(I[[I[[I[[JIZ)V"), (0, .methodref 15 16), (0, .class_ 17), (0, .nameAndType 9 18), (0, u "java/lang/Object"), (0, u "()V"), (9, .methodref 29 30), (0, .class_ 31), (0, .nameAndType 32 33), (0, u "java/lang/Math"), (0, u "min"), (0, u "(II)I"), (0, .methodref 6 35), (0, .nameAndType 36 37), (0, u "blockLength"), (0, u "([[I[[I[[JI)I"), (21, .fieldref 6 60), (0, .nameAndType 61 62), (0, u "pageCount"), (0, u "I"), (0, .fieldref 6 64), (0, .nameAndType 65 4), (0, u "outDegree"), (0, .fieldref 6 67), (0, .nameAndType 68 69), (0, u "outWeight"), (0, u "[J"), (0, .fieldref 6 71), (0, .nameAndType 72 4), (0, u "incomingStart"), (0, .fieldref 6 74), (0, .nameAndType 75 4), (0, u "incomingSource"), (0, .fieldref 6 77), (0, .nameAndType 78 69), (0, u "incomingWeight"), (11, u "linkCount"), (0, u "()I"), (1, u "MAX_LINKS"), (16, u "(I)I")] 25

def k9c0 : Code := { maxStack := 7, maxLocals := 6, code := prog_54_method_2_code, exceptionTable := #[], attributes := #[] }
def k9m0 : Method := { name := "<init>", desc := "(I[[I[[I[[JI)V", sig := { parameters := [.int, (.array (.array .int)), (.array (.array .int)), (.array (.array .long)), .int], returnType := none }, accessFlags := 1, code := some k9c0 }
def k9c1 : Code := { maxStack := 8, maxLocals := 26, code := prog_54_method_3_code, exceptionTable := #[], attributes := #[] }
def k9m1 : Method := { name := "<init>", desc := "(I[[I[[I[[JIZ)V", sig := { parameters := [.int, (.array (.array .int)), (.array (.array .int)), (.array (.array .long)), .int, .boolean], returnType := none }, accessFlags := 2, code := some k9c1 }
def k9c2 : Code := { maxStack := 3, maxLocals := 5, code := prog_54_method_5_code, exceptionTable := #[], attributes := #[] }
def k9m2 : Method := { name := "blockLength", desc := "([[I[[I[[JI)I", sig := { parameters := [(.array (.array .int)), (.array (.array .int)), (.array (.array .long)), .int], returnType := some .int }, accessFlags := 10, code := some k9c2 }
def k9c3 : Code := { maxStack := 1, maxLocals := 1, code := prog_54_method_11_code, exceptionTable := #[], attributes := #[] }
def k9m3 : Method := { name := "linkCount", desc := "()I", sig := { parameters := [], returnType := some .int }, accessFlags := 1, code := some k9c3 }
def k9c4 : Code := { maxStack := 2, maxLocals := 2, code := prog_54_method_14_code, exceptionTable := #[], attributes := #[] }
def k9m4 : Method := { name := "incomingStart", desc := "(I)I", sig := { parameters := [.int], returnType := some .int }, accessFlags := 1, code := some k9c4 }
def k9c5 : Code := { maxStack := 2, maxLocals := 2, code := prog_54_method_15_code, exceptionTable := #[], attributes := #[] }
def k9m5 : Method := { name := "incomingSource", desc := "(I)I", sig := { parameters := [.int], returnType := some .int }, accessFlags := 1, code := some k9c5 }
/-- com/example/chainstat/chainstat/model/LinkGraph -/
def k9 : Class := { plain "com/example/chainstat/chainstat/model/LinkGraph" (some 0) with
  accessFlags := 33
  interfaces := #[]
  cf := some (fileOf pool9 6 #[] #[{ accessFlags := 1, nameIndex := 9, descriptorIndex := 10, attributes := #[] }, { accessFlags := 2, nameIndex := 9, descriptorIndex := 13, attributes := #[] }, { accessFlags := 10, nameIndex := 36, descriptorIndex := 37, attributes := #[] }, { accessFlags := 1, nameIndex := 90, descriptorIndex := 91, attributes := #[] }, { accessFlags := 1, nameIndex := 72, descriptorIndex := 110, attributes := #[] }, { accessFlags := 1, nameIndex := 75, descriptorIndex := 110, attributes := #[] }] 33 15 #[] #[{ accessFlags := 25, nameIndex := 93, descriptorIndex := 62, attributes := #[] }, { accessFlags := 18, nameIndex := 61, descriptorIndex := 62, attributes := #[] }, { accessFlags := 18, nameIndex := 65, descriptorIndex := 4, attributes := #[] }, { accessFlags := 18, nameIndex := 68, descriptorIndex := 69, attributes := #[] }, { accessFlags := 18, nameIndex := 72, descriptorIndex := 4, attributes := #[] }, { accessFlags := 18, nameIndex := 75, descriptorIndex := 4, attributes := #[] }, { accessFlags := 18, nameIndex := 78, descriptorIndex := 69, attributes := #[] }])
  fields := #[{ name := "MAX_LINKS", type := .int, accessFlags := 25, slot := 0, constantValue := 0 }, { name := "pageCount", type := .int, accessFlags := 18, slot := 0, constantValue := 0 }, { name := "outDegree", type := (.array .int), accessFlags := 18, slot := 1, constantValue := 0 }, { name := "outWeight", type := (.array .long), accessFlags := 18, slot := 2, constantValue := 0 }, { name := "incomingStart", type := (.array .int), accessFlags := 18, slot := 3, constantValue := 0 }, { name := "incomingSource", type := (.array .int), accessFlags := 18, slot := 4, constantValue := 0 }, { name := "incomingWeight", type := (.array .long), accessFlags := 18, slot := 5, constantValue := 0 }]
  methods := #[k9m0, k9m1, k9m2, k9m3, k9m4, k9m5]
  instanceTypes := #[.int, (.array .int), (.array .long), (.array .int), (.array .int), (.array .long)]
  staticTypes := #[.int]
  resolved := Array.replicate 136 none
  statics := none }

def pool10 : Array CpInfo := pool [(1, .class_ 2), (0, u "java/lang/Math"), (1, .class_ 6), (1, u "java/lang/Object"), (0, u "<init>"), (0, u "()V"), (89, .class_ 100), (1, u "java/lang/Math$RandomNumberGeneratorHolder"), (71, u "negativeZeroFloatBits"), (0, u "J"), (2, u "negativeZeroDoubleBits"), (24, u "min"), (43, u "$assertionsDisabled"), (0, u "Z"), (88, u "(II)I"), (2, u "twoToTheDoubleScaleDown"), (0, u "D"), (4, u "twoToTheDoubleScaleUp"), (9, u "E"), (3, u "PI"), (2, u "TAU"), (2, u "DEGREES_TO_RADIANS"), (0, u "RADIANS_TO_DEGREES")] 94

def k10m0 : Method := { name := "<init>", desc := "()V", sig := { parameters := [], returnType := none }, accessFlags := 2, code := none }
def k10c1 : Code := { maxStack := 2, maxLocals := 2, code := jdk_29_method_69_code, exceptionTable := #[], attributes := #[] }
def k10m1 : Method := { name := "min", desc := "(II)I", sig := { parameters := [.int, .int], returnType := some .int }, accessFlags := 9, code := some k10c1 }
/-- java/lang/Math -/
def k10 : Class := { plain "java/lang/Math" (some 0) with
  accessFlags := 49
  interfaces := #[]
  cf := some (fileOf pool10 1 #[.nestMembers #[98]] #[{ accessFlags := 2, nameIndex := 7, descriptorIndex := 8, attributes := #[] }, { accessFlags := 9, nameIndex := 201, descriptorIndex := 335, attributes := #[] }] 49 4 #[] #[{ accessFlags := 25, nameIndex := 354, descriptorIndex := 339, attributes := #[] }, { accessFlags := 25, nameIndex := 358, descriptorIndex := 339, attributes := #[] }, { accessFlags := 25, nameIndex := 361, descriptorIndex := 339, attributes := #[] }, { accessFlags := 26, nameIndex := 364, descriptorIndex := 339, attributes := #[] }, { accessFlags := 26, nameIndex := 365, descriptorIndex := 339, attributes := #[] }, { accessFlags := 26, nameIndex := 172, descriptorIndex := 173, attributes := #[] }, { accessFlags := 26, nameIndex := 176, descriptorIndex := 173, attributes := #[] }, { accessFlags := 8, nameIndex := 344, descriptorIndex := 339, attributes := #[] }, { accessFlags := 8, nameIndex := 338, descriptorIndex := 339, attributes := #[] }, { accessFlags := 4120, nameIndex := 245, descriptorIndex := 246, attributes := #[] }])
  fields := #[{ name := "E", type := .double, accessFlags := 25, slot := 0, constantValue := 0 }, { name := "PI", type := .double, accessFlags := 25, slot := 1, constantValue := 0 }, { name := "TAU", type := .double, accessFlags := 25, slot := 2, constantValue := 0 }, { name := "DEGREES_TO_RADIANS", type := .double, accessFlags := 26, slot := 3, constantValue := 0 }, { name := "RADIANS_TO_DEGREES", type := .double, accessFlags := 26, slot := 4, constantValue := 0 }, { name := "negativeZeroFloatBits", type := .long, accessFlags := 26, slot := 5, constantValue := 0 }, { name := "negativeZeroDoubleBits", type := .long, accessFlags := 26, slot := 6, constantValue := 0 }, { name := "twoToTheDoubleScaleUp", type := .double, accessFlags := 8, slot := 7, constantValue := 0 }, { name := "twoToTheDoubleScaleDown", type := .double, accessFlags := 8, slot := 8, constantValue := 0 }, { name := "$assertionsDisabled", type := .boolean, accessFlags := 4120, slot := 9, constantValue := 0 }]
  methods := #[k10m0, k10m1]
  instanceTypes := #[]
  staticTypes := #[.double, .double, .double, .double, .double, .long, .long, .double, .double, .boolean]
  resolved := Array.replicate 460 none
  statics := none }

def pool11 : Array CpInfo := pool [(1, u "java/lang/Cloneable"), (0, .class_ 1), (0, u "java/lang/Object"), (0, .class_ 3)] 3

/-- java/lang/Cloneable -/
def k11 : Class := { plain "java/lang/Cloneable" (some 0) with
  accessFlags := 1537
  interfaces := #[]
  cf := some (fileOf pool11 2 #[] #[] 1537 4 #[] #[])
  fields := #[]
  methods := #[]
  instanceTypes := #[]
  staticTypes := #[]
  resolved := Array.replicate 8 none
  statics := none }

/-- the primitive byte -/
def k12 : Class := { plain "byte" none with kind := .primitive 'B', accessFlags := 0x411 }
/-- [B -/
def k13 : Class := { plain "[B" (some 0) with kind := .array 12 .byte, interfaces := #[11, 3], accessFlags := 1041 }

/-- the primitive int -/
def k14 : Class := { plain "int" none with kind := .primitive 'I', accessFlags := 0x411 }
/-- [I -/
def k15 : Class := { plain "[I" (some 0) with kind := .array 14 .int, interfaces := #[11, 3], accessFlags := 1041 }

/-- the primitive long -/
def k16 : Class := { plain "long" none with kind := .primitive 'J', accessFlags := 0x411 }
/-- [J -/
def k17 : Class := { plain "[J" (some 0) with kind := .array 16 .long, interfaces := #[11, 3], accessFlags := 1041 }

def heap : Heap := #[]
def k18 : Class := { plain "[[I" (some 0) with kind := .array 15 (.array .int), interfaces := #[11, 3], accessFlags := 1041 }
def k19 : Class := { plain "double" none with kind := .primitive 'D', accessFlags := 0x411 }
def k20 : Class := { plain "[D" (some 0) with kind := .array 19 .double, interfaces := #[11, 3], accessFlags := 1041 }
def classes : Array Class := #[k0, k1, k2, k3, k4, k5, k6, k7, k8, k9, k10, k11, k12, k13, k14, k15, k16, k17, k18, k19, k20]
def interned : List (Array UInt16 × Addr) := []
def slotsUsed : Nat := 0
def theMethod : MethodId := ⟨1, 1⟩
def args0 : Array Value := #[.int 5, .int 6]
def aboutOver (below : List Frame) : State where
  vm := { classes := classes, interned := interned.toArray }
  heap := heap
  slotsUsed := slotsUsed
  threads := #[{ frames := .invoking theMethod args0 :: below }]
def below0 : List Frame := [.native { method := ⟨0, 0⟩, args := #[] }]
def about1 : State := aboutOver below0
def p0 : Program := .bare "" "" ""
def e0 : Env := launch0.env 0 0 0
theorem w_frames : about1.frames = Frame.invoking theMethod args0 :: below0 := rfl
set_option maxRecDepth 65536 in
theorem w_args : argsFit about1.vm theMethod args0 = true := by decide +kernel
set_option maxRecDepth 65536 in
theorem w_heap : heapFits about1 = true := by decide +kernel
set_option maxRecDepth 65536 in
theorem w_runnable : about1.curStatus? = some .runnable := by decide +kernel
set_option maxRecDepth 65536 in
theorem w_alone : about1.alone = true := by decide +kernel
set_option maxRecDepth 65536 in
theorem w_named : about1.methodNamed? x = some theMethod := by decide +kernel
set_option maxRecDepth 65536 in
theorem w_hears : about1.hears theMethod below0 = true := by decide +kernel
set_option maxRecDepth 65536 in
theorem w_ripe : about1.ripe theMethod args0 below0 = true := by decide +kernel
theorem w_running : about1.status = .running := rfl
set_option maxRecDepth 65536 in
theorem w_room : about1.hasRoom e0.platform room_1 = true :=
  launch0.hasRoom_least _ room_1 (by decide +kernel) (by decide +kernel) (by decide +kernel) (by decide +kernel) (by decide +kernel) (by decide +kernel)
theorem allAtoms_all (ts : List Jvm.Cond) (a : Array Jvm.Value) (st : Jvm.State) : (allAtoms ts).before a st = ts.all (fun c => c.before a st) := by
  induction ts with
  | nil => rfl
  | cons c t ih =>
    show (Jvm.Cond.and c (allAtoms t)).before a st = _
    rw [Jvm.Cond.before_and, ih, List.all_cons]
def words1 : List Jvm.Cond := Jvm.Cond.code x code maxLocals ret :: tables_1
/-- a 'code' word, met by the world's own term for the bytes: nothing is compared byte by byte -/
theorem code_word {y : MethodName} {bytes : ByteArray} {mx : Nat} {rt : Option FieldType} {a : Array Value} {s : State} {m : MethodId} {meth : Method} {c : Code} (h1 : s.methodNamed? y = some m) (h2 : s.vm.method? m = some meth) (h3 : meth.code = some c) (h4 : c.code = bytes)
    (h5 : (c.maxLocals == mx && c.exceptionTable.isEmpty && decide (c.maxStack ≤ mostOperands) && decide (meth.sig.returnType = rt) && !meth.locks && decide (parseMethodDescriptor y.desc = some meth.sig)) = true) : (Jvm.Cond.code y bytes mx rt).before a s = true := by
  simp only [Bool.and_eq_true, beq_iff_eq, Bool.not_eq_true', decide_eq_true_eq] at h5
  obtain ⟨⟨⟨⟨⟨g1, g2⟩, g3⟩, g4⟩, g5⟩, g6⟩ := h5
  simp [Cond.before, Cond.holds, Cond.value, h1, h2, h3, h4, g1, g2, g3, g4, g5, g6]
def isCode : Jvm.Cond → Bool
  | .code _ _ _ _ => true
  | _ => false
theorem all_split {L : List Jvm.Cond} {P : Jvm.Cond → Bool} (h1 : L.all (fun c => isCode c || P c) = true) (h2 : ∀ c ∈ L.filter isCode, P c = true) : L.all P = true := by
  refine List.all_eq_true.mpr fun c hc => ?_
  have h := List.all_eq_true.mp h1 c hc
  rcases Bool.eq_false_or_eq_true (isCode c) with hi | hi
  · exact h2 c (List.mem_filter.mpr ⟨hc, hi⟩)
  · simpa [hi] using h
set_option maxRecDepth 65536 in
theorem w_c0 : (Jvm.Cond.code x code maxLocals ret).before args0 about1 = true := code_word (m := ⟨1, 1⟩) (meth := k1m1) (c := k1c1) (by decide +kernel) rfl rfl rfl (by decide +kernel)
set_option maxRecDepth 65536 in
theorem w_c1 : (Jvm.Cond.code ({ cls := "com/example/chainstat/chainstat/io/LinkList", name := "<init>", desc := "(Ljava/lang/String;)V" } : Jvm.MethodName) prog_37_method_1_code (2 : Nat) (Option.none : Option Jvm.ClassFile.FieldType)).before args0 about1 = true := code_word (m := ⟨2, 0⟩) (meth := k2m0) (c := k2c0) (by decide +kernel) rfl rfl rfl (by decide +kernel)
set_option maxRecDepth 65536 in
theorem w_c2 : (Jvm.Cond.code ({ cls := "java/lang/Object", name := "<init>", desc := "()V" } : Jvm.MethodName) object_method_1_code (1 : Nat) (Option.none : Option Jvm.ClassFile.FieldType)).before args0 about1 = true := code_word (m := ⟨0, 0⟩) (meth := k0m0) (c := k0c0) (by decide +kernel) rfl rfl rfl (by decide +kernel)
set_option maxRecDepth 65536 in
theorem w_c3 : (Jvm.Cond.code ({ cls := "com/example/chainstat/chainstat/io/LinkList", name := "add", desc := "(II)V" } : Jvm.MethodName) prog_37_method_4_code (3 : Nat) (Option.none : Option Jvm.ClassFile.FieldType)).before args0 about1 = true := code_word (m := ⟨2, 1⟩) (meth := k2m1) (c := k2c1) (by decide +kernel) rfl rfl rfl (by decide +kernel)
set_option maxRecDepth 65536 in
theorem w_c4 : (Jvm.Cond.code ({ cls := "com/example/chainstat/chainstat/io/LinkList", name := "append", desc := "(IIJ)V" } : Jvm.MethodName) prog_37_method_5_code (7 : Nat) (Option.none : Option Jvm.ClassFile.FieldType)).before args0 about1 = true := code_word (m := ⟨2, 2⟩) (meth := k2m2) (c := k2c2) (by decide +kernel) rfl rfl rfl (by decide +kernel)
set_option maxRecDepth 65536 in
theorem w_c5 : (Jvm.Cond.code ({ cls := "com/example/chainstat/chainstat/io/LinkList", name := "makeRoom", desc := "()V" } : Jvm.MethodName) prog_37_method_10_code (4 : Nat) (Option.none : Option Jvm.ClassFile.FieldType)).before args0 about1 = true := code_word (m := ⟨2, 3⟩) (meth := k2m3) (c := k2c3) (by decide +kernel) rfl rfl rfl (by decide +kernel)
set_option maxRecDepth 65536 in
theorem w_c6 : (Jvm.Cond.code ({ cls := "com/example/chainstat/chainstat/io/LinkList", name := "renumber", desc := "([I)V" } : Jvm.MethodName) prog_37_method_17_code (6 : Nat) (Option.none : Option Jvm.ClassFile.FieldType)).before args0 about1 = true := code_word (m := ⟨2, 4⟩) (meth := k2m4) (c := k2c4) (by decide +kernel) rfl rfl rfl (by decide +kernel)
set_option maxRecDepth 65536 in
theorem w_c7 : (Jvm.Cond.code ({ cls := "com/example/chainstat/chainstat/model/LinkGraph", name := "<init>", desc := "(I[[I[[I[[JI)V" } : Jvm.MethodName) prog_54_method_2_code (6 : Nat) (Option.none : Option Jvm.ClassFile.FieldType)).before args0 about1 = true := code_word (m := ⟨9, 0⟩) (meth := k9m0) (c := k9c0) (by decide +kernel) rfl rfl rfl (by decide +kernel)
set_option maxRecDepth 65536 in
theorem w_c8 : (Jvm.Cond.code ({ cls := "com/example/chainstat/chainstat/model/LinkGraph", name := "<init>", desc := "(I[[I[[I[[JIZ)V" } : Jvm.MethodName) prog_54_method_3_code (26 : Nat) (Option.none : Option Jvm.ClassFile.FieldType)).before args0 about1 = true := code_word (m := ⟨9, 1⟩) (meth := k9m1) (c := k9c1) (by decide +kernel) rfl rfl rfl (by decide +kernel)
set_option maxRecDepth 65536 in
theorem w_c9 : (Jvm.Cond.code ({ cls := "java/lang/Math", name := "min", desc := "(II)I" } : Jvm.MethodName) jdk_29_method_69_code (2 : Nat) (Option.some Jvm.ClassFile.FieldType.int)).before args0 about1 = true := code_word (m := ⟨10, 1⟩) (meth := k10m1) (c := k10c1) (by decide +kernel) rfl rfl rfl (by decide +kernel)
set_option maxRecDepth 65536 in
theorem w_c10 : (Jvm.Cond.code ({ cls := "com/example/chainstat/chainstat/model/LinkGraph", name := "blockLength", desc := "([[I[[I[[JI)I" } : Jvm.MethodName) prog_54_method_5_code (5 : Nat) (Option.some Jvm.ClassFile.FieldType.int)).before args0 about1 = true := code_word (m := ⟨9, 2⟩) (meth := k9m2) (c := k9c2) (by decide +kernel) rfl rfl rfl (by decide +kernel)
set_option maxRecDepth 65536 in
theorem w_c11 : (Jvm.Cond.code ({ cls := "com/example/chainstat/chainstat/model/LinkGraph", name := "linkCount", desc := "()I" } : Jvm.MethodName) prog_54_method_11_code (1 : Nat) (Option.some Jvm.ClassFile.FieldType.int)).before args0 about1 = true := code_word (m := ⟨9, 3⟩) (meth := k9m3) (c := k9c3) (by decide +kernel) rfl rfl rfl (by decide +kernel)
set_option maxRecDepth 65536 in
theorem w_c12 : (Jvm.Cond.code ({ cls := "com/example/chainstat/chainstat/model/LinkGraph", name := "incomingSource", desc := "(I)I" } : Jvm.MethodName) prog_54_method_15_code (2 : Nat) (Option.some Jvm.ClassFile.FieldType.int)).before args0 about1 = true := code_word (m := ⟨9, 5⟩) (meth := k9m5) (c := k9c5) (by decide +kernel) rfl rfl rfl (by decide +kernel)
set_option maxRecDepth 65536 in
theorem w_c13 : (Jvm.Cond.code ({ cls := "com/example/chainstat/chainstat/model/LinkGraph", name := "incomingStart", desc := "(I)I" } : Jvm.MethodName) prog_54_method_14_code (2 : Nat) (Option.some Jvm.ClassFile.FieldType.int)).before args0 about1 = true := code_word (m := ⟨9, 4⟩) (meth := k9m4) (c := k9c4) (by decide +kernel) rfl rfl rfl (by decide +kernel)
def codes1 : List Jvm.Cond := [Jvm.Cond.code x code maxLocals ret, Jvm.Cond.code ({ cls := "com/example/chainstat/chainstat/io/LinkList", name := "<init>", desc := "(Ljava/lang/String;)V" } : Jvm.MethodName) prog_37_method_1_code (2 : Nat) (Option.none : Option Jvm.ClassFile.FieldType), Jvm.Cond.code ({ cls := "java/lang/Object", name := "<init>", desc := "()V" } : Jvm.MethodName) object_method_1_code (1 : Nat) (Option.none : Option Jvm.ClassFile.FieldType), Jvm.Cond.code ({ cls := "com/example/chainstat/chainstat/io/LinkList", name := "add", desc := "(II)V" } : Jvm.MethodName) prog_37_method_4_code (3 : Nat) (Option.none : Option Jvm.ClassFile.FieldType), Jvm.Cond.code ({ cls := "com/example/chainstat/chainstat/io/LinkList", name := "append", desc := "(IIJ)V" } : Jvm.MethodName) prog_37_method_5_code (7 : Nat) (Option.none : Option Jvm.ClassFile.FieldType), Jvm.Cond.code ({ cls := "com/example/chainstat/chainstat/io/LinkList", name := "makeRoom", desc := "()V" } : Jvm.MethodName) prog_37_method_10_code (4 : Nat) (Option.none : Option Jvm.ClassFile.FieldType), Jvm.Cond.code ({ cls := "com/example/chainstat/chainstat/io/LinkList", name := "renumber", desc := "([I)V" } : Jvm.MethodName) prog_37_method_17_code (6 : Nat) (Option.none : Option Jvm.ClassFile.FieldType), Jvm.Cond.code ({ cls := "com/example/chainstat/chainstat/model/LinkGraph", name := "<init>", desc := "(I[[I[[I[[JI)V" } : Jvm.MethodName) prog_54_method_2_code (6 : Nat) (Option.none : Option Jvm.ClassFile.FieldType), Jvm.Cond.code ({ cls := "com/example/chainstat/chainstat/model/LinkGraph", name := "<init>", desc := "(I[[I[[I[[JIZ)V" } : Jvm.MethodName) prog_54_method_3_code (26 : Nat) (Option.none : Option Jvm.ClassFile.FieldType), Jvm.Cond.code ({ cls := "java/lang/Math", name := "min", desc := "(II)I" } : Jvm.MethodName) jdk_29_method_69_code (2 : Nat) (Option.some Jvm.ClassFile.FieldType.int), Jvm.Cond.code ({ cls := "com/example/chainstat/chainstat/model/LinkGraph", name := "blockLength", desc := "([[I[[I[[JI)I" } : Jvm.MethodName) prog_54_method_5_code (5 : Nat) (Option.some Jvm.ClassFile.FieldType.int), Jvm.Cond.code ({ cls := "com/example/chainstat/chainstat/model/LinkGraph", name := "linkCount", desc := "()I" } : Jvm.MethodName) prog_54_method_11_code (1 : Nat) (Option.some Jvm.ClassFile.FieldType.int), Jvm.Cond.code ({ cls := "com/example/chainstat/chainstat/model/LinkGraph", name := "incomingSource", desc := "(I)I" } : Jvm.MethodName) prog_54_method_15_code (2 : Nat) (Option.some Jvm.ClassFile.FieldType.int), Jvm.Cond.code ({ cls := "com/example/chainstat/chainstat/model/LinkGraph", name := "incomingStart", desc := "(I)I" } : Jvm.MethodName) prog_54_method_14_code (2 : Nat) (Option.some Jvm.ClassFile.FieldType.int)]
set_option maxRecDepth 65536 in
theorem codes_eq : words1.filter isCode = codes1 := rfl
theorem w_codes : ∀ c ∈ words1.filter isCode, c.before args0 about1 = true := by
  rw [codes_eq]
  intro c hc
  simp only [codes1, List.mem_cons, List.not_mem_nil, or_false] at hc
  rcases hc with rfl | rfl | rfl | rfl | rfl | rfl | rfl | rfl | rfl | rfl | rfl | rfl | rfl | rfl
  · exact w_c0
  · exact w_c1
  · exact w_c2
  · exact w_c3
  · exact w_c4
  · exact w_c5
  · exact w_c6
  · exact w_c7
  · exact w_c8
  · exact w_c9
  · exact w_c10
  · exact w_c11
  · exact w_c12
  · exact w_c13
set_option maxRecDepth 65536 in
theorem w_t1 : (words1.take 24).all (fun c => isCode c || c.before args0 about1) = true := by decide +kernel
set_option maxRecDepth 65536 in
theorem w_t2 : ((words1.drop 24).take 24).all (fun c => isCode c || c.before args0 about1) = true := by decide +kernel
set_option maxRecDepth 65536 in
theorem w_t3 : (((words1.drop 24).drop 24).take 24).all (fun c => isCode c || c.before args0 about1) = true := by decide +kernel
set_option maxRecDepth 65536 in
theorem w_t4 : ((((words1.drop 24).drop 24).drop 24).take 24).all (fun c => isCode c || c.before args0 about1) = true := by decide +kernel
set_option maxRecDepth 65536 in
theorem w_t5 : ((((words1.drop 24).drop 24).drop 24).drop 24).all (fun c => isCode c || c.before args0 about1) = true := by decide +kernel
theorem w_tables : (allAtoms (Jvm.Cond.code x code maxLocals ret :: tables_1)).before args0 about1 = true := by
  rw [allAtoms_all]
  show words1.all (fun c => c.before args0 about1) = true
  refine all_split ?_ w_codes
  rw [← List.take_append_drop 24 words1, List.all_append, w_t1, ← List.take_append_drop 24 (words1.drop 24), List.all_append, w_t2, ← List.take_append_drop 24 ((words1.drop 24).drop 24), List.all_append, w_t3, ← List.take_append_drop 24 (((words1.drop 24).drop 24).drop 24), List.all_append, w_t4, w_t5]
  rfl
set_option maxRecDepth 65536 in
theorem w_case : (Jvm.Cond.and given_1 narrow_1).before args0 about1 = true := by decide +kernel
theorem w_applies : (headSpec (Jvm.Cond.code x code maxLocals ret :: tables_1) room_1).applies x e0.platform about1 = true :=
  (Spec.applies_iff w_frames).mpr ⟨w_running, w_runnable, w_alone, w_named, w_hears, w_ripe, w_room, w_tables⟩
theorem atStart : AtStart classFile x code maxLocals ret World_1 tables_1 room_1 Calls_1 rest_1 Pre_1 launch0 p0 e0 about1 theMethod args0 below0 :=
  ⟨lists_1, trivial, launch0.admits_env _ _ _, launch0.least_env, fairChoices_fair.cas, fairChoices_fair.clock, w_frames, w_args, w_heap, w_applies, trivial, trivial, w_case⟩
end start1
theorem witness_1 : WitnessClaimed_1 := ⟨start1.p0, start1.e0, start1.about1, start1.theMethod, start1.args0, start1.below0, start1.atStart⟩
end Jvm.Pilot.@@N@@
