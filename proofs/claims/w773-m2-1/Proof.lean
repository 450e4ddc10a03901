import JvmDerived
import JvmDerived.Pilot.@@N@@Statement
import JvmDerived.Pilot.@@N@@Code
set_option linter.unusedVariables false
set_option linter.unusedSimpArgs false
namespace Jvm.Pilot.@@N@@
open Jvm Jvm.ClassFile Sem Op Lib Jvm.Free Jvm.Stand Jvm.LawKit Jvm.RoadKit Bundle Jvm.Pilot.@@N@@.Jvm.D
/-! THE OWN LAYER (printed by own/gen_layer.py): Wp: from this pc, with these locals, this operand stack and these new objects, the body comes to its return and Q holds of what it returns and of the new objects then -/
def locL : List Value → List Slot
  | [] => []
  | v :: vs => (if v.category = 2 then [.val v, .second] else [.val v]) ++ locL vs
theorem entry_fold (as' : List Value) : ∀ acc : Array Slot, as'.foldl (fun acc v => if v.category = 2 then (acc.push (.val v)).push .second else acc.push (.val v)) acc = acc ++ (locL as').toArray := by
  induction as' with
  | nil => intro acc; simp [locL]
  | cons v vs ih =>
    intro acc
    rw [List.foldl_cons, ih, locL]
    by_cases h : v.category = 2
    · simp [h]
    · simp [h]
theorem entry_loc (m : MethodId) (as' : List Value) (maxL : Nat) : entryFrame m as'.toArray maxL = mkF m 0 (locL as' ++ List.replicate (maxL - (locL as').length) Slot.unset).toArray [] := by
  have e : (as'.toArray.foldl (fun (acc : Array Slot) v => if v.category = 2 then (acc.push (.val v)).push .second else acc.push (.val v)) #[]) = (locL as').toArray := by
    rw [← Array.foldl_toList]
    show as'.foldl _ _ = _
    rw [entry_fold]; simp
  show mkF m 0 (argsToLocals as'.toArray maxL) [] = _
  unfold argsToLocals
  simp only [e]
  congr 1
  simp
abbrev OSig := List (String × String × String)
abbrev ObjB := (String × OSig × List Value) ⊕ ((FieldType × List Int32) ⊕ (List Int64 ⊕ (String × FieldType × List Value)))
/-- an object of the walk: true: made by it (it may be written); false: only read -/
abbrev Obj := Bool × ObjB
abbrev oI (C : String) (sg : OSig) (vs : List Value) : Obj := (true, .inl (C, sg, vs))
abbrev oA (ty : FieldType) (xs : List Int32) : Obj := (true, .inr (.inl (ty, xs)))
abbrev oJ (xs : List Int64) : Obj := (true, .inr (.inr (.inl xs)))
abbrev oR (C : String) (ty : FieldType) (vs : List Value) : Obj := (true, .inr (.inr (.inr (C, ty, vs))))
abbrev fI (C : String) (sg : OSig) (vs : List Value) : Obj := (false, .inl (C, sg, vs))
abbrev fA (ty : FieldType) (xs : List Int32) : Obj := (false, .inr (.inl (ty, xs)))
abbrev OH := List (Addr × Obj)
def Slo (Z : State) (sg : OSig) : Prop := sg.Pairwise fun f g => Jvm.RoadKit.slotOf Z f.1 f.2.1 f.2.2 ≠ Jvm.RoadKit.slotOf Z g.1 g.2.1 g.2.2
def OvrT (Z : State) (cA : ClassId) (C : String) (ty : FieldType) : Prop := ∃ (k : Class) (comp : ClassId), Z.vm.classes[cA]? = some k ∧ k.kind = .array comp ty ∧ Z.vm.findClass C = some comp
def Sat (Z : State) (h : Heap) (a : Addr) : ObjB → Prop
  | .inl (C, sg, vs) => Exa Z h a C ∧ Slo Z sg ∧ ∀ (i : Nat) (f : String × String × String) (v : Value), sg[i]? = some f → vs[i]? = some v → Fld Z h a f.1 f.2.1 f.2.2 v
  | .inr (.inl (ty, xs)) => (ty = .byte ∨ Exa Z h a ("[" ++ ty.toString)) ∧ ∃ c : Cell, Arr Z h a c ty ∧ c.slots = (xs.map Value.int).toArray ∧ ∀ x ∈ xs, fits ty (.int x) = true
  | .inr (.inr (.inl xs)) => Exa Z h a "[J" ∧ ∃ c : Cell, Arr Z h a c .long ∧ c.slots = (xs.map Value.long).toArray
  | .inr (.inr (.inr (C, ty, vs))) => Exa Z h a ("[" ++ ty.toString) ∧ ∃ c : Cell, Arr Z h a c ty ∧ OvrT Z c.cls C ty ∧ c.slots = vs.toArray ∧ ∀ v ∈ vs, v.isRef = true
def Hp (Z : State) (h : Heap) (H : OH) : Prop := Ext Z.heap h ∧ (∀ x ∈ H, (x.2.1 = true → Z.heap.size ≤ x.1) ∧ Sat Z h x.1 x.2.2) ∧ H.Pairwise fun x y => (x.2.1 = true ∨ y.2.1 = true) → x.1 ≠ y.1
theorem Sat.ext {Z : State} {h h' : Heap} {a : Addr} (E : Ext h h') : ∀ {o : ObjB}, Sat Z h a o → Sat Z h' a o
  | .inl (C, sg, vs), ⟨h1, h2, h3⟩ => ⟨h1.ext E, h2, fun i f v q r => (h3 i f v q r).ext E⟩
  | .inr (.inl (ty, xs)), ⟨q, c, h1, h2⟩ => ⟨q.imp id (·.ext E), c, h1.ext E, h2⟩
  | .inr (.inr (.inl xs)), ⟨q, c, h1, h2⟩ => ⟨q.ext E, c, h1.ext E, h2⟩
  | .inr (.inr (.inr (C, ty, vs))), ⟨q, c, h1, h2⟩ => ⟨q.ext E, c, h1.ext E, h2⟩
theorem Sat.other {Z : State} {h h' : Heap} {a b : Addr} {sl : Nat} {v : Value} (W : Wr h h' a sl v) (ne : b ≠ a) : ∀ {o : ObjB}, Sat Z h b o → Sat Z h' b o
  | .inl (C, sg, vs), ⟨h1, h2, h3⟩ => ⟨h1.wr W, h2, fun i f v q r => (h3 i f v q r).other W (Or.inl ne)⟩
  | .inr (.inl (ty, xs)), ⟨q, c, h1, h2⟩ => ⟨q.imp id (·.wr W), c, h1.other W ne, h2⟩
  | .inr (.inr (.inl xs)), ⟨q, c, h1, h2⟩ => ⟨q.wr W, c, h1.other W ne, h2⟩
  | .inr (.inr (.inr (C, ty, vs))), ⟨q, c, h1, h2⟩ => ⟨q.wr W, c, h1.other W ne, h2⟩
theorem Sat.lt {Z : State} {h : Heap} {a : Addr} : ∀ {o : ObjB}, Sat Z h a o → a < h.size
  | .inl (C, sg, vs), ⟨h1, h2, h3⟩ => h1.lt
  | .inr (.inl (ty, xs)), ⟨_, c, h1, _⟩ => h1.lt
  | .inr (.inr (.inl xs)), ⟨q, _⟩ => q.lt
  | .inr (.inr (.inr (C, ty, vs))), ⟨q, _⟩ => q.lt
theorem Hp.nil (Z : State) : Hp Z Z.heap [] := ⟨⟨Nat.le_refl _, fun _ _ q => q⟩, (fun _ q => nomatch q), List.Pairwise.nil⟩
theorem ext_trans {h h1 h2 : Heap} (E : Ext h h1) (E' : Ext h1 h2) : Ext h h2 := ⟨Nat.le_trans E.1 E'.1, fun a c q => E'.2 a c (E.2 a c q)⟩
theorem Hp.ext {Z : State} {h h' : Heap} {H : OH} (P : Hp Z h H) (E : Ext h h') : Hp Z h' H := ⟨ext_trans P.1 E, fun x q => ⟨(P.2.1 x q).1, (P.2.1 x q).2.ext E⟩, P.2.2⟩
theorem Hp.cons {Z : State} {h h' : Heap} {H : OH} (P : Hp Z h H) (E : Ext h h') {fl : Bool} {o : ObjB} (S : Sat Z h' h.size o) : Hp Z h' ((h.size, (fl, o)) :: H) :=
  ⟨ext_trans P.1 E, fun x q => (List.mem_cons.mp q).elim (fun e => by subst e; exact ⟨fun _ => P.1.1, S⟩) fun q => ⟨(P.2.1 x q).1, (P.2.1 x q).2.ext E⟩,
    List.Pairwise.cons (fun y q _ e => absurd ((P.2.1 y q).2.lt) (by rw [← e]; exact Nat.lt_irrefl _)) P.2.2⟩
theorem Hp.at {Z : State} {h : Heap} {H : OH} (P : Hp Z h H) {i : Nat} {x : Addr × Obj} (q : H[i]? = some x) : (x.2.1 = true → Z.heap.size ≤ x.1) ∧ Sat Z h x.1 x.2.2 := P.2.1 x (List.mem_of_getElem? q)
theorem Hp.ne {Z : State} {h : Heap} {H : OH} (P : Hp Z h H) {i j : Nat} {x y : Addr × Obj} (q : H[i]? = some x) (r : H[j]? = some y) (ht : x.2.1 = true ∨ y.2.1 = true) (ij : i ≠ j) : x.1 ≠ y.1 := by
  have hP := List.pairwise_iff_getElem.mp P.2.2
  obtain ⟨hi, rfl⟩ := List.getElem?_eq_some_iff.mp q
  obtain ⟨hj, rfl⟩ := List.getElem?_eq_some_iff.mp r
  rcases Nat.lt_or_gt_of_ne ij with u | u
  · exact hP i j hi hj u ht
  · exact fun e => hP j i hj hi u ht.symm e.symm
theorem Hp.set {Z : State} {h h' : Heap} {H : OH} (P : Hp Z h H) {i : Nat} {a : Addr} {o o' : ObjB} (q : H[i]? = some (a, (true, o))) {sl : Nat} {v : Value} (W : Wr h h' a sl v) (S : Sat Z h' a o') : Hp Z h' (H.set i (a, (true, o'))) := by
  have g : Z.heap.size ≤ a := (P.at q).1 rfl
  obtain ⟨hi, hq⟩ := List.getElem?_eq_some_iff.mp q
  refine ⟨⟨by rw [W.size]; exact P.1.1, fun b c r => ?_⟩, fun x hx => ?_, ?_⟩
  · obtain ⟨c', e1, -, -, -, e5, -⟩ := wr_at W (P.1.2 b c r)
    have : b < Z.heap.size := (Array.getElem?_eq_some_iff.mp r).1
    rw [← e5 (by rintro rfl; exact absurd this (Nat.not_lt.mpr g))]; exact e1
  · obtain ⟨n, hn⟩ := List.getElem?_of_mem hx
    rw [List.getElem?_set] at hn
    split at hn
    · have e0 : (a, (true, o')) = x := by simpa [hi] using hn
      subst e0; exact ⟨fun _ => g, S⟩
    · rename_i ne
      exact ⟨(P.at hn).1, (P.at hn).2.other W (P.ne hn q (Or.inr rfl) (Ne.symm ne))⟩
  · have e : (H.set i (a, (true, o'))).map (fun x => (x.1, x.2.1)) = H.map (fun x => (x.1, x.2.1)) := by
      rw [List.map_set]
      refine List.ext_getElem? fun n => ?_
      rw [List.getElem?_set]
      split
      · rename_i e; subst e
        simp [hi, hq]
      · rfl
    have h1 : (H.map (fun x => (x.1, x.2.1))).Pairwise (fun u v => (u.2 = true ∨ v.2 = true) → u.1 ≠ v.1) := List.pairwise_map.mpr P.2.2
    rw [← e] at h1
    exact List.pairwise_map.mp h1
theorem Hp.pick {Z : State} {h : Heap} {H : OH} (P : Hp Z h H) (is : List Nat) (hn : is.Nodup) : Hp Z h (is.filterMap fun i => H[i]?) := by
  refine ⟨P.1, fun x hx => ?_, ?_⟩
  · obtain ⟨i, -, q⟩ := List.mem_filterMap.mp hx
    exact P.at q
  · refine List.pairwise_filterMap.mpr (hn.imp fun {i j} ne x hx y hy ht => P.ne hx hy ht ne)
/-- what an instruction says: its constructor, its length, the next pc -/
def Dc (bytes : ByteArray) (pc : Nat) (i : Instr) (n pc' : Nat) : Prop := decode bytes pc = .ok (i, n) ∧ pc + n = pc'
def Tg (pc : Nat) (o : Int) (pc' : Nat) : Prop := 0 ≤ (pc : Int) + o ∧ ((pc : Int) + o).toNat = pc'
/-- the walk's mode: none: it loads no String constant; some none: it may; some (some Ts): it has loaded these texts and no others -/
abbrev Md := Option (Option (List String))
def MdOk (b : Md) (Z s : State) (vm0 : Vm) : Prop := ∀ Ts, b = some (some Ts) → s.heap = Z.heap ∧ Jvm.RoadKit.IB Z vm0 Ts
def Wp (b : Md) (l : Launch) (Z : State) (own nm : String) (bytes : ByteArray) (maxL : Nat) (ret : Option FieldType) (R : Room) (H : OH) (k j : Nat) (pc : Nat) (Ls : Array Slot) (st : List Value) (Q : Option Value → OH → Prop) : Prop :=
  ∀ (p : Program) (e : Env) (s : State) (vm0 : Vm) (k0 : Nat) (m : MethodId) (args : Array Value) (below : List Frame) (meth : Method) (c : Code) (T : State) (L : List Loc),
    p.tables.exec = Jvm.exec → Z.Warmed39 vm0 → s.Since vm0 k0 → k0 ≤ T.heap.size → c.code = bytes → c.maxLocals = maxL → vm0.findClass own = some m.cls → meth.name = nm → meth.sig.returnType = ret →
    Stand p l e R (s.setVm vm0) m args below meth c T L k j → Fr Z.heap.size L → Hp Z T.heap H → MdOk b Z s vm0 →
    ∃ (T' : State) (v : Option Value) (L' : List Loc) (k' j' : Nat) (vm1 : Vm) (k1 : Nat) (H' : OH),
      (s.Since vm1 k1 ∧ k1 ≤ T'.heap.size ∧ (b = none → vm1 = vm0)) ∧ Stand p l e R (s.setVm vm1) m args below meth c T' L' k' j' ∧ (k' ≤ R.cells ∧ j' ≤ R.slots ∧ T.heap.size ≤ T'.heap.size) ∧ Fr Z.heap.size L' ∧ Hp Z T'.heap H' ∧ (ret = none → v = none) ∧ Q v H' ∧
      ∀ fs, (∀ (f : JFrame) (acts : List Action), f.method = m → f.locked = none → f.entered = [] → (doReturn e (T'.setTop f) acts v).1 = T'.setFrames fs) → Steps p.tables e below (T.setTop (mkF m pc Ls st)) (T'.setFrames fs)
section Own
variable {b : Md} {l : Launch} {Z : State} {a0 : Array Value} {own nm : String} {bytes : ByteArray} {maxL : Nat} {ret : Option FieldType} {R : Room} {H : OH} {k j pc pc' : Nat} {Ls : Array Slot} {st : List Value} {Q : Option Value → OH → Prop}
theorem Wp.stepH
    (hs : ∀ (p : Program) (e : Env) (s : State) (m : MethodId) (args : Array Value) (below : List Frame) (meth : Method) (c : Code) (T : State) (L : List Loc),
      p.tables.exec = Jvm.exec → Z.Warmed39 s.vm → c.code = bytes → c.maxLocals = maxL → s.vm.findClass own = some m.cls → meth.name = nm → meth.sig.returnType = ret →
      Stand p l e R s m args below meth c T L k j → Fr Z.heap.size L → Hp Z T.heap H →
      ∃ (T' : State) (L' : List Loc) (k' j' : Nat) (H' : OH) (pc' : Nat) (Ls' : Array Slot) (st' : List Value), Stand p l e R s m args below meth c T' L' k' j' ∧ T.heap.size ≤ T'.heap.size ∧ Fr Z.heap.size L' ∧ Hp Z T'.heap H' ∧ Wp b l Z own nm bytes maxL ret R H' k' j' pc' Ls' st' Q ∧
        ∀ target, Steps p.tables e below (T'.setTop (mkF m pc' Ls' st')) target → Steps p.tables e below (T.setTop (mkF m pc Ls st)) target) :
    Wp b l Z own nm bytes maxL ret R H k j pc Ls st Q := by
  intro p e s vm0 k0 m args below meth c T L hx hZ hS hk hby hml hown hnm hret X N hH hB
  obtain ⟨T', L', k', j', H', pc', Ls', st', X', hsz, N', hH', hr, stp⟩ := hs p e (s.setVm vm0) m args below meth c T L hx hZ hby hml hown hnm hret X N hH
  obtain ⟨T2, v, L2, k2, j2, vm1, k1, H2, r1, r2, ⟨r3, r4, r5⟩, r6, r7, r8, r9, r10⟩ := hr p e s vm0 k0 m args below meth c T' L' hx hZ hS (Nat.le_trans hk hsz) hby hml hown hnm hret X' N' hH' hB
  exact ⟨T2, v, L2, k2, j2, vm1, k1, H2, r1, r2, ⟨r3, r4, Nat.le_trans hsz r5⟩, r6, r7, r8, r9, fun fs hl => stp _ (r10 fs hl)⟩
theorem Wp.step {Ls' : Array Slot} {st' : List Value}
    (hs : ∀ (p : Program) (e : Env) (s : State) (m : MethodId) (args : Array Value) (below : List Frame) (meth : Method) (c : Code) (T : State) (L : List Loc),
      p.tables.exec = Jvm.exec → Z.Warmed39 s.vm → c.code = bytes → s.vm.findClass own = some m.cls → Stand p l e R s m args below meth c T L k j → Hp Z T.heap H →
        ∀ target, Steps p.tables e below (T.setTop (mkF m pc' Ls' st')) target → Steps p.tables e below (T.setTop (mkF m pc Ls st)) target)
    (hr : Wp b l Z own nm bytes maxL ret R H k j pc' Ls' st' Q) : Wp b l Z own nm bytes maxL ret R H k j pc Ls st Q :=
  Wp.stepH fun p e s m args below meth c T L hx hZ hby hml hown hnm hret X N hH => ⟨T, L, k, j, H, pc', Ls', st', X, Nat.le_refl _, N, hH, hr, hs p e s m args below meth c T L hx hZ hby hown X hH⟩
theorem Wp.know {P : Prop} (hp : ∀ h, Hp Z h H → P) (hr : P → Wp b l Z own nm bytes maxL ret R H k j pc Ls st Q) : Wp b l Z own nm bytes maxL ret R H k j pc Ls st Q :=
  fun p e s vm0 k0 m args below meth c T L hx hZ hS hk hby hml hown hnm hret X N hH hB => hr (hp _ hH) p e s vm0 k0 m args below meth c T L hx hZ hS hk hby hml hown hnm hret X N hH hB
theorem Wp.pick (is : List Nat) (hn : is.Nodup) (hr : Wp b l Z own nm bytes maxL ret R (is.filterMap fun i => H[i]?) k j pc Ls st Q) : Wp b l Z own nm bytes maxL ret R H k j pc Ls st Q :=
  Wp.stepH fun p e s m args below meth c T L hx hZ hby hml hown hnm hret X N hH => ⟨T, L, k, j, _, pc, Ls, st, X, Nat.le_refl _, N, hH.pick is hn, hr, fun _ q => q⟩
theorem Wp.more {k' j' : Nat} (hk : k ≤ k') (hj : j ≤ j') (hr : Wp b l Z own nm bytes maxL ret R H k' j' pc Ls st Q) : Wp b l Z own nm bytes maxL ret R H k j pc Ls st Q :=
  Wp.stepH fun p e s m args below meth c T L hx hZ hby hml hown hnm hret X N hH => ⟨T, L, k', j', H, pc, Ls, st, X.more hk hj, Nat.le_refl _, N, hH, hr, fun _ q => q⟩
theorem Wp.mono {Q' : Option Value → OH → Prop} (hr : Wp b l Z own nm bytes maxL ret R H k j pc Ls st Q') (hq : ∀ v H', Q' v H' → Q v H') : Wp b l Z own nm bytes maxL ret R H k j pc Ls st Q :=
  fun p e s vm0 k0 m args below meth c T L hx hZ hS hk hby hml hown hnm hret X N hH hB => by
    obtain ⟨T2, v, L2, k2, j2, vm1, k1, H2, r1, r2, r3, r6, r7, r8, r9, r10⟩ := hr p e s vm0 k0 m args below meth c T L hx hZ hS hk hby hml hown hnm hret X N hH hB
    exact ⟨T2, v, L2, k2, j2, vm1, k1, H2, r1, r2, r3, r6, r7, r8, hq _ _ r9, r10⟩
theorem wp_iadd {x y : Int32} (hd : Dc bytes pc (.iadd) 1 pc')  (hr : Wp b l Z own nm bytes maxL ret R H k j pc' Ls (.int (x + y) :: st) Q) : Wp b l Z own nm bytes maxL ret R H k j pc Ls (.int y :: .int x :: st) Q := by
  obtain ⟨hd, rfl⟩ := hd
  exact Wp.step (fun p e s m args below meth c T L hx hZ hby hown X hH target ht => XS.iadd X.here hx rfl (hb hby hd) rfl ht) hr
theorem wp_isub {x y : Int32} (hd : Dc bytes pc (.isub) 1 pc')  (hr : Wp b l Z own nm bytes maxL ret R H k j pc' Ls (.int (x - y) :: st) Q) : Wp b l Z own nm bytes maxL ret R H k j pc Ls (.int y :: .int x :: st) Q := by
  obtain ⟨hd, rfl⟩ := hd
  exact Wp.step (fun p e s m args below meth c T L hx hZ hby hown X hH target ht => XS.isub X.here hx rfl (hb hby hd) rfl ht) hr
theorem wp_iand {x y : Int32} (hd : Dc bytes pc (.iand) 1 pc')  (hr : Wp b l Z own nm bytes maxL ret R H k j pc' Ls (.int (x &&& y) :: st) Q) : Wp b l Z own nm bytes maxL ret R H k j pc Ls (.int y :: .int x :: st) Q := by
  obtain ⟨hd, rfl⟩ := hd
  exact Wp.step (fun p e s m args below meth c T L hx hZ hby hown X hH target ht => XS.iand X.here hx rfl (hb hby hd) rfl ht) hr
theorem wp_imul {x y : Int32} (hd : Dc bytes pc (.imul) 1 pc')  (hr : Wp b l Z own nm bytes maxL ret R H k j pc' Ls (.int (x * y) :: st) Q) : Wp b l Z own nm bytes maxL ret R H k j pc Ls (.int y :: .int x :: st) Q := by
  obtain ⟨hd, rfl⟩ := hd
  exact Wp.step (fun p e s m args below meth c T L hx hZ hby hown X hH target ht => XS.imul X.here hx rfl (hb hby hd) rfl ht) hr
theorem wp_ixor {x y : Int32} (hd : Dc bytes pc (.ixor) 1 pc')  (hr : Wp b l Z own nm bytes maxL ret R H k j pc' Ls (.int (x ^^^ y) :: st) Q) : Wp b l Z own nm bytes maxL ret R H k j pc Ls (.int y :: .int x :: st) Q := by
  obtain ⟨hd, rfl⟩ := hd
  exact Wp.step (fun p e s m args below meth c T L hx hZ hby hown X hH target ht => XT.ixor X.here hx rfl (hb hby hd) rfl ht) hr
theorem wp_ior {x y : Int32} (hd : Dc bytes pc (.ior) 1 pc')  (hr : Wp b l Z own nm bytes maxL ret R H k j pc' Ls (.int (x ||| y) :: st) Q) : Wp b l Z own nm bytes maxL ret R H k j pc Ls (.int y :: .int x :: st) Q := by
  obtain ⟨hd, rfl⟩ := hd
  exact Wp.step (fun p e s m args below meth c T L hx hZ hby hown X hH target ht => XT.ior X.here hx rfl (hb hby hd) rfl ht) hr
theorem wp_ishl {x y : Int32} (hd : Dc bytes pc (.ishl) 1 pc')  (hr : Wp b l Z own nm bytes maxL ret R H k j pc' Ls (.int (x <<< (y &&& 31)) :: st) Q) : Wp b l Z own nm bytes maxL ret R H k j pc Ls (.int y :: .int x :: st) Q := by
  obtain ⟨hd, rfl⟩ := hd
  exact Wp.step (fun p e s m args below meth c T L hx hZ hby hown X hH target ht => XT.ishl X.here hx rfl (hb hby hd) rfl ht) hr
theorem wp_ishr {x y : Int32} (hd : Dc bytes pc (.ishr) 1 pc')  (hr : Wp b l Z own nm bytes maxL ret R H k j pc' Ls (.int (x >>> (y &&& 31)) :: st) Q) : Wp b l Z own nm bytes maxL ret R H k j pc Ls (.int y :: .int x :: st) Q := by
  obtain ⟨hd, rfl⟩ := hd
  exact Wp.step (fun p e s m args below meth c T L hx hZ hby hown X hH target ht => XT.ishr X.here hx rfl (hb hby hd) rfl ht) hr
theorem wp_iushr {x y : Int32} (hd : Dc bytes pc (.iushr) 1 pc')  (hr : Wp b l Z own nm bytes maxL ret R H k j pc' Ls (.int (XT.ushr x y) :: st) Q) : Wp b l Z own nm bytes maxL ret R H k j pc Ls (.int y :: .int x :: st) Q := by
  obtain ⟨hd, rfl⟩ := hd
  exact Wp.step (fun p e s m args below meth c T L hx hZ hby hown X hH target ht => XT.iushr X.here hx rfl (hb hby hd) rfl ht) hr
theorem wp_idiv {x y : Int32} (hd : Dc bytes pc (.idiv) 1 pc') (hy : y ≠ 0) (hr : Wp b l Z own nm bytes maxL ret R H k j pc' Ls (.int (x / y) :: st) Q) : Wp b l Z own nm bytes maxL ret R H k j pc Ls (.int y :: .int x :: st) Q := by
  obtain ⟨hd, rfl⟩ := hd
  exact Wp.step (fun p e s m args below meth c T L hx hZ hby hown X hH target ht => XS.idiv X.here hx rfl (hb hby hd) rfl hy ht) hr
theorem wp_irem {x y : Int32} (hd : Dc bytes pc (.irem) 1 pc') (hy : y ≠ 0) (hr : Wp b l Z own nm bytes maxL ret R H k j pc' Ls (.int (x % y) :: st) Q) : Wp b l Z own nm bytes maxL ret R H k j pc Ls (.int y :: .int x :: st) Q := by
  obtain ⟨hd, rfl⟩ := hd
  exact Wp.step (fun p e s m args below meth c T L hx hZ hby hown X hH target ht => iremM X hx rfl (hb hby hd) rfl hy ht) hr
theorem wp_ineg {x : Int32} (hd : Dc bytes pc (.ineg) 1 pc')  (hr : Wp b l Z own nm bytes maxL ret R H k j pc' Ls (.int (-x) :: st) Q) : Wp b l Z own nm bytes maxL ret R H k j pc Ls (.int x :: st) Q := by
  obtain ⟨hd, rfl⟩ := hd
  exact Wp.step (fun p e s m args below meth c T L hx hZ hby hown X hH target ht => XS.ineg X.here hx rfl (hb hby hd) rfl ht) hr
theorem wp_ladd {x y : Int64} (hd : Dc bytes pc (.ladd) 1 pc')  (hr : Wp b l Z own nm bytes maxL ret R H k j pc' Ls (.long (x + y) :: st) Q) : Wp b l Z own nm bytes maxL ret R H k j pc Ls (.long y :: .long x :: st) Q := by
  obtain ⟨hd, rfl⟩ := hd
  exact Wp.step (fun p e s m args below meth c T L hx hZ hby hown X hH target ht => XT.ladd X.here hx rfl (hb hby hd) rfl ht) hr
theorem wp_lsub {x y : Int64} (hd : Dc bytes pc (.lsub) 1 pc')  (hr : Wp b l Z own nm bytes maxL ret R H k j pc' Ls (.long (x - y) :: st) Q) : Wp b l Z own nm bytes maxL ret R H k j pc Ls (.long y :: .long x :: st) Q := by
  obtain ⟨hd, rfl⟩ := hd
  exact Wp.step (fun p e s m args below meth c T L hx hZ hby hown X hH target ht => XT.lsub X.here hx rfl (hb hby hd) rfl ht) hr
theorem wp_lmul {x y : Int64} (hd : Dc bytes pc (.lmul) 1 pc')  (hr : Wp b l Z own nm bytes maxL ret R H k j pc' Ls (.long (x * y) :: st) Q) : Wp b l Z own nm bytes maxL ret R H k j pc Ls (.long y :: .long x :: st) Q := by
  obtain ⟨hd, rfl⟩ := hd
  exact Wp.step (fun p e s m args below meth c T L hx hZ hby hown X hH target ht => XT.lmul X.here hx rfl (hb hby hd) rfl ht) hr
theorem wp_land {x y : Int64} (hd : Dc bytes pc (.land) 1 pc')  (hr : Wp b l Z own nm bytes maxL ret R H k j pc' Ls (.long (x &&& y) :: st) Q) : Wp b l Z own nm bytes maxL ret R H k j pc Ls (.long y :: .long x :: st) Q := by
  obtain ⟨hd, rfl⟩ := hd
  exact Wp.step (fun p e s m args below meth c T L hx hZ hby hown X hH target ht => XT.land X.here hx rfl (hb hby hd) rfl ht) hr
theorem wp_lor {x y : Int64} (hd : Dc bytes pc (.lor) 1 pc')  (hr : Wp b l Z own nm bytes maxL ret R H k j pc' Ls (.long (x ||| y) :: st) Q) : Wp b l Z own nm bytes maxL ret R H k j pc Ls (.long y :: .long x :: st) Q := by
  obtain ⟨hd, rfl⟩ := hd
  exact Wp.step (fun p e s m args below meth c T L hx hZ hby hown X hH target ht => XT.lor X.here hx rfl (hb hby hd) rfl ht) hr
theorem wp_lxor {x y : Int64} (hd : Dc bytes pc (.lxor) 1 pc')  (hr : Wp b l Z own nm bytes maxL ret R H k j pc' Ls (.long (x ^^^ y) :: st) Q) : Wp b l Z own nm bytes maxL ret R H k j pc Ls (.long y :: .long x :: st) Q := by
  obtain ⟨hd, rfl⟩ := hd
  exact Wp.step (fun p e s m args below meth c T L hx hZ hby hown X hH target ht => XT.lxor X.here hx rfl (hb hby hd) rfl ht) hr
theorem wp_lshl {x : Int64} {y : Int32} (hd : Dc bytes pc (.lshl) 1 pc')  (hr : Wp b l Z own nm bytes maxL ret R H k j pc' Ls (.long (x <<< (y.toInt64 &&& 63)) :: st) Q) : Wp b l Z own nm bytes maxL ret R H k j pc Ls (.int y :: .long x :: st) Q := by
  obtain ⟨hd, rfl⟩ := hd
  exact Wp.step (fun p e s m args below meth c T L hx hZ hby hown X hH target ht => XT.lshl X.here hx rfl (hb hby hd) rfl ht) hr
theorem wp_lshr {x : Int64} {y : Int32} (hd : Dc bytes pc (.lshr) 1 pc')  (hr : Wp b l Z own nm bytes maxL ret R H k j pc' Ls (.long (x >>> (y.toInt64 &&& 63)) :: st) Q) : Wp b l Z own nm bytes maxL ret R H k j pc Ls (.int y :: .long x :: st) Q := by
  obtain ⟨hd, rfl⟩ := hd
  exact Wp.step (fun p e s m args below meth c T L hx hZ hby hown X hH target ht => XT.lshr X.here hx rfl (hb hby hd) rfl ht) hr
theorem wp_lushr {x : Int64} {y : Int32} (hd : Dc bytes pc (.lushr) 1 pc')  (hr : Wp b l Z own nm bytes maxL ret R H k j pc' Ls (.long (XT.ushrL x y) :: st) Q) : Wp b l Z own nm bytes maxL ret R H k j pc Ls (.int y :: .long x :: st) Q := by
  obtain ⟨hd, rfl⟩ := hd
  exact Wp.step (fun p e s m args below meth c T L hx hZ hby hown X hH target ht => XT.lushr X.here hx rfl (hb hby hd) rfl ht) hr
theorem wp_ldiv {x y : Int64} (hd : Dc bytes pc (.ldiv) 1 pc') (hy : y ≠ 0) (hr : Wp b l Z own nm bytes maxL ret R H k j pc' Ls (.long (x / y) :: st) Q) : Wp b l Z own nm bytes maxL ret R H k j pc Ls (.long y :: .long x :: st) Q := by
  obtain ⟨hd, rfl⟩ := hd
  exact Wp.step (fun p e s m args below meth c T L hx hZ hby hown X hH target ht => XT.ldiv X.here hx rfl (hb hby hd) rfl hy ht) hr
theorem wp_lrem {x y : Int64} (hd : Dc bytes pc (.lrem) 1 pc') (hy : y ≠ 0) (hr : Wp b l Z own nm bytes maxL ret R H k j pc' Ls (.long (x - (x / y) * y) :: st) Q) : Wp b l Z own nm bytes maxL ret R H k j pc Ls (.long y :: .long x :: st) Q := by
  obtain ⟨hd, rfl⟩ := hd
  exact Wp.step (fun p e s m args below meth c T L hx hZ hby hown X hH target ht => XT.lrem X.here hx rfl (hb hby hd) rfl hy ht) hr
theorem wp_lneg {x : Int64} (hd : Dc bytes pc (.lneg) 1 pc')  (hr : Wp b l Z own nm bytes maxL ret R H k j pc' Ls (.long (-x) :: st) Q) : Wp b l Z own nm bytes maxL ret R H k j pc Ls (.long x :: st) Q := by
  obtain ⟨hd, rfl⟩ := hd
  exact Wp.step (fun p e s m args below meth c T L hx hZ hby hown X hH target ht => XT.lneg X.here hx rfl (hb hby hd) rfl ht) hr
theorem wp_i2l {x : Int32} (hd : Dc bytes pc (.i2l) 1 pc')  (hr : Wp b l Z own nm bytes maxL ret R H k j pc' Ls (.long x.toInt64 :: st) Q) : Wp b l Z own nm bytes maxL ret R H k j pc Ls (.int x :: st) Q := by
  obtain ⟨hd, rfl⟩ := hd
  exact Wp.step (fun p e s m args below meth c T L hx hZ hby hown X hH target ht => XT.i2l X.here hx rfl (hb hby hd) rfl ht) hr
theorem wp_l2i {x : Int64} (hd : Dc bytes pc (.l2i) 1 pc')  (hr : Wp b l Z own nm bytes maxL ret R H k j pc' Ls (.int x.toInt32 :: st) Q) : Wp b l Z own nm bytes maxL ret R H k j pc Ls (.long x :: st) Q := by
  obtain ⟨hd, rfl⟩ := hd
  exact Wp.step (fun p e s m args below meth c T L hx hZ hby hown X hH target ht => XT.l2i X.here hx rfl (hb hby hd) rfl ht) hr
theorem wp_i2b {x : Int32} (hd : Dc bytes pc (.i2b) 1 pc')  (hr : Wp b l Z own nm bytes maxL ret R H k j pc' Ls (.int x.toInt8.toInt32 :: st) Q) : Wp b l Z own nm bytes maxL ret R H k j pc Ls (.int x :: st) Q := by
  obtain ⟨hd, rfl⟩ := hd
  exact Wp.step (fun p e s m args below meth c T L hx hZ hby hown X hH target ht => XT.i2b X.here hx rfl (hb hby hd) rfl ht) hr
theorem wp_i2c {x : Int32} (hd : Dc bytes pc (.i2c) 1 pc')  (hr : Wp b l Z own nm bytes maxL ret R H k j pc' Ls (.int x.toUInt32.toUInt16.toUInt32.toInt32 :: st) Q) : Wp b l Z own nm bytes maxL ret R H k j pc Ls (.int x :: st) Q := by
  obtain ⟨hd, rfl⟩ := hd
  exact Wp.step (fun p e s m args below meth c T L hx hZ hby hown X hH target ht => XT.i2c X.here hx rfl (hb hby hd) rfl ht) hr
theorem wp_i2s {x : Int32} (hd : Dc bytes pc (.i2s) 1 pc')  (hr : Wp b l Z own nm bytes maxL ret R H k j pc' Ls (.int x.toInt16.toInt32 :: st) Q) : Wp b l Z own nm bytes maxL ret R H k j pc Ls (.int x :: st) Q := by
  obtain ⟨hd, rfl⟩ := hd
  exact Wp.step (fun p e s m args below meth c T L hx hZ hby hown X hH target ht => XT.i2s X.here hx rfl (hb hby hd) rfl ht) hr
theorem wp_lcmp {x y : Int64} (hd : Dc bytes pc (.lcmp) 1 pc')  (hr : Wp b l Z own nm bytes maxL ret R H k j pc' Ls (.int (XT.cmpL x y) :: st) Q) : Wp b l Z own nm bytes maxL ret R H k j pc Ls (.long y :: .long x :: st) Q := by
  obtain ⟨hd, rfl⟩ := hd
  exact Wp.step (fun p e s m args below meth c T L hx hZ hby hown X hH target ht => XT.lcmp X.here hx rfl (hb hby hd) rfl ht) hr
theorem wp_iload_n {n : Fin 4} {v : Int32} (hd : Dc bytes pc (.iload_n n) 1 pc') (hl : Ls[n.val]? = some (.val (.int v))) (hr : Wp b l Z own nm bytes maxL ret R H k j pc' Ls (.int v :: st) Q) : Wp b l Z own nm bytes maxL ret R H k j pc Ls st Q := by
  obtain ⟨hd, rfl⟩ := hd
  exact Wp.step (fun p e s m args below meth c T L hx hZ hby hown X hH target ht => XS.iloadN X.here hx rfl (hb hby hd) hl ht) hr
theorem wp_iload {n : Nat} {v : Int32} (hd : Dc bytes pc (.iload n) 2 pc') (hl : Ls[n]? = some (.val (.int v))) (hr : Wp b l Z own nm bytes maxL ret R H k j pc' Ls (.int v :: st) Q) : Wp b l Z own nm bytes maxL ret R H k j pc Ls st Q := by
  obtain ⟨hd, rfl⟩ := hd
  exact Wp.step (fun p e s m args below meth c T L hx hZ hby hown X hH target ht => XS.iload X.here hx rfl (hb hby hd) hl ht) hr
theorem wp_lload_n {n : Fin 4} {v : Int64} (hd : Dc bytes pc (.lload_n n) 1 pc') (hl : Ls[n.val]? = some (.val (.long v))) (hr : Wp b l Z own nm bytes maxL ret R H k j pc' Ls (.long v :: st) Q) : Wp b l Z own nm bytes maxL ret R H k j pc Ls st Q := by
  obtain ⟨hd, rfl⟩ := hd
  exact Wp.step (fun p e s m args below meth c T L hx hZ hby hown X hH target ht => XT.lloadN X.here hx rfl (hb hby hd) hl ht) hr
theorem wp_lload {n : Nat} {v : Int64} (hd : Dc bytes pc (.lload n) 2 pc') (hl : Ls[n]? = some (.val (.long v))) (hr : Wp b l Z own nm bytes maxL ret R H k j pc' Ls (.long v :: st) Q) : Wp b l Z own nm bytes maxL ret R H k j pc Ls st Q := by
  obtain ⟨hd, rfl⟩ := hd
  exact Wp.step (fun p e s m args below meth c T L hx hZ hby hown X hH target ht => XT.lload X.here hx rfl (hb hby hd) hl ht) hr
theorem wp_aload_n {n : Fin 4} {v : Value} (hd : Dc bytes pc (.aload_n n) 1 pc') (hl : Ls[n.val]? = some (.val v)) (hv : v.isRef = true) (hr : Wp b l Z own nm bytes maxL ret R H k j pc' Ls (v :: st) Q) : Wp b l Z own nm bytes maxL ret R H k j pc Ls st Q := by
  obtain ⟨hd, rfl⟩ := hd
  exact Wp.step (fun p e s m args below meth c T L hx hZ hby hown X hH target ht => XS.aloadN X.here hx rfl (hb hby hd) hl hv ht) hr
theorem wp_aload {n : Nat} {v : Value} (hd : Dc bytes pc (.aload n) 2 pc') (hl : Ls[n]? = some (.val v)) (hv : v.isRef = true) (hr : Wp b l Z own nm bytes maxL ret R H k j pc' Ls (v :: st) Q) : Wp b l Z own nm bytes maxL ret R H k j pc Ls st Q := by
  obtain ⟨hd, rfl⟩ := hd
  exact Wp.step (fun p e s m args below meth c T L hx hZ hby hown X hH target ht => XS.aload X.here hx rfl (hb hby hd) hl hv ht) hr
theorem wp_istore_n {n : Fin 4} {x : Int32} (Ls' : Array Slot) (hd : Dc bytes pc (.istore_n n) 1 pc') (hl : storeLocals Ls n.val (.int x) = some Ls') (hr : Wp b l Z own nm bytes maxL ret R H k j pc' Ls' st Q) : Wp b l Z own nm bytes maxL ret R H k j pc Ls (.int x :: st) Q := by
  obtain ⟨hd, rfl⟩ := hd
  exact Wp.step (fun p e s m args below meth c T L hx hZ hby hown X hH target ht => XS.istoreN X.here hx rfl (hb hby hd) rfl hl ht) hr
theorem wp_istore {n : Nat} {x : Int32} (Ls' : Array Slot) (hd : Dc bytes pc (.istore n) 2 pc') (hl : storeLocals Ls n (.int x) = some Ls') (hr : Wp b l Z own nm bytes maxL ret R H k j pc' Ls' st Q) : Wp b l Z own nm bytes maxL ret R H k j pc Ls (.int x :: st) Q := by
  obtain ⟨hd, rfl⟩ := hd
  exact Wp.step (fun p e s m args below meth c T L hx hZ hby hown X hH target ht => XS.istore X.here hx rfl (hb hby hd) rfl hl ht) hr
theorem wp_lstore_n {n : Fin 4} {x : Int64} (Ls' : Array Slot) (hd : Dc bytes pc (.lstore_n n) 1 pc') (hl : storeLocals Ls n.val (.long x) = some Ls') (hr : Wp b l Z own nm bytes maxL ret R H k j pc' Ls' st Q) : Wp b l Z own nm bytes maxL ret R H k j pc Ls (.long x :: st) Q := by
  obtain ⟨hd, rfl⟩ := hd
  exact Wp.step (fun p e s m args below meth c T L hx hZ hby hown X hH target ht => XT.lstoreN X.here hx rfl (hb hby hd) rfl hl ht) hr
theorem wp_lstore {n : Nat} {x : Int64} (Ls' : Array Slot) (hd : Dc bytes pc (.lstore n) 2 pc') (hl : storeLocals Ls n (.long x) = some Ls') (hr : Wp b l Z own nm bytes maxL ret R H k j pc' Ls' st Q) : Wp b l Z own nm bytes maxL ret R H k j pc Ls (.long x :: st) Q := by
  obtain ⟨hd, rfl⟩ := hd
  exact Wp.step (fun p e s m args below meth c T L hx hZ hby hown X hH target ht => XT.lstore X.here hx rfl (hb hby hd) rfl hl ht) hr
theorem wp_astore_n {n : Fin 4} {x : Value} (Ls' : Array Slot) (hd : Dc bytes pc (.astore_n n) 1 pc') (hv : x.isRef = true) (hl : storeLocals Ls n.val x = some Ls') (hr : Wp b l Z own nm bytes maxL ret R H k j pc' Ls' st Q) : Wp b l Z own nm bytes maxL ret R H k j pc Ls (x :: st) Q := by
  obtain ⟨hd, rfl⟩ := hd
  exact Wp.step (fun p e s m args below meth c T L hx hZ hby hown X hH target ht => XS.astoreN X.here hx rfl (hb hby hd) rfl hv hl ht) hr
theorem wp_astore {n : Nat} {x : Value} (Ls' : Array Slot) (hd : Dc bytes pc (.astore n) 2 pc') (hv : x.isRef = true) (hl : storeLocals Ls n x = some Ls') (hr : Wp b l Z own nm bytes maxL ret R H k j pc' Ls' st Q) : Wp b l Z own nm bytes maxL ret R H k j pc Ls (x :: st) Q := by
  obtain ⟨hd, rfl⟩ := hd
  exact Wp.step (fun p e s m args below meth c T L hx hZ hby hown X hH target ht => XS.astore X.here hx rfl (hb hby hd) rfl hv hl ht) hr
theorem wp_iinc {n : Nat} {c : Int} {x : Int32} (v : Int32) (Ls' : Array Slot) (hd : Dc bytes pc (.iinc n c) 3 pc') (hv : Int32.ofInt c = v) (hl : Ls[n]? = some (.val (.int x))) (hl' : storeLocals Ls n (.int (x + v)) = some Ls') (hr : Wp b l Z own nm bytes maxL ret R H k j pc' Ls' st Q) : Wp b l Z own nm bytes maxL ret R H k j pc Ls st Q := by
  obtain ⟨hd, rfl⟩ := hd
  exact Wp.step (fun p e s m args below meth c T L hx hZ hby hown X hH target ht => XT.iincV X.here hx rfl v (hb hby hd) hv hl hl' ht) hr
theorem wp_iconst {i : Int} (v : Int32) (hd : Dc bytes pc (.iconst i) 1 pc') (hv : Int32.ofInt i = v) (hr : Wp b l Z own nm bytes maxL ret R H k j pc' Ls (.int v :: st) Q) : Wp b l Z own nm bytes maxL ret R H k j pc Ls st Q := by
  obtain ⟨hd, rfl⟩ := hd
  exact Wp.step (fun p e s m args below meth c T L hx hZ hby hown X hH target ht => XT.iconstV X.here hx rfl v (hb hby hd) hv ht) hr
theorem wp_bipush {i : Int} (v : Int32) (hd : Dc bytes pc (.bipush i) 2 pc') (hv : (Int8.ofInt i).toInt32 = v) (hr : Wp b l Z own nm bytes maxL ret R H k j pc' Ls (.int v :: st) Q) : Wp b l Z own nm bytes maxL ret R H k j pc Ls st Q := by
  obtain ⟨hd, rfl⟩ := hd
  exact Wp.step (fun p e s m args below meth c T L hx hZ hby hown X hH target ht => XT.bipushV X.here hx rfl v (hb hby hd) hv ht) hr
theorem wp_sipush {i : Int} (v : Int32) (hd : Dc bytes pc (.sipush i) 3 pc') (hv : (Int16.ofInt i).toInt32 = v) (hr : Wp b l Z own nm bytes maxL ret R H k j pc' Ls (.int v :: st) Q) : Wp b l Z own nm bytes maxL ret R H k j pc Ls st Q := by
  obtain ⟨hd, rfl⟩ := hd
  exact Wp.step (fun p e s m args below meth c T L hx hZ hby hown X hH target ht => XT.sipushV X.here hx rfl v (hb hby hd) hv ht) hr
theorem wp_lconst {i : Fin 2} (v : Int64) (hd : Dc bytes pc (.lconst i) 1 pc') (hv : Int64.ofNat i = v) (hr : Wp b l Z own nm bytes maxL ret R H k j pc' Ls (.long v :: st) Q) : Wp b l Z own nm bytes maxL ret R H k j pc Ls st Q := by
  obtain ⟨hd, rfl⟩ := hd
  exact Wp.step (fun p e s m args below meth c T L hx hZ hby hown X hH target ht => XT.lconstV X.here hx rfl v (hb hby hd) hv ht) hr
theorem wp_aconst_null  (hd : Dc bytes pc (.aconst_null) 1 pc')  (hr : Wp b l Z own nm bytes maxL ret R H k j pc' Ls (.null :: st) Q) : Wp b l Z own nm bytes maxL ret R H k j pc Ls st Q := by
  obtain ⟨hd, rfl⟩ := hd
  exact Wp.step (fun p e s m args below meth c T L hx hZ hby hown X hH target ht => XS.aconstNull X.here hx rfl (hb hby hd)  ht) hr
theorem wp_dup {x : Value} (hd : Dc bytes pc (.dup) 1 pc') (hc : x.category = 1) (hr : Wp b l Z own nm bytes maxL ret R H k j pc' Ls (x :: x :: st) Q) : Wp b l Z own nm bytes maxL ret R H k j pc Ls (x :: st) Q := by
  obtain ⟨hd, rfl⟩ := hd
  exact Wp.step (fun p e s m args below meth c T L hx hZ hby hown X hH target ht => XS.dup X.here hx rfl (hb hby hd) rfl hc ht) hr
theorem wp_pop {x : Value} (hd : Dc bytes pc (.pop) 1 pc') (hc : x.category = 1) (hr : Wp b l Z own nm bytes maxL ret R H k j pc' Ls st Q) : Wp b l Z own nm bytes maxL ret R H k j pc Ls (x :: st) Q := by
  obtain ⟨hd, rfl⟩ := hd
  exact Wp.step (fun p e s m args below meth c T L hx hZ hby hown X hH target ht => XT.pop X.here hx rfl (hb hby hd) rfl hc ht) hr
theorem wp_dup_x1 {x y : Value} (hd : Dc bytes pc (.dup_x1) 1 pc') (hc : x.category = 1) (hc' : y.category = 1) (hr : Wp b l Z own nm bytes maxL ret R H k j pc' Ls (x :: y :: x :: st) Q) : Wp b l Z own nm bytes maxL ret R H k j pc Ls (x :: y :: st) Q := by
  obtain ⟨hd, rfl⟩ := hd
  exact Wp.step (fun p e s m args below meth c T L hx hZ hby hown X hH target ht => XT.dupX1 X.here hx rfl (hb hby hd) rfl hc hc' ht) hr
theorem wp_dup2 {x y : Value} (hd : Dc bytes pc (.dup2) 1 pc') (hc : x.category = 1) (hc' : y.category = 1) (hr : Wp b l Z own nm bytes maxL ret R H k j pc' Ls (x :: y :: x :: y :: st) Q) : Wp b l Z own nm bytes maxL ret R H k j pc Ls (x :: y :: st) Q := by
  obtain ⟨hd, rfl⟩ := hd
  exact Wp.step (fun p e s m args below meth c T L hx hZ hby hown X hH target ht => XT.dup2 X.here hx rfl (hb hby hd) rfl hc hc' ht) hr
theorem wp_dup2L {x : Int64} (hd : Dc bytes pc (.dup2) 1 pc')  (hr : Wp b l Z own nm bytes maxL ret R H k j pc' Ls (.long x :: .long x :: st) Q) : Wp b l Z own nm bytes maxL ret R H k j pc Ls (.long x :: st) Q := by
  obtain ⟨hd, rfl⟩ := hd
  exact Wp.step (fun p e s m args below meth c T L hx hZ hby hown X hH target ht => XT.dup2L X.here hx rfl (hb hby hd) rfl ht) hr
theorem wp_ldcI {i : Nat} {v : Int32} (hd : Dc bytes pc (.ldc i) 2 pc') (w : (Cond.constant own i v).before a0 Z = true) (hr : Wp b l Z own nm bytes maxL ret R H k j pc' Ls (.int v :: st) Q) : Wp b l Z own nm bytes maxL ret R H k j pc Ls st Q := by
  obtain ⟨hd, rfl⟩ := hd
  exact Wp.step (fun p e s m args below meth c T L hx hZ hby hown X hH target ht => Jvm.Stand.ldcI X hx hown (mvT hZ w) rfl (hb hby hd) ht) hr
theorem wp_ldcWI {i : Nat} {v : Int32} (hd : Dc bytes pc (.ldc_w i) 3 pc') (w : (Cond.constant own i v).before a0 Z = true) (hr : Wp b l Z own nm bytes maxL ret R H k j pc' Ls (.int v :: st) Q) : Wp b l Z own nm bytes maxL ret R H k j pc Ls st Q := by
  obtain ⟨hd, rfl⟩ := hd
  exact Wp.step (fun p e s m args below meth c T L hx hZ hby hown X hH target ht => Jvm.Stand.ldcWI X hx hown (mvT hZ w) rfl (hb hby hd) ht) hr
theorem wp_ldc2J {i : Nat} {v : Int64} (hd : Dc bytes pc (.ldc2_w i) 3 pc') (w : (Cond.constantLong own i v).before a0 Z = true) (hr : Wp b l Z own nm bytes maxL ret R H k j pc' Ls (.long v :: st) Q) : Wp b l Z own nm bytes maxL ret R H k j pc Ls st Q := by
  obtain ⟨hd, rfl⟩ := hd
  exact Wp.step (fun p e s m args below meth c T L hx hZ hby hown X hH target ht => Jvm.Stand.ldc2J X hx hown (mvT hZ w) rfl (hb hby hd) ht) hr
theorem wp_instNull {i : Nat} (hd : Dc bytes pc (.instanceof i) 3 pc')  (hr : Wp b l Z own nm bytes maxL ret R H k j pc' Ls (.int 0 :: st) Q) : Wp b l Z own nm bytes maxL ret R H k j pc Ls (.null :: st) Q := by
  obtain ⟨hd, rfl⟩ := hd
  exact Wp.step (fun p e s m args below meth c T L hx hZ hby hown X hH target ht => X.instanceofNull hx (g := mkF m pc Ls (.null :: st)) rfl rfl (hb hby hd) _ ht) hr
theorem wp_castNull {i : Nat} (hd : Dc bytes pc (.checkcast i) 3 pc')  (hr : Wp b l Z own nm bytes maxL ret R H k j pc' Ls (.null :: st) Q) : Wp b l Z own nm bytes maxL ret R H k j pc Ls (.null :: st) Q := by
  obtain ⟨hd, rfl⟩ := hd
  exact Wp.step (fun p e s m args below meth c T L hx hZ hby hown X hH target ht => X.checkcastNull hx (g := mkF m pc Ls (.null :: st)) rfl rfl (hb hby hd) _ ht) hr
theorem wp_goto {o : Int} {n pc'' : Nat} (hd : Dc bytes pc (.goto o) 3 n) (ht : Tg pc o pc'') (hr : Wp b l Z own nm bytes maxL ret R H k j pc'' Ls st Q) : Wp b l Z own nm bytes maxL ret R H k j pc Ls st Q :=
  Wp.step (fun p e s m args below meth c T L hx hZ hby hown X hH target h => XS.goto X.here hx rfl rfl (hb hby hd.1) ht.1 ht.2 h) hr
theorem wp_icmp {cd : ClassFile.Cond} {o : Int} {x y : Int32} {pc'' : Nat} (hd : Dc bytes pc (.if_icmp cd o) 3 pc') (ht : Tg pc o pc'') (hy : if_icmp.holds cd x y = true → Wp b l Z own nm bytes maxL ret R H k j pc'' Ls st Q) (hn : if_icmp.holds cd x y = false → Wp b l Z own nm bytes maxL ret R H k j pc' Ls st Q) : Wp b l Z own nm bytes maxL ret R H k j pc Ls (.int y :: .int x :: st) Q := by
  obtain ⟨hd, rfl⟩ := hd
  cases hc : if_icmp.holds cd x y with
  | true => exact Wp.step (fun p e s m args below meth c T L hx hZ hby hown X hH target h => XS.icmpYes X.here hx rfl rfl (hb hby hd) rfl hc ht.1 ht.2 h) (hy hc)
  | false => exact Wp.step (fun p e s m args below meth c T L hx hZ hby hown X hH target h => XS.icmpNo X.here hx rfl (hb hby hd) rfl hc h) (hn hc)
theorem wp_if {cd : ClassFile.Cond} {o : Int} {x : Int32} {pc'' : Nat} (hd : Dc bytes pc (.ifCond cd o) 3 pc') (ht : Tg pc o pc'') (hy : ifCond.holds cd x = true → Wp b l Z own nm bytes maxL ret R H k j pc'' Ls st Q) (hn : ifCond.holds cd x = false → Wp b l Z own nm bytes maxL ret R H k j pc' Ls st Q) : Wp b l Z own nm bytes maxL ret R H k j pc Ls (.int x :: st) Q := by
  obtain ⟨hd, rfl⟩ := hd
  cases hc : ifCond.holds cd x with
  | true => exact Wp.step (fun p e s m args below meth c T L hx hZ hby hown X hH target h => XS.ifYes X.here hx rfl rfl (hb hby hd) rfl hc ht.1 ht.2 h) (hy hc)
  | false => exact Wp.step (fun p e s m args below meth c T L hx hZ hby hown X hH target h => XS.ifNo X.here hx rfl (hb hby hd) rfl hc h) (hn hc)
theorem icmp_holds (cd : ClassFile.Cond) (x y : Int32) : (if_icmp.holds .eq x y = decide (x = y)) ∧ (if_icmp.holds .ne x y = !decide (x = y)) ∧ (if_icmp.holds .lt x y = decide (x < y)) ∧ (if_icmp.holds .ge x y = !decide (x < y)) ∧ (if_icmp.holds .gt x y = decide (y < x)) ∧ (if_icmp.holds .le x y = !decide (y < x)) := by
  refine ⟨?_, ?_, ?_, ?_, ?_, ?_⟩
  · by_cases h : x = y <;> simp [h, if_icmp.holds]
  · by_cases h : x = y <;> simp [h, if_icmp.holds]
  · by_cases h : x < y <;> simp [h, if_icmp.holds]
  · by_cases h : x < y
    · simp [h, (tlt h).2.1]
    · simp [h, (flt h).2.1]
  · by_cases h : y < x
    · simp [h, (tlt h).2.2.1]
    · simp [h, (flt h).2.2.1]
  · by_cases h : y < x
    · simp [h, (tlt h).2.2.2]
    · simp [h, (flt h).2.2.2]
theorem wp_icmp_eq {o : Int} {x y : Int32} {pc'' : Nat} (hd : Dc bytes pc (.if_icmp .eq o) 3 pc') (ht : Tg pc o pc'') (hy : x = y → Wp b l Z own nm bytes maxL ret R H k j pc'' Ls st Q) (hn : ¬ x = y → Wp b l Z own nm bytes maxL ret R H k j pc' Ls st Q) : Wp b l Z own nm bytes maxL ret R H k j pc Ls (.int y :: .int x :: st) Q :=
  wp_icmp hd ht (fun h => hy (by rw [(icmp_holds .eq x y).1] at h; simpa using h)) (fun h => hn (by rw [(icmp_holds .eq x y).1] at h; simpa using h))
theorem wp_if_eq {o : Int} {x : Int32} {pc'' : Nat} (hd : Dc bytes pc (.ifCond .eq o) 3 pc') (ht : Tg pc o pc'') (hy : x = 0 → Wp b l Z own nm bytes maxL ret R H k j pc'' Ls st Q) (hn : ¬ x = 0 → Wp b l Z own nm bytes maxL ret R H k j pc' Ls st Q) : Wp b l Z own nm bytes maxL ret R H k j pc Ls (.int x :: st) Q :=
  wp_if hd ht (fun h => hy (by rw [if0, (icmp_holds .eq x 0).1] at h; simpa using h)) (fun h => hn (by rw [if0, (icmp_holds .eq x 0).1] at h; simpa using h))
theorem wp_icmp_ne {o : Int} {x y : Int32} {pc'' : Nat} (hd : Dc bytes pc (.if_icmp .ne o) 3 pc') (ht : Tg pc o pc'') (hy : ¬ x = y → Wp b l Z own nm bytes maxL ret R H k j pc'' Ls st Q) (hn : x = y → Wp b l Z own nm bytes maxL ret R H k j pc' Ls st Q) : Wp b l Z own nm bytes maxL ret R H k j pc Ls (.int y :: .int x :: st) Q :=
  wp_icmp hd ht (fun h => hy (by rw [(icmp_holds .eq x y).2.1] at h; simpa using h)) (fun h => hn (by rw [(icmp_holds .eq x y).2.1] at h; simpa using h))
theorem wp_if_ne {o : Int} {x : Int32} {pc'' : Nat} (hd : Dc bytes pc (.ifCond .ne o) 3 pc') (ht : Tg pc o pc'') (hy : ¬ x = 0 → Wp b l Z own nm bytes maxL ret R H k j pc'' Ls st Q) (hn : x = 0 → Wp b l Z own nm bytes maxL ret R H k j pc' Ls st Q) : Wp b l Z own nm bytes maxL ret R H k j pc Ls (.int x :: st) Q :=
  wp_if hd ht (fun h => hy (by rw [if0, (icmp_holds .eq x 0).2.1] at h; simpa using h)) (fun h => hn (by rw [if0, (icmp_holds .eq x 0).2.1] at h; simpa using h))
theorem wp_icmp_lt {o : Int} {x y : Int32} {pc'' : Nat} (hd : Dc bytes pc (.if_icmp .lt o) 3 pc') (ht : Tg pc o pc'') (hy : x < y → Wp b l Z own nm bytes maxL ret R H k j pc'' Ls st Q) (hn : ¬ x < y → Wp b l Z own nm bytes maxL ret R H k j pc' Ls st Q) : Wp b l Z own nm bytes maxL ret R H k j pc Ls (.int y :: .int x :: st) Q :=
  wp_icmp hd ht (fun h => hy (by rw [(icmp_holds .eq x y).2.2.1] at h; simpa using h)) (fun h => hn (by rw [(icmp_holds .eq x y).2.2.1] at h; simpa using h))
theorem wp_if_lt {o : Int} {x : Int32} {pc'' : Nat} (hd : Dc bytes pc (.ifCond .lt o) 3 pc') (ht : Tg pc o pc'') (hy : x < 0 → Wp b l Z own nm bytes maxL ret R H k j pc'' Ls st Q) (hn : ¬ x < 0 → Wp b l Z own nm bytes maxL ret R H k j pc' Ls st Q) : Wp b l Z own nm bytes maxL ret R H k j pc Ls (.int x :: st) Q :=
  wp_if hd ht (fun h => hy (by rw [if0, (icmp_holds .eq x 0).2.2.1] at h; simpa using h)) (fun h => hn (by rw [if0, (icmp_holds .eq x 0).2.2.1] at h; simpa using h))
theorem wp_icmp_ge {o : Int} {x y : Int32} {pc'' : Nat} (hd : Dc bytes pc (.if_icmp .ge o) 3 pc') (ht : Tg pc o pc'') (hy : ¬ x < y → Wp b l Z own nm bytes maxL ret R H k j pc'' Ls st Q) (hn : x < y → Wp b l Z own nm bytes maxL ret R H k j pc' Ls st Q) : Wp b l Z own nm bytes maxL ret R H k j pc Ls (.int y :: .int x :: st) Q :=
  wp_icmp hd ht (fun h => hy (by rw [(icmp_holds .eq x y).2.2.2.1] at h; simpa using h)) (fun h => hn (by rw [(icmp_holds .eq x y).2.2.2.1] at h; simpa using h))
theorem wp_if_ge {o : Int} {x : Int32} {pc'' : Nat} (hd : Dc bytes pc (.ifCond .ge o) 3 pc') (ht : Tg pc o pc'') (hy : ¬ x < 0 → Wp b l Z own nm bytes maxL ret R H k j pc'' Ls st Q) (hn : x < 0 → Wp b l Z own nm bytes maxL ret R H k j pc' Ls st Q) : Wp b l Z own nm bytes maxL ret R H k j pc Ls (.int x :: st) Q :=
  wp_if hd ht (fun h => hy (by rw [if0, (icmp_holds .eq x 0).2.2.2.1] at h; simpa using h)) (fun h => hn (by rw [if0, (icmp_holds .eq x 0).2.2.2.1] at h; simpa using h))
theorem wp_icmp_gt {o : Int} {x y : Int32} {pc'' : Nat} (hd : Dc bytes pc (.if_icmp .gt o) 3 pc') (ht : Tg pc o pc'') (hy : y < x → Wp b l Z own nm bytes maxL ret R H k j pc'' Ls st Q) (hn : ¬ y < x → Wp b l Z own nm bytes maxL ret R H k j pc' Ls st Q) : Wp b l Z own nm bytes maxL ret R H k j pc Ls (.int y :: .int x :: st) Q :=
  wp_icmp hd ht (fun h => hy (by rw [(icmp_holds .eq x y).2.2.2.2.1] at h; simpa using h)) (fun h => hn (by rw [(icmp_holds .eq x y).2.2.2.2.1] at h; simpa using h))
theorem wp_if_gt {o : Int} {x : Int32} {pc'' : Nat} (hd : Dc bytes pc (.ifCond .gt o) 3 pc') (ht : Tg pc o pc'') (hy : 0 < x → Wp b l Z own nm bytes maxL ret R H k j pc'' Ls st Q) (hn : ¬ 0 < x → Wp b l Z own nm bytes maxL ret R H k j pc' Ls st Q) : Wp b l Z own nm bytes maxL ret R H k j pc Ls (.int x :: st) Q :=
  wp_if hd ht (fun h => hy (by rw [if0, (icmp_holds .eq x 0).2.2.2.2.1] at h; simpa using h)) (fun h => hn (by rw [if0, (icmp_holds .eq x 0).2.2.2.2.1] at h; simpa using h))
theorem wp_icmp_le {o : Int} {x y : Int32} {pc'' : Nat} (hd : Dc bytes pc (.if_icmp .le o) 3 pc') (ht : Tg pc o pc'') (hy : ¬ y < x → Wp b l Z own nm bytes maxL ret R H k j pc'' Ls st Q) (hn : y < x → Wp b l Z own nm bytes maxL ret R H k j pc' Ls st Q) : Wp b l Z own nm bytes maxL ret R H k j pc Ls (.int y :: .int x :: st) Q :=
  wp_icmp hd ht (fun h => hy (by rw [(icmp_holds .eq x y).2.2.2.2.2] at h; simpa using h)) (fun h => hn (by rw [(icmp_holds .eq x y).2.2.2.2.2] at h; simpa using h))
theorem wp_if_le {o : Int} {x : Int32} {pc'' : Nat} (hd : Dc bytes pc (.ifCond .le o) 3 pc') (ht : Tg pc o pc'') (hy : ¬ 0 < x → Wp b l Z own nm bytes maxL ret R H k j pc'' Ls st Q) (hn : 0 < x → Wp b l Z own nm bytes maxL ret R H k j pc' Ls st Q) : Wp b l Z own nm bytes maxL ret R H k j pc Ls (.int x :: st) Q :=
  wp_if hd ht (fun h => hy (by rw [if0, (icmp_holds .eq x 0).2.2.2.2.2] at h; simpa using h)) (fun h => hn (by rw [if0, (icmp_holds .eq x 0).2.2.2.2.2] at h; simpa using h))
theorem cmpL_0 (x y : Int64) : (XT.cmpL x y = 0 ↔ x = y) ∧ (XT.cmpL x y < 0 ↔ x < y) ∧ (0 < XT.cmpL x y ↔ y < x) := by
  unfold XT.cmpL
  by_cases h1 : y < x
  · have h2 : ¬ x = y := by rintro rfl; exact absurd h1 (by simp [Int64.lt_iff_toInt_lt])
    have h3 : ¬ x < y := by rw [Int64.lt_iff_toInt_lt] at h1 ⊢; omega
    simp [h1, h2, h3]
  · by_cases h2 : x = y
    · subst h2; simp [Int64.lt_iff_toInt_lt]
    · have h3 : x < y := by rw [Int64.lt_iff_toInt_lt] at h1 ⊢; have := mt Int64.toInt_inj.mp h2; omega
      simp [h1, h2, h3]
theorem wp_lcmp_eq {o : Int} {x y : Int64} {pc1 pc'' : Nat} (hd0 : Dc bytes pc .lcmp 1 pc1) (hd : Dc bytes pc1 (.ifCond .eq o) 3 pc') (ht : Tg pc1 o pc'') (hy : x = y → Wp b l Z own nm bytes maxL ret R H k j pc'' Ls st Q) (hn : ¬ x = y → Wp b l Z own nm bytes maxL ret R H k j pc' Ls st Q) : Wp b l Z own nm bytes maxL ret R H k j pc Ls (.long y :: .long x :: st) Q :=
  wp_lcmp hd0 (wp_if_eq hd ht (fun h => hy (by rw [(cmpL_0 x y).1] at h; exact h)) (fun h => hn (by rw [(cmpL_0 x y).1] at h; exact h)))
theorem wp_lcmp_ne {o : Int} {x y : Int64} {pc1 pc'' : Nat} (hd0 : Dc bytes pc .lcmp 1 pc1) (hd : Dc bytes pc1 (.ifCond .ne o) 3 pc') (ht : Tg pc1 o pc'') (hy : ¬ x = y → Wp b l Z own nm bytes maxL ret R H k j pc'' Ls st Q) (hn : x = y → Wp b l Z own nm bytes maxL ret R H k j pc' Ls st Q) : Wp b l Z own nm bytes maxL ret R H k j pc Ls (.long y :: .long x :: st) Q :=
  wp_lcmp hd0 (wp_if_ne hd ht (fun h => hy (by rw [(cmpL_0 x y).1] at h; exact h)) (fun h => hn (by rw [(cmpL_0 x y).1] at h; exact h)))
theorem wp_lcmp_lt {o : Int} {x y : Int64} {pc1 pc'' : Nat} (hd0 : Dc bytes pc .lcmp 1 pc1) (hd : Dc bytes pc1 (.ifCond .lt o) 3 pc') (ht : Tg pc1 o pc'') (hy : x < y → Wp b l Z own nm bytes maxL ret R H k j pc'' Ls st Q) (hn : ¬ x < y → Wp b l Z own nm bytes maxL ret R H k j pc' Ls st Q) : Wp b l Z own nm bytes maxL ret R H k j pc Ls (.long y :: .long x :: st) Q :=
  wp_lcmp hd0 (wp_if_lt hd ht (fun h => hy (by rw [(cmpL_0 x y).2.1] at h; exact h)) (fun h => hn (by rw [(cmpL_0 x y).2.1] at h; exact h)))
theorem wp_lcmp_ge {o : Int} {x y : Int64} {pc1 pc'' : Nat} (hd0 : Dc bytes pc .lcmp 1 pc1) (hd : Dc bytes pc1 (.ifCond .ge o) 3 pc') (ht : Tg pc1 o pc'') (hy : ¬ x < y → Wp b l Z own nm bytes maxL ret R H k j pc'' Ls st Q) (hn : x < y → Wp b l Z own nm bytes maxL ret R H k j pc' Ls st Q) : Wp b l Z own nm bytes maxL ret R H k j pc Ls (.long y :: .long x :: st) Q :=
  wp_lcmp hd0 (wp_if_ge hd ht (fun h => hy (by rw [(cmpL_0 x y).2.1] at h; exact h)) (fun h => hn (by rw [(cmpL_0 x y).2.1] at h; exact h)))
theorem wp_lcmp_gt {o : Int} {x y : Int64} {pc1 pc'' : Nat} (hd0 : Dc bytes pc .lcmp 1 pc1) (hd : Dc bytes pc1 (.ifCond .gt o) 3 pc') (ht : Tg pc1 o pc'') (hy : y < x → Wp b l Z own nm bytes maxL ret R H k j pc'' Ls st Q) (hn : ¬ y < x → Wp b l Z own nm bytes maxL ret R H k j pc' Ls st Q) : Wp b l Z own nm bytes maxL ret R H k j pc Ls (.long y :: .long x :: st) Q :=
  wp_lcmp hd0 (wp_if_gt hd ht (fun h => hy (by rw [(cmpL_0 x y).2.2] at h; exact h)) (fun h => hn (by rw [(cmpL_0 x y).2.2] at h; exact h)))
theorem wp_lcmp_le {o : Int} {x y : Int64} {pc1 pc'' : Nat} (hd0 : Dc bytes pc .lcmp 1 pc1) (hd : Dc bytes pc1 (.ifCond .le o) 3 pc') (ht : Tg pc1 o pc'') (hy : ¬ y < x → Wp b l Z own nm bytes maxL ret R H k j pc'' Ls st Q) (hn : y < x → Wp b l Z own nm bytes maxL ret R H k j pc' Ls st Q) : Wp b l Z own nm bytes maxL ret R H k j pc Ls (.long y :: .long x :: st) Q :=
  wp_lcmp hd0 (wp_if_le hd ht (fun h => hy (by rw [(cmpL_0 x y).2.2] at h; exact h)) (fun h => hn (by rw [(cmpL_0 x y).2.2] at h; exact h)))
theorem wp_ifnull_y {o : Int} {n pc'' : Nat} (hd : Dc bytes pc (.ifnull o) 3 n) (ht : Tg pc o pc'') (hr : Wp b l Z own nm bytes maxL ret R H k j pc'' Ls st Q) : Wp b l Z own nm bytes maxL ret R H k j pc Ls (.null :: st) Q :=
  Wp.step (fun p e s m args below meth c T L hx hZ hby hown X hH target h => XS.ifnullYes X.here hx rfl rfl (hb hby hd.1) rfl ht.1 ht.2 h) hr
theorem wp_ifnull_n {o : Int} {x : Addr} (hd : Dc bytes pc (.ifnull o) 3 pc') (hr : Wp b l Z own nm bytes maxL ret R H k j pc' Ls st Q) : Wp b l Z own nm bytes maxL ret R H k j pc Ls (.ref x :: st) Q := by
  obtain ⟨hd, rfl⟩ := hd
  exact Wp.step (fun p e s m args below meth c T L hx hZ hby hown X hH target h => XS.ifnullNo X.here hx rfl (hb hby hd) rfl h) hr
theorem wp_ifnonnull_y {o : Int} {x : Addr} {n pc'' : Nat} (hd : Dc bytes pc (.ifnonnull o) 3 n) (ht : Tg pc o pc'') (hr : Wp b l Z own nm bytes maxL ret R H k j pc'' Ls st Q) : Wp b l Z own nm bytes maxL ret R H k j pc Ls (.ref x :: st) Q :=
  Wp.step (fun p e s m args below meth c T L hx hZ hby hown X hH target h => XT.ifnonnullYes X.here hx rfl rfl (hb hby hd.1) rfl ht.1 ht.2 h) hr
theorem wp_ifnonnull_n {o : Int} (hd : Dc bytes pc (.ifnonnull o) 3 pc') (hr : Wp b l Z own nm bytes maxL ret R H k j pc' Ls st Q) : Wp b l Z own nm bytes maxL ret R H k j pc Ls (.null :: st) Q := by
  obtain ⟨hd, rfl⟩ := hd
  exact Wp.step (fun p e s m args below meth c T L hx hZ hby hown X hH target h => XT.ifnonnullNo X.here hx rfl (hb hby hd) rfl h) hr
theorem wp_acmp {cd : ClassFile.ACond} {o : Int} {x y : Value} {pc'' : Nat} (hd : Dc bytes pc (.if_acmp cd o) 3 pc') (ht : Tg pc o pc'') (h1 : x.isRef = true) (h2 : y.isRef = true) (hy : acV cd (decide (x = y)) = true → Wp b l Z own nm bytes maxL ret R H k j pc'' Ls st Q) (hn : acV cd (decide (x = y)) = false → Wp b l Z own nm bytes maxL ret R H k j pc' Ls st Q) : Wp b l Z own nm bytes maxL ret R H k j pc Ls (y :: x :: st) Q := by
  obtain ⟨hd, rfl⟩ := hd
  cases hc : acV cd (decide (x = y)) with
  | true => exact Wp.step (fun p e s m args below meth c T L hx hZ hby hown X hH target h => acmp X hx rfl h1 h2 (pc0 := pc) rfl (hb hby hd) rfl rfl ht.1 (by rw [if_pos hc]; exact ht.2.symm) h) (hy hc)
  | false => exact Wp.step (fun p e s m args below meth c T L hx hZ hby hown X hH target h => acmp X hx rfl h1 h2 (pc0 := pc) rfl (hb hby hd) rfl rfl ht.1 (by rw [hc]; rfl) h) (hn hc)
theorem wp_acmp_eq {o : Int} {x y : Value} {pc'' : Nat} (hd : Dc bytes pc (.if_acmp .eq o) 3 pc') (ht : Tg pc o pc'') (h1 : x.isRef = true) (h2 : y.isRef = true) (hy : x = y → Wp b l Z own nm bytes maxL ret R H k j pc'' Ls st Q) (hn : ¬ x = y → Wp b l Z own nm bytes maxL ret R H k j pc' Ls st Q) : Wp b l Z own nm bytes maxL ret R H k j pc Ls (y :: x :: st) Q :=
  wp_acmp hd ht h1 h2 (fun h => hy (by simpa [acV] using h)) (fun h => hn (by simpa [acV] using h))
theorem wp_acmp_ne {o : Int} {x y : Value} {pc'' : Nat} (hd : Dc bytes pc (.if_acmp .ne o) 3 pc') (ht : Tg pc o pc'') (h1 : x.isRef = true) (h2 : y.isRef = true) (hy : ¬ x = y → Wp b l Z own nm bytes maxL ret R H k j pc'' Ls st Q) (hn : x = y → Wp b l Z own nm bytes maxL ret R H k j pc' Ls st Q) : Wp b l Z own nm bytes maxL ret R H k j pc Ls (y :: x :: st) Q :=
  wp_acmp hd ht h1 h2 (fun h => hy (by simpa [acV] using h)) (fun h => hn (by simpa [acV] using h))
theorem wp_return  (hd : Dc bytes pc .return_ 1 pc') (hr : ret = none) (hk : k ≤ R.cells) (hj : j ≤ R.slots) (hQ : Q none H) : Wp b l Z own nm bytes maxL ret R H k j pc Ls [] Q :=
  fun p e s vm0 k0 m args below meth c T L hx hZ hS hkz hby hml hown hnm hret X N hH hB => ⟨T, none, L, k, j, vm0, k0, H, ⟨hS, hkz, fun _ => rfl⟩, X, ⟨hk, hj, Nat.le_refl _⟩, N, hH, fun h => by first | rfl | (rw [hr] at h; cases h), hQ, fun fs hl => X.returnOut hx (hret.trans hr) (hb hby hd.1) hl⟩
theorem wp_ireturn {x : Int32} (hd : Dc bytes pc .ireturn 1 pc') (hr : ret = some .int) (hk : k ≤ R.cells) (hj : j ≤ R.slots) (hQ : Q (some (.int x)) H) : Wp b l Z own nm bytes maxL ret R H k j pc Ls (.int x :: st) Q :=
  fun p e s vm0 k0 m args below meth c T L hx hZ hS hkz hby hml hown hnm hret X N hH hB => ⟨T, (some (.int x)), L, k, j, vm0, k0, H, ⟨hS, hkz, fun _ => rfl⟩, X, ⟨hk, hj, Nat.le_refl _⟩, N, hH, fun h => by first | rfl | (rw [hr] at h; cases h), hQ, fun fs hl => retOut X hx (hret.trans hr) rfl (Or.inl ⟨rfl, Or.inl rfl, x, rfl⟩) (hb hby hd.1) hl⟩
theorem wp_ireturnN {x : Int32} {t : FieldType} (hd : Dc bytes pc .ireturn 1 pc') (hr : ret = some t) (ht : t = .boolean ∨ t = .byte ∨ t = .char ∨ t = .short) (hk : k ≤ R.cells) (hj : j ≤ R.slots) (hQ : Q (some (.int (nar t x))) H) : Wp b l Z own nm bytes maxL ret R H k j pc Ls (.int x :: st) Q :=
  fun p e s vm0 k0 m args below meth c T L hx hZ hS hkz hby hml hown hnm hret X N hH hB => ⟨T, (some (.int (nar t x))), L, k, j, vm0, k0, H, ⟨hS, hkz, fun _ => rfl⟩, X, ⟨hk, hj, Nat.le_refl _⟩, N, hH, fun h => by first | rfl | (rw [hr] at h; cases h), hQ, fun fs hl => retN X hx (hret.trans hr) ht (hb hby hd.1) hl⟩
theorem wp_lreturn {x : Int64} (hd : Dc bytes pc .lreturn 1 pc') (hr : ret = some .long) (hk : k ≤ R.cells) (hj : j ≤ R.slots) (hQ : Q (some (.long x)) H) : Wp b l Z own nm bytes maxL ret R H k j pc Ls (.long x :: st) Q :=
  fun p e s vm0 k0 m args below meth c T L hx hZ hS hkz hby hml hown hnm hret X N hH hB => ⟨T, (some (.long x)), L, k, j, vm0, k0, H, ⟨hS, hkz, fun _ => rfl⟩, X, ⟨hk, hj, Nat.le_refl _⟩, N, hH, fun h => by first | rfl | (rw [hr] at h; cases h), hQ, fun fs hl => retOut X hx (hret.trans hr) rfl (Or.inr (Or.inl ⟨rfl, rfl, x, rfl⟩)) (hb hby hd.1) hl⟩
theorem wp_areturn {x : Value} {t : FieldType} (hd : Dc bytes pc .areturn 1 pc') (hr : ret = some t) (ht : t.isReference = true) (hn : narrow t x = x) (hv : x.isRef = true) (hk : k ≤ R.cells) (hj : j ≤ R.slots) (hQ : Q (some x) H) : Wp b l Z own nm bytes maxL ret R H k j pc Ls (x :: st) Q :=
  fun p e s vm0 k0 m args below meth c T L hx hZ hS hkz hby hml hown hnm hret X N hH hB => ⟨T, (some x), L, k, j, vm0, k0, H, ⟨hS, hkz, fun _ => rfl⟩, X, ⟨hk, hj, Nat.le_refl _⟩, N, hH, fun h => by first | rfl | (rw [hr] at h; cases h), hQ, fun fs hl => retOut X hx (hret.trans hr) hn (Or.inr (Or.inr (Or.inr (Or.inr ⟨rfl, ht, hv⟩)))) (hb hby hd.1) hl⟩
def FldAt (Z : State) (H : OH) (a : Addr) (O n d : String) (v : Value) : Prop := ∀ h, Hp Z h H → Fld Z h a O n d v
def ExaAt (Z : State) (H : OH) (a : Addr) (C : String) : Prop := ∀ h, Hp Z h H → Exa Z h a C
theorem fld_new {i fi : Nat} {a : Addr} {fl : Bool} {C O n d : String} {sg : OSig} {vs : List Value} {v : Value} (hi : H[i]? = some (a, (fl, .inl (C, sg, vs)))) (hf : sg[fi]? = some (O, n, d)) (hv : vs[fi]? = some v) : FldAt Z H a O n d v := fun h P => (P.at hi).2.2.2 fi _ v hf hv
theorem fld_old {a : Addr} {O n d : String} {v : Value} (F : Fld Z Z.heap a O n d v) : FldAt Z H a O n d v := fun h P => F.ext P.1
theorem exa_new {i : Nat} {a : Addr} {fl : Bool} {C : String} {sg : OSig} {vs : List Value} (hi : H[i]? = some (a, (fl, .inl (C, sg, vs)))) : ExaAt Z H a C := fun h P => (P.at hi).2.1
theorem exa_old {a : Addr} {C : String} (F : Exa Z Z.heap a C) : ExaAt Z H a C := fun h P => F.ext P.1
theorem wp_getfield {a : Addr} {O n d : String} {v : Value} {idx : Nat} (hd : Dc bytes pc (.getfield idx) 3 pc') (w : (Cond.fieldLink own idx O n d).before a0 Z = true) (F : FldAt Z H a O n d v) (hr : Wp b l Z own nm bytes maxL ret R H k j pc' Ls (v :: st) Q) : Wp b l Z own nm bytes maxL ret R H k j pc Ls (.ref a :: st) Q := by
  obtain ⟨hd, rfl⟩ := hd
  refine Wp.stepH fun p e s m args below meth c T L hx hZ hby hml hown hnm hret X N hH => ?_
  obtain ⟨T', X', e', stp⟩ := getF X hx hZ hown (host := "") (Or.inl w) Via.refl rfl (F _ hH) (g := mkF m pc Ls (.ref a :: st)) rfl rfl (hb hby hd)
  exact ⟨T', L, k, j, H, _, Ls, v :: st, X', by rw [e']; exact Nat.le_refl _, N, by rw [e']; exact hH, hr, stp⟩
theorem wp_getfieldVia {a : Addr} {R0 O n d : String} {v : Value} {idx : Nat} (hd : Dc bytes pc (.getfield idx) 3 pc') (w : (Cond.fieldLink own idx R0 n d).before a0 Z = true) (via : Via Z R0 O n d) (F : FldAt Z H a O n d v) (hr : Wp b l Z own nm bytes maxL ret R H k j pc' Ls (v :: st) Q) : Wp b l Z own nm bytes maxL ret R H k j pc Ls (.ref a :: st) Q := by
  obtain ⟨hd, rfl⟩ := hd
  refine Wp.stepH fun p e s m args below meth c T L hx hZ hby hml hown hnm hret X N hH => ?_
  obtain ⟨T', X', e', stp⟩ := getF X hx hZ hown (host := "") (Or.inl w) via rfl (F _ hH) (g := mkF m pc Ls (.ref a :: st)) rfl rfl (hb hby hd)
  exact ⟨T', L, k, j, H, _, Ls, v :: st, X', by rw [e']; exact Nat.le_refl _, N, by rw [e']; exact hH, hr, stp⟩
theorem wp_getstatic {O n d : String} {v : Value} {idx : Nat} (hd : Dc bytes pc (.getstatic idx) 3 pc') (w : (Cond.fieldLink own idx O n d).before a0 Z = true) (F : Sta Z Z.heap O n d v) (hr : Wp b l Z own nm bytes maxL ret R H k j pc' Ls (v :: st) Q) : Wp b l Z own nm bytes maxL ret R H k j pc Ls st Q := by
  obtain ⟨hd, rfl⟩ := hd
  refine Wp.stepH fun p e s m args below meth c T L hx hZ hby hml hown hnm hret X N hH => ?_
  obtain ⟨T', X', e', stp⟩ := getS (host := "") X hx hZ hown w Via.refl rfl (F.ext hH.1) (g := mkF m pc Ls st) rfl (hb hby hd)
  exact ⟨T', L, k, j, H, _, Ls, v :: st, X', by rw [e']; exact Nat.le_refl _, N, by rw [e']; exact hH, hr, stp⟩
theorem Sat.put {h h' : Heap} {a : Addr} {C O n d : String} {sg : OSig} {vs : List Value} {fi : Nat} {v : Value} (S : Sat Z h a (.inl (C, sg, vs))) (hf : sg[fi]? = some (O, n, d)) (W : Wr h h' a (Jvm.RoadKit.slotOf Z O n d) v) : Sat Z h' a (.inl (C, sg, vs.set fi v)) := by
  obtain ⟨S1, S2, S3⟩ := S
  refine ⟨S1.wr W, S2, fun i f u q r => ?_⟩
  rw [List.getElem?_set] at r
  split at r
  · rename_i e; subst e
    split at r
    · rename_i hlt
      cases r
      cases hf.symm.trans q
      exact (S3 fi _ _ hf (List.getElem?_eq_getElem hlt)).same W
    · cases r
  · rename_i ne
    refine (S3 i f u q r).other W (Or.inr ?_)
    have hP := List.pairwise_iff_getElem.mp S2
    obtain ⟨h1, e1⟩ := List.getElem?_eq_some_iff.mp q
    obtain ⟨h2, e2⟩ := List.getElem?_eq_some_iff.mp hf
    rcases Nat.lt_or_gt_of_ne ne with u | u
    · have := hP fi i h2 h1 u; rw [e1, e2] at this; exact Ne.symm this
    · have := hP i fi h1 h2 u; rw [e1, e2] at this; exact this
theorem wp_putfield {i fi kk : Nat} {a : Addr} {C O n d : String} {sg : OSig} {vs : List Value} {v old : Value} {ty : FieldType} {idx : Nat} (hd : Dc bytes pc (.putfield idx) 3 pc') (w : (Cond.fieldLink own idx O n d).before a0 Z = true) (hi : H[i]? = some (a, oI C sg vs)) (hf : sg[fi]? = some (O, n, d)) (ho : vs[fi]? = some old) (L0 : (Cond.lays C O n d).before a0 Z = true ∨ ((Cond.laysFinal C O n d).before a0 Z = true ∧ own = O ∧ nm = "<init>")) (wi : (Cond.instantiable C kk).before a0 Z = true) (hty : parseFieldDescriptor d = some ty) (hn : narrow ty v = v) (hfit : fits ty v = true) (hr : Wp b l Z own nm bytes maxL ret R (H.set i (a, oI C sg (vs.set fi v))) k j pc' Ls st Q) : Wp b l Z own nm bytes maxL ret R H k j pc Ls (v :: .ref a :: st) Q := by
  obtain ⟨hd, rfl⟩ := hd
  refine Wp.stepH fun p e s m args below meth c T L hx hZ hby hml hown hnm hret X N hH => ?_
  have S := (hH.at hi).2
  obtain ⟨T', h', X', e', W', stp⟩ := putF X hx hZ hown (host := "") (Or.inl w) Via.refl rfl (S.2.2 fi _ _ hf ho) S.1 (L0.imp id fun q => ⟨q.1, q.2.1, hnm.trans q.2.2⟩) wi hty hn hfit (g := mkF m pc Ls (v :: .ref a :: st)) rfl rfl (hb hby hd)
  subst e'
  exact ⟨T', _, k, j, _, _, Ls, st, X', by rw [W'.size]; exact Nat.le_refl _, Fr.snoc X' N ((hH.at hi).1 rfl), hH.set hi W' (S.put hf W'), hr, stp⟩
def Dfl : OSig → List Value → Prop
  | [], [] => True
  | f :: sg, v :: vs => (∃ ty, parseFieldDescriptor f.2.2 = some ty ∧ defaultValue ty = v) ∧ Dfl sg vs
  | _, _ => False
theorem Dfl.at : ∀ {sg : OSig} {vs : List Value}, Dfl sg vs → ∀ (i : Nat) (f : String × String × String) (v : Value), sg[i]? = some f → vs[i]? = some v → ∃ ty, parseFieldDescriptor f.2.2 = some ty ∧ defaultValue ty = v
  | [], [], _, i, f, v, q, _ => by simp at q
  | f :: sg, v :: vs, D, 0, f', v', q, r => by simp at q r; subst q r; exact D.1
  | f :: sg, v :: vs, D, i + 1, f', v', q, r => D.2.at i f' v' (by simpa using q) (by simpa using r)
  | [], _ :: _, D, _, _, _, _, _ => D.elim
  | _ :: _, [], D, _, _, _, _, _ => D.elim
theorem Dfl.parse : ∀ {sg : OSig} {vs : List Value}, Dfl sg vs → ∀ f ∈ sg, ∃ ty, parseFieldDescriptor f.2.2 = some ty
  | [], [], _, f, q => by simp at q
  | g :: sg, v :: vs, D, f, q => (List.mem_cons.mp q).elim (fun e => by subst e; exact ⟨D.1.choose, D.1.choose_spec.1⟩) (D.2.parse f)
  | [], _ :: _, D, _, _ => D.elim
  | _ :: _, [], D, _, _ => D.elim
theorem slo_of {C : String} {sg : OSig} {vs : List Value} (D : Dfl sg vs) (hL : ∀ f ∈ sg, Laid Z a0 C f.1 f.2.1 f.2.2) (hn : (sg.map fun f => f.2.1).Nodup) : Slo Z sg := by
  have h1 : sg.Pairwise fun f g => f.2.1 ≠ g.2.1 := List.pairwise_map.mp hn
  refine List.Pairwise.imp_of_mem (fun {f g} hf hg ne => ?_) h1
  obtain ⟨t, ht⟩ := D.parse f hf
  obtain ⟨t', ht'⟩ := D.parse g hg
  exact slot_ne (hL f hf) (hL g hg) ne ht ht'
theorem all_nil {α : Type} {P : α → Prop} : ∀ x ∈ ([] : List α), P x := fun _ q => nomatch q
theorem all_cons {α : Type} {P : α → Prop} {y : α} {L : List α} (q : P y) (r : ∀ x ∈ L, P x) : ∀ x ∈ y :: L, P x := fun x z => (List.mem_cons.mp z).elim (fun u => u ▸ q) (r x)
theorem wp_new {C : String} {idx n : Nat} (sg : OSig) (vs : List Value) (hd : Dc bytes pc (.new idx) 3 pc') (w : (Cond.classLink own idx C).before a0 Z = true) (wi : (Cond.instantiable C n).before a0 Z = true) (wz : (Cond.initialized C).before a0 Z = true) (hL : ∀ f ∈ sg, Laid Z a0 C f.1 f.2.1 f.2.2) (hn : (sg.map fun f => f.2.1).Nodup) (D : Dfl sg vs) (hc : k + 1 ≤ R.cells) (hl : j + n ≤ R.slots) (hr : ∀ a, Wp b l Z own nm bytes maxL ret R ((a, oI C sg vs) :: H) (k + 1) (j + n) pc' Ls (.ref a :: st) Q) : Wp b l Z own nm bytes maxL ret R H k j pc Ls st Q := by
  obtain ⟨hd, rfl⟩ := hd
  refine Wp.stepH fun p e s m args below meth c T L hx hZ hby hml hown hnm hret X N hH => ?_
  obtain ⟨T', h', X', e', E', A', D', -, stp⟩ := newO X hx hZ hown w wi wz rfl (g := mkF m pc Ls st) rfl (hb hby hd) hc hl
  subst e'
  refine ⟨T', L, _, _, _, _, Ls, _, X', E'.1, N, hH.cons E' (o := .inl (C, sg, vs)) ⟨A', slo_of D hL hn, fun i f v q r => ?_⟩, hr _, stp⟩
  obtain ⟨ty, t1, t2⟩ := D.at i f v q r
  rw [← t2]
  exact D' (hL f (List.mem_of_getElem? q)) t1
theorem wp_initO {a : Addr} {idx : Nat} (hd : Dc bytes pc (.invokespecial idx) 3 pc') (w1 : (Cond.methodLink own idx Lib.objectInit).before a0 Z = true) (w2 : (Cond.instanceMethod Lib.objectInit).before a0 Z = true) (w3 : (Cond.code Lib.objectInit ⟨#[0xb1]⟩ 1 none).before a0 Z = true) (hsz : Ls.size = maxL) (hf : 1 ≤ R.frames) (hl : (st.map fun v => v.category).sum + 12 ≤ R.locals) (hr : Wp b l Z own nm bytes maxL ret R H k j pc' Ls st Q) : Wp b l Z own nm bytes maxL ret R H k j pc Ls (.ref a :: st) Q := by
  obtain ⟨hd, rfl⟩ := hd
  refine Wp.stepH fun p e s m args below meth c T L hx hZ hby hml hown hnm hret X N hH => ?_
  obtain ⟨T', X', e', stp⟩ := initO X hx hZ hown w1 w2 w3 rfl (g := mkF m pc Ls (.ref a :: st)) rfl (by rw [hml]; exact hsz) rfl (hb hby hd) hf (W := (st.map fun v => v.category).sum) (by show 2 * 0 + _ ≤ _; omega) hl
  exact ⟨T', L, k, j, H, _, Ls, st, X', by rw [e']; exact Nat.le_refl _, N, by rw [e']; exact hH, hr, stp⟩
theorem wp_newarrayI {aty : ArrayType} {ty : FieldType} {n : Int32} (cnt cap : Nat) (hd : Dc bytes pc (.newarray aty) 2 pc') (hty : newarray.typeOf aty = ty) (hdef : defaultValue ty = .int 0) (hfz : fits ty (.int 0) = true) (w : (Cond.arrayClass ty).before a0 Z = true) (hn : ¬ n < 0) (hcnt : n.toNatClampNeg = cnt) (hcap : cnt ≤ cap) (hb8 : cap * 8 ≤ 536870912) (hc : k + 1 ≤ R.cells) (hl : j + cap ≤ R.slots) (hr : ∀ a, Wp b l Z own nm bytes maxL ret R ((a, oA ty (List.replicate cnt 0)) :: H) (k + 1) (j + cap) pc' Ls (.ref a :: st) Q) : Wp b l Z own nm bytes maxL ret R H k j pc Ls (.int n :: st) Q := by
  obtain ⟨hd, rfl⟩ := hd
  subst hty
  refine Wp.stepH fun p e s m args below meth c T L hx hZ hby hml hown hnm hret X N hH => ?_
  obtain ⟨T', h', cA, X', e', E', A', B', stp⟩ := newPE X hx hZ w rfl (g := mkF m pc Ls (.int n :: st)) rfl (hb hby hd) rfl hn (cap := cap) (by rw [hcnt]; exact hcap) hb8 hc hl rfl
  subst e'
  refine ⟨T', L, _, _, _, _, Ls, _, X', E'.1, N, hH.cons E' (o := .inr (.inl (_, List.replicate cnt 0))) ⟨Or.inr B', _, A', ?_, fun x hx => ?_⟩, hr _, stp⟩
  · simp [newA, hcnt, hdef]
  · rw [(List.mem_replicate.mp hx).2]; exact hfz
set_option maxHeartbeats 1000000 in
theorem wp_newarrayJ {n : Int32} (cnt cap : Nat) (hd : Dc bytes pc (.newarray .long) 2 pc') (w : (Cond.arrayClass .long).before a0 Z = true) (hn : ¬ n < 0) (hcnt : n.toNatClampNeg = cnt) (hcap : cnt ≤ cap) (hb8 : cap * 8 ≤ 536870912) (hc : k + 1 ≤ R.cells) (hl : j + cap ≤ R.slots) (hr : ∀ a, Wp b l Z own nm bytes maxL ret R ((a, oJ (List.replicate cnt 0)) :: H) (k + 1) (j + cap) pc' Ls (.ref a :: st) Q) : Wp b l Z own nm bytes maxL ret R H k j pc Ls (.int n :: st) Q := by
  obtain ⟨hd, rfl⟩ := hd
  refine Wp.stepH fun p e s m args below meth c T L hx hZ hby hml hown hnm hret X N hH => ?_
  obtain ⟨T', h', cA, X', e', E', A', B', stp⟩ := newPE (aty := .long) (ad := "[J") X hx hZ w rfl (g := mkF m pc Ls (.int n :: st)) rfl (hb hby hd) rfl hn (cap := cap) (by rw [hcnt]; exact hcap) hb8 hc hl rfl
  subst e'
  refine ⟨T', L, _, _, _, _, Ls, _, X', E'.1, N, hH.cons E' (o := .inr (.inr (.inl (List.replicate cnt 0)))) ⟨B', _, A', ?_⟩, hr _, stp⟩
  simp [newA, hcnt, defaultValue, newarray.typeOf]
theorem in_of {j : Int32} {xs : List Value} {c : Cell} {v : Value} (hs : c.slots = xs.toArray) (hj : ¬ j < 0) (hv : xs[j.toNatClampNeg]? = some v) : ¬ (j < 0 ∨ c.slots.size ≤ j.toNatClampNeg) ∧ c.slots[j.toNatClampNeg]? = some v := by
  have h1 := (List.getElem?_eq_some_iff.mp hv).1
  refine ⟨fun q => q.elim hj fun r => ?_, by rw [hs]; simpa using hv⟩
  rw [hs] at r; simp at r; omega
theorem setSlot_list {c : Cell} {xs : List Value} {n : Nat} {v : Value} (hs : c.slots = xs.toArray) : (c.setSlot n v).slots = (xs.set n v).toArray := by simp [Cell.setSlot, hs]
theorem wp_iaload {i : Nat} {a : Addr} {fl : Bool} {xs : List Int32} {n x : Int32} (m : Nat) (hd : Dc bytes pc .iaload 1 pc') (hi : H[i]? = some (a, (fl, .inr (.inl (.int, xs))))) (hn : ¬ n < 0) (hm : n.toNatClampNeg = m) (hv : xs[m]? = some x) (hr : Wp b l Z own nm bytes maxL ret R H k j pc' Ls (.int x :: st) Q) : Wp b l Z own nm bytes maxL ret R H k j pc Ls (.int n :: .ref a :: st) Q := by
  obtain ⟨hd, rfl⟩ := hd
  refine Wp.step (fun p e s m args below meth c T L hx hZ hby hown X hH target h => ?_) hr
  obtain ⟨-, cl, A, hs, -⟩ := (hH.at hi).2
  obtain ⟨h1, h2⟩ := in_of hs hn (v := .int x) (by rw [hm]; simpa using hv)
  exact X.iaload hx A.1 (State.isArrayOf_alike hZ.alike A.2.1) A.2.2 h1 h2 (g := mkF m pc Ls (.int n :: .ref a :: st)) rfl rfl (hb hby hd) _ h
theorem wp_caload {i : Nat} {a : Addr} {fl : Bool} {xs : List Int32} {n x : Int32} (m : Nat) (hd : Dc bytes pc .caload 1 pc') (hi : H[i]? = some (a, (fl, .inr (.inl (.char, xs))))) (hn : ¬ n < 0) (hm : n.toNatClampNeg = m) (hv : xs[m]? = some x) (hr : Wp b l Z own nm bytes maxL ret R H k j pc' Ls (.int x :: st) Q) : Wp b l Z own nm bytes maxL ret R H k j pc Ls (.int n :: .ref a :: st) Q := by
  obtain ⟨hd, rfl⟩ := hd
  refine Wp.step (fun p e s m args below meth c T L hx hZ hby hown X hH target h => ?_) hr
  obtain ⟨-, cl, A, hs, -⟩ := (hH.at hi).2
  obtain ⟨h1, h2⟩ := in_of hs hn (v := .int x) (by rw [hm]; simpa using hv)
  exact X.caload hx A.1 (State.isArrayOf_alike hZ.alike A.2.1) A.2.2 h1 h2 (g := mkF m pc Ls (.int n :: .ref a :: st)) rfl rfl (hb hby hd) _ h
theorem wp_saload {i : Nat} {a : Addr} {fl : Bool} {xs : List Int32} {n x : Int32} (m : Nat) (hd : Dc bytes pc .saload 1 pc') (hi : H[i]? = some (a, (fl, .inr (.inl (.short, xs))))) (hn : ¬ n < 0) (hm : n.toNatClampNeg = m) (hv : xs[m]? = some x) (hr : Wp b l Z own nm bytes maxL ret R H k j pc' Ls (.int x :: st) Q) : Wp b l Z own nm bytes maxL ret R H k j pc Ls (.int n :: .ref a :: st) Q := by
  obtain ⟨hd, rfl⟩ := hd
  refine Wp.step (fun p e s m args below meth c T L hx hZ hby hown X hH target h => ?_) hr
  obtain ⟨-, cl, A, hs, -⟩ := (hH.at hi).2
  obtain ⟨h1, h2⟩ := in_of hs hn (v := .int x) (by rw [hm]; simpa using hv)
  exact X.saload hx A.1 (State.isArrayOf_alike hZ.alike A.2.1) A.2.2 h1 h2 (g := mkF m pc Ls (.int n :: .ref a :: st)) rfl rfl (hb hby hd) _ h
theorem wp_baload {i : Nat} {a : Addr} {fl : Bool} {xs : List Int32} {n x : Int32} (m : Nat) (hd : Dc bytes pc .baload 1 pc') (hi : H[i]? = some (a, (fl, .inr (.inl (.byte, xs))))) (hn : ¬ n < 0) (hm : n.toNatClampNeg = m) (hv : xs[m]? = some x) (hr : Wp b l Z own nm bytes maxL ret R H k j pc' Ls (.int x :: st) Q) : Wp b l Z own nm bytes maxL ret R H k j pc Ls (.int n :: .ref a :: st) Q := by
  obtain ⟨hd, rfl⟩ := hd
  refine Wp.step (fun p e s m args below meth c T L hx hZ hby hown X hH target h => ?_) hr
  obtain ⟨-, cl, A, hs, -⟩ := (hH.at hi).2
  obtain ⟨h1, h2⟩ := in_of hs hn (v := .int x) (by rw [hm]; simpa using hv)
  exact X.baloadBytes hx A.1 (State.isArrayOf_alike hZ.alike A.2.1) A.2.2 h1 h2 (g := mkF m pc Ls (.int n :: .ref a :: st)) rfl rfl (hb hby hd) _ h
theorem wp_zaload {i : Nat} {a : Addr} {fl : Bool} {xs : List Int32} {n x : Int32} (m : Nat) (hd : Dc bytes pc .baload 1 pc') (hi : H[i]? = some (a, (fl, .inr (.inl (.boolean, xs))))) (hn : ¬ n < 0) (hm : n.toNatClampNeg = m) (hv : xs[m]? = some x) (hr : Wp b l Z own nm bytes maxL ret R H k j pc' Ls (.int x :: st) Q) : Wp b l Z own nm bytes maxL ret R H k j pc Ls (.int n :: .ref a :: st) Q := by
  obtain ⟨hd, rfl⟩ := hd
  refine Wp.step (fun p e s m args below meth c T L hx hZ hby hown X hH target h => ?_) hr
  obtain ⟨-, cl, A, hs, -⟩ := (hH.at hi).2
  obtain ⟨h1, h2⟩ := in_of hs hn (v := .int x) (by rw [hm]; simpa using hv)
  exact X.baloadBooleans hx A.1 (State.isArrayOf_alike hZ.alike A.2.1) A.2.2 h1 h2 (g := mkF m pc Ls (.int n :: .ref a :: st)) rfl rfl (hb hby hd) _ h
theorem wp_laload {i : Nat} {a : Addr} {xs : List Int64} {n : Int32} {x : Int64} (m : Nat) (hd : Dc bytes pc .laload 1 pc') (hi : H[i]? = some (a, oJ xs)) (hn : ¬ n < 0) (hm : n.toNatClampNeg = m) (hv : xs[m]? = some x) (hr : Wp b l Z own nm bytes maxL ret R H k j pc' Ls (.long x :: st) Q) : Wp b l Z own nm bytes maxL ret R H k j pc Ls (.int n :: .ref a :: st) Q := by
  obtain ⟨hd, rfl⟩ := hd
  refine Wp.step (fun p e s m args below meth c T L hx hZ hby hown X hH target h => ?_) hr
  obtain ⟨Eq, cl, A, hs⟩ := (hH.at hi).2
  obtain ⟨h1, h2⟩ := in_of hs hn (v := .long x) (by rw [hm]; simpa using hv)
  exact X.laload hx A.1 (State.isArrayOf_alike hZ.alike A.2.1) A.2.2 h1 h2 (g := mkF m pc Ls (.int n :: .ref a :: st)) rfl rfl (hb hby hd) _ h
theorem wp_aaload {i : Nat} {a : Addr} {C : String} {ty : FieldType} {xs : List Value} {n : Int32} {x : Value} (m : Nat) (hd : Dc bytes pc .aaload 1 pc') (hi : H[i]? = some (a, oR C ty xs)) (hty : ty.isReference = true) (hn : ¬ n < 0) (hm : n.toNatClampNeg = m) (hv : xs[m]? = some x) (hr : Wp b l Z own nm bytes maxL ret R H k j pc' Ls (x :: st) Q) : Wp b l Z own nm bytes maxL ret R H k j pc Ls (.int n :: .ref a :: st) Q := by
  obtain ⟨hd, rfl⟩ := hd
  refine Wp.step (fun p e s m args below meth c T L hx hZ hby hown X hH target h => ?_) hr
  obtain ⟨-, cl, A, -, hs, -⟩ := (hH.at hi).2
  obtain ⟨h1, h2⟩ := in_of hs hn (hm.symm ▸ hv)
  exact X.aaload hx A.1 (State.isArrayOf_alike hZ.alike A.2.1) hty A.2.2 h1 h2 (g := mkF m pc Ls (.int n :: .ref a :: st)) rfl rfl (hb hby hd) _ h
theorem wp_lengthI {i : Nat} {a : Addr} {fl : Bool} {ty : FieldType} {xs : List Int32} (n : Int32) (hd : Dc bytes pc .arraylength 1 pc') (hi : H[i]? = some (a, (fl, .inr (.inl (ty, xs))))) (hn : xs.length.toInt32 = n) (hr : Wp b l Z own nm bytes maxL ret R H k j pc' Ls (.int n :: st) Q) : Wp b l Z own nm bytes maxL ret R H k j pc Ls (.ref a :: st) Q := by
  obtain ⟨hd, rfl⟩ := hd
  refine Wp.step (fun p e s m args below meth c T L hx hZ hby hown X hH target h => ?_) hr
  obtain ⟨-, cl, A, hs, -⟩ := (hH.at hi).2
  refine X.arraylength hx A.1 (State.isArrayOf_alike hZ.alike A.2.1) (g := mkF m pc Ls (.ref a :: st)) rfl rfl (hb hby hd) _ ?_
  have e1 : cl.slots.size.toInt32 = n := by rw [hs]; simpa using hn
  rw [e1]; exact h
theorem wp_lengthJ {i : Nat} {a : Addr} {xs : List Int64} (n : Int32) (hd : Dc bytes pc .arraylength 1 pc') (hi : H[i]? = some (a, oJ xs)) (hn : xs.length.toInt32 = n) (hr : Wp b l Z own nm bytes maxL ret R H k j pc' Ls (.int n :: st) Q) : Wp b l Z own nm bytes maxL ret R H k j pc Ls (.ref a :: st) Q := by
  obtain ⟨hd, rfl⟩ := hd
  refine Wp.step (fun p e s m args below meth c T L hx hZ hby hown X hH target h => ?_) hr
  obtain ⟨-, cl, A, hs⟩ := (hH.at hi).2
  refine X.arraylength hx A.1 (State.isArrayOf_alike hZ.alike A.2.1) (g := mkF m pc Ls (.ref a :: st)) rfl rfl (hb hby hd) _ ?_
  have e1 : cl.slots.size.toInt32 = n := by rw [hs]; simpa using hn
  rw [e1]; exact h
theorem wp_lengthR {i : Nat} {a : Addr} {C : String} {ty : FieldType} {xs : List Value} (n : Int32) (hd : Dc bytes pc .arraylength 1 pc') (hi : H[i]? = some (a, oR C ty xs)) (hn : xs.length.toInt32 = n) (hr : Wp b l Z own nm bytes maxL ret R H k j pc' Ls (.int n :: st) Q) : Wp b l Z own nm bytes maxL ret R H k j pc Ls (.ref a :: st) Q := by
  obtain ⟨hd, rfl⟩ := hd
  refine Wp.step (fun p e s m args below meth c T L hx hZ hby hown X hH target h => ?_) hr
  obtain ⟨-, cl, A, -, hs, -⟩ := (hH.at hi).2
  refine X.arraylength hx A.1 (State.isArrayOf_alike hZ.alike A.2.1) (g := mkF m pc Ls (.ref a :: st)) rfl rfl (hb hby hd) _ ?_
  have e1 : cl.slots.size.toInt32 = n := by rw [hs]; simpa using hn
  rw [e1]; exact h
theorem wp_iastore {i : Nat} {a : Addr} {xs : List Int32} {n x : Int32} (m : Nat) (hd : Dc bytes pc .iastore 1 pc') (hi : H[i]? = some (a, oA .int xs)) (hn : ¬ n < 0) (hm : n.toNatClampNeg = m) (hin : m < xs.length) (hr : Wp b l Z own nm bytes maxL ret R (H.set i (a, oA .int (xs.set m x))) k j pc' Ls st Q) : Wp b l Z own nm bytes maxL ret R H k j pc Ls (.int x :: .int n :: .ref a :: st) Q := by
  obtain ⟨hd, rfl⟩ := hd
  refine Wp.stepH fun p e s mm args below meth c T L hx hZ hby hml hown hnm hret X N hH => ?_
  subst hm
  obtain ⟨Eq, cl, A, hs, G⟩ := (hH.at hi).2
  obtain ⟨h1, -⟩ := in_of hs hn (v := .int xs[n.toNatClampNeg]) (by simp [hin])
  obtain ⟨T', h', X', e', W', stp⟩ := stI X hx hZ rfl A h1 (g := mkF mm pc Ls (.int x :: .int n :: .ref a :: st)) rfl rfl (hb hby hd)
  subst e'
  exact ⟨T', _, k, j, _, _, Ls, st, X', by rw [W'.size]; exact Nat.le_refl _, Fr.snoc X' N ((hH.at hi).1 rfl), hH.set hi W' (o' := .inr (.inl (_, xs.set n.toNatClampNeg _))) ⟨Eq.imp id (·.wr W'), _, A.same W', by rw [setSlot_list hs, List.map_set], fun y hy => (List.mem_or_eq_of_mem_set hy).elim (G y) fun q => by rw [q]; exact rfl⟩, hr, stp⟩
theorem wp_castore {i : Nat} {a : Addr} {xs : List Int32} {n x : Int32} (m : Nat) (hd : Dc bytes pc .castore 1 pc') (hi : H[i]? = some (a, oA .char xs)) (hn : ¬ n < 0) (hm : n.toNatClampNeg = m) (hin : m < xs.length) (hr : Wp b l Z own nm bytes maxL ret R (H.set i (a, oA .char (xs.set m (nar .char x)))) k j pc' Ls st Q) : Wp b l Z own nm bytes maxL ret R H k j pc Ls (.int x :: .int n :: .ref a :: st) Q := by
  obtain ⟨hd, rfl⟩ := hd
  refine Wp.stepH fun p e s mm args below meth c T L hx hZ hby hml hown hnm hret X N hH => ?_
  subst hm
  obtain ⟨Eq, cl, A, hs, G⟩ := (hH.at hi).2
  obtain ⟨h1, -⟩ := in_of hs hn (v := .int xs[n.toNatClampNeg]) (by simp [hin])
  obtain ⟨T', h', X', e', W', stp⟩ := stC X hx hZ rfl A h1 (g := mkF mm pc Ls (.int x :: .int n :: .ref a :: st)) rfl rfl (hb hby hd)
  subst e'
  exact ⟨T', _, k, j, _, _, Ls, st, X', by rw [W'.size]; exact Nat.le_refl _, Fr.snoc X' N ((hH.at hi).1 rfl), hH.set hi W' (o' := .inr (.inl (_, xs.set n.toNatClampNeg _))) ⟨Eq.imp id (·.wr W'), _, A.same W', by rw [setSlot_list hs, List.map_set], fun y hy => (List.mem_or_eq_of_mem_set hy).elim (G y) fun q => by rw [q]; exact fits_nar_char x⟩, hr, stp⟩
theorem wp_sastore {i : Nat} {a : Addr} {xs : List Int32} {n x : Int32} (m : Nat) (hd : Dc bytes pc .sastore 1 pc') (hi : H[i]? = some (a, oA .short xs)) (hn : ¬ n < 0) (hm : n.toNatClampNeg = m) (hin : m < xs.length) (hr : Wp b l Z own nm bytes maxL ret R (H.set i (a, oA .short (xs.set m (nar .short x)))) k j pc' Ls st Q) : Wp b l Z own nm bytes maxL ret R H k j pc Ls (.int x :: .int n :: .ref a :: st) Q := by
  obtain ⟨hd, rfl⟩ := hd
  refine Wp.stepH fun p e s mm args below meth c T L hx hZ hby hml hown hnm hret X N hH => ?_
  subst hm
  obtain ⟨Eq, cl, A, hs, G⟩ := (hH.at hi).2
  obtain ⟨h1, -⟩ := in_of hs hn (v := .int xs[n.toNatClampNeg]) (by simp [hin])
  obtain ⟨T', h', X', e', W', stp⟩ := stS X hx hZ rfl A h1 (g := mkF mm pc Ls (.int x :: .int n :: .ref a :: st)) rfl rfl (hb hby hd)
  subst e'
  exact ⟨T', _, k, j, _, _, Ls, st, X', by rw [W'.size]; exact Nat.le_refl _, Fr.snoc X' N ((hH.at hi).1 rfl), hH.set hi W' (o' := .inr (.inl (_, xs.set n.toNatClampNeg _))) ⟨Eq.imp id (·.wr W'), _, A.same W', by rw [setSlot_list hs, List.map_set], fun y hy => (List.mem_or_eq_of_mem_set hy).elim (G y) fun q => by rw [q]; exact fits_nar_short x⟩, hr, stp⟩
theorem wp_bastore {i : Nat} {a : Addr} {xs : List Int32} {n x : Int32} (m : Nat) (hd : Dc bytes pc .bastore 1 pc') (hi : H[i]? = some (a, oA .byte xs)) (hn : ¬ n < 0) (hm : n.toNatClampNeg = m) (hin : m < xs.length) (hr : Wp b l Z own nm bytes maxL ret R (H.set i (a, oA .byte (xs.set m (nar .byte x)))) k j pc' Ls st Q) : Wp b l Z own nm bytes maxL ret R H k j pc Ls (.int x :: .int n :: .ref a :: st) Q := by
  obtain ⟨hd, rfl⟩ := hd
  refine Wp.stepH fun p e s mm args below meth c T L hx hZ hby hml hown hnm hret X N hH => ?_
  subst hm
  obtain ⟨Eq, cl, A, hs, G⟩ := (hH.at hi).2
  obtain ⟨h1, -⟩ := in_of hs hn (v := .int xs[n.toNatClampNeg]) (by simp [hin])
  obtain ⟨T', h', X', e', W', stp⟩ := stB X hx hZ rfl A h1 (g := mkF mm pc Ls (.int x :: .int n :: .ref a :: st)) rfl rfl (hb hby hd)
  subst e'
  exact ⟨T', _, k, j, _, _, Ls, st, X', by rw [W'.size]; exact Nat.le_refl _, Fr.snoc X' N ((hH.at hi).1 rfl), hH.set hi W' (o' := .inr (.inl (_, xs.set n.toNatClampNeg _))) ⟨Eq.imp id (·.wr W'), _, A.same W', by rw [setSlot_list hs, List.map_set], fun y hy => (List.mem_or_eq_of_mem_set hy).elim (G y) fun q => by rw [q]; exact fits_nar_byte x⟩, hr, stp⟩
theorem wp_zastore {i : Nat} {a : Addr} {xs : List Int32} {n x : Int32} (m : Nat) (hd : Dc bytes pc .bastore 1 pc') (hi : H[i]? = some (a, oA .boolean xs)) (hn : ¬ n < 0) (hm : n.toNatClampNeg = m) (hin : m < xs.length) (hr : Wp b l Z own nm bytes maxL ret R (H.set i (a, oA .boolean (xs.set m (nar .boolean x)))) k j pc' Ls st Q) : Wp b l Z own nm bytes maxL ret R H k j pc Ls (.int x :: .int n :: .ref a :: st) Q := by
  obtain ⟨hd, rfl⟩ := hd
  refine Wp.stepH fun p e s mm args below meth c T L hx hZ hby hml hown hnm hret X N hH => ?_
  subst hm
  obtain ⟨Eq, cl, A, hs, G⟩ := (hH.at hi).2
  obtain ⟨h1, -⟩ := in_of hs hn (v := .int xs[n.toNatClampNeg]) (by simp [hin])
  obtain ⟨T', h', X', e', W', stp⟩ := stZ X hx hZ rfl A h1 (g := mkF mm pc Ls (.int x :: .int n :: .ref a :: st)) rfl rfl (hb hby hd)
  subst e'
  exact ⟨T', _, k, j, _, _, Ls, st, X', by rw [W'.size]; exact Nat.le_refl _, Fr.snoc X' N ((hH.at hi).1 rfl), hH.set hi W' (o' := .inr (.inl (_, xs.set n.toNatClampNeg _))) ⟨Eq.imp id (·.wr W'), _, A.same W', by rw [setSlot_list hs, List.map_set], fun y hy => (List.mem_or_eq_of_mem_set hy).elim (G y) fun q => by rw [q]; exact fits_nar_bool x⟩, hr, stp⟩
theorem wp_lastore {i : Nat} {a : Addr} {xs : List Int64} {n : Int32} {x : Int64} (m : Nat) (hd : Dc bytes pc .lastore 1 pc') (hi : H[i]? = some (a, oJ xs)) (hn : ¬ n < 0) (hm : n.toNatClampNeg = m) (hin : m < xs.length) (hr : Wp b l Z own nm bytes maxL ret R (H.set i (a, oJ (xs.set m x))) k j pc' Ls st Q) : Wp b l Z own nm bytes maxL ret R H k j pc Ls (.long x :: .int n :: .ref a :: st) Q := by
  obtain ⟨hd, rfl⟩ := hd
  refine Wp.stepH fun p e s mm args below meth c T L hx hZ hby hml hown hnm hret X N hH => ?_
  subst hm
  obtain ⟨Eq, cl, A, hs⟩ := (hH.at hi).2
  obtain ⟨h1, -⟩ := in_of hs hn (v := .long xs[n.toNatClampNeg]) (by simp [hin])
  obtain ⟨T', h', X', e', W', stp⟩ := stJ X hx hZ rfl A h1 (g := mkF mm pc Ls (.long x :: .int n :: .ref a :: st)) rfl rfl (hb hby hd)
  subst e'
  exact ⟨T', _, k, j, _, _, Ls, st, X', by rw [W'.size]; exact Nat.le_refl _, Fr.snoc X' N ((hH.at hi).1 rfl), hH.set hi W' (o' := .inr (.inr (.inl (xs.set n.toNatClampNeg x)))) ⟨Eq.wr W', _, A.same W', by rw [setSlot_list hs, List.map_set]⟩, hr, stp⟩
/-- a body's contract: handed these arguments among these new objects it returns and Q holds -/
def Met (l : Launch) (Z : State) (y : MethodName) (bytes : ByteArray) (maxL : Nat) (ret : Option FieldType) (rm : Room) (as' : List Value) (H : OH) (Q : Option Value → OH → Prop) : Prop :=
  ∀ (ws : List Jvm.Cond) (h : Heap), Hp Z h H → MetFree l y (head1 (Jvm.Cond.code y bytes maxL ret :: ws) rm) (fun a U => a = as'.toArray ∧ Z.Warmed39 U.vm ∧ U.heap = h) (fun _ _ _ _ _ => True)
    (fun _ U o U' => ∃ v L, o = .returned v ∧ (Fr Z.heap.size L ∧ h.size ≤ U'.heap.size ∧ ∃ H', Hp Z U'.heap H' ∧ Q v H') ∧ FrameEnd U o U' L rm.cells rm.slots)
theorem Met.of_wp {y : MethodName} {rm : Room} {as' : List Value} (hx : plainFor y = true) (hef : ∀ m, entryFrame m as'.toArray maxL = mkF m 0 Ls []) (hw : Wp none l Z y.cls y.name bytes maxL ret rm H 0 0 0 Ls [] Q) : Met l Z y bytes maxL ret rm as' H Q := by
  intro ws h hH
  refine MetFree.of_bodySF hx hisR ?_
  intro p e s m args below meth c s₁ Bd hml0 hP hK
  obtain ⟨rfl, hZ, hh⟩ := hP
  have X0 : Stand p l e rm s m as'.toArray below meth c s₁ [] 0 0 := Stand.of_body Bd
  have e0 : s₁.heap = h := by rw [← hh, Bd.state]; rfl
  obtain ⟨T', v, L', k', j', vm1, k1, H', ⟨hS, hk1, hvm⟩, X', ⟨hc, hj, hsz⟩, N', hH', hv, hQ, stp⟩ := hw p e s s.vm 0 m as'.toArray below meth c s₁ [] Bd.exec hZ ((State.WarmedH.refl s).since 0) (Nat.zero_le _) Bd.bytes hml0 (findClass_of_methodNamed Bd.named) (name_of_methodNamed Bd.named Bd.method).1 Bd.returns X0 (Fr.nil _) (by rw [e0]; exact hH) (fun _ q => nomatch q)
  obtain rfl := hvm rfl
  have X'' : Stand p l e rm s m as'.toArray below meth c T' L' k' j' := X'
  obtain ⟨fs, hr, hrun, hended, hW, hsame⟩ := X''.leave (v := v) (fun h => hv (Bd.returns.symm.trans h))
  refine ⟨_, _, castTop (hef m) (stp fs hr), hrun, hended, v, L', rfl, ⟨N', ?_, H', hH', hQ⟩, ⟨_, rfl⟩, hW, hsame.mono hc hj⟩
  rw [e0] at hsz; exact hsz
/-- the same for a body that may intern (a String constant loaded cold) -/
theorem MetW.of_wp {y : MethodName} {rm : Room} {as' : List Value} (hx : plainFor y = true) (hef : ∀ m, entryFrame m as'.toArray maxL = mkF m 0 Ls []) (hw : Wp b l Z y.cls y.name bytes maxL ret rm H 0 0 0 Ls [] Q) (ws : List Jvm.Cond) (h : Heap) (hH : Hp Z h H) :
    MetFree l y (head1 (Jvm.Cond.code y bytes maxL ret :: ws) rm) (fun a U => a = as'.toArray ∧ Z.Warmed39 U.vm ∧ U.heap = h ∧ MdOk b Z U U.vm) (fun _ _ _ _ _ => True)
      (fun _ U o U' => ∃ v L, o = .returned v ∧ (Fr Z.heap.size L ∧ ∃ H', Hp Z U'.heap H' ∧ Q v H') ∧ ReturnedEndW U o U' L rm.cells rm.slots) := by
  refine MetFree.of_bodySF hx hisR ?_
  intro p e s m args below meth c s₁ Bd hml0 hP hK
  obtain ⟨rfl, hZ, hh, hB⟩ := hP
  have X0 : Stand p l e rm s m as'.toArray below meth c s₁ [] 0 0 := Stand.of_body Bd
  have e0 : s₁.heap = h := by rw [← hh, Bd.state]; rfl
  obtain ⟨T', v, L', k', j', vm1, k1, H', ⟨hS, hk1, -⟩, X', ⟨hc, hj, hsz⟩, N', hH', hv, hQ, stp⟩ := hw p e s s.vm 0 m as'.toArray below meth c s₁ [] Bd.exec hZ ((State.WarmedH.refl s).since 0) (Nat.zero_le _) Bd.bytes hml0 (findClass_of_methodNamed Bd.named) (name_of_methodNamed Bd.named Bd.method).1 Bd.returns X0 (Fr.nil _) (by rw [e0]; exact hH) hB
  obtain ⟨fs, hr, hrun, hended, q1, q2, q3, q4⟩ := X'.leaveW hS hk1 (v := v) (fun h => hv (Bd.returns.symm.trans h))
  exact ⟨_, _, castTop (hef m) (stp fs hr), hrun, hended, v, L', rfl, ⟨N', H', hH', hQ⟩, q1, q2, q3, q4.mono hc hj⟩
theorem Met.mono {y : MethodName} {rm : Room} {as' : List Value} {Q' : Option Value → OH → Prop} (M : Met l Z y bytes maxL ret rm as' H Q') (hq : ∀ v H', Q' v H' → Q v H') : Met l Z y bytes maxL ret rm as' H Q := fun ws h hH p e ha hc hk s m args below hf happ hP hK => by
  obtain ⟨n, o, h1, h2, h3, v, L, rfl, ⟨q1, q2, H', q3, q4⟩, h5⟩ := M ws h hH p e ha hc hk s m args below hf happ hP hK
  exact ⟨n, _, h1, h2, h3, v, L, rfl, ⟨q1, q2, H', q3, hq _ _ q4⟩, h5⟩
theorem wp_callS {y : MethodName} {bytes' : ByteArray} {maxL' : Nat} {ret' : Option FieldType} {rm : Room} {rest : List Value} {Q' : Option Value → OH → Prop} {idx : Nat} {ps : List FieldType} {rt : Option FieldType} {as' : List Value} (M : Met l Z y bytes' maxL' ret' rm as' H Q') (hd : Dc bytes pc (.invokestatic idx) 3 pc') (w1 : (Cond.methodLink own idx y).before a0 Z = true) (w2 : (Cond.static y).before a0 Z = true) (w3 : (Cond.initialized y.cls).before a0 Z = true) (w4 : (Cond.code y bytes' maxL' ret').before a0 Z = true) (hy : y.cls ≠ "java/lang/invoke/MethodHandle" ∧ y.cls ≠ "java/lang/invoke/VarHandle") (hpd : parseMethodDescriptor y.desc = some ⟨ps, rt⟩) (hlen : as'.length = ps.length) (hst : st = as'.reverse ++ rest) (hsz : Ls.size = maxL) (hf : rm.frames + 1 ≤ R.frames) (hl : (rest.map fun v => v.category).sum + (maxL' + 11) + rm.locals ≤ R.locals) (hc : k + rm.cells ≤ R.cells) (hj : j + rm.slots ≤ R.slots) (hr : ∀ v H', Q' v H' → Wp b l Z own nm bytes maxL ret R H' (k + rm.cells) (j + rm.slots) pc' Ls (v.toList ++ rest) Q) : Wp b l Z own nm bytes maxL ret R H k j pc Ls st Q := by
  obtain ⟨hd, rfl⟩ := hd
  refine Wp.stepH fun p e s m args below meth c T L hx hZ hby hml hown hnm hret X N hH => ?_
  obtain ⟨v, _, ⟨T', L', k', n'⟩, -, X', ⟨Lc, ⟨N', hsz', H', hH', hQ⟩, l1, y1, z1⟩, stp⟩ := Jvm.LawKit.callS X hx (y := y) hown (mvT hZ w1) (mvT hZ w2) (mvT hZ w3) (mvT hZ w4) hy (backOf (W := (rest.map fun v => v.category).sum) (Q := fun v h L => Fr Z.heap.size L ∧ T.heap.size ≤ h.size ∧ ∃ H', Hp Z h H' ∧ Q' v H') (M [] T.heap hH) hZ w4 w3 hf hl) (g := mkF m pc Ls st) rfl (by rw [hml]; exact hsz) (argsL := as') (rest := rest) (lenOf hpd hlen) hst (by show 2 * 0 + _ ≤ _; omega) (hb hby hd) (fun _ _ => ⟨rfl, rfl, hc, hj⟩)
  dsimp only [Pt.U, Pt.locs, Pt.cells, Pt.slots] at X' l1 y1 z1 stp hH' hsz'
  subst l1 y1 z1
  exact ⟨T', _, _, _, H', _, Ls, v.toList ++ rest, X', hsz', N.app N', hH', hr v H' hQ, stp⟩
theorem wp_init {y : MethodName} {bytes' : ByteArray} {maxL' : Nat} {rm : Room} {rest : List Value} {Q' : Option Value → OH → Prop} {idx : Nat} {ps : List FieldType} {rt : Option FieldType} {a : Addr} {as' : List Value} (M : Met l Z y bytes' maxL' none rm (.ref a :: as') H Q') (hd : Dc bytes pc (.invokespecial idx) 3 pc') (hin : y.name = "<init>") (w1 : (Cond.methodLink own idx y).before a0 Z = true) (w2 : (Cond.instanceMethod y).before a0 Z = true) (w3 : (Cond.initialized y.cls).before a0 Z = true) (w4 : (Cond.code y bytes' maxL' none).before a0 Z = true) (hy : y.cls ≠ "java/lang/invoke/MethodHandle" ∧ y.cls ≠ "java/lang/invoke/VarHandle") (hpd : parseMethodDescriptor y.desc = some ⟨ps, rt⟩) (hlen : as'.length = ps.length) (hst : st = as'.reverse ++ .ref a :: rest) (hsz : Ls.size = maxL) (hf : rm.frames + 1 ≤ R.frames) (hl : (rest.map fun v => v.category).sum + (maxL' + 11) + rm.locals ≤ R.locals) (hc : k + rm.cells ≤ R.cells) (hj : j + rm.slots ≤ R.slots) (hr : ∀ v H', Q' v H' → Wp b l Z own nm bytes maxL ret R H' (k + rm.cells) (j + rm.slots) pc' Ls (v.toList ++ rest) Q) : Wp b l Z own nm bytes maxL ret R H k j pc Ls st Q := by
  obtain ⟨hd, rfl⟩ := hd
  refine Wp.stepH fun p e s m args below meth c T L hx hZ hby hml hown hnm hret X N hH => ?_
  obtain ⟨v, _, ⟨T', L', k', n'⟩, -, X', ⟨Lc, ⟨N', hsz', H', hH', hQ⟩, l1, y1, z1⟩, stp⟩ := X.specialBack hx (y := y) hin hown (mvT hZ w1) (mvT hZ w2) (mvT hZ w4) hy (backOf (W := (rest.map fun v => v.category).sum) (Q := fun v h L => Fr Z.heap.size L ∧ T.heap.size ≤ h.size ∧ ∃ H', Hp Z h H' ∧ Q' v H') (M [] T.heap hH) hZ w4 w3 hf hl) (g := mkF m pc Ls st) rfl (by rw [hml]; exact hsz) (Steps.refl _) (a := a) (argsL := as') (rest := rest) (lenOf hpd hlen) hst (by show 2 * 0 + _ ≤ _; omega) (hb hby hd) (fun _ _ => ⟨rfl, rfl, hc, hj⟩)
  dsimp only [Pt.U, Pt.locs, Pt.cells, Pt.slots] at X' l1 y1 z1 stp hH' hsz'
  subst l1 y1 z1
  exact ⟨T', _, _, _, H', _, Ls, v.toList ++ rest, X', hsz', N.app N', hH', hr v H' hQ, fun _ q => stp.trans q⟩
theorem wp_virtual {y : MethodName} {bytes' : ByteArray} {maxL' : Nat} {ret' : Option FieldType} {rm : Room} {rest : List Value} {Q' : Option Value → OH → Prop} {idx : Nat} {ps : List FieldType} {rt : Option FieldType} {x : MethodName} {C : String} {a : Addr} {as' : List Value} (M : Met l Z y bytes' maxL' ret' rm (.ref a :: as') H Q') (E : ExaAt Z H a C) (hd : Dc bytes pc (.invokevirtual idx) 3 pc') (w1 : (Cond.methodLink own idx x).before a0 Z = true) (w2 : (Cond.declares x).before a0 Z = true) (wn : (Cond.selects x.cls x x).before a0 Z = true) (ws : (Cond.selects C x y).before a0 Z = true) (wi : (Cond.instanceMethod y).before a0 Z = true) (w3 : (Cond.initialized y.cls).before a0 Z = true) (w4 : (Cond.code y bytes' maxL' ret').before a0 Z = true) (hy : x.cls ≠ "java/lang/invoke/MethodHandle" ∧ x.cls ≠ "java/lang/invoke/VarHandle") (hpd : parseMethodDescriptor x.desc = some ⟨ps, rt⟩) (hlen : as'.length = ps.length) (hst : st = as'.reverse ++ .ref a :: rest) (hsz : Ls.size = maxL) (hf : rm.frames + 1 ≤ R.frames) (hl : (rest.map fun v => v.category).sum + (maxL' + 11) + rm.locals ≤ R.locals) (hc : k + rm.cells ≤ R.cells) (hj : j + rm.slots ≤ R.slots) (hr : ∀ v H', Q' v H' → Wp b l Z own nm bytes maxL ret R H' (k + rm.cells) (j + rm.slots) pc' Ls (v.toList ++ rest) Q) : Wp b l Z own nm bytes maxL ret R H k j pc Ls st Q := by
  obtain ⟨hd, rfl⟩ := hd
  refine Wp.stepH fun p e s m args below meth c T L hx hZ hby hml hown hnm hret X N hH => ?_
  obtain ⟨cq, kq, q1, q2, q3⟩ := isOf hZ rfl (E _ hH)
  obtain ⟨v, _, ⟨T', L', k', n'⟩, -, X', ⟨Lc, ⟨N', hsz', H', hH', hQ⟩, l1, y1, z1⟩, stp⟩ := X.virtualBack hx (y := x) (z := y) hown (mvT hZ w1) (mvT hZ w2) (notFace_of_selects (args := #[]) (mvT hZ wn)) (mvT hZ ws) (mvT hZ wi) hy (backOf (W := (rest.map fun v => v.category).sum) (Q := fun v h L => Fr Z.heap.size L ∧ T.heap.size ≤ h.size ∧ ∃ H', Hp Z h H' ∧ Q' v H') (M [] T.heap hH) hZ w4 w3 hf hl) q1 q3 (g := mkF m pc Ls st) rfl (by rw [hml]; exact hsz) (Steps.refl _) (argsL := as') (rest := rest) (lenOf hpd hlen) hst (by show 2 * 0 + _ ≤ _; omega) (hb hby hd) (fun _ _ => ⟨rfl, rfl, hc, hj⟩)
  dsimp only [Pt.U, Pt.locs, Pt.cells, Pt.slots] at X' l1 y1 z1 stp hH' hsz'
  subst l1 y1 z1
  exact ⟨T', _, _, _, H', _, Ls, v.toList ++ rest, X', hsz', N.app N', hH', hr v H' hQ, fun _ q => stp.trans q⟩
theorem xs_pop2L {tb : Tables} [Ours tb] {e : Env} {below : List Frame} {T target : State} {m : MethodId} {c : Code} {g : JFrame} (h : At T m c below) (hx : tb.exec = Jvm.exec) (hg : g.method = m) {x : Int64} {rest : List Value} (hd : decode c.code g.pc = .ok (.pop2, 1)) (hs : g.stack = .long x :: rest)
    (hr : Steps tb e below (T.setTop { g with pc := g.pc + 1, stack := rest }) target) : Steps tb e below (T.setTop g) target := by
  subst hg
  jvm_step h [h.top, hx, hd, hs, Value.category]
  exact hr
theorem xs_dup_x2 {tb : Tables} [Ours tb] {e : Env} {below : List Frame} {T target : State} {m : MethodId} {c : Code} {g : JFrame} (h : At T m c below) (hx : tb.exec = Jvm.exec) (hg : g.method = m) {x y z : Value} {rest : List Value} (hd : decode c.code g.pc = .ok (.dup_x2, 1)) (hs : g.stack = x :: y :: z :: rest) (hc1 : x.category = 1) (hc2 : y.category = 1) (hc3 : z.category = 1)
    (hr : Steps tb e below (T.setTop { g with pc := g.pc + 1, stack := x :: y :: z :: x :: rest }) target) : Steps tb e below (T.setTop g) target := by
  subst hg
  jvm_step h [h.top, hx, hd, hs, hc1, hc2, hc3]
  exact hr
theorem wp_pop2L {x : Int64} (hd : Dc bytes pc (.pop2) 1 pc')  (hr : Wp b l Z own nm bytes maxL ret R H k j pc' Ls st Q) : Wp b l Z own nm bytes maxL ret R H k j pc Ls (.long x :: st) Q := by
  obtain ⟨hd, rfl⟩ := hd
  exact Wp.step (fun p e s m args below meth c T L hx hZ hby hown X hH target ht => xs_pop2L X.here hx rfl (hb hby hd) rfl ht) hr
theorem wp_dup_x2 {x y z : Value} (hd : Dc bytes pc (.dup_x2) 1 pc') (hc1 : x.category = 1) (hc2 : y.category = 1) (hc3 : z.category = 1) (hr : Wp b l Z own nm bytes maxL ret R H k j pc' Ls (x :: y :: z :: x :: st) Q) : Wp b l Z own nm bytes maxL ret R H k j pc Ls (x :: y :: z :: st) Q := by
  obtain ⟨hd, rfl⟩ := hd
  exact Wp.step (fun p e s m args below meth c T L hx hZ hby hown X hH target ht => xs_dup_x2 X.here hx rfl (hb hby hd) rfl hc1 hc2 hc3 ht) hr
theorem wp_private {y : MethodName} {bytes' : ByteArray} {maxL' : Nat} {ret' : Option FieldType} {rm : Room} {rest : List Value} {Q' : Option Value → OH → Prop} {idx : Nat} {ps : List FieldType} {rt : Option FieldType} {a : Addr} {C : String} {kk : Nat} {as' : List Value} (M : Met l Z y bytes' maxL' ret' rm (.ref a :: as') H Q') (E : ExaAt Z H a C) (hd : Dc bytes pc (.invokevirtual idx) 3 pc') (w1 : (Cond.methodLink own idx y).before a0 Z = true) (wi : (Cond.instanceMethod y).before a0 Z = true) (wn : (Cond.instantiable y.cls kk).before a0 Z = true) (wp : (Cond.privateMethod y).before a0 Z = true) (w3 : (Cond.initialized y.cls).before a0 Z = true) (w4 : (Cond.code y bytes' maxL' ret').before a0 Z = true) (hy : y.cls ≠ "java/lang/invoke/MethodHandle" ∧ y.cls ≠ "java/lang/invoke/VarHandle") (hpd : parseMethodDescriptor y.desc = some ⟨ps, rt⟩) (hlen : as'.length = ps.length) (hst : st = as'.reverse ++ .ref a :: rest) (hsz : Ls.size = maxL) (hf : rm.frames + 1 ≤ R.frames) (hl : (rest.map fun v => v.category).sum + (maxL' + 11) + rm.locals ≤ R.locals) (hc : k + rm.cells ≤ R.cells) (hj : j + rm.slots ≤ R.slots) (hr : ∀ v H', Q' v H' → Wp b l Z own nm bytes maxL ret R H' (k + rm.cells) (j + rm.slots) pc' Ls (v.toList ++ rest) Q) : Wp b l Z own nm bytes maxL ret R H k j pc Ls st Q := by
  obtain ⟨hd, rfl⟩ := hd
  refine Wp.stepH fun p e s m args below meth c T L hx hZ hby hml hown hnm hret X N hH => ?_
  obtain ⟨cl, q1, q2⟩ := (E _ hH).cell
  obtain ⟨mk, mt, n1, n2, n3, n4⟩ := Cond.instanceMethod_spec (mvT (args := args) hZ wi)
  obtain ⟨mt', cM, n2', -, -, -, -, -, -, n5⟩ := Cond.code_spec n1 (mvT (args := args) hZ w4)
  cases n2.symm.trans n2'
  obtain ⟨c2, k2, i1, i2, -, i4, -⟩ := Cond.instantiable_spec (mvT (args := args) hZ wn)
  cases (findClass_of_methodNamed n1).symm.trans i1
  have i5 : k2.isInterface = false := by cases q : k2.isInterface with | false => rfl | true => rw [q] at i4; cases i4
  have hsel : selectMethod e.platform s.vm cl.cls mk = .method mk := selectMethod_private n2 (Cond.privateMethod_at (mvP (args := args) hZ wp) mk mt n1 n2)
  obtain ⟨vm1, X1, st1⟩ := X.invokevirtual hx hown (mvT hZ w1) n1 n2 n3 i2 i5 hy (a := a) (cell := cl) q1 q2 hsel n2 n4 i2 i5 (g := mkF m pc Ls st) rfl (argsL := as') (rest := rest) (lenOf hpd hlen _ n5) hst (hb hby hd)
  obtain ⟨v, ⟨T', L', k', n'⟩, X', ⟨Lc, ⟨N', hsz', H', hH', hQ⟩, l1, y1, z1⟩, st2⟩ := backOf (p := p) (e := e) (below := below) (args := args) (len := 3) (W := (rest.map fun v => v.category).sum) (Q := fun v h L => Fr Z.heap.size L ∧ T.heap.size ≤ h.size ∧ ∃ H', Hp Z h H' ∧ Q' v H') (M [] T.heap hH) hZ w4 w3 hf hl m meth c ⟨T.setVm vm1, L, k, j⟩ { mkF m pc Ls st with stack := rest } (.invokevirtual idx) mk (.ref a :: as').toArray X1 rfl (by show Ls.size = _; rw [hml]; exact hsz) (hb hby hd) (by show 2 * 0 + (rest.map fun v => v.category).sum ≤ _; omega) (X1.named n1) ⟨rfl, rfl, hc, hj⟩
  dsimp only [Pt.U, Pt.locs, Pt.cells, Pt.slots] at X' l1 y1 z1 st2 hH' hsz'
  subst l1 y1 z1
  exact ⟨T', _, _, _, H', _, Ls, v.toList ++ rest, X', hsz', N.app N', hH', hr v H' hQ, fun t q => st1 _ fun acts => by rw [doInvoke_state]; exact st2.trans q⟩
theorem wp_interface {y : MethodName} {bytes' : ByteArray} {maxL' : Nat} {ret' : Option FieldType} {rm : Room} {rest : List Value} {Q' : Option Value → OH → Prop} {idx : Nat} {ps : List FieldType} {rt : Option FieldType} {x : MethodName} {C : String} {cnt : Nat} {a : Addr} {as' : List Value} (M : Met l Z y bytes' maxL' ret' rm (.ref a :: as') H Q') (E : ExaAt Z H a C) (hd : Dc bytes pc (.invokeinterface idx cnt) 5 pc') (w1 : (Cond.methodLink own idx x).before a0 Z = true) (w2 : (Cond.declares x).before a0 Z = true) (wf : (Cond.interfaceMethod x.cls x.cls x.name x.desc).before a0 Z = true) (hfa : ((Cond.interfaceMethod x.cls x.cls x.name x.desc).onTables && (Cond.interfaceMethod x.cls x.cls x.name x.desc).keepsFace) = true) (ws : (Cond.selects C x y).before a0 Z = true) (wi : (Cond.instanceMethod y).before a0 Z = true) (wpu : (Cond.publicMethod y).before a0 Z = true) (wu : (Cond.unhidden C x.name x.desc).before a0 Z = true) (wc : (Cond.castable C x.cls).before a0 Z = true) (w3 : (Cond.initialized y.cls).before a0 Z = true) (w4 : (Cond.code y bytes' maxL' ret').before a0 Z = true) (hy : x.cls ≠ "java/lang/invoke/MethodHandle" ∧ x.cls ≠ "java/lang/invoke/VarHandle") (hpd : parseMethodDescriptor x.desc = some ⟨ps, rt⟩) (hlen : as'.length = ps.length) (hst : st = as'.reverse ++ .ref a :: rest) (hsz : Ls.size = maxL) (hf : rm.frames + 1 ≤ R.frames) (hl : (rest.map fun v => v.category).sum + (maxL' + 11) + rm.locals ≤ R.locals) (hc : k + rm.cells ≤ R.cells) (hj : j + rm.slots ≤ R.slots) (hr : ∀ v H', Q' v H' → Wp b l Z own nm bytes maxL ret R H' (k + rm.cells) (j + rm.slots) pc' Ls (v.toList ++ rest) Q) : Wp b l Z own nm bytes maxL ret R H k j pc Ls st Q := by
  obtain ⟨hd, rfl⟩ := hd
  refine Wp.stepH fun p e s m args below meth c T L hx hZ hby hml hown hnm hret X N hH => ?_
  obtain ⟨cq, kq, q1, q2, q3⟩ := isOf hZ rfl (E _ hH)
  obtain ⟨v, _, ⟨T', L', k', n'⟩, -, X', ⟨Lc, ⟨N', hsz', H', hH', hQ⟩, l1, y1, z1⟩, stp⟩ := X.interfaceBack hx (xi := x) (y := y) hown (mvT hZ w1) (mvT hZ w2) (mvT hZ wf hfa) (mvT hZ ws) (mvT hZ wi) (mvT hZ wpu) (mvT hZ wu) (mvT hZ wc) hy (backOf (len := 5) (W := (rest.map fun v => v.category).sum) (Q := fun v h L => Fr Z.heap.size L ∧ T.heap.size ≤ h.size ∧ ∃ H', Hp Z h H' ∧ Q' v H') (M [] T.heap hH) hZ w4 w3 hf hl) q1 q2 q3 (g := mkF m pc Ls st) rfl (by rw [hml]; exact hsz) (Steps.refl _) (argsL := as') (rest := rest) (lenOf hpd hlen) hst (by show 2 * 0 + _ ≤ _; omega) (hb hby hd) (fun _ _ => ⟨rfl, rfl, hc, hj⟩)
  dsimp only [Pt.U, Pt.locs, Pt.cells, Pt.slots] at X' l1 y1 z1 stp hH' hsz'
  subst l1 y1 z1
  exact ⟨T', _, _, _, H', _, Ls, v.toList ++ rest, X', hsz', N.app N', hH', hr v H' hQ, fun _ q => stp.trans q⟩
theorem wp_ldcS {text : String} {idx n : Nat} (hd : Dc bytes pc (.ldc idx) 2 pc') (hbt : b = some none) (w : (Cond.stringLink own idx text).before a0 Z = true) (wS : ∀ a ∈ Bundle.stringAtoms, a.before a0 Z = true) (hn : 4 * text.toList.length ≤ n) (hbig : n ≤ 536870912) (hc : k + 2 ≤ R.cells) (hl : j + (n + 4) ≤ R.slots) (hr : ∀ a, Wp b l Z own nm bytes maxL ret R H (k + 2) (j + (n + 4)) pc' Ls (.ref a :: st) Q) : Wp b l Z own nm bytes maxL ret R H k j pc Ls st Q := by
  obtain ⟨hd, rfl⟩ := hd
  intro p e s vm0 k0 m args below meth c T L hx hZ hS hk hby hml hown hnm hret X N hH hB
  obtain ⟨a, T', h', k1, X', e', E', hS', hk1, hZ', hown', stp⟩ := ldcS X hx hZ hown w wS rfl hS hk (g := mkF m pc Ls st) rfl (hb hby hd) hn hbig hc hl
  subst e'
  obtain ⟨T2, v, L2, k2, j2, vm1, k3, H2, ⟨r0, r1, r2⟩, r3, ⟨r4, r5, r6⟩, r7, r8, r9, r10, r11⟩ := hr a p e s T'.vm k1 m args below meth c T' L hx hZ' hS' hk1 hby hml hown' hnm hret X' N (hH.ext E') (fun _ q => by rw [hbt] at q; cases q)
  exact ⟨T2, v, L2, k2, j2, vm1, k3, H2, ⟨r0, r1, fun q => by rw [hbt] at q; cases q⟩, r3, ⟨r4, r5, Nat.le_trans E'.1 r6⟩, r7, r8, r9, r10, fun fs hl => stp _ (r11 fs hl)⟩
theorem wp_cast {a : Addr} {K : String} {idx : Nat} (hd : Dc bytes pc (.checkcast idx) 3 pc') (w : (Cond.classLink own idx K).before a0 Z = true) (F : ∀ h, Hp Z h H → Ins Z h a K true) (hr : Wp b l Z own nm bytes maxL ret R H k j pc' Ls (.ref a :: st) Q) : Wp b l Z own nm bytes maxL ret R H k j pc Ls (.ref a :: st) Q := by
  obtain ⟨hd, rfl⟩ := hd
  refine Wp.stepH fun p e s m args below meth c T L hx hZ hby hml hown hnm hret X N hH => ?_
  obtain ⟨T', X', e', stp⟩ := castY X hx hZ hown w rfl (F _ hH) (g := mkF m pc Ls (.ref a :: st)) rfl rfl (hb hby hd)
  exact ⟨T', L, k, j, H, _, Ls, .ref a :: st, X', by rw [e']; exact Nat.le_refl _, N, by rw [e']; exact hH, hr, stp⟩
theorem wp_instY {a : Addr} {K : String} {idx : Nat} (hd : Dc bytes pc (.instanceof idx) 3 pc') (w : (Cond.classLink own idx K).before a0 Z = true) (F : ∀ h, Hp Z h H → Ins Z h a K true) (hr : Wp b l Z own nm bytes maxL ret R H k j pc' Ls (.int 1 :: st) Q) : Wp b l Z own nm bytes maxL ret R H k j pc Ls (.ref a :: st) Q := by
  obtain ⟨hd, rfl⟩ := hd
  refine Wp.stepH fun p e s m args below meth c T L hx hZ hby hml hown hnm hret X N hH => ?_
  obtain ⟨T', X', e', stp⟩ := instY X hx hZ hown w rfl (F _ hH) (g := mkF m pc Ls (.ref a :: st)) rfl rfl (hb hby hd)
  exact ⟨T', L, k, j, H, _, Ls, .int 1 :: st, X', by rw [e']; exact Nat.le_refl _, N, by rw [e']; exact hH, hr, stp⟩
theorem wp_instN {a : Addr} {C K : String} {idx : Nat} (hd : Dc bytes pc (.instanceof idx) 3 pc') (w : (Cond.classLink own idx K).before a0 Z = true) (E : ExaAt Z H a C) (F : ∃ c t, Z.vm.findClass C = some c ∧ Z.vm.findClass K = some t ∧ Z.vm.assignable c t = false) (hr : Wp b l Z own nm bytes maxL ret R H k j pc' Ls (.int 0 :: st) Q) : Wp b l Z own nm bytes maxL ret R H k j pc Ls (.ref a :: st) Q := by
  obtain ⟨hd, rfl⟩ := hd
  refine Wp.stepH fun p e s m args below meth c T L hx hZ hby hml hown hnm hret X N hH => ?_
  obtain ⟨T', X', e', stp⟩ := instNo X hx hZ hown w rfl (E _ hH) F (g := mkF m pc Ls (.ref a :: st)) rfl rfl (hb hby hd)
  exact ⟨T', L, k, j, H, _, Ls, .int 0 :: st, X', by rw [e']; exact Nat.le_refl _, N, by rw [e']; exact hH, hr, stp⟩
theorem wp_anewarray {C : String} {idx : Nat} {n : Int32} (cnt cap : Nat) (hd : Dc bytes pc (.anewarray idx) 3 pc') (w1 : (Cond.classLink own idx C).before a0 Z = true) (w2 : (Cond.arrayOver (.object C)).before a0 Z = true) (hn : ¬ n < 0) (hcnt : n.toNatClampNeg = cnt) (hcap : cnt ≤ cap) (hb8 : cap * 8 ≤ 536870912) (hc : k + 1 ≤ R.cells) (hl : j + cap ≤ R.slots) (hr : ∀ a, Wp b l Z own nm bytes maxL ret R ((a, oR C (.object C) (List.replicate cnt .null)) :: H) (k + 1) (j + cap) pc' Ls (.ref a :: st) Q) : Wp b l Z own nm bytes maxL ret R H k j pc Ls (.int n :: st) Q := by
  obtain ⟨hd, rfl⟩ := hd
  refine Wp.stepH fun p e s m args below meth c T L hx hZ hby hml hown hnm hret X N hH => ?_
  obtain ⟨T', h', cA, X', e', E', A', B', O', stp⟩ := newRE X hx hZ hown w1 w2 rfl (g := mkF m pc Ls (.int n :: st)) rfl (hb hby hd) rfl hn (cap := cap) (by rw [hcnt]; exact hcap) hb8 hc hl rfl
  subst e'
  refine ⟨T', L, _, _, _, _, Ls, _, X', E'.1, N, hH.cons E' (o := .inr (.inr (.inr (_, _, List.replicate cnt .null)))) ⟨B', _, A', O', ?_, fun v hv => ?_⟩, hr _, stp⟩
  · simp [newA, hcnt, defaultValue]
  · rw [(List.mem_replicate.mp hv).2]; rfl
theorem Sto.ofT {h : Heap} {a y : Addr} {cl : Cell} {ty ty' : FieldType} {C : String} (A : Arr Z h a cl ty') (O : OvrT Z cl.cls C ty) (I : Ins Z h y C true) : Sto Z h a (.ref y) := by
  obtain ⟨k, comp, o1, o2, o3⟩ := O
  obtain ⟨cv, cT, i1, i2, i3⟩ := I
  cases o3.symm.trans i2
  simp only [Bool.and_eq_true, Bool.not_eq_true'] at i3
  obtain ⟨kc, q⟩ := Vm.classAt_of_findClass o3
  obtain ⟨kv, q2⟩ := Vm.classAt_of_assignable i3.2 ⟨kc, q⟩
  exact Or.inr ⟨cl, cv, k, kv, kc, _, _, y, A.1, o1, o2, q, rfl, i1, i3.1, q2, i3.2⟩
theorem wp_aastore {i : Nat} {a : Addr} {C : String} {ty : FieldType} {xs : List Value} {n : Int32} {x : Value} (m : Nat) (hd : Dc bytes pc .aastore 1 pc') (hi : H[i]? = some (a, oR C ty xs)) (hty : ty.isReference = true) (hn : ¬ n < 0) (hm : n.toNatClampNeg = m) (hin : m < xs.length) (F : x = .null ∨ ∃ y, x = .ref y ∧ ∀ h, Hp Z h H → Ins Z h y C true) (hr : Wp b l Z own nm bytes maxL ret R (H.set i (a, oR C ty (xs.set m x))) k j pc' Ls st Q) : Wp b l Z own nm bytes maxL ret R H k j pc Ls (x :: .int n :: .ref a :: st) Q := by
  obtain ⟨hd, rfl⟩ := hd
  refine Wp.stepH fun p e s mm args below meth c T L hx hZ hby hml hown hnm hret X N hH => ?_
  subst hm
  obtain ⟨Eq, cl, A, O, hs, G⟩ := (hH.at hi).2
  obtain ⟨h1, -⟩ := in_of hs hn (v := xs[n.toNatClampNeg]) (by simp [hin])
  have S : Sto Z T.heap a x := by
    rcases F with rfl | ⟨y, rfl, F⟩
    · exact Or.inl rfl
    · exact Sto.ofT A O (F _ hH)
  obtain ⟨T', h', X', e', W', stp⟩ := stR X hx hZ rfl A h1 hty S (g := mkF mm pc Ls (x :: .int n :: .ref a :: st)) rfl rfl (hb hby hd)
  subst e'
  exact ⟨T', _, k, j, _, _, Ls, st, X', by rw [W'.size]; exact Nat.le_refl _, Fr.snoc X' N ((hH.at hi).1 rfl), hH.set hi W' (o' := .inr (.inr (.inr (C, ty, xs.set n.toNatClampNeg x)))) ⟨Eq.wr W', _, A.same W', O, setSlot_list hs, fun y hy => (List.mem_or_eq_of_mem_set hy).elim (G y) fun q => by rw [q]; rcases F with rfl | ⟨y, rfl, F⟩ <;> rfl⟩, hr, stp⟩
theorem sta_of {args : Array Value} {s : State} {C n d K : String} (h : (Cond.exactly (Term.static C n d) K).value args s none s [] = some true) (wi : (Cond.initialized C).before args s = true) (wl : (Cond.laysStatic C n d).before args s = true) : ∃ a, Sta s s.heap C n d (.ref a) ∧ Exa s s.heap a K ∧ (Term.static C n d).eval args s none [] s = some (.ref a) := by
  obtain ⟨a, e⟩ := exa_v h
  exact ⟨a, Sta.start e (Or.inr ⟨wi, wl⟩), Exa.start e h, e⟩
theorem fld_of {args : Array Value} {s : State} {t : Term} {a : Addr} {C n d : String} {v : Int32} (e : t.eval args s none [] s = some (.ref a)) (h : (Cond.eq (Term.field t C n d) (Term.int v)).value args s none s [] = some true) : Fld s s.heap a C n d (.int v) :=
  Fld.start ((fld_at e).symm.trans (Cond.eq_int (Cond.before_iff.mpr h) rfl))
theorem Sat.keep {h h' : Heap} {b : Addr} {ws : List Addr} (K : Keep h h' ws) (q : b ∉ ws) : ∀ {o : ObjB}, Sat Z h b o → Sat Z h' b o
  | .inl (C, sg, vs), ⟨h1, h2, h3⟩ => ⟨h1.keep K, h2, fun i f v r t => (h3 i f v r t).keep K q⟩
  | .inr (.inl (ty, xs)), ⟨r, c, h1, h2⟩ => ⟨r.imp id (·.keep K), c, ⟨K.2.1 _ _ h1.1 q, h1.2⟩, h2⟩
  | .inr (.inr (.inl xs)), ⟨r, c, h1, h2⟩ => ⟨r.keep K, c, ⟨K.2.1 _ _ h1.1 q, h1.2⟩, h2⟩
  | .inr (.inr (.inr (C, ty, vs))), ⟨r, c, h1, h2⟩ => ⟨r.keep K, c, ⟨K.2.1 _ _ h1.1 q, h1.2⟩, h2⟩
theorem Hp.setK {h h' : Heap} (P : Hp Z h H) {i : Nat} {a : Addr} {o o' : ObjB} (q : H[i]? = some (a, (true, o))) (K : Keep h h' [a]) (S : Sat Z h' a o') : Hp Z h' (H.set i (a, (true, o'))) := by
  have g : Z.heap.size ≤ a := (P.at q).1 rfl
  obtain ⟨hi, hq⟩ := List.getElem?_eq_some_iff.mp q
  refine ⟨⟨Nat.le_trans P.1.1 K.1, fun b c r => ?_⟩, fun x hx => ?_, ?_⟩
  · have : b < Z.heap.size := (Array.getElem?_eq_some_iff.mp r).1
    exact K.2.1 _ _ (P.1.2 b c r) (ninS (by rintro rfl; exact absurd this (Nat.not_lt.mpr g)) nin0)
  · obtain ⟨n, hn⟩ := List.getElem?_of_mem hx
    rw [List.getElem?_set] at hn
    split at hn
    · have e0 : (a, (true, o')) = x := by simpa [hi] using hn
      subst e0; exact ⟨fun _ => g, S⟩
    · rename_i ne
      exact ⟨(P.at hn).1, (P.at hn).2.keep K (ninS (P.ne hn q (Or.inr rfl) (Ne.symm ne)) nin0)⟩
  · have e : (H.set i (a, (true, o'))).map (fun x => (x.1, x.2.1)) = H.map (fun x => (x.1, x.2.1)) := by
      rw [List.map_set]
      refine List.ext_getElem? fun n => ?_
      rw [List.getElem?_set]
      split
      · rename_i e; subst e
        simp [hi, hq]
      · rfl
    have h1 : (H.map (fun x => (x.1, x.2.1))).Pairwise (fun u v => (u.2 = true ∨ v.2 = true) → u.1 ≠ v.1) := List.pairwise_map.mpr P.2.2
    rw [← e] at h1
    exact List.pairwise_map.mp h1
theorem nat_i32 {n : Nat} (h : n < 2 ^ 31) : (Int32.ofNat n).toNatClampNeg = n ∧ ¬ Int32.ofNat n < 0 := by
  have e : (Int32.ofNat n).toInt = n := Int32.toInt_ofNat_of_lt h
  refine ⟨by simp only [Int32.toNatClampNeg, e]; omega, ?_⟩
  rw [Int32.lt_iff_toInt_lt, e]; simp only [Int32.reduceToInt]; omega
theorem Sat.arv {h : Heap} {a : Addr} {ty : FieldType} {xs : List Int32} (S : Sat Z h a (.inr (.inl (ty, xs)))) (hl : xs.length < 2 ^ 31) : ∃ kc, Arv Z h a kc ty (Int32.ofNat xs.length) (xs.map Value.int) (.int 0) := by
  obtain ⟨-, c, A, hs, G⟩ := S
  refine ⟨c.cls, c, A, rfl, by rw [hs, (nat_i32 hl).1]; simp, (nat_i32 hl).2, fun i hi => ?_, fun i hi => ?_⟩
  · rw [hs] at hi ⊢; simp at hi; simp [hi]
  · rw [hs] at hi; simp at hi; simp [hi, G _ (List.getElem_mem hi)]
theorem Arv.sat {h : Heap} {a : Addr} {kc : ClassId} {ty : FieldType} {xs : List Int32} (V : Arv Z h a kc ty (Int32.ofNat xs.length) (xs.map Value.int) (.int 0)) (hl : xs.length < 2 ^ 31) (Eq : ty = .byte ∨ Exa Z h a ("[" ++ ty.toString)) : Sat Z h a (.inr (.inl (ty, xs))) := by
  obtain ⟨c, A, -, S, -, Hs, G⟩ := V
  rw [(nat_i32 hl).1] at S
  refine ⟨Eq, c, A, ?_, fun x hx => ?_⟩
  · refine Array.ext_getElem? fun i => ?_
    by_cases hi : i < c.slots.size
    · rw [Hs i hi]; rw [S] at hi; simp [hi]
    · rw [Array.getElem?_eq_none (Nat.le_of_not_lt hi)]; rw [S] at hi; symm; simp; omega
  · obtain ⟨i, hi, rfl⟩ := List.getElem_of_mem hx
    have := G i (by rw [S]; exact hi)
    simpa [hi] using this
theorem wp_arraycopyI {i i' : Nat} {a c' : Addr} {fl : Bool} {ty : FieldType} {xs ys : List Int32} {sp dp nn : Int32} {idx : Nat} (m1 m2 m3 : Nat) (hd : Dc bytes pc (.invokestatic idx) 3 pc') (w1 : (Cond.methodLink own idx Jvm.Stand.acN).before a0 Z = true) (w2 : (Cond.native Jvm.Stand.acN).before a0 Z = true) (w3 : (Cond.static Jvm.Stand.acN).before a0 Z = true) (w4 : (Cond.initialized "java/lang/System").before a0 Z = true) (hi : H[i]? = some (a, (fl, .inr (.inl (ty, xs))))) (hi' : H[i']? = some (c', oA ty ys)) (hp : refKind ty = false) (h1 : ¬ sp < 0) (h2 : ¬ dp < 0) (h3 : ¬ nn < 0) (e1 : sp.toNatClampNeg = m1) (e2 : dp.toNatClampNeg = m2) (e3 : nn.toNatClampNeg = m3) (h4 : m1 + m3 ≤ xs.length) (h5 : m2 + m3 ≤ ys.length) (hx31 : xs.length < 2 ^ 31) (hy31 : ys.length < 2 ^ 31) (hsz : Ls.size = maxL) (hf : 1 ≤ R.frames) (hl : (st.map fun v => v.category).sum + (nativeFrameWords "java/lang/System" "arraycopy" 5 + 11) ≤ R.locals) (hr : Wp b l Z own nm bytes maxL ret R (H.set i' (c', oA ty (ys.take m2 ++ (xs.drop m1).take m3 ++ ys.drop (m2 + m3)))) k j pc' Ls st Q) : Wp b l Z own nm bytes maxL ret R H k j pc Ls (.int nn :: .int dp :: .ref c' :: .int sp :: .ref a :: st) Q := by
  obtain ⟨hd, rfl⟩ := hd
  subst e1 e2 e3
  refine Wp.stepH fun p e s m args below meth c T L hx hZ hby hml hown hnm hret X N hH => ?_
  obtain ⟨kc, V1⟩ := (hH.at hi).2.arv hx31
  obtain ⟨kd, V2⟩ := (hH.at hi').2.arv hy31
  obtain ⟨T', h', L', X', e', N', K', V', stp⟩ := cpA X hx hZ hown w1 w2 w3 w4 rfl V1 V2 (Or.inl ⟨rfl, hp⟩) h1 h2 h3 (by rw [(nat_i32 hx31).1]; exact h4) (by rw [(nat_i32 hy31).1]; exact h5) (us := ((xs.drop sp.toNatClampNeg).take nn.toNatClampNeg).map Value.int) (by
    refine List.ext_getElem? fun n => ?_
    simp only [List.getElem?_map, List.getElem?_range]
    by_cases hn : n < nn.toNatClampNeg
    · simp [hn, show sp.toNatClampNeg + n < xs.length by omega]
    · simp [hn]; omega) (by simpa using h5) N ((hH.at hi').1 rfl) (g := mkF m pc Ls (.int nn :: .int dp :: .ref c' :: .int sp :: .ref a :: st)) rfl (by rw [hml]; exact hsz) rfl (hb hby hd) hf (W := (st.map fun v => v.category).sum) (by show 2 * 0 + _ ≤ _; omega) hl
  subst e'
  have hlen : (ys.take dp.toNatClampNeg ++ (xs.drop sp.toNatClampNeg).take nn.toNatClampNeg ++ ys.drop (dp.toNatClampNeg + nn.toNatClampNeg)).length = ys.length := by
    simp only [List.length_append, List.length_take, List.length_drop]; omega
  refine ⟨T', L', k, j, _, _, Ls, st, X', K'.1, N', hH.setK hi' K' (Arv.sat (kc := kd) ?_ (by rw [hlen]; exact hy31) ((hH.at hi').2.1.imp id (·.keep K'))), hr, stp⟩
  rw [hlen]
  simpa [List.map_append, List.map_take, List.map_drop] using V'
theorem wp_anewarrayA {C : String} {ty : FieldType} {idx : Nat} {n : Int32} (cnt cap : Nat) (hd : Dc bytes pc (.anewarray idx) 3 pc') (hC : (FieldType.array ty).toString = C) (w1 : (Cond.classLink own idx C).before a0 Z = true) (w2 : (Cond.arrayOver (.array ty)).before a0 Z = true) (hn : ¬ n < 0) (hcnt : n.toNatClampNeg = cnt) (hcap : cnt ≤ cap) (hb8 : cap * 8 ≤ 536870912) (hc : k + 1 ≤ R.cells) (hl : j + cap ≤ R.slots) (hr : ∀ a, Wp b l Z own nm bytes maxL ret R ((a, oR C (.array ty) (List.replicate cnt .null)) :: H) (k + 1) (j + cap) pc' Ls (.ref a :: st) Q) : Wp b l Z own nm bytes maxL ret R H k j pc Ls (.int n :: st) Q := by
  obtain ⟨hd, rfl⟩ := hd
  refine Wp.stepH fun p e s m args below meth c T L hx hZ hby hml hown hnm hret X N hH => ?_
  obtain ⟨T', h', cA, X', e', E', A', B', O', stp⟩ := newRA X hx hZ hown hC w1 w2 rfl (g := mkF m pc Ls (.int n :: st)) rfl (hb hby hd) rfl hn (cap := cap) (by rw [hcnt]; exact hcap) hb8 hc hl rfl
  subst e'
  refine ⟨T', L, _, _, _, _, Ls, _, X', E'.1, N, hH.cons E' (o := .inr (.inr (.inr (C, .array ty, List.replicate cnt .null)))) ⟨by rw [hC]; exact B', _, A', O', ?_, fun v hv => ?_⟩, hr _, stp⟩
  · simp [newA, hcnt, defaultValue]
  · rw [(List.mem_replicate.mp hv).2]; rfl
theorem ins_arr {i : Nat} {a : Addr} {fl : Bool} {ty : FieldType} {xs : List Int32} {K : String} (hi : H[i]? = some (a, (fl, .inr (.inl (ty, xs))))) (hty : ty ≠ .byte) (wc : (Cond.castable ("[" ++ ty.toString) K).before a0 Z = true) : ∀ h, Hp Z h H → Ins Z h a K true := fun h P => Ins.of_exa ((P.at hi).2.1.resolve_left hty) wc
theorem ins_new {i : Nat} {a : Addr} {fl : Bool} {C K : String} {sg : OSig} {vs : List Value} (hi : H[i]? = some (a, (fl, .inl (C, sg, vs)))) (wc : (Cond.castable C K).before a0 Z = true) : ∀ h, Hp Z h H → Ins Z h a K true := fun h P => Ins.of_exa (P.at hi).2.1 wc
theorem ns_root {O K : String} {kk : Nat} (w : (Cond.noSuperclass O).before a0 Z = true) (wk : (Cond.instantiable K kk).before a0 Z = true) (hn : O ≠ K) : NS Z O K := by
  obtain ⟨c, k, h1, h2, h3, -, -⟩ := Cond.noSuperclass_spec w
  obtain ⟨t, kt, g1, -⟩ := Cond.instantiable_spec wk
  have ne := ids_ne h1 g1 hn
  refine ⟨c, t, h1, g1, fun fuel => ?_⟩
  cases fuel with
  | zero => rfl
  | succ f => simp [Vm.isSubclassAux, ne, h2, h3]
theorem ns_no {C S K : String} {kk : Nat} (w : (Cond.superclass C S).before a0 Z = true) (wk : (Cond.instantiable K kk).before a0 Z = true) (n : NS Z C K) (hn : C ≠ K) : ∃ c t, Z.vm.findClass C = some c ∧ Z.vm.findClass K = some t ∧ Z.vm.assignable c t = false := by
  obtain ⟨c, t, h0, g0, n3⟩ := n
  obtain ⟨p, k, kp, h1, h2, h3, h4, h5, -, h7⟩ := Cond.superclass_spec h0 w
  obtain ⟨t', kt, g1, g2, g5, g6, -⟩ := Cond.instantiable_spec wk
  cases g0.symm.trans g1
  have g7 : kt.isInterface = false := by cases q : kt.isInterface with | false => rfl | true => rw [q] at g6; cases g6
  have ne := ids_ne h0 g0 hn
  refine ⟨c, t, h0, g0, ?_⟩
  show Z.vm.assignableAux (255 + 1) c t = false
  simp [Vm.assignableAux, ne, h2, g2, h5, g5, g7, Vm.isSubclass, n3]
theorem wp_aaload_old {a : Addr} {cl : Cell} {ty : FieldType} {n : Int32} {x : Value} (hd : Dc bytes pc .aaload 1 pc') (A : Arr Z Z.heap a cl ty) (hty : ty.isReference = true) (hin : ¬ (n < 0 ∨ cl.slots.size ≤ n.toNatClampNeg)) (hv : cl.slots[n.toNatClampNeg]? = some x) (hr : Wp b l Z own nm bytes maxL ret R H k j pc' Ls (x :: st) Q) : Wp b l Z own nm bytes maxL ret R H k j pc Ls (.int n :: .ref a :: st) Q := by
  obtain ⟨hd, rfl⟩ := hd
  refine Wp.step (fun p e s m args below meth c T L hx hZ hby hown X hH target h => ?_) hr
  exact X.aaload hx (hH.1.2 _ _ A.1) (State.isArrayOf_alike hZ.alike A.2.1) hty A.2.2 hin hv (g := mkF m pc Ls (.int n :: .ref a :: st)) rfl rfl (hb hby hd) _ h
theorem Hp.old {h : Heap} (P : Hp Z h H) {a : Addr} {o : ObjB} (S : Sat Z Z.heap a o) : Hp Z h ((a, (false, o)) :: H) :=
  ⟨P.1, fun x q => (List.mem_cons.mp q).elim (fun e => by subst e; exact ⟨(fun e => nomatch e), S.ext P.1⟩) fun q => P.2.1 x q,
    List.Pairwise.cons (fun y q t e => absurd ((P.2.1 y q).1 (t.elim (fun e => nomatch e) id)) (by rw [← e]; exact Nat.not_le.mpr S.lt)) P.2.2⟩
/-- an object of the start is laid to the list, only to be read -/
theorem Wp.old {a : Addr} {o : ObjB} (S : Sat Z Z.heap a o) (hr : Wp b l Z own nm bytes maxL ret R ((a, (false, o)) :: H) k j pc Ls st Q) : Wp b l Z own nm bytes maxL ret R H k j pc Ls st Q :=
  Wp.stepH fun p e s m args below meth c T L hx hZ hby hml hown hnm hret X N hH => ⟨T, L, k, j, _, pc, Ls, st, X, Nat.le_refl _, N, hH.old S, hr, fun _ q => q⟩
abbrev sgStr : OSig := [("java/lang/String", "value", "[B"), ("java/lang/String", "coder", "B")]
abbrev strO (v : Addr) : Obj := fI "java/lang/String" sgStr [.ref v, .int 0]
theorem wp_ldcV {text : String} {Ts : List String} {idx n : Nat} (xs : List Int32) (hd : Dc bytes pc (.ldc idx) 2 pc') (w : (Cond.stringLink own idx text).before a0 Z = true) (wS : ∀ a ∈ Bundle.stringAtoms, a.before a0 Z = true) (slo : Slo Z sgStr) (hh : Jvm.Lit.constHeld Z own idx) (hcw : Jvm.Lit.compactW.before a0 Z = true) (hnot : text ∉ Ts) (ht : (∀ c ∈ text.toList, c.toNat < 256) ∧ text.toList.map (fun c => Value.int (Jvm.Lit.byteI c.toNat.toUInt16)) = xs.map Value.int) (h31 : xs.length < 2 ^ 31) (hn : 4 * text.toList.length ≤ n) (hbig : n ≤ 536870912) (hc : k + 2 ≤ R.cells) (hl : j + (n + 4) ≤ R.slots) (hr : ∀ a v, Wp (some (some (text :: Ts))) l Z own nm bytes maxL ret R ((a, strO v) :: (v, fA .byte xs) :: H) (k + 2) (j + (n + 4)) pc' Ls (.ref a :: st) Q) : Wp (some (some Ts)) l Z own nm bytes maxL ret R H k j pc Ls st Q := by
  obtain ⟨hd, rfl⟩ := hd
  intro p e s vm0 k0 m args below meth c T L hx hZ hS hk hby hml hown hnm hret X N hH hB
  obtain ⟨eZ, I⟩ := hB Ts rfl
  obtain ⟨a, T', h', k1, v, kc, X', e', E', hS', hk1, hZ', hown', A1, A2, A3, A4, l1, l2, I', -, wh, stp⟩ := ldcSVd X hx hZ hown w wS rfl hS hk (by rw [eZ]; exact N) (fun b cl q => by rw [eZ]; exact q) I hnot hh hcw (z := Int32.ofNat xs.length) ht (nat_i32 h31).2 (by rw [(nat_i32 h31).1]; simp) (g := mkF m pc Ls st) rfl (hb hby hd) hn hbig hc hl
  subst e'
  have far : ∀ y ∈ H, y.2.1 = true → a ≠ y.1 ∧ v ≠ y.1 := by
    intro y q t
    have g1 := (hH.2.1 y q).1 t
    have g2 := (hH.2.1 y q).2.lt
    rw [eZ] at wh
    constructor
    · intro e0; rw [← e0] at g1 g2
      rcases wh with w1 | w1
      · exact absurd w1.1 (Nat.not_lt.mpr g1)
      · exact absurd g2 (Nat.not_lt.mpr w1.1)
    · intro e0; rw [← e0] at g1 g2
      rcases wh with w1 | w1
      · exact absurd w1.2 (Nat.not_lt.mpr g1)
      · exact absurd g2 (Nat.not_lt.mpr w1.2)
  have Sa : Sat Z T'.heap a (.inl ("java/lang/String", sgStr, [.ref v, .int 0])) := by
    refine ⟨A1, slo, fun i f u q r => ?_⟩
    rcases i with _ | _ | i
    · cases q; cases r; exact A3
    · cases q; cases r; exact A2
    · simp at q
  have Sv : Sat Z T'.heap v (.inr (.inl (.byte, xs))) := Arv.sat A4 h31 (Or.inl rfl)
  have H2 : Hp Z T'.heap ((a, strO v) :: (v, fA .byte xs) :: H) := by
    have h0 := hH.ext E'
    refine ⟨h0.1, fun x q => ?_, List.Pairwise.cons (fun y q t => ?_) (List.Pairwise.cons (fun y q t => ?_) h0.2.2)⟩
    · rcases List.mem_cons.mp q with rfl | q
      · exact ⟨(fun e => nomatch e), Sa⟩
      · rcases List.mem_cons.mp q with rfl | q
        · exact ⟨(fun e => nomatch e), Sv⟩
        · exact h0.2.1 x q
    · rcases List.mem_cons.mp q with rfl | q
      · rcases t with t | t <;> cases t
      · exact (far y q (t.elim (fun e => nomatch e) id)).1
    · exact (far y q (t.elim (fun e => nomatch e) id)).2
  obtain ⟨T2, u, L2, k2, j2, vm1, k3, H3, ⟨r0, r1, r2⟩, r3, ⟨r4, r5, r6⟩, r7, r8, r9, r10, r11⟩ := hr a v p e s T'.vm k1 m args below meth c T' L hx hZ' hS' hk1 hby hml hown' hnm hret X' N H2 (fun Ts' q => by cases q; exact ⟨eZ, I'⟩)
  exact ⟨T2, u, L2, k2, j2, vm1, k3, H3, ⟨r0, r1, fun q => nomatch q⟩, r3, ⟨r4, r5, Nat.le_trans E'.1 r6⟩, r7, r8, r9, r10, fun fs hl => stp _ (r11 fs hl)⟩
theorem Fld.fun {h : Heap} {a : Addr} {C n d : String} {u v : Value} (F : Fld Z h a C n d u) (G : Fld Z h a C n d v) : u = v := by
  obtain ⟨c, cf, k, i, f, h1, h2, -, -, -, -, h7⟩ := F
  obtain ⟨c', cf', k', i', f', g1, g2, -, -, -, -, g7⟩ := G
  cases h1.symm.trans g1
  cases h2.symm.trans g2
  exact Option.some.inj (h7.symm.trans g7)
/-- two Strings of unlike contents are two -/
theorem str_ne {h : Heap} {i i' k k' : Nat} {s s' v v' : Addr} {xs ys : List Int32} (P : Hp Z h H) (h1 : H[i]? = some (s, strO v)) (h2 : H[k]? = some (v, fA .byte xs)) (h3 : H[i']? = some (s', strO v')) (h4 : H[k']? = some (v', fA .byte ys)) (ne : xs ≠ ys) : ¬ Value.ref s = Value.ref s' := by
  intro e
  cases e
  have f1 := (P.at h1).2.2.2 0 _ _ rfl rfl
  have f2 := (P.at h3).2.2.2 0 _ _ rfl rfl
  cases Fld.fun f1 f2
  obtain ⟨-, c, A, hs, -⟩ := (P.at h2).2
  obtain ⟨-, c', A', hs', -⟩ := (P.at h4).2
  cases A.1.symm.trans A'.1
  have e0 : xs.map Value.int = ys.map Value.int := congrArg Array.toList (hs.symm.trans hs')
  exact ne (List.map_inj_right (fun a b q => by cases q; rfl) |>.mp e0)
theorem bytes_old {t : Term} {a : Addr} {xs : List Int32} {cl : Cell} (A : Arr Z Z.heap a cl .byte) (hs : cl.slots = (xs.map Value.int).toArray) (hf : ∀ x ∈ xs, fits .byte (.int x) = true) : Sat Z Z.heap a (.inr (.inl (.byte, xs))) := ⟨Or.inl rfl, cl, A, hs, hf⟩
theorem str_old {a v : Addr} (slo : Slo Z sgStr) (E : Exa Z Z.heap a "java/lang/String") (F : Fld Z Z.heap a "java/lang/String" "value" "[B" (.ref v)) (G : Fld Z Z.heap a "java/lang/String" "coder" "B" (.int 0)) : Sat Z Z.heap a (.inl ("java/lang/String", sgStr, [.ref v, .int 0])) := by
  refine ⟨E, slo, fun i f u q r => ?_⟩
  rcases i with _ | _ | i
  · cases q; cases r; exact F
  · cases q; cases r; exact G
  · simp at q
/-- the contract of a body with an exception table (the walk throws nothing) -/
def MetX (l : Launch) (Z : State) (y : MethodName) (bytes : ByteArray) (maxL : Nat) (ret : Option FieldType) (hs : List (Nat × Nat × Nat × Nat)) (rm : Room) (as' : List Value) (H : OH) (Q : Option Value → OH → Prop) : Prop :=
  ∀ (ws : List Jvm.Cond) (h : Heap), Hp Z h H → MetFree l y (head1 (Jvm.Cond.codeWith y bytes maxL ret hs :: ws) rm) (fun a U => a = as'.toArray ∧ Z.Warmed39 U.vm ∧ U.heap = h) (fun _ _ _ _ _ => True)
    (fun _ U o U' => ∃ v L, o = .returned v ∧ (Fr Z.heap.size L ∧ h.size ≤ U'.heap.size ∧ ∃ H', Hp Z U'.heap H' ∧ Q v H') ∧ FrameEnd U o U' L rm.cells rm.slots)
theorem MetX.of_wp {y : MethodName} {hs : List (Nat × Nat × Nat × Nat)} {rm : Room} {as' : List Value} (hx : plainFor y = true) (hef : ∀ m, entryFrame m as'.toArray maxL = mkF m 0 Ls []) (hw : Wp none l Z y.cls y.name bytes maxL ret rm H 0 0 0 Ls [] Q) : MetX l Z y bytes maxL ret hs rm as' H Q := by
  intro ws h hH
  refine MetFree.of_bodySF hx hisWith ?_
  intro p e s m args below meth c s₁ Bd hml0 hP hK
  obtain ⟨rfl, hZ, hh⟩ := hP
  have X0 : Stand p l e rm s m as'.toArray below meth c s₁ [] 0 0 := Stand.of_body Bd
  have e0 : s₁.heap = h := by rw [← hh, Bd.state]; rfl
  obtain ⟨T', v, L', k', j', vm1, k1, H', ⟨hS, hk1, hvm⟩, X', ⟨hc, hj, hsz⟩, N', hH', hv, hQ, stp⟩ := hw p e s s.vm 0 m as'.toArray below meth c s₁ [] Bd.exec hZ ((State.WarmedH.refl s).since 0) (Nat.zero_le _) Bd.bytes hml0 (findClass_of_methodNamed Bd.named) (name_of_methodNamed Bd.named Bd.method).1 Bd.returns X0 (Fr.nil _) (by rw [e0]; exact hH) (fun _ q => nomatch q)
  obtain rfl := hvm rfl
  have X'' : Stand p l e rm s m as'.toArray below meth c T' L' k' j' := X'
  obtain ⟨fs, hr, hrun, hended, hW, hsame⟩ := X''.leave (v := v) (fun h => hv (Bd.returns.symm.trans h))
  refine ⟨_, _, castTop (hef m) (stp fs hr), hrun, hended, v, L', rfl, ⟨N', ?_, H', hH', hQ⟩, ⟨_, rfl⟩, hW, hsame.mono hc hj⟩
  rw [e0] at hsz; exact hsz
theorem wp_virtualX {hs : List (Nat × Nat × Nat × Nat)} {y : MethodName} {bytes' : ByteArray} {maxL' : Nat} {ret' : Option FieldType} {rm : Room} {rest : List Value} {Q' : Option Value → OH → Prop} {idx : Nat} {ps : List FieldType} {rt : Option FieldType} {x : MethodName} {C : String} {a : Addr} {as' : List Value} (M : MetX l Z y bytes' maxL' ret' hs rm (.ref a :: as') H Q') (E : ExaAt Z H a C) (hd : Dc bytes pc (.invokevirtual idx) 3 pc') (w1 : (Cond.methodLink own idx x).before a0 Z = true) (w2 : (Cond.declares x).before a0 Z = true) (wn : (Cond.selects x.cls x x).before a0 Z = true) (ws : (Cond.selects C x y).before a0 Z = true) (wi : (Cond.instanceMethod y).before a0 Z = true) (w3 : (Cond.initialized y.cls).before a0 Z = true) (w4 : (Cond.codeWith y bytes' maxL' ret' hs).before a0 Z = true) (hy : x.cls ≠ "java/lang/invoke/MethodHandle" ∧ x.cls ≠ "java/lang/invoke/VarHandle") (hpd : parseMethodDescriptor x.desc = some ⟨ps, rt⟩) (hlen : as'.length = ps.length) (hst : st = as'.reverse ++ .ref a :: rest) (hsz : Ls.size = maxL) (hf : rm.frames + 1 ≤ R.frames) (hl : (rest.map fun v => v.category).sum + (maxL' + 11) + rm.locals ≤ R.locals) (hc : k + rm.cells ≤ R.cells) (hj : j + rm.slots ≤ R.slots) (hr : ∀ v H', Q' v H' → Wp b l Z own nm bytes maxL ret R H' (k + rm.cells) (j + rm.slots) pc' Ls (v.toList ++ rest) Q) : Wp b l Z own nm bytes maxL ret R H k j pc Ls st Q := by
  obtain ⟨hd, rfl⟩ := hd
  refine Wp.stepH fun p e s m args below meth c T L hx hZ hby hml hown hnm hret X N hH => ?_
  obtain ⟨cq, kq, q1, q2, q3⟩ := isOf hZ rfl (E _ hH)
  obtain ⟨v, _, ⟨T', L', k', n'⟩, -, X', ⟨Lc, ⟨N', hsz', H', hH', hQ⟩, l1, y1, z1⟩, stp⟩ := X.virtualBack hx (y := x) (z := y) hown (mvT hZ w1) (mvT hZ w2) (notFace_of_selects (args := #[]) (mvT hZ wn)) (mvT hZ ws) (mvT hZ wi) hy (backOfWith (W := (rest.map fun v => v.category).sum) (Q := fun v h L => Fr Z.heap.size L ∧ T.heap.size ≤ h.size ∧ ∃ H', Hp Z h H' ∧ Q' v H') (M [] T.heap hH) hZ w4 w3 hf hl) q1 q3 (g := mkF m pc Ls st) rfl (by rw [hml]; exact hsz) (Steps.refl _) (argsL := as') (rest := rest) (lenOf hpd hlen) hst (by show 2 * 0 + _ ≤ _; omega) (hb hby hd) (fun _ _ => ⟨rfl, rfl, hc, hj⟩)
  dsimp only [Pt.U, Pt.locs, Pt.cells, Pt.slots] at X' l1 y1 z1 stp hH' hsz'
  subst l1 y1 z1
  exact ⟨T', _, _, _, H', _, Ls, v.toList ++ rest, X', hsz', N.app N', hH', hr v H' hQ, fun _ q => stp.trans q⟩
theorem wp_callSX {hs : List (Nat × Nat × Nat × Nat)} {y : MethodName} {bytes' : ByteArray} {maxL' : Nat} {ret' : Option FieldType} {rm : Room} {rest : List Value} {Q' : Option Value → OH → Prop} {idx : Nat} {ps : List FieldType} {rt : Option FieldType} {as' : List Value} (M : MetX l Z y bytes' maxL' ret' hs rm as' H Q') (hd : Dc bytes pc (.invokestatic idx) 3 pc') (w1 : (Cond.methodLink own idx y).before a0 Z = true) (w2 : (Cond.static y).before a0 Z = true) (w3 : (Cond.initialized y.cls).before a0 Z = true) (w4 : (Cond.codeWith y bytes' maxL' ret' hs).before a0 Z = true) (hy : y.cls ≠ "java/lang/invoke/MethodHandle" ∧ y.cls ≠ "java/lang/invoke/VarHandle") (hpd : parseMethodDescriptor y.desc = some ⟨ps, rt⟩) (hlen : as'.length = ps.length) (hst : st = as'.reverse ++ rest) (hsz : Ls.size = maxL) (hf : rm.frames + 1 ≤ R.frames) (hl : (rest.map fun v => v.category).sum + (maxL' + 11) + rm.locals ≤ R.locals) (hc : k + rm.cells ≤ R.cells) (hj : j + rm.slots ≤ R.slots) (hr : ∀ v H', Q' v H' → Wp b l Z own nm bytes maxL ret R H' (k + rm.cells) (j + rm.slots) pc' Ls (v.toList ++ rest) Q) : Wp b l Z own nm bytes maxL ret R H k j pc Ls st Q := by
  obtain ⟨hd, rfl⟩ := hd
  refine Wp.stepH fun p e s m args below meth c T L hx hZ hby hml hown hnm hret X N hH => ?_
  obtain ⟨v, _, ⟨T', L', k', n'⟩, -, X', ⟨Lc, ⟨N', hsz', H', hH', hQ⟩, l1, y1, z1⟩, stp⟩ := Jvm.RoadKit.callSH X hx (y := y) hown (mvT hZ w1) (mvT hZ w2) (mvT hZ w3) (mvT hZ w4) hy (backOfWith (W := (rest.map fun v => v.category).sum) (Q := fun v h L => Fr Z.heap.size L ∧ T.heap.size ≤ h.size ∧ ∃ H', Hp Z h H' ∧ Q' v H') (M [] T.heap hH) hZ w4 w3 hf hl) (g := mkF m pc Ls st) rfl (by rw [hml]; exact hsz) (argsL := as') (rest := rest) (lenOf hpd hlen) hst (by show 2 * 0 + _ ≤ _; omega) (hb hby hd) (fun _ _ => ⟨rfl, rfl, hc, hj⟩)
  dsimp only [Pt.U, Pt.locs, Pt.cells, Pt.slots] at X' l1 y1 z1 stp hH' hsz'
  subst l1 y1 z1
  exact ⟨T', _, _, _, H', _, Ls, v.toList ++ rest, X', hsz', N.app N', hH', hr v H' hQ, stp⟩
theorem wp_dload_n {n : Fin 4} {v : UInt64} (hd : Dc bytes pc (.dload_n n) 1 pc') (hl : Ls[n.val]? = some (.val (.double v))) (hr : Wp b l Z own nm bytes maxL ret R H k j pc' Ls (.double v :: st) Q) : Wp b l Z own nm bytes maxL ret R H k j pc Ls st Q := by
  obtain ⟨hd, rfl⟩ := hd
  exact Wp.step (fun p e s m args below meth c T L hx hZ hby hown X hH target ht => XS.dloadN X.here hx rfl (hb hby hd) hl ht) hr
theorem wp_dload {n : Nat} {v : UInt64} (hd : Dc bytes pc (.dload n) 2 pc') (hl : Ls[n]? = some (.val (.double v))) (hr : Wp b l Z own nm bytes maxL ret R H k j pc' Ls (.double v :: st) Q) : Wp b l Z own nm bytes maxL ret R H k j pc Ls st Q := by
  obtain ⟨hd, rfl⟩ := hd
  exact Wp.step (fun p e s m args below meth c T L hx hZ hby hown X hH target ht => XS.dload X.here hx rfl (hb hby hd) hl ht) hr
theorem wp_dstore_n {n : Fin 4} {x : UInt64} (Ls' : Array Slot) (hd : Dc bytes pc (.dstore_n n) 1 pc') (hl : storeLocals Ls n.val (.double x) = some Ls') (hr : Wp b l Z own nm bytes maxL ret R H k j pc' Ls' st Q) : Wp b l Z own nm bytes maxL ret R H k j pc Ls (.double x :: st) Q := by
  obtain ⟨hd, rfl⟩ := hd
  exact Wp.step (fun p e s m args below meth c T L hx hZ hby hown X hH target ht => XS.dstoreN X.here hx rfl (hb hby hd) rfl hl ht) hr
theorem wp_dstore {n : Nat} {x : UInt64} (Ls' : Array Slot) (hd : Dc bytes pc (.dstore n) 2 pc') (hl : storeLocals Ls n (.double x) = some Ls') (hr : Wp b l Z own nm bytes maxL ret R H k j pc' Ls' st Q) : Wp b l Z own nm bytes maxL ret R H k j pc Ls (.double x :: st) Q := by
  obtain ⟨hd, rfl⟩ := hd
  exact Wp.step (fun p e s m args below meth c T L hx hZ hby hown X hH target ht => XS.dstore X.here hx rfl (hb hby hd) rfl hl ht) hr
theorem wp_dconst0 (v : UInt64) (hd : Dc bytes pc (.dconst 0) 1 pc') (hv : FP.dconst0 = v) (hr : Wp b l Z own nm bytes maxL ret R H k j pc' Ls (.double v :: st) Q) : Wp b l Z own nm bytes maxL ret R H k j pc Ls st Q := by
  obtain ⟨hd, rfl⟩ := hd
  exact Wp.step (fun p e s m args below meth c T L hx hZ hby hown X hH target ht => XS.dconst0 X.here hx rfl (hb hby hd) hv ht) hr
theorem wp_dconst1 (v : UInt64) (hd : Dc bytes pc (.dconst 1) 1 pc') (hv : FP.dconst1 = v) (hr : Wp b l Z own nm bytes maxL ret R H k j pc' Ls (.double v :: st) Q) : Wp b l Z own nm bytes maxL ret R H k j pc Ls st Q := by
  obtain ⟨hd, rfl⟩ := hd
  exact Wp.step (fun p e s m args below meth c T L hx hZ hby hown X hH target ht => XS.dconst1 X.here hx rfl (hb hby hd) hv ht) hr
theorem wp_i2d {x : Int32} (v : UInt64) (hd : Dc bytes pc (.i2d) 1 pc') (hv : FP.i2d x = v) (hr : Wp b l Z own nm bytes maxL ret R H k j pc' Ls (.double v :: st) Q) : Wp b l Z own nm bytes maxL ret R H k j pc Ls (.int x :: st) Q := by
  obtain ⟨hd, rfl⟩ := hd
  exact Wp.step (fun p e s m args below meth c T L hx hZ hby hown X hH target ht => XS.i2dS X.here hx rfl (hb hby hd) rfl hv ht) hr
theorem wp_dadd {x y : UInt64} (v : UInt64) (hd : Dc bytes pc (.dadd) 1 pc') (hn : Jvm.Free.Fl.NoNaN64 (FP.dadd x y)) (hv : FP.dadd x y = v) (hr : Wp b l Z own nm bytes maxL ret R H k j pc' Ls (.double v :: st) Q) : Wp b l Z own nm bytes maxL ret R H k j pc Ls (.double y :: .double x :: st) Q := by
  obtain ⟨hd, rfl⟩ := hd
  exact Wp.step (fun p e s m args below meth c T L hx hZ hby hown X hH target ht => XS.daddS X.here hx rfl (hb hby hd) rfl hn hv ht) hr
theorem wp_ddiv {x y : UInt64} (v : UInt64) (hd : Dc bytes pc (.ddiv) 1 pc') (hn : Jvm.Free.Fl.NoNaN64 (FP.ddiv x y)) (hv : FP.ddiv x y = v) (hr : Wp b l Z own nm bytes maxL ret R H k j pc' Ls (.double v :: st) Q) : Wp b l Z own nm bytes maxL ret R H k j pc Ls (.double y :: .double x :: st) Q := by
  obtain ⟨hd, rfl⟩ := hd
  exact Wp.step (fun p e s m args below meth c T L hx hZ hby hown X hH target ht => XS.ddivS X.here hx rfl (hb hby hd) rfl hn hv ht) hr
theorem wp_dcmp {o : CmpOp} {x y : UInt64} (v : Int32) (hd : Dc bytes pc (.dcmp o) 1 pc') (hv : cmpValue (FP.dcmp x y) o = v) (hr : Wp b l Z own nm bytes maxL ret R H k j pc' Ls (.int v :: st) Q) : Wp b l Z own nm bytes maxL ret R H k j pc Ls (.double y :: .double x :: st) Q := by
  obtain ⟨hd, rfl⟩ := hd
  exact Wp.step (fun p e s m args below meth c T L hx hZ hby hown X hH target ht => XS.dcmpS X.here hx rfl (hb hby hd) rfl hv ht) hr
theorem wp_ldc2D {i : Nat} {v : UInt64} (hd : Dc bytes pc (.ldc2_w i) 3 pc') (w : (Cond.constantDouble own i v).before a0 Z = true) (hr : Wp b l Z own nm bytes maxL ret R H k j pc' Ls (.double v :: st) Q) : Wp b l Z own nm bytes maxL ret R H k j pc Ls st Q := by
  obtain ⟨hd, rfl⟩ := hd
  exact Wp.step (fun p e s m args below meth c T L hx hZ hby hown X hH target ht => X.ldc2DoubleC hx hown (mvT hZ w) (g := mkF m pc Ls st) rfl (hb hby hd) _ ht) hr
theorem wp_dreturn {x : UInt64} (hd : Dc bytes pc .dreturn 1 pc') (hr : ret = some .double) (hk : k ≤ R.cells) (hj : j ≤ R.slots) (hQ : Q (some (.double x)) H) : Wp b l Z own nm bytes maxL ret R H k j pc Ls (.double x :: st) Q :=
  fun p e s vm0 k0 m args below meth c T L hx hZ hS hkz hby hml hown hnm hret X N hH hB => ⟨T, (some (.double x)), L, k, j, vm0, k0, H, ⟨hS, hkz, fun _ => rfl⟩, X, ⟨hk, hj, Nat.le_refl _⟩, N, hH, fun h => by first | rfl | (rw [hr] at h; cases h), hQ, fun fs hl => retOut X hx (hret.trans hr) rfl (Or.inr (Or.inr (Or.inl ⟨rfl, rfl, x, rfl⟩))) (hb hby hd.1) hl⟩
end Own
def sg_1 : OSig := [("com/example/orthrus/orthrus/SignatureSet", "maxSlots", "J"), ("com/example/orthrus/orthrus/SignatureSet", "slots", "[J"), ("com/example/orthrus/orthrus/SignatureSet", "filled", "I"), ("com/example/orthrus/orthrus/SignatureSet", "hasZero", "Z")]
theorem laid_sg_1 (l : Launch) (Z : State) (a0 : Array Value) (hw : ∀ d ∈ tables_1, d.before a0 Z = true) : ∀ f ∈ sg_1, Laid Z a0 "com/example/orthrus/orthrus/SignatureSet" f.1 f.2.1 f.2.2 := all_cons (Or.inl (hw _ (List.mem_of_getElem? (i := 10) rfl))) (all_cons (Or.inl (hw _ (List.mem_of_getElem? (i := 13) rfl))) (all_cons (Or.inl (hw _ (List.mem_of_getElem? (i := 42) rfl))) (all_cons (Or.inl (hw _ (List.mem_of_getElem? (i := 50) rfl))) (all_nil))))
theorem dfl_sg_1 : Dfl sg_1 [(.long (0 : Int64)), (.null), (.int (0 : Int32)), (.int (0 : Int32))] := ⟨⟨.long, by decide +kernel, rfl⟩, ⟨(.array .long), by decide +kernel, rfl⟩, ⟨.int, by decide +kernel, rfl⟩, ⟨.boolean, by decide +kernel, rfl⟩, trivial⟩
def f_mix (z : Int64) : Int64 := ((((z ^^^ XT.ushrL z 30) * (-4658895280553007687 : Int64)) ^^^ XT.ushrL ((z ^^^ XT.ushrL z 30) * (-4658895280553007687 : Int64)) 27) * (-7723592293110705685 : Int64)) ^^^ XT.ushrL ((((z ^^^ XT.ushrL z 30) * (-4658895280553007687 : Int64)) ^^^ XT.ushrL ((z ^^^ XT.ushrL z 30) * (-4658895280553007687 : Int64)) 27) * (-7723592293110705685 : Int64)) 31
def gj (xs : List Int64) (m : Nat) : Int64 := xs.getD m 0
theorem own_gj (xs : List Int64) (m : Nat) (h : m < xs.length) : xs[m]? = some (gj xs m) := by simp [gj, h]
def nz (xs : List Int64) : Nat := xs.countP (fun y => decide (y ≠ 0))
theorem nz_rep (n : Nat) : nz (List.replicate n 0) = 0 := by simp [nz, List.countP_replicate]
theorem nz_set : ∀ (xs : List Int64) (m : Nat) (x : Int64), xs[m]? = some 0 → x ≠ 0 → nz (xs.set m x) = nz xs + 1
  | [], m, x, h, _ => by simp at h
  | y :: ys, 0, x, h, hx => by
    have e : y = 0 := by simpa using h
    subst e
    simp [nz, List.countP_cons, hx]
  | y :: ys, m + 1, x, h, hx => by
    have ih := nz_set ys m x (by simpa using h) hx
    simp only [List.set_cons_succ, nz, List.countP_cons] at ih ⊢
    omega
theorem nz_zero : ∀ (xs : List Int64), nz xs < xs.length → ∃ z : Nat, z < xs.length ∧ xs[z]? = some 0
  | [], h => by simp at h
  | y :: ys, h => by
    by_cases e : y = 0
    · subst e; exact ⟨0, by simp, by simp⟩
    · have h' : nz ys < ys.length := by
        simp only [nz, List.countP_cons, List.length_cons] at h ⊢
        simp [e] at h ⊢; exact h
      obtain ⟨z, h1, h2⟩ := nz_zero ys h'
      exact ⟨z + 1, by simp; exact h1, by simpa using h2⟩
def dist (z n s : Int) : Nat := (if s ≤ z then z - s else z + n - s).toNat
def f_next (s n : Int32) : Int32 := if s + 1 = n then 0 else s + 1
theorem own_i1 (s : Int32) (h : 0 ≤ s.toInt ∧ s.toInt < 2147483647) : (s + 1).toInt = s.toInt + 1 := by
  rw [Int32.toInt_add]; simp only [Int32.reduceToInt]; rw [Int.bmod_eq_of_le] <;> omega
theorem own_next (s n : Int32) (h0 : 0 ≤ s.toInt) (h1 : s.toInt < n.toInt) : (s.toInt + 1 = n.toInt ∧ (f_next s n).toInt = 0) ∨ (s.toInt + 1 < n.toInt ∧ (f_next s n).toInt = s.toInt + 1) := by
  have hn := Int32.toInt_lt n
  have e := own_i1 s ⟨h0, by omega⟩
  unfold f_next
  by_cases h : s + 1 = n
  · rw [if_pos h]; exact Or.inl ⟨by rw [← h, e], rfl⟩
  · rw [if_neg h]
    have h' := mt Int32.toInt_inj.mp h
    exact Or.inr ⟨by omega, e⟩
theorem own_i32 (s : Int32) (h0 : 0 ≤ s.toInt) : ¬ s < 0 := by
  rw [Int32.lt_iff_toInt_lt]; simp only [Int32.reduceToInt]; omega
theorem own_cn (s : Int32) : (s.toNatClampNeg : Int) = max s.toInt 0 := by simp only [Int32.toNatClampNeg]; omega
def f_full (f n : Int32) : Int32 := if n / 4 * 3 < f then 1 else 0
def f_mh (x y : Int64) : Int64 := (x >>> ((32 : Int32).toInt64 &&& 63)) * (y >>> ((32 : Int32).toInt64 &&& 63)) + (((x >>> ((32 : Int32).toInt64 &&& 63)) * (y &&& (4294967295 : Int64)) + XT.ushrL ((x &&& (4294967295 : Int64)) * (y &&& (4294967295 : Int64))) (32 : Int32)) >>> ((32 : Int32).toInt64 &&& 63)) + (((((x >>> ((32 : Int32).toInt64 &&& 63)) * (y &&& (4294967295 : Int64)) + XT.ushrL ((x &&& (4294967295 : Int64)) * (y &&& (4294967295 : Int64))) (32 : Int32)) &&& (4294967295 : Int64)) + (x &&& (4294967295 : Int64)) * (y >>> ((32 : Int32).toInt64 &&& 63))) >>> ((32 : Int32).toInt64 &&& 63))
def f_red (x y : Int64) : Int64 := f_mh x y + ((x >>> ((63 : Int32).toInt64 &&& 63)) &&& y)
def f_slot (z : Int64) (n : Int32) : Int32 := (f_red z n.toInt64).toInt32
theorem own_bi (x : Int64) : x.toInt = x.toBitVec.toInt := rfl
theorem own_sr (x : Int64) (y : Int32) (k : Nat) (hk : ((y.toInt64 &&& 63).toBitVec.smod 64).toNat = k) : (x >>> (y.toInt64 &&& 63)).toInt = x.toInt / (2 ^ k : Nat) := by
  rw [own_bi, Int64.toBitVec_shiftRight, BitVec.sshiftRight_eq', hk, BitVec.toInt_sshiftRight, Int.shiftRight_eq_div_pow]
  rfl
theorem own_toInt_nat (x : Int64) : x.toInt % 4294967296 = (x.toBitVec.toNat : Int) % 4294967296 := by
  rw [own_bi, BitVec.toInt_eq_toNat_cond]
  split <;> omega
theorem own_m32 (x : Int64) : (x &&& (4294967295 : Int64)).toInt = x.toInt % 4294967296 := by
  rw [own_toInt_nat, own_bi, Int64.toBitVec_and]
  have e : (x.toBitVec &&& (4294967295 : Int64).toBitVec).toNat = x.toBitVec.toNat % 4294967296 := by
    rw [BitVec.toNat_and, show (4294967295 : Int64).toBitVec.toNat = 2 ^ 32 - 1 from by decide, Nat.and_two_pow_sub_one_eq_mod]
  rw [BitVec.toInt_eq_toNat_cond, e]
  split <;> omega
theorem own_usr (x : Int64) (h : 0 ≤ x.toInt) : (XT.ushrL x (32 : Int32)).toInt = x.toInt / 4294967296 := by
  have e0 : (XT.ushrL x (32 : Int32)).toBitVec = x.toBitVec >>> 32 := by
    unfold XT.ushrL
    show (x.toUInt64 >>> _).toBitVec = _
    rw [UInt64.toBitVec_shiftRight]
    show x.toBitVec >>> _ = _
    rw [BitVec.ushiftRight_eq', show (((32 : Int32).toInt64.toUInt64 &&& Int64.toUInt64 63).toBitVec % 64).toNat = 32 from by decide]
  rw [own_bi, e0, BitVec.toInt_eq_toNat_cond, BitVec.toNat_ushiftRight, Nat.shiftRight_eq_div_pow]
  rw [own_bi, BitVec.toInt_eq_toNat_cond] at h
  rw [own_bi, BitVec.toInt_eq_toNat_cond]
  have := x.toBitVec.isLt
  split at h <;> split <;> omega
theorem own_add64 (x y : Int64) (h : -9223372036854775808 ≤ x.toInt + y.toInt ∧ x.toInt + y.toInt < 9223372036854775808) : (x + y).toInt = x.toInt + y.toInt := by
  rw [Int64.toInt_add, Int.bmod_eq_of_le] <;> omega
theorem own_mul64 (x y : Int64) (h : -9223372036854775808 ≤ x.toInt * y.toInt ∧ x.toInt * y.toInt < 9223372036854775808) : (x * y).toInt = x.toInt * y.toInt := by
  rw [Int64.toInt_mul, Int.bmod_eq_of_le] <;> omega
theorem own_mulb (a b c d : Int) (ha : -a ≤ c ∧ c ≤ a) (hb : 0 ≤ d ∧ d ≤ b) (h0 : 0 ≤ a) : -(a * b) ≤ c * d ∧ c * d ≤ a * b := by
  constructor
  · have h1 : -(a * d) ≤ c * d := by rw [← Int.neg_mul]; exact Int.mul_le_mul_of_nonneg_right ha.1 hb.1
    have h2 : a * d ≤ a * b := Int.mul_le_mul_of_nonneg_left hb.2 h0
    omega
  · exact Int.le_trans (Int.mul_le_mul_of_nonneg_right ha.2 hb.1) (Int.mul_le_mul_of_nonneg_left hb.2 h0)
theorem own_slot (z : Int64) (n : Int32) (h : 0 < n.toInt ∧ n.toInt ≤ 64) : 0 ≤ (f_slot z n).toInt ∧ (f_slot z n).toInt < n.toInt := by
  unfold f_slot f_red f_mh
  have hy : n.toInt64.toInt = n.toInt := Int32.toInt_toInt64 n
  generalize n.toInt64 = y at *
  have y1 : (y >>> ((32 : Int32).toInt64 &&& 63)).toInt = 0 := by rw [own_sr _ _ 32 (by decide), hy]; omega
  have y1' : y >>> ((32 : Int32).toInt64 &&& 63) = 0 := Int64.toInt_inj.mp (by rw [y1]; rfl)
  have y0 : (y &&& (4294967295 : Int64)).toInt = n.toInt := by rw [own_m32, hy]; omega
  have y0' : y &&& (4294967295 : Int64) = y := Int64.toInt_inj.mp (by rw [y0, hy])
  have x1 : (z >>> ((32 : Int32).toInt64 &&& 63)).toInt = z.toInt / 4294967296 := own_sr _ _ 32 (by decide)
  have x0 := own_m32 z
  have hz1 := Int64.le_toInt z
  have hz2 := Int64.toInt_lt z
  have hx0 : 0 ≤ z.toInt % 4294967296 ∧ z.toInt % 4294967296 < 4294967296 := by omega
  have hx1 : -2147483648 ≤ z.toInt / 4294967296 ∧ z.toInt / 4294967296 ≤ 2147483647 := by omega
  rw [y1', y0', Int64.mul_zero, Int64.mul_zero, Int64.add_zero, Int64.zero_add]
  generalize hA : z >>> ((32 : Int32).toInt64 &&& 63) = A at *
  generalize hB : z &&& (4294967295 : Int64) = B at *
  have b1 := own_mulb 4294967296 64 B.toInt y.toInt (by omega) (by omega) (by omega)
  have b2 := own_mulb 2147483648 64 A.toInt y.toInt (by omega) (by omega) (by omega)
  have b3 : 0 ≤ B.toInt * y.toInt := Int.mul_nonneg (by omega) (by omega)
  have b4 : B.toInt * y.toInt ≤ 4294967295 * y.toInt := Int.mul_le_mul_of_nonneg_right (by omega) (by omega)
  have eB : (B * y).toInt = B.toInt * y.toInt := own_mul64 _ _ (by omega)
  have eA : (A * y).toInt = A.toInt * y.toInt := own_mul64 _ _ (by omega)
  have eU : (XT.ushrL (B * y) (32 : Int32)).toInt = B.toInt * y.toInt / 4294967296 := by rw [own_usr _ (by omega), eB]
  have eT : (A * y + XT.ushrL (B * y) (32 : Int32)).toInt = A.toInt * y.toInt + B.toInt * y.toInt / 4294967296 := by rw [own_add64 _ _ (by rw [eA, eU]; omega), eA, eU]
  generalize A * y + XT.ushrL (B * y) (32 : Int32) = T at *
  have e1 : (T >>> ((32 : Int32).toInt64 &&& 63)).toInt = T.toInt / 4294967296 := own_sr _ _ 32 (by decide)
  have e2 : ((T &&& (4294967295 : Int64)) >>> ((32 : Int32).toInt64 &&& 63)).toInt = 0 := by rw [own_sr _ _ 32 (by decide), own_m32]; omega
  have e3 : (T &&& (4294967295 : Int64)) >>> ((32 : Int32).toInt64 &&& 63) = 0 := Int64.toInt_inj.mp (by rw [e2]; rfl)
  rw [e3, Int64.add_zero]
  have s1 : (z >>> ((63 : Int32).toInt64 &&& 63)).toInt = z.toInt / 9223372036854775808 := own_sr _ _ 63 (by decide)
  have fin : ∀ r : Int64, 0 ≤ r.toInt → r.toInt < n.toInt → 0 ≤ r.toInt32.toInt ∧ r.toInt32.toInt < n.toInt := by
    intro r h1 h2
    have : r.toInt32.toInt = r.toInt := by rw [Int64.toInt_toInt32, Int.bmod_eq_of_le] <;> omega
    omega
  by_cases hz : z.toInt < 0
  · have s2 : z >>> ((63 : Int32).toInt64 &&& 63) = -1 := Int64.toInt_inj.mp (by rw [s1]; simp only [Int64.reduceToInt]; omega)
    rw [s2, show (-1 : Int64) &&& y = y from by apply Int64.toBitVec_inj.mp; rw [Int64.toBitVec_and]; exact BitVec.allOnes_and]
    have c1 : A.toInt ≤ -1 := by omega
    have c2 : A.toInt * y.toInt ≤ -1 * y.toInt := Int.mul_le_mul_of_nonneg_right c1 (by omega)
    have c3 : -2147483648 * y.toInt ≤ A.toInt * y.toInt := Int.mul_le_mul_of_nonneg_right (by omega) (by omega)
    have e4 : (T >>> ((32 : Int32).toInt64 &&& 63) + y).toInt = T.toInt / 4294967296 + y.toInt := by rw [own_add64 _ _ (by rw [e1]; omega), e1]
    refine fin _ ?_ ?_
    · rw [e4, eT]; omega
    · rw [e4, eT]; omega
  · have s2 : z >>> ((63 : Int32).toInt64 &&& 63) = 0 := Int64.toInt_inj.mp (by rw [s1]; simp only [Int64.reduceToInt]; omega)
    rw [s2, show (0 : Int64) &&& y = 0 from by apply Int64.toBitVec_inj.mp; rw [Int64.toBitVec_and]; exact BitVec.zero_and, Int64.add_zero]
    have c1 : 0 ≤ A.toInt := by omega
    have c2 : 0 ≤ A.toInt * y.toInt := Int.mul_nonneg c1 (by omega)
    have c3 : A.toInt * y.toInt ≤ 2147483647 * y.toInt := Int.mul_le_mul_of_nonneg_right (by omega) (by omega)
    refine fin _ ?_ ?_
    · rw [e1, eT]; omega
    · rw [e1, eT]; omega
theorem pd_1 : parseMethodDescriptor "(JJ)J" = some ⟨[.long, .long], (some .long)⟩ := by decide +kernel
theorem pn_1 : plainFor (⟨"com/example/orthrus/orthrus/Cells", "mix", "(J)J"⟩ : MethodName) = true := by first | exact plainFor_of_name (by first | (simp [plainName, overriddenIn]; done) | decide +kernel) | decide +kernel
theorem D_prog_3_m5_0 : Dc prog_3_method_5_code 0 (.lload_n 0) 1 1 := ⟨by decide +kernel, rfl⟩
theorem D_prog_3_m5_1 : Dc prog_3_method_5_code 1 (.lload_n 0) 1 2 := ⟨by decide +kernel, rfl⟩
theorem D_prog_3_m5_2 : Dc prog_3_method_5_code 2 (.bipush 30) 2 4 := ⟨by decide +kernel, rfl⟩
theorem D_prog_3_m5_4 : Dc prog_3_method_5_code 4 (.lushr) 1 5 := ⟨by decide +kernel, rfl⟩
theorem D_prog_3_m5_5 : Dc prog_3_method_5_code 5 (.lxor) 1 6 := ⟨by decide +kernel, rfl⟩
theorem D_prog_3_m5_6 : Dc prog_3_method_5_code 6 (.ldc2_w 24) 3 9 := ⟨by decide +kernel, rfl⟩
theorem D_prog_3_m5_9 : Dc prog_3_method_5_code 9 (.lmul) 1 10 := ⟨by decide +kernel, rfl⟩
theorem D_prog_3_m5_10 : Dc prog_3_method_5_code 10 (.lstore_n 0) 1 11 := ⟨by decide +kernel, rfl⟩
theorem D_prog_3_m5_11 : Dc prog_3_method_5_code 11 (.lload_n 0) 1 12 := ⟨by decide +kernel, rfl⟩
theorem D_prog_3_m5_12 : Dc prog_3_method_5_code 12 (.lload_n 0) 1 13 := ⟨by decide +kernel, rfl⟩
theorem D_prog_3_m5_13 : Dc prog_3_method_5_code 13 (.bipush 27) 2 15 := ⟨by decide +kernel, rfl⟩
theorem D_prog_3_m5_15 : Dc prog_3_method_5_code 15 (.lushr) 1 16 := ⟨by decide +kernel, rfl⟩
theorem D_prog_3_m5_16 : Dc prog_3_method_5_code 16 (.lxor) 1 17 := ⟨by decide +kernel, rfl⟩
theorem D_prog_3_m5_17 : Dc prog_3_method_5_code 17 (.ldc2_w 26) 3 20 := ⟨by decide +kernel, rfl⟩
theorem D_prog_3_m5_20 : Dc prog_3_method_5_code 20 (.lmul) 1 21 := ⟨by decide +kernel, rfl⟩
theorem D_prog_3_m5_21 : Dc prog_3_method_5_code 21 (.lstore_n 0) 1 22 := ⟨by decide +kernel, rfl⟩
theorem D_prog_3_m5_22 : Dc prog_3_method_5_code 22 (.lload_n 0) 1 23 := ⟨by decide +kernel, rfl⟩
theorem D_prog_3_m5_23 : Dc prog_3_method_5_code 23 (.lload_n 0) 1 24 := ⟨by decide +kernel, rfl⟩
theorem D_prog_3_m5_24 : Dc prog_3_method_5_code 24 (.bipush 31) 2 26 := ⟨by decide +kernel, rfl⟩
theorem D_prog_3_m5_26 : Dc prog_3_method_5_code 26 (.lushr) 1 27 := ⟨by decide +kernel, rfl⟩
theorem D_prog_3_m5_27 : Dc prog_3_method_5_code 27 (.lxor) 1 28 := ⟨by decide +kernel, rfl⟩
theorem D_prog_3_m5_28 : Dc prog_3_method_5_code 28 (.lreturn) 1 29 := ⟨by decide +kernel, rfl⟩
def Q_c_mix (z : Int64) (H : OH) : Option Value → OH → Prop := fun v H' => v = some (.long (f_mix z)) ∧ H' = H
set_option maxRecDepth 65536 in
set_option maxHeartbeats 40000000 in
theorem c_mix (l : Launch) (Z : State) (a0 : Array Value) (hw : ∀ d ∈ tables_1, d.before a0 Z = true) (z : Int64) (H : OH) :
    Met l Z (⟨"com/example/orthrus/orthrus/Cells", "mix", "(J)J"⟩ : MethodName) prog_3_method_5_code 2 (some .long) ({ frames := 0, cells := 0, slots := 0, locals := 0 } : Room) [(.long z)] H (Q_c_mix z H) := by
  refine Met.of_wp (Ls := #[.val (.long z), .second]) pn_1 (fun m => (entry_loc m _ _).trans rfl) ?_
  show Wp none l Z "com/example/orthrus/orthrus/Cells" "mix" prog_3_method_5_code 2 (some .long) ({ frames := 0, cells := 0, slots := 0, locals := 0 } : Room) H 0 0 0 #[.val (.long z), .second] [] (Q_c_mix z H)
  refine wp_lload_n D_prog_3_m5_0 rfl ?_
  refine wp_lload_n D_prog_3_m5_1 rfl ?_
  refine wp_bipush 30 D_prog_3_m5_2 (by decide) ?_
  refine wp_lushr D_prog_3_m5_4 ?_
  refine wp_lxor D_prog_3_m5_5 ?_
  refine wp_ldc2J D_prog_3_m5_6 (hw _ (List.mem_of_getElem? (i := 26) rfl)) ?_
  refine wp_lmul D_prog_3_m5_9 ?_
  generalize hg_x1 : ((z ^^^ (XT.ushrL z (30 : Int32))) * (-4658895280553007687 : Int64)) = x1
  refine wp_lstore_n #[.val (.long x1), .second] D_prog_3_m5_10 rfl ?_
  refine wp_lload_n D_prog_3_m5_11 rfl ?_
  refine wp_lload_n D_prog_3_m5_12 rfl ?_
  refine wp_bipush 27 D_prog_3_m5_13 (by decide) ?_
  refine wp_lushr D_prog_3_m5_15 ?_
  refine wp_lxor D_prog_3_m5_16 ?_
  refine wp_ldc2J D_prog_3_m5_17 (hw _ (List.mem_of_getElem? (i := 27) rfl)) ?_
  refine wp_lmul D_prog_3_m5_20 ?_
  generalize hg_x2 : ((x1 ^^^ (XT.ushrL x1 (27 : Int32))) * (-7723592293110705685 : Int64)) = x2
  refine wp_lstore_n #[.val (.long x2), .second] D_prog_3_m5_21 rfl ?_
  refine wp_lload_n D_prog_3_m5_22 rfl ?_
  refine wp_lload_n D_prog_3_m5_23 rfl ?_
  refine wp_bipush 31 D_prog_3_m5_24 (by decide) ?_
  refine wp_lushr D_prog_3_m5_26 ?_
  refine wp_lxor D_prog_3_m5_27 ?_
  refine wp_lreturn D_prog_3_m5_28 rfl (by decide) (by decide) ?_
  subst hg_x1 hg_x2
  exact ⟨rfl, rfl⟩
theorem pn_2 : plainFor (⟨"java/lang/Math", "multiplyHigh", "(JJ)J"⟩ : MethodName) = true := by first | exact plainFor_of_name (by first | (simp [plainName, overriddenIn]; done) | decide +kernel) | decide +kernel
theorem D_jdk_29_m45_0 : Dc jdk_29_method_45_code 0 (.lload_n 0) 1 1 := ⟨by decide +kernel, rfl⟩
theorem D_jdk_29_m45_1 : Dc jdk_29_method_45_code 1 (.bipush 32) 2 3 := ⟨by decide +kernel, rfl⟩
theorem D_jdk_29_m45_3 : Dc jdk_29_method_45_code 3 (.lshr) 1 4 := ⟨by decide +kernel, rfl⟩
theorem D_jdk_29_m45_4 : Dc jdk_29_method_45_code 4 (.lstore 4) 2 6 := ⟨by decide +kernel, rfl⟩
theorem D_jdk_29_m45_6 : Dc jdk_29_method_45_code 6 (.lload_n 0) 1 7 := ⟨by decide +kernel, rfl⟩
theorem D_jdk_29_m45_7 : Dc jdk_29_method_45_code 7 (.ldc2_w 138) 3 10 := ⟨by decide +kernel, rfl⟩
theorem D_jdk_29_m45_10 : Dc jdk_29_method_45_code 10 (.land) 1 11 := ⟨by decide +kernel, rfl⟩
theorem D_jdk_29_m45_11 : Dc jdk_29_method_45_code 11 (.lstore 6) 2 13 := ⟨by decide +kernel, rfl⟩
theorem D_jdk_29_m45_13 : Dc jdk_29_method_45_code 13 (.lload_n 2) 1 14 := ⟨by decide +kernel, rfl⟩
theorem D_jdk_29_m45_14 : Dc jdk_29_method_45_code 14 (.bipush 32) 2 16 := ⟨by decide +kernel, rfl⟩
theorem D_jdk_29_m45_16 : Dc jdk_29_method_45_code 16 (.lshr) 1 17 := ⟨by decide +kernel, rfl⟩
theorem D_jdk_29_m45_17 : Dc jdk_29_method_45_code 17 (.lstore 8) 2 19 := ⟨by decide +kernel, rfl⟩
theorem D_jdk_29_m45_19 : Dc jdk_29_method_45_code 19 (.lload_n 2) 1 20 := ⟨by decide +kernel, rfl⟩
theorem D_jdk_29_m45_20 : Dc jdk_29_method_45_code 20 (.ldc2_w 138) 3 23 := ⟨by decide +kernel, rfl⟩
theorem D_jdk_29_m45_23 : Dc jdk_29_method_45_code 23 (.land) 1 24 := ⟨by decide +kernel, rfl⟩
theorem D_jdk_29_m45_24 : Dc jdk_29_method_45_code 24 (.lstore 10) 2 26 := ⟨by decide +kernel, rfl⟩
theorem D_jdk_29_m45_26 : Dc jdk_29_method_45_code 26 (.lload 6) 2 28 := ⟨by decide +kernel, rfl⟩
theorem D_jdk_29_m45_28 : Dc jdk_29_method_45_code 28 (.lload 10) 2 30 := ⟨by decide +kernel, rfl⟩
theorem D_jdk_29_m45_30 : Dc jdk_29_method_45_code 30 (.lmul) 1 31 := ⟨by decide +kernel, rfl⟩
theorem D_jdk_29_m45_31 : Dc jdk_29_method_45_code 31 (.lstore 12) 2 33 := ⟨by decide +kernel, rfl⟩
theorem D_jdk_29_m45_33 : Dc jdk_29_method_45_code 33 (.lload 4) 2 35 := ⟨by decide +kernel, rfl⟩
theorem D_jdk_29_m45_35 : Dc jdk_29_method_45_code 35 (.lload 10) 2 37 := ⟨by decide +kernel, rfl⟩
theorem D_jdk_29_m45_37 : Dc jdk_29_method_45_code 37 (.lmul) 1 38 := ⟨by decide +kernel, rfl⟩
theorem D_jdk_29_m45_38 : Dc jdk_29_method_45_code 38 (.lload 12) 2 40 := ⟨by decide +kernel, rfl⟩
theorem D_jdk_29_m45_40 : Dc jdk_29_method_45_code 40 (.bipush 32) 2 42 := ⟨by decide +kernel, rfl⟩
theorem D_jdk_29_m45_42 : Dc jdk_29_method_45_code 42 (.lushr) 1 43 := ⟨by decide +kernel, rfl⟩
theorem D_jdk_29_m45_43 : Dc jdk_29_method_45_code 43 (.ladd) 1 44 := ⟨by decide +kernel, rfl⟩
theorem D_jdk_29_m45_44 : Dc jdk_29_method_45_code 44 (.lstore 14) 2 46 := ⟨by decide +kernel, rfl⟩
theorem D_jdk_29_m45_46 : Dc jdk_29_method_45_code 46 (.lload 14) 2 48 := ⟨by decide +kernel, rfl⟩
theorem D_jdk_29_m45_48 : Dc jdk_29_method_45_code 48 (.ldc2_w 138) 3 51 := ⟨by decide +kernel, rfl⟩
theorem D_jdk_29_m45_51 : Dc jdk_29_method_45_code 51 (.land) 1 52 := ⟨by decide +kernel, rfl⟩
theorem D_jdk_29_m45_52 : Dc jdk_29_method_45_code 52 (.lstore 16) 2 54 := ⟨by decide +kernel, rfl⟩
theorem D_jdk_29_m45_54 : Dc jdk_29_method_45_code 54 (.lload 14) 2 56 := ⟨by decide +kernel, rfl⟩
theorem D_jdk_29_m45_56 : Dc jdk_29_method_45_code 56 (.bipush 32) 2 58 := ⟨by decide +kernel, rfl⟩
theorem D_jdk_29_m45_58 : Dc jdk_29_method_45_code 58 (.lshr) 1 59 := ⟨by decide +kernel, rfl⟩
theorem D_jdk_29_m45_59 : Dc jdk_29_method_45_code 59 (.lstore 18) 2 61 := ⟨by decide +kernel, rfl⟩
theorem D_jdk_29_m45_61 : Dc jdk_29_method_45_code 61 (.lload 16) 2 63 := ⟨by decide +kernel, rfl⟩
theorem D_jdk_29_m45_63 : Dc jdk_29_method_45_code 63 (.lload 6) 2 65 := ⟨by decide +kernel, rfl⟩
theorem D_jdk_29_m45_65 : Dc jdk_29_method_45_code 65 (.lload 8) 2 67 := ⟨by decide +kernel, rfl⟩
theorem D_jdk_29_m45_67 : Dc jdk_29_method_45_code 67 (.lmul) 1 68 := ⟨by decide +kernel, rfl⟩
theorem D_jdk_29_m45_68 : Dc jdk_29_method_45_code 68 (.ladd) 1 69 := ⟨by decide +kernel, rfl⟩
theorem D_jdk_29_m45_69 : Dc jdk_29_method_45_code 69 (.lstore 16) 2 71 := ⟨by decide +kernel, rfl⟩
theorem D_jdk_29_m45_71 : Dc jdk_29_method_45_code 71 (.lload 4) 2 73 := ⟨by decide +kernel, rfl⟩
theorem D_jdk_29_m45_73 : Dc jdk_29_method_45_code 73 (.lload 8) 2 75 := ⟨by decide +kernel, rfl⟩
theorem D_jdk_29_m45_75 : Dc jdk_29_method_45_code 75 (.lmul) 1 76 := ⟨by decide +kernel, rfl⟩
theorem D_jdk_29_m45_76 : Dc jdk_29_method_45_code 76 (.lload 18) 2 78 := ⟨by decide +kernel, rfl⟩
theorem D_jdk_29_m45_78 : Dc jdk_29_method_45_code 78 (.ladd) 1 79 := ⟨by decide +kernel, rfl⟩
theorem D_jdk_29_m45_79 : Dc jdk_29_method_45_code 79 (.lload 16) 2 81 := ⟨by decide +kernel, rfl⟩
theorem D_jdk_29_m45_81 : Dc jdk_29_method_45_code 81 (.bipush 32) 2 83 := ⟨by decide +kernel, rfl⟩
theorem D_jdk_29_m45_83 : Dc jdk_29_method_45_code 83 (.lshr) 1 84 := ⟨by decide +kernel, rfl⟩
theorem D_jdk_29_m45_84 : Dc jdk_29_method_45_code 84 (.ladd) 1 85 := ⟨by decide +kernel, rfl⟩
theorem D_jdk_29_m45_85 : Dc jdk_29_method_45_code 85 (.lreturn) 1 86 := ⟨by decide +kernel, rfl⟩
def Q_c_mh (x : Int64) (y : Int64) (H : OH) : Option Value → OH → Prop := fun v H' => v = some (.long (f_mh x y)) ∧ H' = H
set_option maxRecDepth 65536 in
set_option maxHeartbeats 40000000 in
theorem c_mh (l : Launch) (Z : State) (a0 : Array Value) (hw : ∀ d ∈ tables_1, d.before a0 Z = true) (x : Int64) (y : Int64) (H : OH) :
    Met l Z (⟨"java/lang/Math", "multiplyHigh", "(JJ)J"⟩ : MethodName) jdk_29_method_45_code 20 (some .long) ({ frames := 0, cells := 0, slots := 0, locals := 0 } : Room) [(.long x), (.long y)] H (Q_c_mh x y H) := by
  refine Met.of_wp (Ls := #[.val (.long x), .second, .val (.long y), .second, .unset, .unset, .unset, .unset, .unset, .unset, .unset, .unset, .unset, .unset, .unset, .unset, .unset, .unset, .unset, .unset]) pn_2 (fun m => (entry_loc m _ _).trans rfl) ?_
  show Wp none l Z "java/lang/Math" "multiplyHigh" jdk_29_method_45_code 20 (some .long) ({ frames := 0, cells := 0, slots := 0, locals := 0 } : Room) H 0 0 0 #[.val (.long x), .second, .val (.long y), .second, .unset, .unset, .unset, .unset, .unset, .unset, .unset, .unset, .unset, .unset, .unset, .unset, .unset, .unset, .unset, .unset] [] (Q_c_mh x y H)
  refine wp_lload_n D_jdk_29_m45_0 rfl ?_
  refine wp_bipush 32 D_jdk_29_m45_1 (by decide) ?_
  refine wp_lshr D_jdk_29_m45_3 ?_
  generalize hg_x1 : (x >>> ((32 : Int32).toInt64 &&& 63)) = x1
  refine wp_lstore #[.val (.long x), .second, .val (.long y), .second, .val (.long x1), .second, .unset, .unset, .unset, .unset, .unset, .unset, .unset, .unset, .unset, .unset, .unset, .unset, .unset, .unset] D_jdk_29_m45_4 rfl ?_
  refine wp_lload_n D_jdk_29_m45_6 rfl ?_
  refine wp_ldc2J D_jdk_29_m45_7 (hw _ (List.mem_of_getElem? (i := 35) rfl)) ?_
  refine wp_land D_jdk_29_m45_10 ?_
  generalize hg_x2 : (x &&& (4294967295 : Int64)) = x2
  refine wp_lstore #[.val (.long x), .second, .val (.long y), .second, .val (.long x1), .second, .val (.long x2), .second, .unset, .unset, .unset, .unset, .unset, .unset, .unset, .unset, .unset, .unset, .unset, .unset] D_jdk_29_m45_11 rfl ?_
  refine wp_lload_n D_jdk_29_m45_13 rfl ?_
  refine wp_bipush 32 D_jdk_29_m45_14 (by decide) ?_
  refine wp_lshr D_jdk_29_m45_16 ?_
  generalize hg_x3 : (y >>> ((32 : Int32).toInt64 &&& 63)) = x3
  refine wp_lstore #[.val (.long x), .second, .val (.long y), .second, .val (.long x1), .second, .val (.long x2), .second, .val (.long x3), .second, .unset, .unset, .unset, .unset, .unset, .unset, .unset, .unset, .unset, .unset] D_jdk_29_m45_17 rfl ?_
  refine wp_lload_n D_jdk_29_m45_19 rfl ?_
  refine wp_ldc2J D_jdk_29_m45_20 (hw _ (List.mem_of_getElem? (i := 35) rfl)) ?_
  refine wp_land D_jdk_29_m45_23 ?_
  generalize hg_x4 : (y &&& (4294967295 : Int64)) = x4
  refine wp_lstore #[.val (.long x), .second, .val (.long y), .second, .val (.long x1), .second, .val (.long x2), .second, .val (.long x3), .second, .val (.long x4), .second, .unset, .unset, .unset, .unset, .unset, .unset, .unset, .unset] D_jdk_29_m45_24 rfl ?_
  refine wp_lload D_jdk_29_m45_26 rfl ?_
  refine wp_lload D_jdk_29_m45_28 rfl ?_
  refine wp_lmul D_jdk_29_m45_30 ?_
  generalize hg_x5 : (x2 * x4) = x5
  refine wp_lstore #[.val (.long x), .second, .val (.long y), .second, .val (.long x1), .second, .val (.long x2), .second, .val (.long x3), .second, .val (.long x4), .second, .val (.long x5), .second, .unset, .unset, .unset, .unset, .unset, .unset] D_jdk_29_m45_31 rfl ?_
  refine wp_lload D_jdk_29_m45_33 rfl ?_
  refine wp_lload D_jdk_29_m45_35 rfl ?_
  refine wp_lmul D_jdk_29_m45_37 ?_
  refine wp_lload D_jdk_29_m45_38 rfl ?_
  refine wp_bipush 32 D_jdk_29_m45_40 (by decide) ?_
  refine wp_lushr D_jdk_29_m45_42 ?_
  refine wp_ladd D_jdk_29_m45_43 ?_
  generalize hg_x6 : ((x1 * x4) + (XT.ushrL x5 (32 : Int32))) = x6
  refine wp_lstore #[.val (.long x), .second, .val (.long y), .second, .val (.long x1), .second, .val (.long x2), .second, .val (.long x3), .second, .val (.long x4), .second, .val (.long x5), .second, .val (.long x6), .second, .unset, .unset, .unset, .unset] D_jdk_29_m45_44 rfl ?_
  refine wp_lload D_jdk_29_m45_46 rfl ?_
  refine wp_ldc2J D_jdk_29_m45_48 (hw _ (List.mem_of_getElem? (i := 35) rfl)) ?_
  refine wp_land D_jdk_29_m45_51 ?_
  generalize hg_x7 : (x6 &&& (4294967295 : Int64)) = x7
  refine wp_lstore #[.val (.long x), .second, .val (.long y), .second, .val (.long x1), .second, .val (.long x2), .second, .val (.long x3), .second, .val (.long x4), .second, .val (.long x5), .second, .val (.long x6), .second, .val (.long x7), .second, .unset, .unset] D_jdk_29_m45_52 rfl ?_
  refine wp_lload D_jdk_29_m45_54 rfl ?_
  refine wp_bipush 32 D_jdk_29_m45_56 (by decide) ?_
  refine wp_lshr D_jdk_29_m45_58 ?_
  generalize hg_x8 : (x6 >>> ((32 : Int32).toInt64 &&& 63)) = x8
  refine wp_lstore #[.val (.long x), .second, .val (.long y), .second, .val (.long x1), .second, .val (.long x2), .second, .val (.long x3), .second, .val (.long x4), .second, .val (.long x5), .second, .val (.long x6), .second, .val (.long x7), .second, .val (.long x8), .second] D_jdk_29_m45_59 rfl ?_
  refine wp_lload D_jdk_29_m45_61 rfl ?_
  refine wp_lload D_jdk_29_m45_63 rfl ?_
  refine wp_lload D_jdk_29_m45_65 rfl ?_
  refine wp_lmul D_jdk_29_m45_67 ?_
  refine wp_ladd D_jdk_29_m45_68 ?_
  generalize hg_x9 : (x7 + (x2 * x3)) = x9
  refine wp_lstore #[.val (.long x), .second, .val (.long y), .second, .val (.long x1), .second, .val (.long x2), .second, .val (.long x3), .second, .val (.long x4), .second, .val (.long x5), .second, .val (.long x6), .second, .val (.long x9), .second, .val (.long x8), .second] D_jdk_29_m45_69 rfl ?_
  refine wp_lload D_jdk_29_m45_71 rfl ?_
  refine wp_lload D_jdk_29_m45_73 rfl ?_
  refine wp_lmul D_jdk_29_m45_75 ?_
  refine wp_lload D_jdk_29_m45_76 rfl ?_
  refine wp_ladd D_jdk_29_m45_78 ?_
  refine wp_lload D_jdk_29_m45_79 rfl ?_
  refine wp_bipush 32 D_jdk_29_m45_81 (by decide) ?_
  refine wp_lshr D_jdk_29_m45_83 ?_
  refine wp_ladd D_jdk_29_m45_84 ?_
  refine wp_lreturn D_jdk_29_m45_85 rfl (by decide) (by decide) ?_
  subst hg_x1 hg_x2 hg_x3 hg_x4 hg_x5 hg_x6 hg_x7 hg_x8 hg_x9
  exact ⟨rfl, rfl⟩
theorem pn_3 : plainFor (⟨"com/example/orthrus/orthrus/Cells", "reduce", "(JJ)J"⟩ : MethodName) = true := by first | exact plainFor_of_name (by first | (simp [plainName, overriddenIn]; done) | decide +kernel) | decide +kernel
theorem D_prog_3_m4_0 : Dc prog_3_method_4_code 0 (.lload_n 0) 1 1 := ⟨by decide +kernel, rfl⟩
theorem D_prog_3_m4_1 : Dc prog_3_method_4_code 1 (.lload_n 2) 1 2 := ⟨by decide +kernel, rfl⟩
theorem D_prog_3_m4_2 : Dc prog_3_method_4_code 2 (.invokestatic 19) 3 5 := ⟨by decide +kernel, rfl⟩
theorem D_prog_3_m4_5 : Dc prog_3_method_4_code 5 (.lload_n 0) 1 6 := ⟨by decide +kernel, rfl⟩
theorem D_prog_3_m4_6 : Dc prog_3_method_4_code 6 (.bipush 63) 2 8 := ⟨by decide +kernel, rfl⟩
theorem D_prog_3_m4_8 : Dc prog_3_method_4_code 8 (.lshr) 1 9 := ⟨by decide +kernel, rfl⟩
theorem D_prog_3_m4_9 : Dc prog_3_method_4_code 9 (.lload_n 2) 1 10 := ⟨by decide +kernel, rfl⟩
theorem D_prog_3_m4_10 : Dc prog_3_method_4_code 10 (.land) 1 11 := ⟨by decide +kernel, rfl⟩
theorem D_prog_3_m4_11 : Dc prog_3_method_4_code 11 (.ladd) 1 12 := ⟨by decide +kernel, rfl⟩
theorem D_prog_3_m4_12 : Dc prog_3_method_4_code 12 (.lreturn) 1 13 := ⟨by decide +kernel, rfl⟩
def Q_c_red (x : Int64) (y : Int64) (H : OH) : Option Value → OH → Prop := fun v H' => v = some (.long (f_red x y)) ∧ H' = H
set_option maxRecDepth 65536 in
set_option maxHeartbeats 40000000 in
theorem c_red (l : Launch) (Z : State) (a0 : Array Value) (hw : ∀ d ∈ tables_1, d.before a0 Z = true) (x : Int64) (y : Int64) (H : OH) :
    Met l Z (⟨"com/example/orthrus/orthrus/Cells", "reduce", "(JJ)J"⟩ : MethodName) prog_3_method_4_code 4 (some .long) ({ frames := 1, cells := 0, slots := 0, locals := 31 } : Room) [(.long x), (.long y)] H (Q_c_red x y H) := by
  refine Met.of_wp (Ls := #[.val (.long x), .second, .val (.long y), .second]) pn_3 (fun m => (entry_loc m _ _).trans rfl) ?_
  show Wp none l Z "com/example/orthrus/orthrus/Cells" "reduce" prog_3_method_4_code 4 (some .long) ({ frames := 1, cells := 0, slots := 0, locals := 31 } : Room) H 0 0 0 #[.val (.long x), .second, .val (.long y), .second] [] (Q_c_red x y H)
  refine wp_lload_n D_prog_3_m4_0 rfl ?_
  refine wp_lload_n D_prog_3_m4_1 rfl ?_
  refine wp_callS (c_mh l Z a0 hw x y H) D_prog_3_m4_2 (hw _ (List.mem_of_getElem? (i := 31) rfl)) (hw _ (List.mem_of_getElem? (i := 32) rfl)) (hw _ (List.mem_of_getElem? (i := 33) rfl)) (hw _ (List.mem_of_getElem? (i := 34) rfl)) (by decide) pd_1 rfl rfl rfl (Nat.le_of_ble_eq_true rfl) (Nat.le_of_ble_eq_true rfl) (Nat.le_of_ble_eq_true rfl) (Nat.le_of_ble_eq_true rfl) ?_
  rintro _ H_ ⟨rfl, eH⟩
  rw [eH]
  show Wp none l Z "com/example/orthrus/orthrus/Cells" "reduce" prog_3_method_4_code 4 (some .long) ({ frames := 1, cells := 0, slots := 0, locals := 31 } : Room) H 0 0 5 #[.val (.long x), .second, .val (.long y), .second] [(.long (f_mh x y))] (Q_c_red x y H)
  refine wp_lload_n D_prog_3_m4_5 rfl ?_
  refine wp_bipush 63 D_prog_3_m4_6 (by decide) ?_
  refine wp_lshr D_prog_3_m4_8 ?_
  refine wp_lload_n D_prog_3_m4_9 rfl ?_
  refine wp_land D_prog_3_m4_10 ?_
  refine wp_ladd D_prog_3_m4_11 ?_
  refine wp_lreturn D_prog_3_m4_12 rfl (by decide) (by decide) ?_
  skip
  exact ⟨rfl, rfl⟩
theorem pd_2 : parseMethodDescriptor "(JI)I" = some ⟨[.long, .int], (some .int)⟩ := by decide +kernel
theorem pd_3 : parseMethodDescriptor "(J)J" = some ⟨[.long], (some .long)⟩ := by decide +kernel
theorem pd_4 : parseMethodDescriptor "()Z" = some ⟨[], (some .boolean)⟩ := by decide +kernel
theorem pd_5 : parseMethodDescriptor "(II)I" = some ⟨[.int, .int], (some .int)⟩ := by decide +kernel
theorem pd_6 : parseMethodDescriptor "()V" = some ⟨[], none⟩ := by decide +kernel
theorem pn_4 : plainFor (⟨"com/example/orthrus/orthrus/SignatureSet", "slotOf", "(JI)I"⟩ : MethodName) = true := by first | exact plainFor_of_name (by first | (simp [plainName, overriddenIn]; done) | decide +kernel) | decide +kernel
theorem D_prog_8_m12_0 : Dc prog_8_method_12_code 0 (.lload_n 0) 1 1 := ⟨by decide +kernel, rfl⟩
theorem D_prog_8_m12_1 : Dc prog_8_method_12_code 1 (.invokestatic 82) 3 4 := ⟨by decide +kernel, rfl⟩
theorem D_prog_8_m12_4 : Dc prog_8_method_12_code 4 (.iload_n 2) 1 5 := ⟨by decide +kernel, rfl⟩
theorem D_prog_8_m12_5 : Dc prog_8_method_12_code 5 (.i2l) 1 6 := ⟨by decide +kernel, rfl⟩
theorem D_prog_8_m12_6 : Dc prog_8_method_12_code 6 (.invokestatic 86) 3 9 := ⟨by decide +kernel, rfl⟩
theorem D_prog_8_m12_9 : Dc prog_8_method_12_code 9 (.l2i) 1 10 := ⟨by decide +kernel, rfl⟩
theorem D_prog_8_m12_10 : Dc prog_8_method_12_code 10 (.ireturn) 1 11 := ⟨by decide +kernel, rfl⟩
def Q_c_slot (x : Int64) (n : Int32) (H : OH) : Option Value → OH → Prop := fun v H' => v = some (.int (f_slot (f_mix x) n)) ∧ H' = H
set_option maxRecDepth 65536 in
set_option maxHeartbeats 40000000 in
theorem c_slot (l : Launch) (Z : State) (a0 : Array Value) (hw : ∀ d ∈ tables_1, d.before a0 Z = true) (x : Int64) (n : Int32) (H : OH) :
    Met l Z (⟨"com/example/orthrus/orthrus/SignatureSet", "slotOf", "(JI)I"⟩ : MethodName) prog_8_method_12_code 3 (some .int) ({ frames := 2, cells := 0, slots := 0, locals := 48 } : Room) [(.long x), (.int n)] H (Q_c_slot x n H) := by
  refine Met.of_wp (Ls := #[.val (.long x), .second, .val (.int n)]) pn_4 (fun m => (entry_loc m _ _).trans rfl) ?_
  show Wp none l Z "com/example/orthrus/orthrus/SignatureSet" "slotOf" prog_8_method_12_code 3 (some .int) ({ frames := 2, cells := 0, slots := 0, locals := 48 } : Room) H 0 0 0 #[.val (.long x), .second, .val (.int n)] [] (Q_c_slot x n H)
  refine wp_lload_n D_prog_8_m12_0 rfl ?_
  refine wp_callS (c_mix l Z a0 hw x H) D_prog_8_m12_1 (hw _ (List.mem_of_getElem? (i := 22) rfl)) (hw _ (List.mem_of_getElem? (i := 23) rfl)) (hw _ (List.mem_of_getElem? (i := 24) rfl)) (hw _ (List.mem_of_getElem? (i := 25) rfl)) (by decide) pd_3 rfl rfl rfl (Nat.le_of_ble_eq_true rfl) (Nat.le_of_ble_eq_true rfl) (Nat.le_of_ble_eq_true rfl) (Nat.le_of_ble_eq_true rfl) ?_
  rintro _ H_ ⟨rfl, eH⟩
  rw [eH]
  show Wp none l Z "com/example/orthrus/orthrus/SignatureSet" "slotOf" prog_8_method_12_code 3 (some .int) ({ frames := 2, cells := 0, slots := 0, locals := 48 } : Room) H 0 0 4 #[.val (.long x), .second, .val (.int n)] [(.long (f_mix x))] (Q_c_slot x n H)
  refine wp_iload_n D_prog_8_m12_4 rfl ?_
  refine wp_i2l D_prog_8_m12_5 ?_
  refine wp_callS (c_red l Z a0 hw (f_mix x) n.toInt64 H) D_prog_8_m12_6 (hw _ (List.mem_of_getElem? (i := 28) rfl)) (hw _ (List.mem_of_getElem? (i := 29) rfl)) (hw _ (List.mem_of_getElem? (i := 24) rfl)) (hw _ (List.mem_of_getElem? (i := 30) rfl)) (by decide) pd_1 rfl rfl rfl (Nat.le_of_ble_eq_true rfl) (Nat.le_of_ble_eq_true rfl) (Nat.le_of_ble_eq_true rfl) (Nat.le_of_ble_eq_true rfl) ?_
  rintro _ H_ ⟨rfl, eH⟩
  rw [eH]
  show Wp none l Z "com/example/orthrus/orthrus/SignatureSet" "slotOf" prog_8_method_12_code 3 (some .int) ({ frames := 2, cells := 0, slots := 0, locals := 48 } : Room) H 0 0 9 #[.val (.long x), .second, .val (.int n)] [(.long (f_red (f_mix x) n.toInt64))] (Q_c_slot x n H)
  refine wp_l2i D_prog_8_m12_9 ?_
  refine wp_ireturn D_prog_8_m12_10 rfl (by decide) (by decide) ?_
  skip
  exact ⟨rfl, rfl⟩
theorem pn_5 : plainFor (⟨"com/example/orthrus/orthrus/SignatureSet", "next", "(II)I"⟩ : MethodName) = true := by first | exact plainFor_of_name (by first | (simp [plainName, overriddenIn]; done) | decide +kernel) | decide +kernel
theorem D_prog_8_m13_0 : Dc prog_8_method_13_code 0 (.iload_n 0) 1 1 := ⟨by decide +kernel, rfl⟩
theorem D_prog_8_m13_1 : Dc prog_8_method_13_code 1 (.iconst 1) 1 2 := ⟨by decide +kernel, rfl⟩
theorem D_prog_8_m13_2 : Dc prog_8_method_13_code 2 (.iadd) 1 3 := ⟨by decide +kernel, rfl⟩
theorem D_prog_8_m13_3 : Dc prog_8_method_13_code 3 (.iload_n 1) 1 4 := ⟨by decide +kernel, rfl⟩
theorem D_prog_8_m13_4 : Dc prog_8_method_13_code 4 (.if_icmp .ne 7) 3 7 := ⟨by decide +kernel, rfl⟩
theorem D_prog_8_m13_7 : Dc prog_8_method_13_code 7 (.iconst 0) 1 8 := ⟨by decide +kernel, rfl⟩
theorem D_prog_8_m13_8 : Dc prog_8_method_13_code 8 (.goto 6) 3 11 := ⟨by decide +kernel, rfl⟩
theorem D_prog_8_m13_11 : Dc prog_8_method_13_code 11 (.iload_n 0) 1 12 := ⟨by decide +kernel, rfl⟩
theorem D_prog_8_m13_12 : Dc prog_8_method_13_code 12 (.iconst 1) 1 13 := ⟨by decide +kernel, rfl⟩
theorem D_prog_8_m13_13 : Dc prog_8_method_13_code 13 (.iadd) 1 14 := ⟨by decide +kernel, rfl⟩
theorem D_prog_8_m13_14 : Dc prog_8_method_13_code 14 (.ireturn) 1 15 := ⟨by decide +kernel, rfl⟩
def Q_c_next (s : Int32) (n : Int32) (H : OH) : Option Value → OH → Prop := fun v H' => v = some (.int (f_next s n)) ∧ H' = H
set_option maxRecDepth 65536 in
set_option maxHeartbeats 40000000 in
theorem c_next (l : Launch) (Z : State) (a0 : Array Value) (hw : ∀ d ∈ tables_1, d.before a0 Z = true) (s : Int32) (n : Int32) (H : OH) :
    Met l Z (⟨"com/example/orthrus/orthrus/SignatureSet", "next", "(II)I"⟩ : MethodName) prog_8_method_13_code 2 (some .int) ({ frames := 0, cells := 0, slots := 0, locals := 0 } : Room) [(.int s), (.int n)] H (Q_c_next s n H) := by
  refine Met.of_wp (Ls := #[.val (.int s), .val (.int n)]) pn_5 (fun m => (entry_loc m _ _).trans rfl) ?_
  show Wp none l Z "com/example/orthrus/orthrus/SignatureSet" "next" prog_8_method_13_code 2 (some .int) ({ frames := 0, cells := 0, slots := 0, locals := 0 } : Room) H 0 0 0 #[.val (.int s), .val (.int n)] [] (Q_c_next s n H)
  refine wp_iload_n D_prog_8_m13_0 rfl ?_
  refine wp_iconst 1 D_prog_8_m13_1 (by decide) ?_
  refine wp_iadd D_prog_8_m13_2 ?_
  refine wp_iload_n D_prog_8_m13_3 rfl ?_
  refine wp_icmp_ne D_prog_8_m13_4 (pc'' := 11) ⟨by decide, by decide⟩ (fun h1 => ?_) (fun h1 => ?_)
  · skip
    refine wp_iload_n D_prog_8_m13_11 rfl ?_
    refine wp_iconst 1 D_prog_8_m13_12 (by decide) ?_
    refine wp_iadd D_prog_8_m13_13 ?_
    refine wp_ireturn D_prog_8_m13_14 rfl (by decide) (by decide) ?_
    exact ⟨by simp [f_next, h1], rfl⟩
  · skip
    refine wp_iconst 0 D_prog_8_m13_7 (by decide) ?_
    refine wp_goto D_prog_8_m13_8 (pc'' := 14) ⟨by decide, by decide⟩ ?_
    refine wp_ireturn D_prog_8_m13_14 rfl (by decide) (by decide) ?_
    exact ⟨by simp [f_next, h1], rfl⟩
theorem pn_6 : plainFor (⟨"com/example/orthrus/orthrus/SignatureSet", "full", "()Z"⟩ : MethodName) = true := by first | exact plainFor_of_name (by first | (simp [plainName, overriddenIn]; done) | decide +kernel) | decide +kernel
theorem D_prog_8_m5_0 : Dc prog_8_method_5_code 0 (.aload_n 0) 1 1 := ⟨by decide +kernel, rfl⟩
theorem D_prog_8_m5_1 : Dc prog_8_method_5_code 1 (.getfield 42) 3 4 := ⟨by decide +kernel, rfl⟩
theorem D_prog_8_m5_4 : Dc prog_8_method_5_code 4 (.aload_n 0) 1 5 := ⟨by decide +kernel, rfl⟩
theorem D_prog_8_m5_5 : Dc prog_8_method_5_code 5 (.getfield 20) 3 8 := ⟨by decide +kernel, rfl⟩
theorem D_prog_8_m5_8 : Dc prog_8_method_5_code 8 (.arraylength) 1 9 := ⟨by decide +kernel, rfl⟩
theorem D_prog_8_m5_9 : Dc prog_8_method_5_code 9 (.iconst 4) 1 10 := ⟨by decide +kernel, rfl⟩
theorem D_prog_8_m5_10 : Dc prog_8_method_5_code 10 (.idiv) 1 11 := ⟨by decide +kernel, rfl⟩
theorem D_prog_8_m5_11 : Dc prog_8_method_5_code 11 (.iconst 3) 1 12 := ⟨by decide +kernel, rfl⟩
theorem D_prog_8_m5_12 : Dc prog_8_method_5_code 12 (.imul) 1 13 := ⟨by decide +kernel, rfl⟩
theorem D_prog_8_m5_13 : Dc prog_8_method_5_code 13 (.if_icmp .le 7) 3 16 := ⟨by decide +kernel, rfl⟩
theorem D_prog_8_m5_16 : Dc prog_8_method_5_code 16 (.iconst 1) 1 17 := ⟨by decide +kernel, rfl⟩
theorem D_prog_8_m5_17 : Dc prog_8_method_5_code 17 (.goto 4) 3 20 := ⟨by decide +kernel, rfl⟩
theorem D_prog_8_m5_20 : Dc prog_8_method_5_code 20 (.iconst 0) 1 21 := ⟨by decide +kernel, rfl⟩
theorem D_prog_8_m5_21 : Dc prog_8_method_5_code 21 (.ireturn) 1 22 := ⟨by decide +kernel, rfl⟩
def Q_c_full (o a : Addr) (ms : Int64) (hz f n : Int32) (xs : List Int64) (F : OH) : Option Value → OH → Prop := fun v H' => v = some (.int (f_full f n)) ∧ H' = ((o, oI "com/example/orthrus/orthrus/SignatureSet" sg_1 [(.long ms), (.ref a), (.int f), (.int hz)]) :: (a, oJ xs) :: F)
set_option maxRecDepth 65536 in
set_option maxHeartbeats 40000000 in
theorem c_full (l : Launch) (Z : State) (a0 : Array Value) (hw : ∀ d ∈ tables_1, d.before a0 Z = true) (o a : Addr) (ms : Int64) (hz f n : Int32) (xs : List Int64) (F : OH)  (hl : xs.length.toInt32 = n) :
    Met l Z (⟨"com/example/orthrus/orthrus/SignatureSet", "full", "()Z"⟩ : MethodName) prog_8_method_5_code 1 (some .boolean) ({ frames := 0, cells := 0, slots := 0, locals := 0 } : Room) [(.ref o)] ((o, oI "com/example/orthrus/orthrus/SignatureSet" sg_1 [(.long ms), (.ref a), (.int f), (.int hz)]) :: (a, oJ xs) :: F) (Q_c_full o a ms hz f n xs F) := by
  refine Met.of_wp (Ls := #[.val (.ref o)]) pn_6 (fun m => (entry_loc m _ _).trans rfl) ?_
  show Wp none l Z "com/example/orthrus/orthrus/SignatureSet" "full" prog_8_method_5_code 1 (some .boolean) ({ frames := 0, cells := 0, slots := 0, locals := 0 } : Room) ((o, oI "com/example/orthrus/orthrus/SignatureSet" sg_1 [(.long ms), (.ref a), (.int f), (.int hz)]) :: (a, oJ xs) :: F) 0 0 0 #[.val (.ref o)] [] (Q_c_full o a ms hz f n xs F)
  refine wp_aload_n D_prog_8_m5_0 rfl rfl ?_
  refine wp_getfield D_prog_8_m5_1 (hw _ (List.mem_of_getElem? (i := 41) rfl)) (fld_new (i := 0) (fi := 2) rfl rfl rfl) ?_
  refine wp_aload_n D_prog_8_m5_4 rfl rfl ?_
  refine wp_getfield D_prog_8_m5_5 (hw _ (List.mem_of_getElem? (i := 12) rfl)) (fld_new (i := 0) (fi := 1) rfl rfl rfl) ?_
  refine wp_lengthJ (i := 1) n D_prog_8_m5_8 rfl hl ?_
  refine wp_iconst 4 D_prog_8_m5_9 (by decide) ?_
  refine wp_idiv D_prog_8_m5_10 (by decide) ?_
  refine wp_iconst 3 D_prog_8_m5_11 (by decide) ?_
  refine wp_imul D_prog_8_m5_12 ?_
  refine wp_icmp_le D_prog_8_m5_13 (pc'' := 20) ⟨by decide, by decide⟩ (fun h1 => ?_) (fun h1 => ?_)
  · skip
    refine wp_iconst 0 D_prog_8_m5_20 (by decide) ?_
    refine wp_ireturnN D_prog_8_m5_21 rfl (by simp) (by decide) (by decide) ?_
    exact ⟨by simp [f_full, nar, h1], rfl⟩
  · skip
    refine wp_iconst 1 D_prog_8_m5_16 (by decide) ?_
    refine wp_goto D_prog_8_m5_17 (pc'' := 21) ⟨by decide, by decide⟩ ?_
    refine wp_ireturnN D_prog_8_m5_21 rfl (by simp) (by decide) (by decide) ?_
    exact ⟨by simp [f_full, nar, h1], rfl⟩
def f_min (a b : Int32) : Int32 := if b < a then b else a
def f_max (a b : Int32) : Int32 := if a < b then b else a
theorem own_min (a b : Int32) : (a.toInt ≤ b.toInt ∧ (f_min a b).toInt = a.toInt) ∨ (b.toInt < a.toInt ∧ (f_min a b).toInt = b.toInt) := by
  unfold f_min
  by_cases h : b < a
  · rw [if_pos h]; rw [Int32.lt_iff_toInt_lt] at h; omega
  · rw [if_neg h]; rw [Int32.lt_iff_toInt_lt] at h; omega
theorem own_max (a b : Int32) : (b.toInt ≤ a.toInt ∧ (f_max a b).toInt = a.toInt) ∨ (a.toInt < b.toInt ∧ (f_max a b).toInt = b.toInt) := by
  unfold f_max
  by_cases h : a < b
  · rw [if_pos h]; rw [Int32.lt_iff_toInt_lt] at h; omega
  · rw [if_neg h]; rw [Int32.lt_iff_toInt_lt] at h; omega
theorem pn_7 : plainFor (⟨"java/lang/Math", "min", "(II)I"⟩ : MethodName) = true := by first | exact plainFor_of_name (by first | (simp [plainName, overriddenIn]; done) | decide +kernel) | decide +kernel
theorem D_jdk_29_m69_0 : Dc jdk_29_method_69_code 0 (.iload_n 0) 1 1 := ⟨by decide +kernel, rfl⟩
theorem D_jdk_29_m69_1 : Dc jdk_29_method_69_code 1 (.iload_n 1) 1 2 := ⟨by decide +kernel, rfl⟩
theorem D_jdk_29_m69_2 : Dc jdk_29_method_69_code 2 (.if_icmp .gt 7) 3 5 := ⟨by decide +kernel, rfl⟩
theorem D_jdk_29_m69_5 : Dc jdk_29_method_69_code 5 (.iload_n 0) 1 6 := ⟨by decide +kernel, rfl⟩
theorem D_jdk_29_m69_6 : Dc jdk_29_method_69_code 6 (.goto 4) 3 9 := ⟨by decide +kernel, rfl⟩
theorem D_jdk_29_m69_9 : Dc jdk_29_method_69_code 9 (.iload_n 1) 1 10 := ⟨by decide +kernel, rfl⟩
theorem D_jdk_29_m69_10 : Dc jdk_29_method_69_code 10 (.ireturn) 1 11 := ⟨by decide +kernel, rfl⟩
def Q_c_min (a : Int32) (b : Int32) (H : OH) : Option Value → OH → Prop := fun v H' => v = some (.int (f_min a b)) ∧ H' = H
set_option maxRecDepth 65536 in
set_option maxHeartbeats 40000000 in
theorem c_min (l : Launch) (Z : State) (a0 : Array Value) (hw : ∀ d ∈ tables_1, d.before a0 Z = true) (a : Int32) (b : Int32) (H : OH) :
    Met l Z (⟨"java/lang/Math", "min", "(II)I"⟩ : MethodName) jdk_29_method_69_code 2 (some .int) ({ frames := 0, cells := 0, slots := 0, locals := 0 } : Room) [(.int a), (.int b)] H (Q_c_min a b H) := by
  refine Met.of_wp (Ls := #[.val (.int a), .val (.int b)]) pn_7 (fun m => (entry_loc m _ _).trans rfl) ?_
  show Wp none l Z "java/lang/Math" "min" jdk_29_method_69_code 2 (some .int) ({ frames := 0, cells := 0, slots := 0, locals := 0 } : Room) H 0 0 0 #[.val (.int a), .val (.int b)] [] (Q_c_min a b H)
  refine wp_iload_n D_jdk_29_m69_0 rfl ?_
  refine wp_iload_n D_jdk_29_m69_1 rfl ?_
  refine wp_icmp_gt D_jdk_29_m69_2 (pc'' := 9) ⟨by decide, by decide⟩ (fun h1 => ?_) (fun h1 => ?_)
  · skip
    refine wp_iload_n D_jdk_29_m69_9 rfl ?_
    refine wp_ireturn D_jdk_29_m69_10 rfl (by decide) (by decide) ?_
    exact ⟨by simp [f_min, h1], rfl⟩
  · skip
    refine wp_iload_n D_jdk_29_m69_5 rfl ?_
    refine wp_goto D_jdk_29_m69_6 (pc'' := 10) ⟨by decide, by decide⟩ ?_
    refine wp_ireturn D_jdk_29_m69_10 rfl (by decide) (by decide) ?_
    exact ⟨by simp [f_min, h1], rfl⟩
def f_minJ (a b : Int64) : Int64 := if b < a then b else a
theorem own_grow_all : ∀ a, a < 4 → ∀ k, k < 32 → (f_minJ ((2 : Int64) * (Int32.ofNat (8 + a)).toInt64) (f_minJ ((Int32.ofNat (8 + a)).toInt64 + (Int32.ofNat k).toInt64 - (Int32.ofNat (8 + a)).toInt64) (2147483639 : Int64))).toInt32 = f_min ((2 : Int32) * Int32.ofNat (8 + a)) (Int32.ofNat k) ∧ (f_min ((2 : Int32) * Int32.ofNat (8 + a)) (Int32.ofNat k)).toInt = (if k < 16 + 2 * a then k else 16 + 2 * a) := by decide +kernel
theorem own_nat (y : Int32) (h : 0 ≤ y.toInt) : y = Int32.ofNat y.toNatClampNeg := by
  apply Int32.toInt_inj.mp
  have := Int32.toInt_lt y
  rw [Int32.toInt_ofNat_of_lt (by simp only [Int32.toNatClampNeg]; omega)]; simp only [Int32.toNatClampNeg]; omega
theorem own_grow (n m : Int32) (hn : 8 ≤ n.toInt ∧ n.toInt ≤ 11) (hm : 0 ≤ m.toInt ∧ m.toInt ≤ 31) : (f_minJ ((2 : Int64) * n.toInt64) (f_minJ (n.toInt64 + m.toInt64 - n.toInt64) (2147483639 : Int64))).toInt32 = f_min ((2 : Int32) * n) m ∧ (f_min ((2 : Int32) * n) m).toInt = (if m.toInt < 2 * n.toInt then m.toInt else 2 * n.toInt) := by
  have e1 := own_nat n (by omega)
  have e2 := own_nat m (by omega)
  have h1 : n.toNatClampNeg = 8 + (n.toNatClampNeg - 8) := by simp only [Int32.toNatClampNeg]; omega
  have q := own_grow_all (n.toNatClampNeg - 8) (by simp only [Int32.toNatClampNeg]; omega) m.toNatClampNeg (by simp only [Int32.toNatClampNeg]; omega)
  rw [← h1, ← e1, ← e2] at q
  refine ⟨q.1, q.2.trans ?_⟩
  simp only [Int32.toNatClampNeg]
  split <;> split <;> omega
theorem own_n4 (n : Int32) (hn : 8 ≤ n.toInt ∧ n.toInt ≤ 11) : n / 4 * 3 = 6 := by
  have h : n = 8 ∨ n = 9 ∨ n = 10 ∨ n = 11 := by simp only [← Int32.toInt_inj, Int32.reduceToInt]; omega
  rcases h with rfl | rfl | rfl | rfl <;> decide
theorem pn_8 : plainFor (⟨"java/lang/Math", "min", "(JJ)J"⟩ : MethodName) = true := by first | exact plainFor_of_name (by first | (simp [plainName, overriddenIn]; done) | decide +kernel) | decide +kernel
theorem D_jdk_29_m70_0 : Dc jdk_29_method_70_code 0 (.lload_n 0) 1 1 := ⟨by decide +kernel, rfl⟩
theorem D_jdk_29_m70_1 : Dc jdk_29_method_70_code 1 (.lload_n 2) 1 2 := ⟨by decide +kernel, rfl⟩
theorem D_jdk_29_m70_2 : Dc jdk_29_method_70_code 2 (.lcmp) 1 3 := ⟨by decide +kernel, rfl⟩
theorem D_jdk_29_m70_3 : Dc jdk_29_method_70_code 3 (.ifCond .gt 7) 3 6 := ⟨by decide +kernel, rfl⟩
theorem D_jdk_29_m70_6 : Dc jdk_29_method_70_code 6 (.lload_n 0) 1 7 := ⟨by decide +kernel, rfl⟩
theorem D_jdk_29_m70_7 : Dc jdk_29_method_70_code 7 (.goto 4) 3 10 := ⟨by decide +kernel, rfl⟩
theorem D_jdk_29_m70_10 : Dc jdk_29_method_70_code 10 (.lload_n 2) 1 11 := ⟨by decide +kernel, rfl⟩
theorem D_jdk_29_m70_11 : Dc jdk_29_method_70_code 11 (.lreturn) 1 12 := ⟨by decide +kernel, rfl⟩
def Q_c_minJ (a : Int64) (b : Int64) (H : OH) : Option Value → OH → Prop := fun v H' => v = some (.long (f_minJ a b)) ∧ H' = H
set_option maxRecDepth 65536 in
set_option maxHeartbeats 40000000 in
theorem c_minJ (l : Launch) (Z : State) (a0 : Array Value) (hw : ∀ d ∈ tables_1, d.before a0 Z = true) (a : Int64) (b : Int64) (H : OH) :
    Met l Z (⟨"java/lang/Math", "min", "(JJ)J"⟩ : MethodName) jdk_29_method_70_code 4 (some .long) ({ frames := 0, cells := 0, slots := 0, locals := 0 } : Room) [(.long a), (.long b)] H (Q_c_minJ a b H) := by
  refine Met.of_wp (Ls := #[.val (.long a), .second, .val (.long b), .second]) pn_8 (fun m => (entry_loc m _ _).trans rfl) ?_
  show Wp none l Z "java/lang/Math" "min" jdk_29_method_70_code 4 (some .long) ({ frames := 0, cells := 0, slots := 0, locals := 0 } : Room) H 0 0 0 #[.val (.long a), .second, .val (.long b), .second] [] (Q_c_minJ a b H)
  refine wp_lload_n D_jdk_29_m70_0 rfl ?_
  refine wp_lload_n D_jdk_29_m70_1 rfl ?_
  refine wp_lcmp_gt D_jdk_29_m70_2 D_jdk_29_m70_3 (pc'' := 10) ⟨by decide, by decide⟩ (fun h1 => ?_) (fun h1 => ?_)
  · skip
    refine wp_lload_n D_jdk_29_m70_10 rfl ?_
    refine wp_lreturn D_jdk_29_m70_11 rfl (by decide) (by decide) ?_
    exact ⟨by simp [f_minJ, h1], rfl⟩
  · skip
    refine wp_lload_n D_jdk_29_m70_6 rfl ?_
    refine wp_goto D_jdk_29_m70_7 (pc'' := 11) ⟨by decide, by decide⟩ ?_
    refine wp_lreturn D_jdk_29_m70_11 rfl (by decide) (by decide) ?_
    exact ⟨by simp [f_minJ, h1], rfl⟩
theorem pn_9 : plainFor (⟨"com/example/orthrus/orthrus/SignatureSet", "add", "(J)Z"⟩ : MethodName) = true := by first | exact plainFor_of_name (by first | (simp [plainName, overriddenIn]; done) | decide +kernel) | decide +kernel
theorem D_prog_8_m3_0 : Dc prog_8_method_3_code 0 (.lload_n 1) 1 1 := ⟨by decide +kernel, rfl⟩
theorem D_prog_8_m3_1 : Dc prog_8_method_3_code 1 (.lconst 0) 1 2 := ⟨by decide +kernel, rfl⟩
theorem D_prog_8_m3_2 : Dc prog_8_method_3_code 2 (.lcmp) 1 3 := ⟨by decide +kernel, rfl⟩
theorem D_prog_8_m3_3 : Dc prog_8_method_3_code 3 (.ifCond .ne 23) 3 6 := ⟨by decide +kernel, rfl⟩
theorem D_prog_8_m3_6 : Dc prog_8_method_3_code 6 (.aload_n 0) 1 7 := ⟨by decide +kernel, rfl⟩
theorem D_prog_8_m3_7 : Dc prog_8_method_3_code 7 (.getfield 24) 3 10 := ⟨by decide +kernel, rfl⟩
theorem D_prog_8_m3_10 : Dc prog_8_method_3_code 10 (.ifCond .ne 7) 3 13 := ⟨by decide +kernel, rfl⟩
theorem D_prog_8_m3_13 : Dc prog_8_method_3_code 13 (.iconst 1) 1 14 := ⟨by decide +kernel, rfl⟩
theorem D_prog_8_m3_14 : Dc prog_8_method_3_code 14 (.goto 4) 3 17 := ⟨by decide +kernel, rfl⟩
theorem D_prog_8_m3_17 : Dc prog_8_method_3_code 17 (.iconst 0) 1 18 := ⟨by decide +kernel, rfl⟩
theorem D_prog_8_m3_18 : Dc prog_8_method_3_code 18 (.istore_n 3) 1 19 := ⟨by decide +kernel, rfl⟩
theorem D_prog_8_m3_19 : Dc prog_8_method_3_code 19 (.aload_n 0) 1 20 := ⟨by decide +kernel, rfl⟩
theorem D_prog_8_m3_20 : Dc prog_8_method_3_code 20 (.iconst 1) 1 21 := ⟨by decide +kernel, rfl⟩
theorem D_prog_8_m3_21 : Dc prog_8_method_3_code 21 (.putfield 24) 3 24 := ⟨by decide +kernel, rfl⟩
theorem D_prog_8_m3_24 : Dc prog_8_method_3_code 24 (.iload_n 3) 1 25 := ⟨by decide +kernel, rfl⟩
theorem D_prog_8_m3_25 : Dc prog_8_method_3_code 25 (.ireturn) 1 26 := ⟨by decide +kernel, rfl⟩
theorem D_prog_8_m3_26 : Dc prog_8_method_3_code 26 (.lload_n 1) 1 27 := ⟨by decide +kernel, rfl⟩
theorem D_prog_8_m3_27 : Dc prog_8_method_3_code 27 (.aload_n 0) 1 28 := ⟨by decide +kernel, rfl⟩
theorem D_prog_8_m3_28 : Dc prog_8_method_3_code 28 (.getfield 20) 3 31 := ⟨by decide +kernel, rfl⟩
theorem D_prog_8_m3_31 : Dc prog_8_method_3_code 31 (.arraylength) 1 32 := ⟨by decide +kernel, rfl⟩
theorem D_prog_8_m3_32 : Dc prog_8_method_3_code 32 (.invokestatic 28) 3 35 := ⟨by decide +kernel, rfl⟩
theorem D_prog_8_m3_35 : Dc prog_8_method_3_code 35 (.istore_n 3) 1 36 := ⟨by decide +kernel, rfl⟩
theorem D_prog_8_m3_36 : Dc prog_8_method_3_code 36 (.aload_n 0) 1 37 := ⟨by decide +kernel, rfl⟩
theorem D_prog_8_m3_37 : Dc prog_8_method_3_code 37 (.getfield 20) 3 40 := ⟨by decide +kernel, rfl⟩
theorem D_prog_8_m3_40 : Dc prog_8_method_3_code 40 (.iload_n 3) 1 41 := ⟨by decide +kernel, rfl⟩
theorem D_prog_8_m3_41 : Dc prog_8_method_3_code 41 (.laload) 1 42 := ⟨by decide +kernel, rfl⟩
theorem D_prog_8_m3_42 : Dc prog_8_method_3_code 42 (.lconst 0) 1 43 := ⟨by decide +kernel, rfl⟩
theorem D_prog_8_m3_43 : Dc prog_8_method_3_code 43 (.lcmp) 1 44 := ⟨by decide +kernel, rfl⟩
theorem D_prog_8_m3_44 : Dc prog_8_method_3_code 44 (.ifCond .eq 29) 3 47 := ⟨by decide +kernel, rfl⟩
theorem D_prog_8_m3_47 : Dc prog_8_method_3_code 47 (.aload_n 0) 1 48 := ⟨by decide +kernel, rfl⟩
theorem D_prog_8_m3_48 : Dc prog_8_method_3_code 48 (.getfield 20) 3 51 := ⟨by decide +kernel, rfl⟩
theorem D_prog_8_m3_51 : Dc prog_8_method_3_code 51 (.iload_n 3) 1 52 := ⟨by decide +kernel, rfl⟩
theorem D_prog_8_m3_52 : Dc prog_8_method_3_code 52 (.laload) 1 53 := ⟨by decide +kernel, rfl⟩
theorem D_prog_8_m3_53 : Dc prog_8_method_3_code 53 (.lload_n 1) 1 54 := ⟨by decide +kernel, rfl⟩
theorem D_prog_8_m3_54 : Dc prog_8_method_3_code 54 (.lcmp) 1 55 := ⟨by decide +kernel, rfl⟩
theorem D_prog_8_m3_55 : Dc prog_8_method_3_code 55 (.ifCond .ne 5) 3 58 := ⟨by decide +kernel, rfl⟩
theorem D_prog_8_m3_58 : Dc prog_8_method_3_code 58 (.iconst 0) 1 59 := ⟨by decide +kernel, rfl⟩
theorem D_prog_8_m3_59 : Dc prog_8_method_3_code 59 (.ireturn) 1 60 := ⟨by decide +kernel, rfl⟩
theorem D_prog_8_m3_60 : Dc prog_8_method_3_code 60 (.iload_n 3) 1 61 := ⟨by decide +kernel, rfl⟩
theorem D_prog_8_m3_61 : Dc prog_8_method_3_code 61 (.aload_n 0) 1 62 := ⟨by decide +kernel, rfl⟩
theorem D_prog_8_m3_62 : Dc prog_8_method_3_code 62 (.getfield 20) 3 65 := ⟨by decide +kernel, rfl⟩
theorem D_prog_8_m3_65 : Dc prog_8_method_3_code 65 (.arraylength) 1 66 := ⟨by decide +kernel, rfl⟩
theorem D_prog_8_m3_66 : Dc prog_8_method_3_code 66 (.invokestatic 32) 3 69 := ⟨by decide +kernel, rfl⟩
theorem D_prog_8_m3_69 : Dc prog_8_method_3_code 69 (.istore_n 3) 1 70 := ⟨by decide +kernel, rfl⟩
theorem D_prog_8_m3_70 : Dc prog_8_method_3_code 70 (.goto (-34)) 3 73 := ⟨by decide +kernel, rfl⟩
theorem D_prog_8_m3_73 : Dc prog_8_method_3_code 73 (.aload_n 0) 1 74 := ⟨by decide +kernel, rfl⟩
theorem D_prog_8_m3_74 : Dc prog_8_method_3_code 74 (.invokevirtual 36) 3 77 := ⟨by decide +kernel, rfl⟩
theorem D_prog_8_m3_77 : Dc prog_8_method_3_code 77 (.ifCond .eq 20) 3 80 := ⟨by decide +kernel, rfl⟩
theorem D_prog_8_m3_80 : Dc prog_8_method_3_code 80 (.new 40) 3 83 := ⟨by decide +kernel, rfl⟩
theorem D_prog_8_m3_83 : Dc prog_8_method_3_code 83 (.dup) 1 84 := ⟨by decide +kernel, rfl⟩
theorem D_prog_8_m3_84 : Dc prog_8_method_3_code 84 (.aload_n 0) 1 85 := ⟨by decide +kernel, rfl⟩
theorem D_prog_8_m3_85 : Dc prog_8_method_3_code 85 (.getfield 42) 3 88 := ⟨by decide +kernel, rfl⟩
theorem D_prog_8_m3_88 : Dc prog_8_method_3_code 88 (.invokedynamic 46) 5 93 := ⟨by decide +kernel, rfl⟩
theorem D_prog_8_m3_93 : Dc prog_8_method_3_code 93 (.invokespecial 50) 3 96 := ⟨by decide +kernel, rfl⟩
theorem D_prog_8_m3_96 : Dc prog_8_method_3_code 96 (.athrow) 1 97 := ⟨by decide +kernel, rfl⟩
theorem D_prog_8_m3_97 : Dc prog_8_method_3_code 97 (.aload_n 0) 1 98 := ⟨by decide +kernel, rfl⟩
theorem D_prog_8_m3_98 : Dc prog_8_method_3_code 98 (.getfield 20) 3 101 := ⟨by decide +kernel, rfl⟩
theorem D_prog_8_m3_101 : Dc prog_8_method_3_code 101 (.iload_n 3) 1 102 := ⟨by decide +kernel, rfl⟩
theorem D_prog_8_m3_102 : Dc prog_8_method_3_code 102 (.lload_n 1) 1 103 := ⟨by decide +kernel, rfl⟩
theorem D_prog_8_m3_103 : Dc prog_8_method_3_code 103 (.lastore) 1 104 := ⟨by decide +kernel, rfl⟩
theorem D_prog_8_m3_104 : Dc prog_8_method_3_code 104 (.aload_n 0) 1 105 := ⟨by decide +kernel, rfl⟩
theorem D_prog_8_m3_105 : Dc prog_8_method_3_code 105 (.dup) 1 106 := ⟨by decide +kernel, rfl⟩
theorem D_prog_8_m3_106 : Dc prog_8_method_3_code 106 (.getfield 42) 3 109 := ⟨by decide +kernel, rfl⟩
theorem D_prog_8_m3_109 : Dc prog_8_method_3_code 109 (.iconst 1) 1 110 := ⟨by decide +kernel, rfl⟩
theorem D_prog_8_m3_110 : Dc prog_8_method_3_code 110 (.iadd) 1 111 := ⟨by decide +kernel, rfl⟩
theorem D_prog_8_m3_111 : Dc prog_8_method_3_code 111 (.putfield 42) 3 114 := ⟨by decide +kernel, rfl⟩
theorem D_prog_8_m3_114 : Dc prog_8_method_3_code 114 (.aload_n 0) 1 115 := ⟨by decide +kernel, rfl⟩
theorem D_prog_8_m3_115 : Dc prog_8_method_3_code 115 (.invokevirtual 36) 3 118 := ⟨by decide +kernel, rfl⟩
theorem D_prog_8_m3_118 : Dc prog_8_method_3_code 118 (.ifCond .eq 7) 3 121 := ⟨by decide +kernel, rfl⟩
theorem D_prog_8_m3_121 : Dc prog_8_method_3_code 121 (.aload_n 0) 1 122 := ⟨by decide +kernel, rfl⟩
theorem D_prog_8_m3_122 : Dc prog_8_method_3_code 122 (.invokevirtual 53) 3 125 := ⟨by decide +kernel, rfl⟩
theorem D_prog_8_m3_125 : Dc prog_8_method_3_code 125 (.iconst 1) 1 126 := ⟨by decide +kernel, rfl⟩
theorem D_prog_8_m3_126 : Dc prog_8_method_3_code 126 (.ireturn) 1 127 := ⟨by decide +kernel, rfl⟩
set_option maxRecDepth 65536 in
set_option maxHeartbeats 40000000 in
theorem lp_addS (l : Launch) (Z : State) (a0 : Array Value) (hw : ∀ d ∈ tables_1, d.before a0 Z = true) (o a : Addr) (ms x : Int64) (hz f n : Int32) (xs : List Int64) (F : OH) (Q : Option Value → OH → Prop) (hl : xs.length.toInt32 = n) (hL : (xs.length : Int) = n.toInt) (hx : ∀ y ∈ xs, y ≠ x) (z : Nat) (hz1 : z < xs.length) (hz0 : xs[z]? = some 0) (hc : ∀ s : Int32, 0 ≤ s.toInt → s.toInt < n.toInt → xs[s.toNatClampNeg]? = some 0 → Wp none l Z "com/example/orthrus/orthrus/SignatureSet" "add" prog_8_method_3_code 4 (some .boolean) ({ frames := 3, cells := 0, slots := 0, locals := 62 } : Room) ((o, oI "com/example/orthrus/orthrus/SignatureSet" sg_1 [(.long ms), (.ref a), (.int f), (.int hz)]) :: (a, oJ xs) :: F) 0 0 73 #[.val (.ref o), .val (.long x), .second, .val (.int s)] [] Q) :
    ∀ (d : Nat) (s : Int32), 0 ≤ s.toInt → s.toInt < n.toInt → dist z n.toInt s.toInt = d → Wp none l Z "com/example/orthrus/orthrus/SignatureSet" "add" prog_8_method_3_code 4 (some .boolean) ({ frames := 3, cells := 0, slots := 0, locals := 62 } : Room) ((o, oI "com/example/orthrus/orthrus/SignatureSet" sg_1 [(.long ms), (.ref a), (.int f), (.int hz)]) :: (a, oJ xs) :: F) 0 0 36 #[.val (.ref o), .val (.long x), .second, .val (.int s)] [] Q := by
  intro d
  induction d using Nat.strongRecOn with
  | _ d ih =>
  intro s hq0 hq1 hd
  refine wp_aload_n D_prog_8_m3_36 rfl rfl ?_
  refine wp_getfield D_prog_8_m3_37 (hw _ (List.mem_of_getElem? (i := 12) rfl)) (fld_new (i := 0) (fi := 1) rfl rfl rfl) ?_
  refine wp_iload_n D_prog_8_m3_40 rfl ?_
  refine wp_laload (i := 1) (s.toNatClampNeg) D_prog_8_m3_41 rfl (own_i32 _ hq0) rfl (own_gj xs _ (by have := own_cn s; omega)) ?_
  refine wp_lconst 0 D_prog_8_m3_42 (by decide) ?_
  refine wp_lcmp_eq D_prog_8_m3_43 D_prog_8_m3_44 (pc'' := 73) ⟨by decide, by decide⟩ (fun h1 => ?_) (fun h1 => ?_)
  · skip
    exact hc s hq0 hq1 ((own_gj xs _ (by have := own_cn s; omega)).trans (congrArg some h1))
  · skip
    refine wp_aload_n D_prog_8_m3_47 rfl rfl ?_
    refine wp_getfield D_prog_8_m3_48 (hw _ (List.mem_of_getElem? (i := 12) rfl)) (fld_new (i := 0) (fi := 1) rfl rfl rfl) ?_
    refine wp_iload_n D_prog_8_m3_51 rfl ?_
    refine wp_laload (i := 1) (s.toNatClampNeg) D_prog_8_m3_52 rfl (own_i32 _ hq0) rfl (own_gj xs _ (by have := own_cn s; omega)) ?_
    refine wp_lload_n D_prog_8_m3_53 rfl ?_
    refine wp_lcmp_ne D_prog_8_m3_54 D_prog_8_m3_55 (pc'' := 60) ⟨by decide, by decide⟩ (fun h2 => ?_) (fun h2 => by exact absurd h2 (hx _ (List.mem_of_getElem? (own_gj xs _ (by have := own_cn s; omega)))))
    refine wp_iload_n D_prog_8_m3_60 rfl ?_
    refine wp_aload_n D_prog_8_m3_61 rfl rfl ?_
    refine wp_getfield D_prog_8_m3_62 (hw _ (List.mem_of_getElem? (i := 12) rfl)) (fld_new (i := 0) (fi := 1) rfl rfl rfl) ?_
    refine wp_lengthJ (i := 1) n D_prog_8_m3_65 rfl hl ?_
    refine wp_callS (c_next l Z a0 hw s n ((o, oI "com/example/orthrus/orthrus/SignatureSet" sg_1 [(.long ms), (.ref a), (.int f), (.int hz)]) :: (a, oJ xs) :: F)) D_prog_8_m3_66 (hw _ (List.mem_of_getElem? (i := 45) rfl)) (hw _ (List.mem_of_getElem? (i := 46) rfl)) (hw _ (List.mem_of_getElem? (i := 2) rfl)) (hw _ (List.mem_of_getElem? (i := 47) rfl)) (by decide) pd_5 rfl rfl rfl (Nat.le_of_ble_eq_true rfl) (Nat.le_of_ble_eq_true rfl) (Nat.le_of_ble_eq_true rfl) (Nat.le_of_ble_eq_true rfl) ?_
    rintro _ _ ⟨rfl, rfl⟩
    show Wp none l Z "com/example/orthrus/orthrus/SignatureSet" "add" prog_8_method_3_code 4 (some .boolean) ({ frames := 3, cells := 0, slots := 0, locals := 62 } : Room) ((o, oI "com/example/orthrus/orthrus/SignatureSet" sg_1 [(.long ms), (.ref a), (.int f), (.int hz)]) :: (a, oJ xs) :: F) 0 0 69 #[.val (.ref o), .val (.long x), .second, .val (.int s)] [(.int (f_next s n))] Q
    refine wp_istore_n #[.val (.ref o), .val (.long x), .second, .val (.int (f_next s n))] D_prog_8_m3_69 rfl ?_
    refine wp_goto D_prog_8_m3_70 (pc'' := 36) ⟨by decide, by decide⟩ ?_
    have hsz : s.toInt ≠ z := by
      intro e; apply h1
      have e2 : s.toNatClampNeg = z := by simp only [Int32.toNatClampNeg]; omega
      rw [e2]; simp [gj, hz0]
    have hnx := own_next s n hq0 hq1
    exact ih _ (by unfold dist; unfold dist at hd; subst hd; split <;> split <;> omega) _ (by omega) (by omega) rfl
set_option maxRecDepth 65536 in
set_option maxHeartbeats 40000000 in
theorem lp_addB (l : Launch) (Z : State) (a0 : Array Value) (hw : ∀ d ∈ tables_1, d.before a0 Z = true) (o a : Addr) (ms x : Int64) (hz f n : Int32) (xs : List Int64) (F : OH) (Q : Option Value → OH → Prop) (hl : xs.length.toInt32 = n) (hL : (xs.length : Int) = n.toInt) (hx : ∀ y ∈ xs, y ≠ x) (z : Nat) (hz1 : z < xs.length) (hz0 : xs[z]? = some 0) (hc : ∀ s : Int32, 0 ≤ s.toInt → s.toInt < n.toInt → xs[s.toNatClampNeg]? = some 0 → Wp none l Z "com/example/orthrus/orthrus/SignatureSet" "add" prog_8_method_3_code 4 (some .boolean) ({ frames := 4, cells := 1, slots := 22, locals := 84 } : Room) ((o, oI "com/example/orthrus/orthrus/SignatureSet" sg_1 [(.long ms), (.ref a), (.int f), (.int hz)]) :: (a, oJ xs) :: F) 0 0 73 #[.val (.ref o), .val (.long x), .second, .val (.int s)] [] Q) :
    ∀ (d : Nat) (s : Int32), 0 ≤ s.toInt → s.toInt < n.toInt → dist z n.toInt s.toInt = d → Wp none l Z "com/example/orthrus/orthrus/SignatureSet" "add" prog_8_method_3_code 4 (some .boolean) ({ frames := 4, cells := 1, slots := 22, locals := 84 } : Room) ((o, oI "com/example/orthrus/orthrus/SignatureSet" sg_1 [(.long ms), (.ref a), (.int f), (.int hz)]) :: (a, oJ xs) :: F) 0 0 36 #[.val (.ref o), .val (.long x), .second, .val (.int s)] [] Q := by
  intro d
  induction d using Nat.strongRecOn with
  | _ d ih =>
  intro s hq0 hq1 hd
  refine wp_aload_n D_prog_8_m3_36 rfl rfl ?_
  refine wp_getfield D_prog_8_m3_37 (hw _ (List.mem_of_getElem? (i := 12) rfl)) (fld_new (i := 0) (fi := 1) rfl rfl rfl) ?_
  refine wp_iload_n D_prog_8_m3_40 rfl ?_
  refine wp_laload (i := 1) (s.toNatClampNeg) D_prog_8_m3_41 rfl (own_i32 _ hq0) rfl (own_gj xs _ (by have := own_cn s; omega)) ?_
  refine wp_lconst 0 D_prog_8_m3_42 (by decide) ?_
  refine wp_lcmp_eq D_prog_8_m3_43 D_prog_8_m3_44 (pc'' := 73) ⟨by decide, by decide⟩ (fun h1 => ?_) (fun h1 => ?_)
  · skip
    exact hc s hq0 hq1 ((own_gj xs _ (by have := own_cn s; omega)).trans (congrArg some h1))
  · skip
    refine wp_aload_n D_prog_8_m3_47 rfl rfl ?_
    refine wp_getfield D_prog_8_m3_48 (hw _ (List.mem_of_getElem? (i := 12) rfl)) (fld_new (i := 0) (fi := 1) rfl rfl rfl) ?_
    refine wp_iload_n D_prog_8_m3_51 rfl ?_
    refine wp_laload (i := 1) (s.toNatClampNeg) D_prog_8_m3_52 rfl (own_i32 _ hq0) rfl (own_gj xs _ (by have := own_cn s; omega)) ?_
    refine wp_lload_n D_prog_8_m3_53 rfl ?_
    refine wp_lcmp_ne D_prog_8_m3_54 D_prog_8_m3_55 (pc'' := 60) ⟨by decide, by decide⟩ (fun h2 => ?_) (fun h2 => by exact absurd h2 (hx _ (List.mem_of_getElem? (own_gj xs _ (by have := own_cn s; omega)))))
    refine wp_iload_n D_prog_8_m3_60 rfl ?_
    refine wp_aload_n D_prog_8_m3_61 rfl rfl ?_
    refine wp_getfield D_prog_8_m3_62 (hw _ (List.mem_of_getElem? (i := 12) rfl)) (fld_new (i := 0) (fi := 1) rfl rfl rfl) ?_
    refine wp_lengthJ (i := 1) n D_prog_8_m3_65 rfl hl ?_
    refine wp_callS (c_next l Z a0 hw s n ((o, oI "com/example/orthrus/orthrus/SignatureSet" sg_1 [(.long ms), (.ref a), (.int f), (.int hz)]) :: (a, oJ xs) :: F)) D_prog_8_m3_66 (hw _ (List.mem_of_getElem? (i := 45) rfl)) (hw _ (List.mem_of_getElem? (i := 46) rfl)) (hw _ (List.mem_of_getElem? (i := 2) rfl)) (hw _ (List.mem_of_getElem? (i := 47) rfl)) (by decide) pd_5 rfl rfl rfl (Nat.le_of_ble_eq_true rfl) (Nat.le_of_ble_eq_true rfl) (Nat.le_of_ble_eq_true rfl) (Nat.le_of_ble_eq_true rfl) ?_
    rintro _ _ ⟨rfl, rfl⟩
    show Wp none l Z "com/example/orthrus/orthrus/SignatureSet" "add" prog_8_method_3_code 4 (some .boolean) ({ frames := 4, cells := 1, slots := 22, locals := 84 } : Room) ((o, oI "com/example/orthrus/orthrus/SignatureSet" sg_1 [(.long ms), (.ref a), (.int f), (.int hz)]) :: (a, oJ xs) :: F) 0 0 69 #[.val (.ref o), .val (.long x), .second, .val (.int s)] [(.int (f_next s n))] Q
    refine wp_istore_n #[.val (.ref o), .val (.long x), .second, .val (.int (f_next s n))] D_prog_8_m3_69 rfl ?_
    refine wp_goto D_prog_8_m3_70 (pc'' := 36) ⟨by decide, by decide⟩ ?_
    have hsz : s.toInt ≠ z := by
      intro e; apply h1
      have e2 : s.toNatClampNeg = z := by simp only [Int32.toNatClampNeg]; omega
      rw [e2]; simp [gj, hz0]
    have hnx := own_next s n hq0 hq1
    exact ih _ (by unfold dist; unfold dist at hd; subst hd; split <;> split <;> omega) _ (by omega) (by omega) rfl
theorem pn_10 : plainFor (⟨"com/example/orthrus/orthrus/SignatureSet", "grow", "()V"⟩ : MethodName) = true := by first | exact plainFor_of_name (by first | (simp [plainName, overriddenIn]; done) | decide +kernel) | decide +kernel
theorem D_prog_8_m11_0 : Dc prog_8_method_11_code 0 (.aload_n 0) 1 1 := ⟨by decide +kernel, rfl⟩
theorem D_prog_8_m11_1 : Dc prog_8_method_11_code 1 (.getfield 16) 3 4 := ⟨by decide +kernel, rfl⟩
theorem D_prog_8_m11_4 : Dc prog_8_method_11_code 4 (.aload_n 0) 1 5 := ⟨by decide +kernel, rfl⟩
theorem D_prog_8_m11_5 : Dc prog_8_method_11_code 5 (.getfield 20) 3 8 := ⟨by decide +kernel, rfl⟩
theorem D_prog_8_m11_8 : Dc prog_8_method_11_code 8 (.arraylength) 1 9 := ⟨by decide +kernel, rfl⟩
theorem D_prog_8_m11_9 : Dc prog_8_method_11_code 9 (.i2l) 1 10 := ⟨by decide +kernel, rfl⟩
theorem D_prog_8_m11_10 : Dc prog_8_method_11_code 10 (.lsub) 1 11 := ⟨by decide +kernel, rfl⟩
theorem D_prog_8_m11_11 : Dc prog_8_method_11_code 11 (.ldc2_w 72) 3 14 := ⟨by decide +kernel, rfl⟩
theorem D_prog_8_m11_14 : Dc prog_8_method_11_code 14 (.invokestatic 74) 3 17 := ⟨by decide +kernel, rfl⟩
theorem D_prog_8_m11_17 : Dc prog_8_method_11_code 17 (.lstore_n 1) 1 18 := ⟨by decide +kernel, rfl⟩
theorem D_prog_8_m11_18 : Dc prog_8_method_11_code 18 (.ldc2_w 80) 3 21 := ⟨by decide +kernel, rfl⟩
theorem D_prog_8_m11_21 : Dc prog_8_method_11_code 21 (.aload_n 0) 1 22 := ⟨by decide +kernel, rfl⟩
theorem D_prog_8_m11_22 : Dc prog_8_method_11_code 22 (.getfield 20) 3 25 := ⟨by decide +kernel, rfl⟩
theorem D_prog_8_m11_25 : Dc prog_8_method_11_code 25 (.arraylength) 1 26 := ⟨by decide +kernel, rfl⟩
theorem D_prog_8_m11_26 : Dc prog_8_method_11_code 26 (.i2l) 1 27 := ⟨by decide +kernel, rfl⟩
theorem D_prog_8_m11_27 : Dc prog_8_method_11_code 27 (.lmul) 1 28 := ⟨by decide +kernel, rfl⟩
theorem D_prog_8_m11_28 : Dc prog_8_method_11_code 28 (.lload_n 1) 1 29 := ⟨by decide +kernel, rfl⟩
theorem D_prog_8_m11_29 : Dc prog_8_method_11_code 29 (.invokestatic 74) 3 32 := ⟨by decide +kernel, rfl⟩
theorem D_prog_8_m11_32 : Dc prog_8_method_11_code 32 (.l2i) 1 33 := ⟨by decide +kernel, rfl⟩
theorem D_prog_8_m11_33 : Dc prog_8_method_11_code 33 (.istore_n 3) 1 34 := ⟨by decide +kernel, rfl⟩
theorem D_prog_8_m11_34 : Dc prog_8_method_11_code 34 (.iload_n 3) 1 35 := ⟨by decide +kernel, rfl⟩
theorem D_prog_8_m11_35 : Dc prog_8_method_11_code 35 (.aload_n 0) 1 36 := ⟨by decide +kernel, rfl⟩
theorem D_prog_8_m11_36 : Dc prog_8_method_11_code 36 (.getfield 20) 3 39 := ⟨by decide +kernel, rfl⟩
theorem D_prog_8_m11_39 : Dc prog_8_method_11_code 39 (.arraylength) 1 40 := ⟨by decide +kernel, rfl⟩
theorem D_prog_8_m11_40 : Dc prog_8_method_11_code 40 (.if_icmp .gt 4) 3 43 := ⟨by decide +kernel, rfl⟩
theorem D_prog_8_m11_43 : Dc prog_8_method_11_code 43 (.return_) 1 44 := ⟨by decide +kernel, rfl⟩
theorem D_prog_8_m11_44 : Dc prog_8_method_11_code 44 (.aload_n 0) 1 45 := ⟨by decide +kernel, rfl⟩
theorem D_prog_8_m11_45 : Dc prog_8_method_11_code 45 (.getfield 20) 3 48 := ⟨by decide +kernel, rfl⟩
theorem D_prog_8_m11_48 : Dc prog_8_method_11_code 48 (.astore 4) 2 50 := ⟨by decide +kernel, rfl⟩
theorem D_prog_8_m11_50 : Dc prog_8_method_11_code 50 (.aload_n 0) 1 51 := ⟨by decide +kernel, rfl⟩
theorem D_prog_8_m11_51 : Dc prog_8_method_11_code 51 (.iload_n 3) 1 52 := ⟨by decide +kernel, rfl⟩
theorem D_prog_8_m11_52 : Dc prog_8_method_11_code 52 (.newarray .long) 2 54 := ⟨by decide +kernel, rfl⟩
theorem D_prog_8_m11_54 : Dc prog_8_method_11_code 54 (.putfield 20) 3 57 := ⟨by decide +kernel, rfl⟩
theorem D_prog_8_m11_57 : Dc prog_8_method_11_code 57 (.aload 4) 2 59 := ⟨by decide +kernel, rfl⟩
theorem D_prog_8_m11_59 : Dc prog_8_method_11_code 59 (.astore 5) 2 61 := ⟨by decide +kernel, rfl⟩
theorem D_prog_8_m11_61 : Dc prog_8_method_11_code 61 (.aload 5) 2 63 := ⟨by decide +kernel, rfl⟩
theorem D_prog_8_m11_63 : Dc prog_8_method_11_code 63 (.arraylength) 1 64 := ⟨by decide +kernel, rfl⟩
theorem D_prog_8_m11_64 : Dc prog_8_method_11_code 64 (.istore 6) 2 66 := ⟨by decide +kernel, rfl⟩
theorem D_prog_8_m11_66 : Dc prog_8_method_11_code 66 (.iconst 0) 1 67 := ⟨by decide +kernel, rfl⟩
theorem D_prog_8_m11_67 : Dc prog_8_method_11_code 67 (.istore 7) 2 69 := ⟨by decide +kernel, rfl⟩
theorem D_prog_8_m11_69 : Dc prog_8_method_11_code 69 (.iload 7) 2 71 := ⟨by decide +kernel, rfl⟩
theorem D_prog_8_m11_71 : Dc prog_8_method_11_code 71 (.iload 6) 2 73 := ⟨by decide +kernel, rfl⟩
theorem D_prog_8_m11_73 : Dc prog_8_method_11_code 73 (.if_icmp .ge 71) 3 76 := ⟨by decide +kernel, rfl⟩
theorem D_prog_8_m11_76 : Dc prog_8_method_11_code 76 (.aload 5) 2 78 := ⟨by decide +kernel, rfl⟩
theorem D_prog_8_m11_78 : Dc prog_8_method_11_code 78 (.iload 7) 2 80 := ⟨by decide +kernel, rfl⟩
theorem D_prog_8_m11_80 : Dc prog_8_method_11_code 80 (.laload) 1 81 := ⟨by decide +kernel, rfl⟩
theorem D_prog_8_m11_81 : Dc prog_8_method_11_code 81 (.lstore 8) 2 83 := ⟨by decide +kernel, rfl⟩
theorem D_prog_8_m11_83 : Dc prog_8_method_11_code 83 (.lload 8) 2 85 := ⟨by decide +kernel, rfl⟩
theorem D_prog_8_m11_85 : Dc prog_8_method_11_code 85 (.lconst 0) 1 86 := ⟨by decide +kernel, rfl⟩
theorem D_prog_8_m11_86 : Dc prog_8_method_11_code 86 (.lcmp) 1 87 := ⟨by decide +kernel, rfl⟩
theorem D_prog_8_m11_87 : Dc prog_8_method_11_code 87 (.ifCond .eq 51) 3 90 := ⟨by decide +kernel, rfl⟩
theorem D_prog_8_m11_90 : Dc prog_8_method_11_code 90 (.lload 8) 2 92 := ⟨by decide +kernel, rfl⟩
theorem D_prog_8_m11_92 : Dc prog_8_method_11_code 92 (.aload_n 0) 1 93 := ⟨by decide +kernel, rfl⟩
theorem D_prog_8_m11_93 : Dc prog_8_method_11_code 93 (.getfield 20) 3 96 := ⟨by decide +kernel, rfl⟩
theorem D_prog_8_m11_96 : Dc prog_8_method_11_code 96 (.arraylength) 1 97 := ⟨by decide +kernel, rfl⟩
theorem D_prog_8_m11_97 : Dc prog_8_method_11_code 97 (.invokestatic 28) 3 100 := ⟨by decide +kernel, rfl⟩
theorem D_prog_8_m11_100 : Dc prog_8_method_11_code 100 (.istore 10) 2 102 := ⟨by decide +kernel, rfl⟩
theorem D_prog_8_m11_102 : Dc prog_8_method_11_code 102 (.aload_n 0) 1 103 := ⟨by decide +kernel, rfl⟩
theorem D_prog_8_m11_103 : Dc prog_8_method_11_code 103 (.getfield 20) 3 106 := ⟨by decide +kernel, rfl⟩
theorem D_prog_8_m11_106 : Dc prog_8_method_11_code 106 (.iload 10) 2 108 := ⟨by decide +kernel, rfl⟩
theorem D_prog_8_m11_108 : Dc prog_8_method_11_code 108 (.laload) 1 109 := ⟨by decide +kernel, rfl⟩
theorem D_prog_8_m11_109 : Dc prog_8_method_11_code 109 (.lconst 0) 1 110 := ⟨by decide +kernel, rfl⟩
theorem D_prog_8_m11_110 : Dc prog_8_method_11_code 110 (.lcmp) 1 111 := ⟨by decide +kernel, rfl⟩
theorem D_prog_8_m11_111 : Dc prog_8_method_11_code 111 (.ifCond .eq 18) 3 114 := ⟨by decide +kernel, rfl⟩
theorem D_prog_8_m11_114 : Dc prog_8_method_11_code 114 (.iload 10) 2 116 := ⟨by decide +kernel, rfl⟩
theorem D_prog_8_m11_116 : Dc prog_8_method_11_code 116 (.aload_n 0) 1 117 := ⟨by decide +kernel, rfl⟩
theorem D_prog_8_m11_117 : Dc prog_8_method_11_code 117 (.getfield 20) 3 120 := ⟨by decide +kernel, rfl⟩
theorem D_prog_8_m11_120 : Dc prog_8_method_11_code 120 (.arraylength) 1 121 := ⟨by decide +kernel, rfl⟩
theorem D_prog_8_m11_121 : Dc prog_8_method_11_code 121 (.invokestatic 32) 3 124 := ⟨by decide +kernel, rfl⟩
theorem D_prog_8_m11_124 : Dc prog_8_method_11_code 124 (.istore 10) 2 126 := ⟨by decide +kernel, rfl⟩
theorem D_prog_8_m11_126 : Dc prog_8_method_11_code 126 (.goto (-24)) 3 129 := ⟨by decide +kernel, rfl⟩
theorem D_prog_8_m11_129 : Dc prog_8_method_11_code 129 (.aload_n 0) 1 130 := ⟨by decide +kernel, rfl⟩
theorem D_prog_8_m11_130 : Dc prog_8_method_11_code 130 (.getfield 20) 3 133 := ⟨by decide +kernel, rfl⟩
theorem D_prog_8_m11_133 : Dc prog_8_method_11_code 133 (.iload 10) 2 135 := ⟨by decide +kernel, rfl⟩
theorem D_prog_8_m11_135 : Dc prog_8_method_11_code 135 (.lload 8) 2 137 := ⟨by decide +kernel, rfl⟩
theorem D_prog_8_m11_137 : Dc prog_8_method_11_code 137 (.lastore) 1 138 := ⟨by decide +kernel, rfl⟩
theorem D_prog_8_m11_138 : Dc prog_8_method_11_code 138 (.iinc 7 1) 3 141 := ⟨by decide +kernel, rfl⟩
theorem D_prog_8_m11_141 : Dc prog_8_method_11_code 141 (.goto (-72)) 3 144 := ⟨by decide +kernel, rfl⟩
theorem D_prog_8_m11_144 : Dc prog_8_method_11_code 144 (.return_) 1 145 := ⟨by decide +kernel, rfl⟩
set_option maxRecDepth 65536 in
set_option maxHeartbeats 40000000 in
theorem lp_in (l : Launch) (Z : State) (a0 : Array Value) (hw : ∀ d ∈ tables_1, d.before a0 Z = true) (o a b : Addr) (ms u : Int64) (hz n p : Int32) (xs : List Int64) (F : OH) (Q : Option Value → OH → Prop) (i : Int32) (v : Int64) (ys : List Int64) (hl : ys.length.toInt32 = p) (hL : (ys.length : Int) = p.toInt) (z : Nat) (hz1 : z < ys.length) (hz0 : ys[z]? = some 0) (hc : ∀ s : Int32, 0 ≤ s.toInt → s.toInt < p.toInt → ys[s.toNatClampNeg]? = some 0 → Wp none l Z "com/example/orthrus/orthrus/SignatureSet" "grow" prog_8_method_11_code 11 none ({ frames := 3, cells := 1, slots := 22, locals := 62 } : Room) ((b, oJ ys) :: (o, oI "com/example/orthrus/orthrus/SignatureSet" sg_1 [(.long ms), (.ref b), (.int (7 : Int32)), (.int hz)]) :: (a, oJ xs) :: F) 1 22 129 #[.val (.ref o), .val (.long u), .second, .val (.int p), .val (.ref a), .val (.ref a), .val (.int n), .val (.int i), .val (.long v), .second, .val (.int s)] [] Q) :
    ∀ (d : Nat) (s : Int32), 0 ≤ s.toInt → s.toInt < p.toInt → dist z p.toInt s.toInt = d → Wp none l Z "com/example/orthrus/orthrus/SignatureSet" "grow" prog_8_method_11_code 11 none ({ frames := 3, cells := 1, slots := 22, locals := 62 } : Room) ((b, oJ ys) :: (o, oI "com/example/orthrus/orthrus/SignatureSet" sg_1 [(.long ms), (.ref b), (.int (7 : Int32)), (.int hz)]) :: (a, oJ xs) :: F) 1 22 102 #[.val (.ref o), .val (.long u), .second, .val (.int p), .val (.ref a), .val (.ref a), .val (.int n), .val (.int i), .val (.long v), .second, .val (.int s)] [] Q := by
  intro d
  induction d using Nat.strongRecOn with
  | _ d ih =>
  intro s hq0 hq1 hd
  refine wp_aload_n D_prog_8_m11_102 rfl rfl ?_
  refine wp_getfield D_prog_8_m11_103 (hw _ (List.mem_of_getElem? (i := 12) rfl)) (fld_new (i := 1) (fi := 1) rfl rfl rfl) ?_
  refine wp_iload D_prog_8_m11_106 rfl ?_
  refine wp_laload (i := 0) (s.toNatClampNeg) D_prog_8_m11_108 rfl (own_i32 _ hq0) rfl (own_gj ys _ (by have := own_cn s; omega)) ?_
  refine wp_lconst 0 D_prog_8_m11_109 (by decide) ?_
  refine wp_lcmp_eq D_prog_8_m11_110 D_prog_8_m11_111 (pc'' := 129) ⟨by decide, by decide⟩ (fun h1 => ?_) (fun h1 => ?_)
  · skip
    exact hc s hq0 hq1 ((own_gj ys _ (by have := own_cn s; omega)).trans (congrArg some h1))
  · skip
    refine wp_iload D_prog_8_m11_114 rfl ?_
    refine wp_aload_n D_prog_8_m11_116 rfl rfl ?_
    refine wp_getfield D_prog_8_m11_117 (hw _ (List.mem_of_getElem? (i := 12) rfl)) (fld_new (i := 1) (fi := 1) rfl rfl rfl) ?_
    refine wp_lengthJ (i := 0) p D_prog_8_m11_120 rfl hl ?_
    refine wp_callS (c_next l Z a0 hw s p ((b, oJ ys) :: (o, oI "com/example/orthrus/orthrus/SignatureSet" sg_1 [(.long ms), (.ref b), (.int (7 : Int32)), (.int hz)]) :: (a, oJ xs) :: F)) D_prog_8_m11_121 (hw _ (List.mem_of_getElem? (i := 45) rfl)) (hw _ (List.mem_of_getElem? (i := 46) rfl)) (hw _ (List.mem_of_getElem? (i := 2) rfl)) (hw _ (List.mem_of_getElem? (i := 47) rfl)) (by decide) pd_5 rfl rfl rfl (Nat.le_of_ble_eq_true rfl) (Nat.le_of_ble_eq_true rfl) (Nat.le_of_ble_eq_true rfl) (Nat.le_of_ble_eq_true rfl) ?_
    rintro _ _ ⟨rfl, rfl⟩
    show Wp none l Z "com/example/orthrus/orthrus/SignatureSet" "grow" prog_8_method_11_code 11 none ({ frames := 3, cells := 1, slots := 22, locals := 62 } : Room) ((b, oJ ys) :: (o, oI "com/example/orthrus/orthrus/SignatureSet" sg_1 [(.long ms), (.ref b), (.int (7 : Int32)), (.int hz)]) :: (a, oJ xs) :: F) 1 22 124 #[.val (.ref o), .val (.long u), .second, .val (.int p), .val (.ref a), .val (.ref a), .val (.int n), .val (.int i), .val (.long v), .second, .val (.int s)] [(.int (f_next s p))] Q
    refine wp_istore #[.val (.ref o), .val (.long u), .second, .val (.int p), .val (.ref a), .val (.ref a), .val (.int n), .val (.int i), .val (.long v), .second, .val (.int (f_next s p))] D_prog_8_m11_124 rfl ?_
    refine wp_goto D_prog_8_m11_126 (pc'' := 102) ⟨by decide, by decide⟩ ?_
    have hsz : s.toInt ≠ z := by
      intro e; apply h1
      have e2 : s.toNatClampNeg = z := by simp only [Int32.toNatClampNeg]; omega
      rw [e2]; simp [gj, hz0]
    have hnx := own_next s p hq0 hq1
    exact ih _ (by unfold dist; unfold dist at hd; subst hd; split <;> split <;> omega) _ (by omega) (by omega) rfl
set_option maxRecDepth 65536 in
set_option maxHeartbeats 40000000 in
theorem lp_gr (l : Launch) (Z : State) (a0 : Array Value) (hw : ∀ d ∈ tables_1, d.before a0 Z = true) (o a b : Addr) (ms u : Int64) (hz n p : Int32) (xs : List Int64) (F : OH) (Q : Option Value → OH → Prop) (N : Nat) (hN : N.toInt32 = p) (hN2 : (N : Int) = p.toInt) (hxl : xs.length.toInt32 = n) (hL : (xs.length : Int) = n.toInt) (hp : n.toInt < p.toInt ∧ p.toInt ≤ 22) (hQ : ∀ ys : List Int64, ys.length = N → Q none ((b, oJ ys) :: (o, oI "com/example/orthrus/orthrus/SignatureSet" sg_1 [(.long ms), (.ref b), (.int (7 : Int32)), (.int hz)]) :: (a, oJ xs) :: F)) :
    ∀ (r : Nat) (i : Int32) (ys : List Int64) (t8 t9 t10 : Slot), 0 ≤ i.toInt → i.toInt + r = n.toInt → ys.length = N → (nz ys : Int) ≤ i.toInt → ((t8 = .unset ∧ t9 = .unset ∧ t10 = .unset) ∨ (∃ v : Int64, t8 = .val (.long v) ∧ t9 = .second ∧ t10 = .unset) ∨ (∃ (v : Int64) (s : Int32), t8 = .val (.long v) ∧ t9 = .second ∧ t10 = .val (.int s))) → Wp none l Z "com/example/orthrus/orthrus/SignatureSet" "grow" prog_8_method_11_code 11 none ({ frames := 3, cells := 1, slots := 22, locals := 62 } : Room) ((b, oJ ys) :: (o, oI "com/example/orthrus/orthrus/SignatureSet" sg_1 [(.long ms), (.ref b), (.int (7 : Int32)), (.int hz)]) :: (a, oJ xs) :: F) 1 22 69 #[.val (.ref o), .val (.long u), .second, .val (.int p), .val (.ref a), .val (.ref a), .val (.int n), .val (.int i), t8, t9, t10] [] Q := by
  intro r
  induction r with
  | zero =>
    intro i ys t8 t9 t10 h0 hi hyl hnz ht
    refine wp_iload D_prog_8_m11_69 rfl ?_
    refine wp_iload D_prog_8_m11_71 rfl ?_
    refine wp_icmp_ge D_prog_8_m11_73 (pc'' := 144) ⟨by decide, by decide⟩ (fun h1 => ?_) (fun h1 => by exfalso; (simp only [Int32.lt_iff_toInt_lt, Int32.le_iff_toInt_le, ← Int32.toInt_inj, Int32.reduceToInt, Int64.lt_iff_toInt_lt, ← Int64.toInt_inj, Int64.reduceToInt] at *; omega))
    refine wp_return D_prog_8_m11_144 rfl (by decide) (by decide) ?_
    exact hQ ys hyl
  | succ r ih =>
    intro i ys t8 t9 t10 h0 hi hyl hnz ht
    have hyi : ys.length.toInt32 = p := by rw [hyl]; exact hN
    have hyL : (ys.length : Int) = p.toInt := by rw [hyl]; exact hN2
    rcases ht with ⟨rfl, rfl, rfl⟩ | ⟨v0, rfl, rfl, rfl⟩ | ⟨v0, s0, rfl, rfl, rfl⟩
    · skip
      refine wp_iload D_prog_8_m11_69 rfl ?_
      refine wp_iload D_prog_8_m11_71 rfl ?_
      refine wp_icmp_ge D_prog_8_m11_73 (pc'' := 144) ⟨by decide, by decide⟩ (fun h1 => by exfalso; (simp only [Int32.lt_iff_toInt_lt, Int32.le_iff_toInt_le, ← Int32.toInt_inj, Int32.reduceToInt, Int64.lt_iff_toInt_lt, ← Int64.toInt_inj, Int64.reduceToInt] at *; omega)) (fun h1 => ?_)
      refine wp_aload D_prog_8_m11_76 rfl rfl ?_
      refine wp_iload D_prog_8_m11_78 rfl ?_
      refine wp_laload (i := 2) (i.toNatClampNeg) D_prog_8_m11_80 rfl (own_i32 _ h0) rfl (own_gj xs _ (by have := own_cn i; omega)) ?_
      refine wp_lstore #[.val (.ref o), .val (.long u), .second, .val (.int p), .val (.ref a), .val (.ref a), .val (.int n), .val (.int i), .val (.long (gj xs i.toNatClampNeg)), .second, .unset] D_prog_8_m11_81 rfl ?_
      refine wp_lload D_prog_8_m11_83 rfl ?_
      refine wp_lconst 0 D_prog_8_m11_85 (by decide) ?_
      refine wp_lcmp_eq D_prog_8_m11_86 D_prog_8_m11_87 (pc'' := 138) ⟨by decide, by decide⟩ (fun h2 => ?_) (fun h2 => ?_)
      · skip
        refine wp_iinc 1 #[.val (.ref o), .val (.long u), .second, .val (.int p), .val (.ref a), .val (.ref a), .val (.int n), .val (.int (i + (1 : Int32))), .val (.long (gj xs i.toNatClampNeg)), .second, .unset] D_prog_8_m11_138 rfl rfl rfl ?_
        refine wp_goto D_prog_8_m11_141 (pc'' := 69) ⟨by decide, by decide⟩ ?_
        exact ih (i + 1) ys _ _ _ (by rw [own_i1 i ⟨h0, by omega⟩]; omega) (by rw [own_i1 i ⟨h0, by omega⟩]; omega) hyl (by rw [own_i1 i ⟨h0, by omega⟩]; omega) (Or.inr (Or.inl ⟨_, rfl, rfl, rfl⟩))
      · skip
        refine wp_lload D_prog_8_m11_90 rfl ?_
        refine wp_aload_n D_prog_8_m11_92 rfl rfl ?_
        refine wp_getfield D_prog_8_m11_93 (hw _ (List.mem_of_getElem? (i := 12) rfl)) (fld_new (i := 1) (fi := 1) rfl rfl rfl) ?_
        refine wp_lengthJ (i := 0) p D_prog_8_m11_96 rfl hyi ?_
        refine wp_callS (c_slot l Z a0 hw (gj xs i.toNatClampNeg) p ((b, oJ ys) :: (o, oI "com/example/orthrus/orthrus/SignatureSet" sg_1 [(.long ms), (.ref b), (.int (7 : Int32)), (.int hz)]) :: (a, oJ xs) :: F)) D_prog_8_m11_97 (hw _ (List.mem_of_getElem? (i := 19) rfl)) (hw _ (List.mem_of_getElem? (i := 20) rfl)) (hw _ (List.mem_of_getElem? (i := 2) rfl)) (hw _ (List.mem_of_getElem? (i := 21) rfl)) (by decide) pd_2 rfl rfl rfl (Nat.le_of_ble_eq_true rfl) (Nat.le_of_ble_eq_true rfl) (Nat.le_of_ble_eq_true rfl) (Nat.le_of_ble_eq_true rfl) ?_
        rintro _ _ ⟨rfl, rfl⟩
        show Wp none l Z "com/example/orthrus/orthrus/SignatureSet" "grow" prog_8_method_11_code 11 none ({ frames := 3, cells := 1, slots := 22, locals := 62 } : Room) ((b, oJ ys) :: (o, oI "com/example/orthrus/orthrus/SignatureSet" sg_1 [(.long ms), (.ref b), (.int (7 : Int32)), (.int hz)]) :: (a, oJ xs) :: F) 1 22 100 #[.val (.ref o), .val (.long u), .second, .val (.int p), .val (.ref a), .val (.ref a), .val (.int n), .val (.int i), .val (.long (gj xs i.toNatClampNeg)), .second, .unset] [(.int (f_slot (f_mix (gj xs i.toNatClampNeg)) p))] Q
        refine wp_istore #[.val (.ref o), .val (.long u), .second, .val (.int p), .val (.ref a), .val (.ref a), .val (.int n), .val (.int i), .val (.long (gj xs i.toNatClampNeg)), .second, .val (.int (f_slot (f_mix (gj xs i.toNatClampNeg)) p))] D_prog_8_m11_100 rfl ?_
        have hsl := own_slot (f_mix (gj xs i.toNatClampNeg)) p (by omega)
        obtain ⟨z, hz1, hz0⟩ := nz_zero ys (by omega)
        refine lp_in l Z a0 hw o a b ms u hz n p xs F Q i (gj xs i.toNatClampNeg) ys hyi hyL z hz1 hz0 (fun s hs0 hs1 hsv => ?_) _ (f_slot (f_mix (gj xs i.toNatClampNeg)) p) hsl.1 hsl.2 rfl
        show Wp none l Z "com/example/orthrus/orthrus/SignatureSet" "grow" prog_8_method_11_code 11 none ({ frames := 3, cells := 1, slots := 22, locals := 62 } : Room) ((b, oJ ys) :: (o, oI "com/example/orthrus/orthrus/SignatureSet" sg_1 [(.long ms), (.ref b), (.int (7 : Int32)), (.int hz)]) :: (a, oJ xs) :: F) 1 22 129 #[.val (.ref o), .val (.long u), .second, .val (.int p), .val (.ref a), .val (.ref a), .val (.int n), .val (.int i), .val (.long (gj xs i.toNatClampNeg)), .second, .val (.int s)] [] Q
        refine wp_aload_n D_prog_8_m11_129 rfl rfl ?_
        refine wp_getfield D_prog_8_m11_130 (hw _ (List.mem_of_getElem? (i := 12) rfl)) (fld_new (i := 1) (fi := 1) rfl rfl rfl) ?_
        refine wp_iload D_prog_8_m11_133 rfl ?_
        refine wp_lload D_prog_8_m11_135 rfl ?_
        refine wp_lastore (i := 0) (s.toNatClampNeg) D_prog_8_m11_137 rfl (own_i32 _ hs0) rfl (by have := own_cn s; omega) ?_
        show Wp none l Z "com/example/orthrus/orthrus/SignatureSet" "grow" prog_8_method_11_code 11 none ({ frames := 3, cells := 1, slots := 22, locals := 62 } : Room) ((b, oJ (ys.set (s.toNatClampNeg) (gj xs i.toNatClampNeg))) :: (o, oI "com/example/orthrus/orthrus/SignatureSet" sg_1 [(.long ms), (.ref b), (.int (7 : Int32)), (.int hz)]) :: (a, oJ xs) :: F) 1 22 138 #[.val (.ref o), .val (.long u), .second, .val (.int p), .val (.ref a), .val (.ref a), .val (.int n), .val (.int i), .val (.long (gj xs i.toNatClampNeg)), .second, .val (.int s)] [] Q
        refine wp_iinc 1 #[.val (.ref o), .val (.long u), .second, .val (.int p), .val (.ref a), .val (.ref a), .val (.int n), .val (.int (i + (1 : Int32))), .val (.long (gj xs i.toNatClampNeg)), .second, .val (.int s)] D_prog_8_m11_138 rfl rfl rfl ?_
        refine wp_goto D_prog_8_m11_141 (pc'' := 69) ⟨by decide, by decide⟩ ?_
        have hns := nz_set ys s.toNatClampNeg _ hsv h2
        exact ih (i + 1) _ _ _ _ (by rw [own_i1 i ⟨h0, by omega⟩]; omega) (by rw [own_i1 i ⟨h0, by omega⟩]; omega) (by rw [List.length_set]; exact hyl) (by rw [own_i1 i ⟨h0, by omega⟩, hns]; omega) (Or.inr (Or.inr ⟨_, _, rfl, rfl, rfl⟩))
    · skip
      refine wp_iload D_prog_8_m11_69 rfl ?_
      refine wp_iload D_prog_8_m11_71 rfl ?_
      refine wp_icmp_ge D_prog_8_m11_73 (pc'' := 144) ⟨by decide, by decide⟩ (fun h1 => by exfalso; (simp only [Int32.lt_iff_toInt_lt, Int32.le_iff_toInt_le, ← Int32.toInt_inj, Int32.reduceToInt, Int64.lt_iff_toInt_lt, ← Int64.toInt_inj, Int64.reduceToInt] at *; omega)) (fun h1 => ?_)
      refine wp_aload D_prog_8_m11_76 rfl rfl ?_
      refine wp_iload D_prog_8_m11_78 rfl ?_
      refine wp_laload (i := 2) (i.toNatClampNeg) D_prog_8_m11_80 rfl (own_i32 _ h0) rfl (own_gj xs _ (by have := own_cn i; omega)) ?_
      refine wp_lstore #[.val (.ref o), .val (.long u), .second, .val (.int p), .val (.ref a), .val (.ref a), .val (.int n), .val (.int i), .val (.long (gj xs i.toNatClampNeg)), .second, .unset] D_prog_8_m11_81 rfl ?_
      refine wp_lload D_prog_8_m11_83 rfl ?_
      refine wp_lconst 0 D_prog_8_m11_85 (by decide) ?_
      refine wp_lcmp_eq D_prog_8_m11_86 D_prog_8_m11_87 (pc'' := 138) ⟨by decide, by decide⟩ (fun h2 => ?_) (fun h2 => ?_)
      · skip
        refine wp_iinc 1 #[.val (.ref o), .val (.long u), .second, .val (.int p), .val (.ref a), .val (.ref a), .val (.int n), .val (.int (i + (1 : Int32))), .val (.long (gj xs i.toNatClampNeg)), .second, .unset] D_prog_8_m11_138 rfl rfl rfl ?_
        refine wp_goto D_prog_8_m11_141 (pc'' := 69) ⟨by decide, by decide⟩ ?_
        exact ih (i + 1) ys _ _ _ (by rw [own_i1 i ⟨h0, by omega⟩]; omega) (by rw [own_i1 i ⟨h0, by omega⟩]; omega) hyl (by rw [own_i1 i ⟨h0, by omega⟩]; omega) (Or.inr (Or.inl ⟨_, rfl, rfl, rfl⟩))
      · skip
        refine wp_lload D_prog_8_m11_90 rfl ?_
        refine wp_aload_n D_prog_8_m11_92 rfl rfl ?_
        refine wp_getfield D_prog_8_m11_93 (hw _ (List.mem_of_getElem? (i := 12) rfl)) (fld_new (i := 1) (fi := 1) rfl rfl rfl) ?_
        refine wp_lengthJ (i := 0) p D_prog_8_m11_96 rfl hyi ?_
        refine wp_callS (c_slot l Z a0 hw (gj xs i.toNatClampNeg) p ((b, oJ ys) :: (o, oI "com/example/orthrus/orthrus/SignatureSet" sg_1 [(.long ms), (.ref b), (.int (7 : Int32)), (.int hz)]) :: (a, oJ xs) :: F)) D_prog_8_m11_97 (hw _ (List.mem_of_getElem? (i := 19) rfl)) (hw _ (List.mem_of_getElem? (i := 20) rfl)) (hw _ (List.mem_of_getElem? (i := 2) rfl)) (hw _ (List.mem_of_getElem? (i := 21) rfl)) (by decide) pd_2 rfl rfl rfl (Nat.le_of_ble_eq_true rfl) (Nat.le_of_ble_eq_true rfl) (Nat.le_of_ble_eq_true rfl) (Nat.le_of_ble_eq_true rfl) ?_
        rintro _ _ ⟨rfl, rfl⟩
        show Wp none l Z "com/example/orthrus/orthrus/SignatureSet" "grow" prog_8_method_11_code 11 none ({ frames := 3, cells := 1, slots := 22, locals := 62 } : Room) ((b, oJ ys) :: (o, oI "com/example/orthrus/orthrus/SignatureSet" sg_1 [(.long ms), (.ref b), (.int (7 : Int32)), (.int hz)]) :: (a, oJ xs) :: F) 1 22 100 #[.val (.ref o), .val (.long u), .second, .val (.int p), .val (.ref a), .val (.ref a), .val (.int n), .val (.int i), .val (.long (gj xs i.toNatClampNeg)), .second, .unset] [(.int (f_slot (f_mix (gj xs i.toNatClampNeg)) p))] Q
        refine wp_istore #[.val (.ref o), .val (.long u), .second, .val (.int p), .val (.ref a), .val (.ref a), .val (.int n), .val (.int i), .val (.long (gj xs i.toNatClampNeg)), .second, .val (.int (f_slot (f_mix (gj xs i.toNatClampNeg)) p))] D_prog_8_m11_100 rfl ?_
        have hsl := own_slot (f_mix (gj xs i.toNatClampNeg)) p (by omega)
        obtain ⟨z, hz1, hz0⟩ := nz_zero ys (by omega)
        refine lp_in l Z a0 hw o a b ms u hz n p xs F Q i (gj xs i.toNatClampNeg) ys hyi hyL z hz1 hz0 (fun s hs0 hs1 hsv => ?_) _ (f_slot (f_mix (gj xs i.toNatClampNeg)) p) hsl.1 hsl.2 rfl
        show Wp none l Z "com/example/orthrus/orthrus/SignatureSet" "grow" prog_8_method_11_code 11 none ({ frames := 3, cells := 1, slots := 22, locals := 62 } : Room) ((b, oJ ys) :: (o, oI "com/example/orthrus/orthrus/SignatureSet" sg_1 [(.long ms), (.ref b), (.int (7 : Int32)), (.int hz)]) :: (a, oJ xs) :: F) 1 22 129 #[.val (.ref o), .val (.long u), .second, .val (.int p), .val (.ref a), .val (.ref a), .val (.int n), .val (.int i), .val (.long (gj xs i.toNatClampNeg)), .second, .val (.int s)] [] Q
        refine wp_aload_n D_prog_8_m11_129 rfl rfl ?_
        refine wp_getfield D_prog_8_m11_130 (hw _ (List.mem_of_getElem? (i := 12) rfl)) (fld_new (i := 1) (fi := 1) rfl rfl rfl) ?_
        refine wp_iload D_prog_8_m11_133 rfl ?_
        refine wp_lload D_prog_8_m11_135 rfl ?_
        refine wp_lastore (i := 0) (s.toNatClampNeg) D_prog_8_m11_137 rfl (own_i32 _ hs0) rfl (by have := own_cn s; omega) ?_
        show Wp none l Z "com/example/orthrus/orthrus/SignatureSet" "grow" prog_8_method_11_code 11 none ({ frames := 3, cells := 1, slots := 22, locals := 62 } : Room) ((b, oJ (ys.set (s.toNatClampNeg) (gj xs i.toNatClampNeg))) :: (o, oI "com/example/orthrus/orthrus/SignatureSet" sg_1 [(.long ms), (.ref b), (.int (7 : Int32)), (.int hz)]) :: (a, oJ xs) :: F) 1 22 138 #[.val (.ref o), .val (.long u), .second, .val (.int p), .val (.ref a), .val (.ref a), .val (.int n), .val (.int i), .val (.long (gj xs i.toNatClampNeg)), .second, .val (.int s)] [] Q
        refine wp_iinc 1 #[.val (.ref o), .val (.long u), .second, .val (.int p), .val (.ref a), .val (.ref a), .val (.int n), .val (.int (i + (1 : Int32))), .val (.long (gj xs i.toNatClampNeg)), .second, .val (.int s)] D_prog_8_m11_138 rfl rfl rfl ?_
        refine wp_goto D_prog_8_m11_141 (pc'' := 69) ⟨by decide, by decide⟩ ?_
        have hns := nz_set ys s.toNatClampNeg _ hsv h2
        exact ih (i + 1) _ _ _ _ (by rw [own_i1 i ⟨h0, by omega⟩]; omega) (by rw [own_i1 i ⟨h0, by omega⟩]; omega) (by rw [List.length_set]; exact hyl) (by rw [own_i1 i ⟨h0, by omega⟩, hns]; omega) (Or.inr (Or.inr ⟨_, _, rfl, rfl, rfl⟩))
    · skip
      refine wp_iload D_prog_8_m11_69 rfl ?_
      refine wp_iload D_prog_8_m11_71 rfl ?_
      refine wp_icmp_ge D_prog_8_m11_73 (pc'' := 144) ⟨by decide, by decide⟩ (fun h1 => by exfalso; (simp only [Int32.lt_iff_toInt_lt, Int32.le_iff_toInt_le, ← Int32.toInt_inj, Int32.reduceToInt, Int64.lt_iff_toInt_lt, ← Int64.toInt_inj, Int64.reduceToInt] at *; omega)) (fun h1 => ?_)
      refine wp_aload D_prog_8_m11_76 rfl rfl ?_
      refine wp_iload D_prog_8_m11_78 rfl ?_
      refine wp_laload (i := 2) (i.toNatClampNeg) D_prog_8_m11_80 rfl (own_i32 _ h0) rfl (own_gj xs _ (by have := own_cn i; omega)) ?_
      refine wp_lstore #[.val (.ref o), .val (.long u), .second, .val (.int p), .val (.ref a), .val (.ref a), .val (.int n), .val (.int i), .val (.long (gj xs i.toNatClampNeg)), .second, .val (.int s0)] D_prog_8_m11_81 rfl ?_
      refine wp_lload D_prog_8_m11_83 rfl ?_
      refine wp_lconst 0 D_prog_8_m11_85 (by decide) ?_
      refine wp_lcmp_eq D_prog_8_m11_86 D_prog_8_m11_87 (pc'' := 138) ⟨by decide, by decide⟩ (fun h2 => ?_) (fun h2 => ?_)
      · skip
        refine wp_iinc 1 #[.val (.ref o), .val (.long u), .second, .val (.int p), .val (.ref a), .val (.ref a), .val (.int n), .val (.int (i + (1 : Int32))), .val (.long (gj xs i.toNatClampNeg)), .second, .val (.int s0)] D_prog_8_m11_138 rfl rfl rfl ?_
        refine wp_goto D_prog_8_m11_141 (pc'' := 69) ⟨by decide, by decide⟩ ?_
        exact ih (i + 1) ys _ _ _ (by rw [own_i1 i ⟨h0, by omega⟩]; omega) (by rw [own_i1 i ⟨h0, by omega⟩]; omega) hyl (by rw [own_i1 i ⟨h0, by omega⟩]; omega) (Or.inr (Or.inr ⟨_, _, rfl, rfl, rfl⟩))
      · skip
        refine wp_lload D_prog_8_m11_90 rfl ?_
        refine wp_aload_n D_prog_8_m11_92 rfl rfl ?_
        refine wp_getfield D_prog_8_m11_93 (hw _ (List.mem_of_getElem? (i := 12) rfl)) (fld_new (i := 1) (fi := 1) rfl rfl rfl) ?_
        refine wp_lengthJ (i := 0) p D_prog_8_m11_96 rfl hyi ?_
        refine wp_callS (c_slot l Z a0 hw (gj xs i.toNatClampNeg) p ((b, oJ ys) :: (o, oI "com/example/orthrus/orthrus/SignatureSet" sg_1 [(.long ms), (.ref b), (.int (7 : Int32)), (.int hz)]) :: (a, oJ xs) :: F)) D_prog_8_m11_97 (hw _ (List.mem_of_getElem? (i := 19) rfl)) (hw _ (List.mem_of_getElem? (i := 20) rfl)) (hw _ (List.mem_of_getElem? (i := 2) rfl)) (hw _ (List.mem_of_getElem? (i := 21) rfl)) (by decide) pd_2 rfl rfl rfl (Nat.le_of_ble_eq_true rfl) (Nat.le_of_ble_eq_true rfl) (Nat.le_of_ble_eq_true rfl) (Nat.le_of_ble_eq_true rfl) ?_
        rintro _ _ ⟨rfl, rfl⟩
        show Wp none l Z "com/example/orthrus/orthrus/SignatureSet" "grow" prog_8_method_11_code 11 none ({ frames := 3, cells := 1, slots := 22, locals := 62 } : Room) ((b, oJ ys) :: (o, oI "com/example/orthrus/orthrus/SignatureSet" sg_1 [(.long ms), (.ref b), (.int (7 : Int32)), (.int hz)]) :: (a, oJ xs) :: F) 1 22 100 #[.val (.ref o), .val (.long u), .second, .val (.int p), .val (.ref a), .val (.ref a), .val (.int n), .val (.int i), .val (.long (gj xs i.toNatClampNeg)), .second, .val (.int s0)] [(.int (f_slot (f_mix (gj xs i.toNatClampNeg)) p))] Q
        refine wp_istore #[.val (.ref o), .val (.long u), .second, .val (.int p), .val (.ref a), .val (.ref a), .val (.int n), .val (.int i), .val (.long (gj xs i.toNatClampNeg)), .second, .val (.int (f_slot (f_mix (gj xs i.toNatClampNeg)) p))] D_prog_8_m11_100 rfl ?_
        have hsl := own_slot (f_mix (gj xs i.toNatClampNeg)) p (by omega)
        obtain ⟨z, hz1, hz0⟩ := nz_zero ys (by omega)
        refine lp_in l Z a0 hw o a b ms u hz n p xs F Q i (gj xs i.toNatClampNeg) ys hyi hyL z hz1 hz0 (fun s hs0 hs1 hsv => ?_) _ (f_slot (f_mix (gj xs i.toNatClampNeg)) p) hsl.1 hsl.2 rfl
        show Wp none l Z "com/example/orthrus/orthrus/SignatureSet" "grow" prog_8_method_11_code 11 none ({ frames := 3, cells := 1, slots := 22, locals := 62 } : Room) ((b, oJ ys) :: (o, oI "com/example/orthrus/orthrus/SignatureSet" sg_1 [(.long ms), (.ref b), (.int (7 : Int32)), (.int hz)]) :: (a, oJ xs) :: F) 1 22 129 #[.val (.ref o), .val (.long u), .second, .val (.int p), .val (.ref a), .val (.ref a), .val (.int n), .val (.int i), .val (.long (gj xs i.toNatClampNeg)), .second, .val (.int s)] [] Q
        refine wp_aload_n D_prog_8_m11_129 rfl rfl ?_
        refine wp_getfield D_prog_8_m11_130 (hw _ (List.mem_of_getElem? (i := 12) rfl)) (fld_new (i := 1) (fi := 1) rfl rfl rfl) ?_
        refine wp_iload D_prog_8_m11_133 rfl ?_
        refine wp_lload D_prog_8_m11_135 rfl ?_
        refine wp_lastore (i := 0) (s.toNatClampNeg) D_prog_8_m11_137 rfl (own_i32 _ hs0) rfl (by have := own_cn s; omega) ?_
        show Wp none l Z "com/example/orthrus/orthrus/SignatureSet" "grow" prog_8_method_11_code 11 none ({ frames := 3, cells := 1, slots := 22, locals := 62 } : Room) ((b, oJ (ys.set (s.toNatClampNeg) (gj xs i.toNatClampNeg))) :: (o, oI "com/example/orthrus/orthrus/SignatureSet" sg_1 [(.long ms), (.ref b), (.int (7 : Int32)), (.int hz)]) :: (a, oJ xs) :: F) 1 22 138 #[.val (.ref o), .val (.long u), .second, .val (.int p), .val (.ref a), .val (.ref a), .val (.int n), .val (.int i), .val (.long (gj xs i.toNatClampNeg)), .second, .val (.int s)] [] Q
        refine wp_iinc 1 #[.val (.ref o), .val (.long u), .second, .val (.int p), .val (.ref a), .val (.ref a), .val (.int n), .val (.int (i + (1 : Int32))), .val (.long (gj xs i.toNatClampNeg)), .second, .val (.int s)] D_prog_8_m11_138 rfl rfl rfl ?_
        refine wp_goto D_prog_8_m11_141 (pc'' := 69) ⟨by decide, by decide⟩ ?_
        have hns := nz_set ys s.toNatClampNeg _ hsv h2
        exact ih (i + 1) _ _ _ _ (by rw [own_i1 i ⟨h0, by omega⟩]; omega) (by rw [own_i1 i ⟨h0, by omega⟩]; omega) (by rw [List.length_set]; exact hyl) (by rw [own_i1 i ⟨h0, by omega⟩, hns]; omega) (Or.inr (Or.inr ⟨_, _, rfl, rfl, rfl⟩))
def Q_c_grow (o a : Addr) (ms : Int64) (hz n m : Int32) (xs : List Int64) (F : OH) : Option Value → OH → Prop := fun v H' => v = none ∧ ((¬ n < m ∧ H' = ((o, oI "com/example/orthrus/orthrus/SignatureSet" sg_1 [(.long ms), (.ref a), (.int (7 : Int32)), (.int hz)]) :: (a, oJ xs) :: F)) ∨ (n < m ∧ ∃ b ys, ys.length.toInt32 = f_min ((2 : Int32) * n) m ∧ H' = ((b, oJ ys) :: (o, oI "com/example/orthrus/orthrus/SignatureSet" sg_1 [(.long ms), (.ref b), (.int (7 : Int32)), (.int hz)]) :: (a, oJ xs) :: F)))
set_option maxRecDepth 65536 in
set_option maxHeartbeats 40000000 in
theorem c_grow (l : Launch) (Z : State) (a0 : Array Value) (hw : ∀ d ∈ tables_1, d.before a0 Z = true) (o a : Addr) (ms : Int64) (hz n m : Int32) (xs : List Int64) (F : OH)  (hl : xs.length.toInt32 = n) (hL : (xs.length : Int) = n.toInt) (hn : 8 ≤ n.toInt ∧ n.toInt ≤ 11) (hm : 0 ≤ m.toInt ∧ m.toInt ≤ 31) (hms : ms = n.toInt64 + m.toInt64) :
    Met l Z (⟨"com/example/orthrus/orthrus/SignatureSet", "grow", "()V"⟩ : MethodName) prog_8_method_11_code 11 none ({ frames := 3, cells := 1, slots := 22, locals := 62 } : Room) [(.ref o)] ((o, oI "com/example/orthrus/orthrus/SignatureSet" sg_1 [(.long ms), (.ref a), (.int (7 : Int32)), (.int hz)]) :: (a, oJ xs) :: F) (Q_c_grow o a ms hz n m xs F) := by
  refine Met.of_wp (Ls := #[.val (.ref o), .unset, .unset, .unset, .unset, .unset, .unset, .unset, .unset, .unset, .unset]) pn_10 (fun m => (entry_loc m _ _).trans rfl) ?_
  show Wp none l Z "com/example/orthrus/orthrus/SignatureSet" "grow" prog_8_method_11_code 11 none ({ frames := 3, cells := 1, slots := 22, locals := 62 } : Room) ((o, oI "com/example/orthrus/orthrus/SignatureSet" sg_1 [(.long ms), (.ref a), (.int (7 : Int32)), (.int hz)]) :: (a, oJ xs) :: F) 0 0 0 #[.val (.ref o), .unset, .unset, .unset, .unset, .unset, .unset, .unset, .unset, .unset, .unset] [] (Q_c_grow o a ms hz n m xs F)
  refine wp_aload_n D_prog_8_m11_0 rfl rfl ?_
  refine wp_getfield D_prog_8_m11_1 (hw _ (List.mem_of_getElem? (i := 9) rfl)) (fld_new (i := 0) (fi := 0) rfl rfl rfl) ?_
  refine wp_aload_n D_prog_8_m11_4 rfl rfl ?_
  refine wp_getfield D_prog_8_m11_5 (hw _ (List.mem_of_getElem? (i := 12) rfl)) (fld_new (i := 0) (fi := 1) rfl rfl rfl) ?_
  refine wp_lengthJ (i := 1) n D_prog_8_m11_8 rfl hl ?_
  refine wp_i2l D_prog_8_m11_9 ?_
  refine wp_lsub D_prog_8_m11_10 ?_
  refine wp_ldc2J D_prog_8_m11_11 (hw _ (List.mem_of_getElem? (i := 59) rfl)) ?_
  refine wp_callS (c_minJ l Z a0 hw (ms - n.toInt64) (2147483639 : Int64) ((o, oI "com/example/orthrus/orthrus/SignatureSet" sg_1 [(.long ms), (.ref a), (.int (7 : Int32)), (.int hz)]) :: (a, oJ xs) :: F)) D_prog_8_m11_14 (hw _ (List.mem_of_getElem? (i := 60) rfl)) (hw _ (List.mem_of_getElem? (i := 61) rfl)) (hw _ (List.mem_of_getElem? (i := 33) rfl)) (hw _ (List.mem_of_getElem? (i := 62) rfl)) (by decide) pd_1 rfl rfl rfl (Nat.le_of_ble_eq_true rfl) (Nat.le_of_ble_eq_true rfl) (Nat.le_of_ble_eq_true rfl) (Nat.le_of_ble_eq_true rfl) ?_
  rintro _ _ ⟨rfl, rfl⟩
  show Wp none l Z "com/example/orthrus/orthrus/SignatureSet" "grow" prog_8_method_11_code 11 none ({ frames := 3, cells := 1, slots := 22, locals := 62 } : Room) ((o, oI "com/example/orthrus/orthrus/SignatureSet" sg_1 [(.long ms), (.ref a), (.int (7 : Int32)), (.int hz)]) :: (a, oJ xs) :: F) 0 0 17 #[.val (.ref o), .unset, .unset, .unset, .unset, .unset, .unset, .unset, .unset, .unset, .unset] [(.long (f_minJ (ms - n.toInt64) (2147483639 : Int64)))] (Q_c_grow o a ms hz n m xs F)
  generalize hg_x1 : (f_minJ (ms - n.toInt64) (2147483639 : Int64)) = x1
  refine wp_lstore_n #[.val (.ref o), .val (.long x1), .second, .unset, .unset, .unset, .unset, .unset, .unset, .unset, .unset] D_prog_8_m11_17 rfl ?_
  refine wp_ldc2J D_prog_8_m11_18 (hw _ (List.mem_of_getElem? (i := 63) rfl)) ?_
  refine wp_aload_n D_prog_8_m11_21 rfl rfl ?_
  refine wp_getfield D_prog_8_m11_22 (hw _ (List.mem_of_getElem? (i := 12) rfl)) (fld_new (i := 0) (fi := 1) rfl rfl rfl) ?_
  refine wp_lengthJ (i := 1) n D_prog_8_m11_25 rfl hl ?_
  refine wp_i2l D_prog_8_m11_26 ?_
  refine wp_lmul D_prog_8_m11_27 ?_
  refine wp_lload_n D_prog_8_m11_28 rfl ?_
  refine wp_callS (c_minJ l Z a0 hw ((2 : Int64) * n.toInt64) x1 ((o, oI "com/example/orthrus/orthrus/SignatureSet" sg_1 [(.long ms), (.ref a), (.int (7 : Int32)), (.int hz)]) :: (a, oJ xs) :: F)) D_prog_8_m11_29 (hw _ (List.mem_of_getElem? (i := 60) rfl)) (hw _ (List.mem_of_getElem? (i := 61) rfl)) (hw _ (List.mem_of_getElem? (i := 33) rfl)) (hw _ (List.mem_of_getElem? (i := 62) rfl)) (by decide) pd_1 rfl rfl rfl (Nat.le_of_ble_eq_true rfl) (Nat.le_of_ble_eq_true rfl) (Nat.le_of_ble_eq_true rfl) (Nat.le_of_ble_eq_true rfl) ?_
  rintro _ _ ⟨rfl, rfl⟩
  show Wp none l Z "com/example/orthrus/orthrus/SignatureSet" "grow" prog_8_method_11_code 11 none ({ frames := 3, cells := 1, slots := 22, locals := 62 } : Room) ((o, oI "com/example/orthrus/orthrus/SignatureSet" sg_1 [(.long ms), (.ref a), (.int (7 : Int32)), (.int hz)]) :: (a, oJ xs) :: F) 0 0 32 #[.val (.ref o), .val (.long x1), .second, .unset, .unset, .unset, .unset, .unset, .unset, .unset, .unset] [(.long (f_minJ ((2 : Int64) * n.toInt64) x1))] (Q_c_grow o a ms hz n m xs F)
  refine wp_l2i D_prog_8_m11_32 ?_
  generalize hg_x2 : (f_minJ ((2 : Int64) * n.toInt64) x1).toInt32 = x2
  refine wp_istore_n #[.val (.ref o), .val (.long x1), .second, .val (.int x2), .unset, .unset, .unset, .unset, .unset, .unset, .unset] D_prog_8_m11_33 rfl ?_
  have hgr := own_grow n m hn hm
  have hx3e : x2 = f_min ((2 : Int32) * n) m := by rw [← hg_x2, ← hg_x1, hms]; exact hgr.1
  have hx3 : (m.toInt < 2 * n.toInt ∧ x2.toInt = m.toInt) ∨ (2 * n.toInt ≤ m.toInt ∧ x2.toInt = 2 * n.toInt) := by rw [hx3e, hgr.2]; split <;> omega
  refine wp_iload_n D_prog_8_m11_34 rfl ?_
  refine wp_aload_n D_prog_8_m11_35 rfl rfl ?_
  refine wp_getfield D_prog_8_m11_36 (hw _ (List.mem_of_getElem? (i := 12) rfl)) (fld_new (i := 0) (fi := 1) rfl rfl rfl) ?_
  refine wp_lengthJ (i := 1) n D_prog_8_m11_39 rfl hl ?_
  refine wp_icmp_gt D_prog_8_m11_40 (pc'' := 44) ⟨by decide, by decide⟩ (fun h3 => ?_) (fun h3 => ?_)
  · skip
    refine wp_aload_n D_prog_8_m11_44 rfl rfl ?_
    refine wp_getfield D_prog_8_m11_45 (hw _ (List.mem_of_getElem? (i := 12) rfl)) (fld_new (i := 0) (fi := 1) rfl rfl rfl) ?_
    refine wp_astore #[.val (.ref o), .val (.long x1), .second, .val (.int x2), .val (.ref a), .unset, .unset, .unset, .unset, .unset, .unset] D_prog_8_m11_48 rfl rfl ?_
    refine wp_aload_n D_prog_8_m11_50 rfl rfl ?_
    refine wp_iload_n D_prog_8_m11_51 rfl ?_
    refine wp_newarrayJ (n := x2) (x2.toNatClampNeg) 22 D_prog_8_m11_52 (hw _ (List.mem_of_getElem? (i := 11) rfl)) (own_i32 _ (by omega)) rfl (by simp only [Int32.toNatClampNeg]; omega) (by decide) (by decide) (by decide) ?_
    intro a4
    show Wp none l Z "com/example/orthrus/orthrus/SignatureSet" "grow" prog_8_method_11_code 11 none ({ frames := 3, cells := 1, slots := 22, locals := 62 } : Room) ((a4, oJ (List.replicate (x2.toNatClampNeg) 0)) :: (o, oI "com/example/orthrus/orthrus/SignatureSet" sg_1 [(.long ms), (.ref a), (.int (7 : Int32)), (.int hz)]) :: (a, oJ xs) :: F) 1 22 54 #[.val (.ref o), .val (.long x1), .second, .val (.int x2), .val (.ref a), .unset, .unset, .unset, .unset, .unset, .unset] [(.ref a4), (.ref o)] (Q_c_grow o a ms hz n m xs F)
    refine wp_putfield (i := 1) (fi := 1) (ty := (.array .long)) D_prog_8_m11_54 (hw _ (List.mem_of_getElem? (i := 12) rfl)) rfl rfl rfl (Or.inl (hw _ (List.mem_of_getElem? (i := 13) rfl))) (hw _ (List.mem_of_getElem? (i := 1) rfl)) (by decide) rfl rfl ?_
    show Wp none l Z "com/example/orthrus/orthrus/SignatureSet" "grow" prog_8_method_11_code 11 none ({ frames := 3, cells := 1, slots := 22, locals := 62 } : Room) ((a4, oJ (List.replicate (x2.toNatClampNeg) 0)) :: (o, oI "com/example/orthrus/orthrus/SignatureSet" sg_1 [(.long ms), (.ref a4), (.int (7 : Int32)), (.int hz)]) :: (a, oJ xs) :: F) 1 22 57 #[.val (.ref o), .val (.long x1), .second, .val (.int x2), .val (.ref a), .unset, .unset, .unset, .unset, .unset, .unset] [] (Q_c_grow o a ms hz n m xs F)
    refine wp_aload D_prog_8_m11_57 rfl rfl ?_
    refine wp_astore #[.val (.ref o), .val (.long x1), .second, .val (.int x2), .val (.ref a), .val (.ref a), .unset, .unset, .unset, .unset, .unset] D_prog_8_m11_59 rfl rfl ?_
    refine wp_aload D_prog_8_m11_61 rfl rfl ?_
    refine wp_lengthJ (i := 2) n D_prog_8_m11_63 rfl hl ?_
    refine wp_istore #[.val (.ref o), .val (.long x1), .second, .val (.int x2), .val (.ref a), .val (.ref a), .val (.int n), .unset, .unset, .unset, .unset] D_prog_8_m11_64 rfl ?_
    refine wp_iconst 0 D_prog_8_m11_66 (by decide) ?_
    refine wp_istore #[.val (.ref o), .val (.long x1), .second, .val (.int x2), .val (.ref a), .val (.ref a), .val (.int n), .val (.int (0 : Int32)), .unset, .unset, .unset] D_prog_8_m11_67 rfl ?_
    have hlt3 := Int32.lt_iff_toInt_lt.mp h3
    have hpl : (x2.toNatClampNeg : Int) = x2.toInt := by simp only [Int32.toNatClampNeg]; omega
    exact lp_gr l Z a0 hw o a a4 ms _ hz n x2 xs F _ x2.toNatClampNeg (back32 (own_i32 _ (by omega))).1 hpl hl hL (by omega) (fun ys hy => ⟨rfl, Or.inr ⟨by (simp only [Int32.lt_iff_toInt_lt, Int32.le_iff_toInt_le, ← Int32.toInt_inj, Int32.reduceToInt, Int64.lt_iff_toInt_lt, ← Int64.toInt_inj, Int64.reduceToInt] at *; omega), a4, ys, by rw [hy, (back32 (own_i32 _ (by omega))).1]; exact hx3e, rfl⟩⟩) n.toNatClampNeg 0 _ _ _ _ (by decide) (by simp only [Int32.toNatClampNeg, Int32.reduceToInt]; omega) List.length_replicate (by rw [nz_rep]; decide) (Or.inl ⟨rfl, rfl, rfl⟩)
  · skip
    refine wp_return D_prog_8_m11_43 rfl (by decide) (by decide) ?_
    exact ⟨rfl, Or.inl ⟨by (simp only [Int32.lt_iff_toInt_lt, Int32.le_iff_toInt_le, ← Int32.toInt_inj, Int32.reduceToInt, Int64.lt_iff_toInt_lt, ← Int64.toInt_inj, Int64.reduceToInt] at *; omega), rfl⟩⟩
def Q_c_add0 (o a : Addr) (ms x : Int64) (hz n : Int32) (xs : List Int64) (F : OH) : Option Value → OH → Prop := fun v H' => v = some (.int 1) ∧ ∃ xs', H' = (o, oI "com/example/orthrus/orthrus/SignatureSet" sg_1 [(.long ms), (.ref a), (.int (1 : Int32)), (.int hz)]) :: (a, oJ xs') :: F ∧ xs'.length = xs.length ∧ nz xs' = 1 ∧ ∀ y ∈ xs', y ∈ xs ∨ y = x
set_option maxRecDepth 65536 in
set_option maxHeartbeats 40000000 in
theorem c_add0 (l : Launch) (Z : State) (a0 : Array Value) (hw : ∀ d ∈ tables_1, d.before a0 Z = true) (o a : Addr) (ms x : Int64) (hz n : Int32) (xs : List Int64) (F : OH)  (hl : xs.length.toInt32 = n) (hL : (xs.length : Int) = n.toInt) (hn : 8 ≤ n.toInt ∧ n.toInt ≤ 11) (hx0 : ¬ x = 0) (hx : ∀ y ∈ xs, y ≠ x) (hcn : nz xs = 0) :
    Met l Z (⟨"com/example/orthrus/orthrus/SignatureSet", "add", "(J)Z"⟩ : MethodName) prog_8_method_3_code 4 (some .boolean) ({ frames := 3, cells := 0, slots := 0, locals := 62 } : Room) [(.ref o), (.long x)] ((o, oI "com/example/orthrus/orthrus/SignatureSet" sg_1 [(.long ms), (.ref a), (.int (0 : Int32)), (.int hz)]) :: (a, oJ xs) :: F) (Q_c_add0 o a ms x hz n xs F) := by
  refine Met.of_wp (Ls := #[.val (.ref o), .val (.long x), .second, .unset]) pn_9 (fun m => (entry_loc m _ _).trans rfl) ?_
  show Wp none l Z "com/example/orthrus/orthrus/SignatureSet" "add" prog_8_method_3_code 4 (some .boolean) ({ frames := 3, cells := 0, slots := 0, locals := 62 } : Room) ((o, oI "com/example/orthrus/orthrus/SignatureSet" sg_1 [(.long ms), (.ref a), (.int (0 : Int32)), (.int hz)]) :: (a, oJ xs) :: F) 0 0 0 #[.val (.ref o), .val (.long x), .second, .unset] [] (Q_c_add0 o a ms x hz n xs F)
  refine wp_lload_n D_prog_8_m3_0 rfl ?_
  refine wp_lconst 0 D_prog_8_m3_1 (by decide) ?_
  refine wp_lcmp_ne D_prog_8_m3_2 D_prog_8_m3_3 (pc'' := 26) ⟨by decide, by decide⟩ (fun h1 => ?_) (fun h1 => by exact absurd h1 hx0)
  refine wp_lload_n D_prog_8_m3_26 rfl ?_
  refine wp_aload_n D_prog_8_m3_27 rfl rfl ?_
  refine wp_getfield D_prog_8_m3_28 (hw _ (List.mem_of_getElem? (i := 12) rfl)) (fld_new (i := 0) (fi := 1) rfl rfl rfl) ?_
  refine wp_lengthJ (i := 1) n D_prog_8_m3_31 rfl hl ?_
  refine wp_callS (c_slot l Z a0 hw x n ((o, oI "com/example/orthrus/orthrus/SignatureSet" sg_1 [(.long ms), (.ref a), (.int (0 : Int32)), (.int hz)]) :: (a, oJ xs) :: F)) D_prog_8_m3_32 (hw _ (List.mem_of_getElem? (i := 19) rfl)) (hw _ (List.mem_of_getElem? (i := 20) rfl)) (hw _ (List.mem_of_getElem? (i := 2) rfl)) (hw _ (List.mem_of_getElem? (i := 21) rfl)) (by decide) pd_2 rfl rfl rfl (Nat.le_of_ble_eq_true rfl) (Nat.le_of_ble_eq_true rfl) (Nat.le_of_ble_eq_true rfl) (Nat.le_of_ble_eq_true rfl) ?_
  rintro _ _ ⟨rfl, rfl⟩
  show Wp none l Z "com/example/orthrus/orthrus/SignatureSet" "add" prog_8_method_3_code 4 (some .boolean) ({ frames := 3, cells := 0, slots := 0, locals := 62 } : Room) ((o, oI "com/example/orthrus/orthrus/SignatureSet" sg_1 [(.long ms), (.ref a), (.int (0 : Int32)), (.int hz)]) :: (a, oJ xs) :: F) 0 0 35 #[.val (.ref o), .val (.long x), .second, .unset] [(.int (f_slot (f_mix x) n))] (Q_c_add0 o a ms x hz n xs F)
  generalize hg_x2 : (f_slot (f_mix x) n) = x2
  refine wp_istore_n #[.val (.ref o), .val (.long x), .second, .val (.int x2)] D_prog_8_m3_35 rfl ?_
  have hs_x := own_slot (f_mix x) n (by omega)
  rw [hg_x2] at hs_x
  obtain ⟨z, hz1, hz0⟩ := nz_zero xs (by omega)
  refine lp_addS l Z a0 hw o a ms x hz 0 n xs F _ hl hL hx z hz1 hz0 (fun s hq0 hq1 hv => ?_) _ x2 hs_x.1 hs_x.2 rfl
  show Wp none l Z "com/example/orthrus/orthrus/SignatureSet" "add" prog_8_method_3_code 4 (some .boolean) ({ frames := 3, cells := 0, slots := 0, locals := 62 } : Room) ((o, oI "com/example/orthrus/orthrus/SignatureSet" sg_1 [(.long ms), (.ref a), (.int (0 : Int32)), (.int hz)]) :: (a, oJ xs) :: F) 0 0 73 #[.val (.ref o), .val (.long x), .second, .val (.int s)] [] (Q_c_add0 o a ms x hz n xs F)
  refine wp_aload_n D_prog_8_m3_73 rfl rfl ?_
  refine wp_virtual (c_full l Z a0 hw o a ms hz (0 : Int32) n xs F (by first | exact hl | (simp only [List.length_set]; exact hl))) (exa_new (i := 0) rfl) D_prog_8_m3_74 (hw _ (List.mem_of_getElem? (i := 36) rfl)) (hw _ (List.mem_of_getElem? (i := 37) rfl)) (hw _ (List.mem_of_getElem? (i := 39) rfl)) (hw _ (List.mem_of_getElem? (i := 39) rfl)) (hw _ (List.mem_of_getElem? (i := 38) rfl)) (hw _ (List.mem_of_getElem? (i := 2) rfl)) (hw _ (List.mem_of_getElem? (i := 40) rfl)) (by decide) pd_4 rfl rfl rfl (Nat.le_of_ble_eq_true rfl) (Nat.le_of_ble_eq_true rfl) (Nat.le_of_ble_eq_true rfl) (Nat.le_of_ble_eq_true rfl) ?_
  rintro _ _ ⟨rfl, rfl⟩
  rw [show f_full (0 : Int32) n = (0 : Int32) from by unfold f_full; rw [own_n4 n hn]; rfl]
  show Wp none l Z "com/example/orthrus/orthrus/SignatureSet" "add" prog_8_method_3_code 4 (some .boolean) ({ frames := 3, cells := 0, slots := 0, locals := 62 } : Room) ((o, oI "com/example/orthrus/orthrus/SignatureSet" sg_1 [(.long ms), (.ref a), (.int (0 : Int32)), (.int hz)]) :: (a, oJ xs) :: F) 0 0 77 #[.val (.ref o), .val (.long x), .second, .val (.int s)] [(.int (0 : Int32))] (Q_c_add0 o a ms x hz n xs F)
  refine wp_if_eq D_prog_8_m3_77 (pc'' := 97) ⟨by decide, by decide⟩ (fun h3 => ?_) (fun h3 => by exact absurd h3 (by decide))
  refine wp_aload_n D_prog_8_m3_97 rfl rfl ?_
  refine wp_getfield D_prog_8_m3_98 (hw _ (List.mem_of_getElem? (i := 12) rfl)) (fld_new (i := 0) (fi := 1) rfl rfl rfl) ?_
  refine wp_iload_n D_prog_8_m3_101 rfl ?_
  refine wp_lload_n D_prog_8_m3_102 rfl ?_
  refine wp_lastore (i := 1) (s.toNatClampNeg) D_prog_8_m3_103 rfl (own_i32 _ hq0) rfl (by have := own_cn s; omega) ?_
  show Wp none l Z "com/example/orthrus/orthrus/SignatureSet" "add" prog_8_method_3_code 4 (some .boolean) ({ frames := 3, cells := 0, slots := 0, locals := 62 } : Room) ((o, oI "com/example/orthrus/orthrus/SignatureSet" sg_1 [(.long ms), (.ref a), (.int (0 : Int32)), (.int hz)]) :: (a, oJ (xs.set (s.toNatClampNeg) x)) :: F) 0 0 104 #[.val (.ref o), .val (.long x), .second, .val (.int s)] [] (Q_c_add0 o a ms x hz n xs F)
  refine wp_aload_n D_prog_8_m3_104 rfl rfl ?_
  refine wp_dup D_prog_8_m3_105 rfl ?_
  refine wp_getfield D_prog_8_m3_106 (hw _ (List.mem_of_getElem? (i := 41) rfl)) (fld_new (i := 0) (fi := 2) rfl rfl rfl) ?_
  refine wp_iconst 1 D_prog_8_m3_109 (by decide) ?_
  refine wp_iadd D_prog_8_m3_110 ?_
  rw [show ((0 : Int32) + (1 : Int32)) = (1 : Int32) from by decide]
  refine wp_putfield (i := 0) (fi := 2) (ty := .int) D_prog_8_m3_111 (hw _ (List.mem_of_getElem? (i := 41) rfl)) rfl rfl rfl (Or.inl (hw _ (List.mem_of_getElem? (i := 42) rfl))) (hw _ (List.mem_of_getElem? (i := 1) rfl)) (by decide) rfl rfl ?_
  show Wp none l Z "com/example/orthrus/orthrus/SignatureSet" "add" prog_8_method_3_code 4 (some .boolean) ({ frames := 3, cells := 0, slots := 0, locals := 62 } : Room) ((o, oI "com/example/orthrus/orthrus/SignatureSet" sg_1 [(.long ms), (.ref a), (.int (1 : Int32)), (.int hz)]) :: (a, oJ (xs.set (s.toNatClampNeg) x)) :: F) 0 0 114 #[.val (.ref o), .val (.long x), .second, .val (.int s)] [] (Q_c_add0 o a ms x hz n xs F)
  refine wp_aload_n D_prog_8_m3_114 rfl rfl ?_
  refine wp_virtual (c_full l Z a0 hw o a ms hz (1 : Int32) n (xs.set (s.toNatClampNeg) x) F (by first | exact hl | (simp only [List.length_set]; exact hl))) (exa_new (i := 0) rfl) D_prog_8_m3_115 (hw _ (List.mem_of_getElem? (i := 36) rfl)) (hw _ (List.mem_of_getElem? (i := 37) rfl)) (hw _ (List.mem_of_getElem? (i := 39) rfl)) (hw _ (List.mem_of_getElem? (i := 39) rfl)) (hw _ (List.mem_of_getElem? (i := 38) rfl)) (hw _ (List.mem_of_getElem? (i := 2) rfl)) (hw _ (List.mem_of_getElem? (i := 40) rfl)) (by decide) pd_4 rfl rfl rfl (Nat.le_of_ble_eq_true rfl) (Nat.le_of_ble_eq_true rfl) (Nat.le_of_ble_eq_true rfl) (Nat.le_of_ble_eq_true rfl) ?_
  rintro _ _ ⟨rfl, rfl⟩
  rw [show f_full (1 : Int32) n = (0 : Int32) from by unfold f_full; rw [own_n4 n hn]; rfl]
  show Wp none l Z "com/example/orthrus/orthrus/SignatureSet" "add" prog_8_method_3_code 4 (some .boolean) ({ frames := 3, cells := 0, slots := 0, locals := 62 } : Room) ((o, oI "com/example/orthrus/orthrus/SignatureSet" sg_1 [(.long ms), (.ref a), (.int (1 : Int32)), (.int hz)]) :: (a, oJ (xs.set (s.toNatClampNeg) x)) :: F) 0 0 118 #[.val (.ref o), .val (.long x), .second, .val (.int s)] [(.int (0 : Int32))] (Q_c_add0 o a ms x hz n xs F)
  refine wp_if_eq D_prog_8_m3_118 (pc'' := 125) ⟨by decide, by decide⟩ (fun h4 => ?_) (fun h4 => by exact absurd h4 (by decide))
  refine wp_iconst 1 D_prog_8_m3_125 (by decide) ?_
  refine wp_ireturnN D_prog_8_m3_126 rfl (by simp) (by decide) (by decide) ?_
  exact ⟨rfl, _, rfl, List.length_set, by rw [nz_set _ _ _ hv hx0, hcn], fun y hy => List.mem_or_eq_of_mem_set hy⟩
def Q_c_add1 (o a : Addr) (ms x : Int64) (hz n : Int32) (xs : List Int64) (F : OH) : Option Value → OH → Prop := fun v H' => v = some (.int 1) ∧ ∃ xs', H' = (o, oI "com/example/orthrus/orthrus/SignatureSet" sg_1 [(.long ms), (.ref a), (.int (2 : Int32)), (.int hz)]) :: (a, oJ xs') :: F ∧ xs'.length = xs.length ∧ nz xs' = 2 ∧ ∀ y ∈ xs', y ∈ xs ∨ y = x
set_option maxRecDepth 65536 in
set_option maxHeartbeats 40000000 in
theorem c_add1 (l : Launch) (Z : State) (a0 : Array Value) (hw : ∀ d ∈ tables_1, d.before a0 Z = true) (o a : Addr) (ms x : Int64) (hz n : Int32) (xs : List Int64) (F : OH)  (hl : xs.length.toInt32 = n) (hL : (xs.length : Int) = n.toInt) (hn : 8 ≤ n.toInt ∧ n.toInt ≤ 11) (hx0 : ¬ x = 0) (hx : ∀ y ∈ xs, y ≠ x) (hcn : nz xs = 1) :
    Met l Z (⟨"com/example/orthrus/orthrus/SignatureSet", "add", "(J)Z"⟩ : MethodName) prog_8_method_3_code 4 (some .boolean) ({ frames := 3, cells := 0, slots := 0, locals := 62 } : Room) [(.ref o), (.long x)] ((o, oI "com/example/orthrus/orthrus/SignatureSet" sg_1 [(.long ms), (.ref a), (.int (1 : Int32)), (.int hz)]) :: (a, oJ xs) :: F) (Q_c_add1 o a ms x hz n xs F) := by
  refine Met.of_wp (Ls := #[.val (.ref o), .val (.long x), .second, .unset]) pn_9 (fun m => (entry_loc m _ _).trans rfl) ?_
  show Wp none l Z "com/example/orthrus/orthrus/SignatureSet" "add" prog_8_method_3_code 4 (some .boolean) ({ frames := 3, cells := 0, slots := 0, locals := 62 } : Room) ((o, oI "com/example/orthrus/orthrus/SignatureSet" sg_1 [(.long ms), (.ref a), (.int (1 : Int32)), (.int hz)]) :: (a, oJ xs) :: F) 0 0 0 #[.val (.ref o), .val (.long x), .second, .unset] [] (Q_c_add1 o a ms x hz n xs F)
  refine wp_lload_n D_prog_8_m3_0 rfl ?_
  refine wp_lconst 0 D_prog_8_m3_1 (by decide) ?_
  refine wp_lcmp_ne D_prog_8_m3_2 D_prog_8_m3_3 (pc'' := 26) ⟨by decide, by decide⟩ (fun h1 => ?_) (fun h1 => by exact absurd h1 hx0)
  refine wp_lload_n D_prog_8_m3_26 rfl ?_
  refine wp_aload_n D_prog_8_m3_27 rfl rfl ?_
  refine wp_getfield D_prog_8_m3_28 (hw _ (List.mem_of_getElem? (i := 12) rfl)) (fld_new (i := 0) (fi := 1) rfl rfl rfl) ?_
  refine wp_lengthJ (i := 1) n D_prog_8_m3_31 rfl hl ?_
  refine wp_callS (c_slot l Z a0 hw x n ((o, oI "com/example/orthrus/orthrus/SignatureSet" sg_1 [(.long ms), (.ref a), (.int (1 : Int32)), (.int hz)]) :: (a, oJ xs) :: F)) D_prog_8_m3_32 (hw _ (List.mem_of_getElem? (i := 19) rfl)) (hw _ (List.mem_of_getElem? (i := 20) rfl)) (hw _ (List.mem_of_getElem? (i := 2) rfl)) (hw _ (List.mem_of_getElem? (i := 21) rfl)) (by decide) pd_2 rfl rfl rfl (Nat.le_of_ble_eq_true rfl) (Nat.le_of_ble_eq_true rfl) (Nat.le_of_ble_eq_true rfl) (Nat.le_of_ble_eq_true rfl) ?_
  rintro _ _ ⟨rfl, rfl⟩
  show Wp none l Z "com/example/orthrus/orthrus/SignatureSet" "add" prog_8_method_3_code 4 (some .boolean) ({ frames := 3, cells := 0, slots := 0, locals := 62 } : Room) ((o, oI "com/example/orthrus/orthrus/SignatureSet" sg_1 [(.long ms), (.ref a), (.int (1 : Int32)), (.int hz)]) :: (a, oJ xs) :: F) 0 0 35 #[.val (.ref o), .val (.long x), .second, .unset] [(.int (f_slot (f_mix x) n))] (Q_c_add1 o a ms x hz n xs F)
  generalize hg_x2 : (f_slot (f_mix x) n) = x2
  refine wp_istore_n #[.val (.ref o), .val (.long x), .second, .val (.int x2)] D_prog_8_m3_35 rfl ?_
  have hs_x := own_slot (f_mix x) n (by omega)
  rw [hg_x2] at hs_x
  obtain ⟨z, hz1, hz0⟩ := nz_zero xs (by omega)
  refine lp_addS l Z a0 hw o a ms x hz 1 n xs F _ hl hL hx z hz1 hz0 (fun s hq0 hq1 hv => ?_) _ x2 hs_x.1 hs_x.2 rfl
  show Wp none l Z "com/example/orthrus/orthrus/SignatureSet" "add" prog_8_method_3_code 4 (some .boolean) ({ frames := 3, cells := 0, slots := 0, locals := 62 } : Room) ((o, oI "com/example/orthrus/orthrus/SignatureSet" sg_1 [(.long ms), (.ref a), (.int (1 : Int32)), (.int hz)]) :: (a, oJ xs) :: F) 0 0 73 #[.val (.ref o), .val (.long x), .second, .val (.int s)] [] (Q_c_add1 o a ms x hz n xs F)
  refine wp_aload_n D_prog_8_m3_73 rfl rfl ?_
  refine wp_virtual (c_full l Z a0 hw o a ms hz (1 : Int32) n xs F (by first | exact hl | (simp only [List.length_set]; exact hl))) (exa_new (i := 0) rfl) D_prog_8_m3_74 (hw _ (List.mem_of_getElem? (i := 36) rfl)) (hw _ (List.mem_of_getElem? (i := 37) rfl)) (hw _ (List.mem_of_getElem? (i := 39) rfl)) (hw _ (List.mem_of_getElem? (i := 39) rfl)) (hw _ (List.mem_of_getElem? (i := 38) rfl)) (hw _ (List.mem_of_getElem? (i := 2) rfl)) (hw _ (List.mem_of_getElem? (i := 40) rfl)) (by decide) pd_4 rfl rfl rfl (Nat.le_of_ble_eq_true rfl) (Nat.le_of_ble_eq_true rfl) (Nat.le_of_ble_eq_true rfl) (Nat.le_of_ble_eq_true rfl) ?_
  rintro _ _ ⟨rfl, rfl⟩
  rw [show f_full (1 : Int32) n = (0 : Int32) from by unfold f_full; rw [own_n4 n hn]; rfl]
  show Wp none l Z "com/example/orthrus/orthrus/SignatureSet" "add" prog_8_method_3_code 4 (some .boolean) ({ frames := 3, cells := 0, slots := 0, locals := 62 } : Room) ((o, oI "com/example/orthrus/orthrus/SignatureSet" sg_1 [(.long ms), (.ref a), (.int (1 : Int32)), (.int hz)]) :: (a, oJ xs) :: F) 0 0 77 #[.val (.ref o), .val (.long x), .second, .val (.int s)] [(.int (0 : Int32))] (Q_c_add1 o a ms x hz n xs F)
  refine wp_if_eq D_prog_8_m3_77 (pc'' := 97) ⟨by decide, by decide⟩ (fun h3 => ?_) (fun h3 => by exact absurd h3 (by decide))
  refine wp_aload_n D_prog_8_m3_97 rfl rfl ?_
  refine wp_getfield D_prog_8_m3_98 (hw _ (List.mem_of_getElem? (i := 12) rfl)) (fld_new (i := 0) (fi := 1) rfl rfl rfl) ?_
  refine wp_iload_n D_prog_8_m3_101 rfl ?_
  refine wp_lload_n D_prog_8_m3_102 rfl ?_
  refine wp_lastore (i := 1) (s.toNatClampNeg) D_prog_8_m3_103 rfl (own_i32 _ hq0) rfl (by have := own_cn s; omega) ?_
  show Wp none l Z "com/example/orthrus/orthrus/SignatureSet" "add" prog_8_method_3_code 4 (some .boolean) ({ frames := 3, cells := 0, slots := 0, locals := 62 } : Room) ((o, oI "com/example/orthrus/orthrus/SignatureSet" sg_1 [(.long ms), (.ref a), (.int (1 : Int32)), (.int hz)]) :: (a, oJ (xs.set (s.toNatClampNeg) x)) :: F) 0 0 104 #[.val (.ref o), .val (.long x), .second, .val (.int s)] [] (Q_c_add1 o a ms x hz n xs F)
  refine wp_aload_n D_prog_8_m3_104 rfl rfl ?_
  refine wp_dup D_prog_8_m3_105 rfl ?_
  refine wp_getfield D_prog_8_m3_106 (hw _ (List.mem_of_getElem? (i := 41) rfl)) (fld_new (i := 0) (fi := 2) rfl rfl rfl) ?_
  refine wp_iconst 1 D_prog_8_m3_109 (by decide) ?_
  refine wp_iadd D_prog_8_m3_110 ?_
  rw [show ((1 : Int32) + (1 : Int32)) = (2 : Int32) from by decide]
  refine wp_putfield (i := 0) (fi := 2) (ty := .int) D_prog_8_m3_111 (hw _ (List.mem_of_getElem? (i := 41) rfl)) rfl rfl rfl (Or.inl (hw _ (List.mem_of_getElem? (i := 42) rfl))) (hw _ (List.mem_of_getElem? (i := 1) rfl)) (by decide) rfl rfl ?_
  show Wp none l Z "com/example/orthrus/orthrus/SignatureSet" "add" prog_8_method_3_code 4 (some .boolean) ({ frames := 3, cells := 0, slots := 0, locals := 62 } : Room) ((o, oI "com/example/orthrus/orthrus/SignatureSet" sg_1 [(.long ms), (.ref a), (.int (2 : Int32)), (.int hz)]) :: (a, oJ (xs.set (s.toNatClampNeg) x)) :: F) 0 0 114 #[.val (.ref o), .val (.long x), .second, .val (.int s)] [] (Q_c_add1 o a ms x hz n xs F)
  refine wp_aload_n D_prog_8_m3_114 rfl rfl ?_
  refine wp_virtual (c_full l Z a0 hw o a ms hz (2 : Int32) n (xs.set (s.toNatClampNeg) x) F (by first | exact hl | (simp only [List.length_set]; exact hl))) (exa_new (i := 0) rfl) D_prog_8_m3_115 (hw _ (List.mem_of_getElem? (i := 36) rfl)) (hw _ (List.mem_of_getElem? (i := 37) rfl)) (hw _ (List.mem_of_getElem? (i := 39) rfl)) (hw _ (List.mem_of_getElem? (i := 39) rfl)) (hw _ (List.mem_of_getElem? (i := 38) rfl)) (hw _ (List.mem_of_getElem? (i := 2) rfl)) (hw _ (List.mem_of_getElem? (i := 40) rfl)) (by decide) pd_4 rfl rfl rfl (Nat.le_of_ble_eq_true rfl) (Nat.le_of_ble_eq_true rfl) (Nat.le_of_ble_eq_true rfl) (Nat.le_of_ble_eq_true rfl) ?_
  rintro _ _ ⟨rfl, rfl⟩
  rw [show f_full (2 : Int32) n = (0 : Int32) from by unfold f_full; rw [own_n4 n hn]; rfl]
  show Wp none l Z "com/example/orthrus/orthrus/SignatureSet" "add" prog_8_method_3_code 4 (some .boolean) ({ frames := 3, cells := 0, slots := 0, locals := 62 } : Room) ((o, oI "com/example/orthrus/orthrus/SignatureSet" sg_1 [(.long ms), (.ref a), (.int (2 : Int32)), (.int hz)]) :: (a, oJ (xs.set (s.toNatClampNeg) x)) :: F) 0 0 118 #[.val (.ref o), .val (.long x), .second, .val (.int s)] [(.int (0 : Int32))] (Q_c_add1 o a ms x hz n xs F)
  refine wp_if_eq D_prog_8_m3_118 (pc'' := 125) ⟨by decide, by decide⟩ (fun h4 => ?_) (fun h4 => by exact absurd h4 (by decide))
  refine wp_iconst 1 D_prog_8_m3_125 (by decide) ?_
  refine wp_ireturnN D_prog_8_m3_126 rfl (by simp) (by decide) (by decide) ?_
  exact ⟨rfl, _, rfl, List.length_set, by rw [nz_set _ _ _ hv hx0, hcn], fun y hy => List.mem_or_eq_of_mem_set hy⟩
def Q_c_add2 (o a : Addr) (ms x : Int64) (hz n : Int32) (xs : List Int64) (F : OH) : Option Value → OH → Prop := fun v H' => v = some (.int 1) ∧ ∃ xs', H' = (o, oI "com/example/orthrus/orthrus/SignatureSet" sg_1 [(.long ms), (.ref a), (.int (3 : Int32)), (.int hz)]) :: (a, oJ xs') :: F ∧ xs'.length = xs.length ∧ nz xs' = 3 ∧ ∀ y ∈ xs', y ∈ xs ∨ y = x
set_option maxRecDepth 65536 in
set_option maxHeartbeats 40000000 in
theorem c_add2 (l : Launch) (Z : State) (a0 : Array Value) (hw : ∀ d ∈ tables_1, d.before a0 Z = true) (o a : Addr) (ms x : Int64) (hz n : Int32) (xs : List Int64) (F : OH)  (hl : xs.length.toInt32 = n) (hL : (xs.length : Int) = n.toInt) (hn : 8 ≤ n.toInt ∧ n.toInt ≤ 11) (hx0 : ¬ x = 0) (hx : ∀ y ∈ xs, y ≠ x) (hcn : nz xs = 2) :
    Met l Z (⟨"com/example/orthrus/orthrus/SignatureSet", "add", "(J)Z"⟩ : MethodName) prog_8_method_3_code 4 (some .boolean) ({ frames := 3, cells := 0, slots := 0, locals := 62 } : Room) [(.ref o), (.long x)] ((o, oI "com/example/orthrus/orthrus/SignatureSet" sg_1 [(.long ms), (.ref a), (.int (2 : Int32)), (.int hz)]) :: (a, oJ xs) :: F) (Q_c_add2 o a ms x hz n xs F) := by
  refine Met.of_wp (Ls := #[.val (.ref o), .val (.long x), .second, .unset]) pn_9 (fun m => (entry_loc m _ _).trans rfl) ?_
  show Wp none l Z "com/example/orthrus/orthrus/SignatureSet" "add" prog_8_method_3_code 4 (some .boolean) ({ frames := 3, cells := 0, slots := 0, locals := 62 } : Room) ((o, oI "com/example/orthrus/orthrus/SignatureSet" sg_1 [(.long ms), (.ref a), (.int (2 : Int32)), (.int hz)]) :: (a, oJ xs) :: F) 0 0 0 #[.val (.ref o), .val (.long x), .second, .unset] [] (Q_c_add2 o a ms x hz n xs F)
  refine wp_lload_n D_prog_8_m3_0 rfl ?_
  refine wp_lconst 0 D_prog_8_m3_1 (by decide) ?_
  refine wp_lcmp_ne D_prog_8_m3_2 D_prog_8_m3_3 (pc'' := 26) ⟨by decide, by decide⟩ (fun h1 => ?_) (fun h1 => by exact absurd h1 hx0)
  refine wp_lload_n D_prog_8_m3_26 rfl ?_
  refine wp_aload_n D_prog_8_m3_27 rfl rfl ?_
  refine wp_getfield D_prog_8_m3_28 (hw _ (List.mem_of_getElem? (i := 12) rfl)) (fld_new (i := 0) (fi := 1) rfl rfl rfl) ?_
  refine wp_lengthJ (i := 1) n D_prog_8_m3_31 rfl hl ?_
  refine wp_callS (c_slot l Z a0 hw x n ((o, oI "com/example/orthrus/orthrus/SignatureSet" sg_1 [(.long ms), (.ref a), (.int (2 : Int32)), (.int hz)]) :: (a, oJ xs) :: F)) D_prog_8_m3_32 (hw _ (List.mem_of_getElem? (i := 19) rfl)) (hw _ (List.mem_of_getElem? (i := 20) rfl)) (hw _ (List.mem_of_getElem? (i := 2) rfl)) (hw _ (List.mem_of_getElem? (i := 21) rfl)) (by decide) pd_2 rfl rfl rfl (Nat.le_of_ble_eq_true rfl) (Nat.le_of_ble_eq_true rfl) (Nat.le_of_ble_eq_true rfl) (Nat.le_of_ble_eq_true rfl) ?_
  rintro _ _ ⟨rfl, rfl⟩
  show Wp none l Z "com/example/orthrus/orthrus/SignatureSet" "add" prog_8_method_3_code 4 (some .boolean) ({ frames := 3, cells := 0, slots := 0, locals := 62 } : Room) ((o, oI "com/example/orthrus/orthrus/SignatureSet" sg_1 [(.long ms), (.ref a), (.int (2 : Int32)), (.int hz)]) :: (a, oJ xs) :: F) 0 0 35 #[.val (.ref o), .val (.long x), .second, .unset] [(.int (f_slot (f_mix x) n))] (Q_c_add2 o a ms x hz n xs F)
  generalize hg_x2 : (f_slot (f_mix x) n) = x2
  refine wp_istore_n #[.val (.ref o), .val (.long x), .second, .val (.int x2)] D_prog_8_m3_35 rfl ?_
  have hs_x := own_slot (f_mix x) n (by omega)
  rw [hg_x2] at hs_x
  obtain ⟨z, hz1, hz0⟩ := nz_zero xs (by omega)
  refine lp_addS l Z a0 hw o a ms x hz 2 n xs F _ hl hL hx z hz1 hz0 (fun s hq0 hq1 hv => ?_) _ x2 hs_x.1 hs_x.2 rfl
  show Wp none l Z "com/example/orthrus/orthrus/SignatureSet" "add" prog_8_method_3_code 4 (some .boolean) ({ frames := 3, cells := 0, slots := 0, locals := 62 } : Room) ((o, oI "com/example/orthrus/orthrus/SignatureSet" sg_1 [(.long ms), (.ref a), (.int (2 : Int32)), (.int hz)]) :: (a, oJ xs) :: F) 0 0 73 #[.val (.ref o), .val (.long x), .second, .val (.int s)] [] (Q_c_add2 o a ms x hz n xs F)
  refine wp_aload_n D_prog_8_m3_73 rfl rfl ?_
  refine wp_virtual (c_full l Z a0 hw o a ms hz (2 : Int32) n xs F (by first | exact hl | (simp only [List.length_set]; exact hl))) (exa_new (i := 0) rfl) D_prog_8_m3_74 (hw _ (List.mem_of_getElem? (i := 36) rfl)) (hw _ (List.mem_of_getElem? (i := 37) rfl)) (hw _ (List.mem_of_getElem? (i := 39) rfl)) (hw _ (List.mem_of_getElem? (i := 39) rfl)) (hw _ (List.mem_of_getElem? (i := 38) rfl)) (hw _ (List.mem_of_getElem? (i := 2) rfl)) (hw _ (List.mem_of_getElem? (i := 40) rfl)) (by decide) pd_4 rfl rfl rfl (Nat.le_of_ble_eq_true rfl) (Nat.le_of_ble_eq_true rfl) (Nat.le_of_ble_eq_true rfl) (Nat.le_of_ble_eq_true rfl) ?_
  rintro _ _ ⟨rfl, rfl⟩
  rw [show f_full (2 : Int32) n = (0 : Int32) from by unfold f_full; rw [own_n4 n hn]; rfl]
  show Wp none l Z "com/example/orthrus/orthrus/SignatureSet" "add" prog_8_method_3_code 4 (some .boolean) ({ frames := 3, cells := 0, slots := 0, locals := 62 } : Room) ((o, oI "com/example/orthrus/orthrus/SignatureSet" sg_1 [(.long ms), (.ref a), (.int (2 : Int32)), (.int hz)]) :: (a, oJ xs) :: F) 0 0 77 #[.val (.ref o), .val (.long x), .second, .val (.int s)] [(.int (0 : Int32))] (Q_c_add2 o a ms x hz n xs F)
  refine wp_if_eq D_prog_8_m3_77 (pc'' := 97) ⟨by decide, by decide⟩ (fun h3 => ?_) (fun h3 => by exact absurd h3 (by decide))
  refine wp_aload_n D_prog_8_m3_97 rfl rfl ?_
  refine wp_getfield D_prog_8_m3_98 (hw _ (List.mem_of_getElem? (i := 12) rfl)) (fld_new (i := 0) (fi := 1) rfl rfl rfl) ?_
  refine wp_iload_n D_prog_8_m3_101 rfl ?_
  refine wp_lload_n D_prog_8_m3_102 rfl ?_
  refine wp_lastore (i := 1) (s.toNatClampNeg) D_prog_8_m3_103 rfl (own_i32 _ hq0) rfl (by have := own_cn s; omega) ?_
  show Wp none l Z "com/example/orthrus/orthrus/SignatureSet" "add" prog_8_method_3_code 4 (some .boolean) ({ frames := 3, cells := 0, slots := 0, locals := 62 } : Room) ((o, oI "com/example/orthrus/orthrus/SignatureSet" sg_1 [(.long ms), (.ref a), (.int (2 : Int32)), (.int hz)]) :: (a, oJ (xs.set (s.toNatClampNeg) x)) :: F) 0 0 104 #[.val (.ref o), .val (.long x), .second, .val (.int s)] [] (Q_c_add2 o a ms x hz n xs F)
  refine wp_aload_n D_prog_8_m3_104 rfl rfl ?_
  refine wp_dup D_prog_8_m3_105 rfl ?_
  refine wp_getfield D_prog_8_m3_106 (hw _ (List.mem_of_getElem? (i := 41) rfl)) (fld_new (i := 0) (fi := 2) rfl rfl rfl) ?_
  refine wp_iconst 1 D_prog_8_m3_109 (by decide) ?_
  refine wp_iadd D_prog_8_m3_110 ?_
  rw [show ((2 : Int32) + (1 : Int32)) = (3 : Int32) from by decide]
  refine wp_putfield (i := 0) (fi := 2) (ty := .int) D_prog_8_m3_111 (hw _ (List.mem_of_getElem? (i := 41) rfl)) rfl rfl rfl (Or.inl (hw _ (List.mem_of_getElem? (i := 42) rfl))) (hw _ (List.mem_of_getElem? (i := 1) rfl)) (by decide) rfl rfl ?_
  show Wp none l Z "com/example/orthrus/orthrus/SignatureSet" "add" prog_8_method_3_code 4 (some .boolean) ({ frames := 3, cells := 0, slots := 0, locals := 62 } : Room) ((o, oI "com/example/orthrus/orthrus/SignatureSet" sg_1 [(.long ms), (.ref a), (.int (3 : Int32)), (.int hz)]) :: (a, oJ (xs.set (s.toNatClampNeg) x)) :: F) 0 0 114 #[.val (.ref o), .val (.long x), .second, .val (.int s)] [] (Q_c_add2 o a ms x hz n xs F)
  refine wp_aload_n D_prog_8_m3_114 rfl rfl ?_
  refine wp_virtual (c_full l Z a0 hw o a ms hz (3 : Int32) n (xs.set (s.toNatClampNeg) x) F (by first | exact hl | (simp only [List.length_set]; exact hl))) (exa_new (i := 0) rfl) D_prog_8_m3_115 (hw _ (List.mem_of_getElem? (i := 36) rfl)) (hw _ (List.mem_of_getElem? (i := 37) rfl)) (hw _ (List.mem_of_getElem? (i := 39) rfl)) (hw _ (List.mem_of_getElem? (i := 39) rfl)) (hw _ (List.mem_of_getElem? (i := 38) rfl)) (hw _ (List.mem_of_getElem? (i := 2) rfl)) (hw _ (List.mem_of_getElem? (i := 40) rfl)) (by decide) pd_4 rfl rfl rfl (Nat.le_of_ble_eq_true rfl) (Nat.le_of_ble_eq_true rfl) (Nat.le_of_ble_eq_true rfl) (Nat.le_of_ble_eq_true rfl) ?_
  rintro _ _ ⟨rfl, rfl⟩
  rw [show f_full (3 : Int32) n = (0 : Int32) from by unfold f_full; rw [own_n4 n hn]; rfl]
  show Wp none l Z "com/example/orthrus/orthrus/SignatureSet" "add" prog_8_method_3_code 4 (some .boolean) ({ frames := 3, cells := 0, slots := 0, locals := 62 } : Room) ((o, oI "com/example/orthrus/orthrus/SignatureSet" sg_1 [(.long ms), (.ref a), (.int (3 : Int32)), (.int hz)]) :: (a, oJ (xs.set (s.toNatClampNeg) x)) :: F) 0 0 118 #[.val (.ref o), .val (.long x), .second, .val (.int s)] [(.int (0 : Int32))] (Q_c_add2 o a ms x hz n xs F)
  refine wp_if_eq D_prog_8_m3_118 (pc'' := 125) ⟨by decide, by decide⟩ (fun h4 => ?_) (fun h4 => by exact absurd h4 (by decide))
  refine wp_iconst 1 D_prog_8_m3_125 (by decide) ?_
  refine wp_ireturnN D_prog_8_m3_126 rfl (by simp) (by decide) (by decide) ?_
  exact ⟨rfl, _, rfl, List.length_set, by rw [nz_set _ _ _ hv hx0, hcn], fun y hy => List.mem_or_eq_of_mem_set hy⟩
def Q_c_add3 (o a : Addr) (ms x : Int64) (hz n : Int32) (xs : List Int64) (F : OH) : Option Value → OH → Prop := fun v H' => v = some (.int 1) ∧ ∃ xs', H' = (o, oI "com/example/orthrus/orthrus/SignatureSet" sg_1 [(.long ms), (.ref a), (.int (4 : Int32)), (.int hz)]) :: (a, oJ xs') :: F ∧ xs'.length = xs.length ∧ nz xs' = 4 ∧ ∀ y ∈ xs', y ∈ xs ∨ y = x
set_option maxRecDepth 65536 in
set_option maxHeartbeats 40000000 in
theorem c_add3 (l : Launch) (Z : State) (a0 : Array Value) (hw : ∀ d ∈ tables_1, d.before a0 Z = true) (o a : Addr) (ms x : Int64) (hz n : Int32) (xs : List Int64) (F : OH)  (hl : xs.length.toInt32 = n) (hL : (xs.length : Int) = n.toInt) (hn : 8 ≤ n.toInt ∧ n.toInt ≤ 11) (hx0 : ¬ x = 0) (hx : ∀ y ∈ xs, y ≠ x) (hcn : nz xs = 3) :
    Met l Z (⟨"com/example/orthrus/orthrus/SignatureSet", "add", "(J)Z"⟩ : MethodName) prog_8_method_3_code 4 (some .boolean) ({ frames := 3, cells := 0, slots := 0, locals := 62 } : Room) [(.ref o), (.long x)] ((o, oI "com/example/orthrus/orthrus/SignatureSet" sg_1 [(.long ms), (.ref a), (.int (3 : Int32)), (.int hz)]) :: (a, oJ xs) :: F) (Q_c_add3 o a ms x hz n xs F) := by
  refine Met.of_wp (Ls := #[.val (.ref o), .val (.long x), .second, .unset]) pn_9 (fun m => (entry_loc m _ _).trans rfl) ?_
  show Wp none l Z "com/example/orthrus/orthrus/SignatureSet" "add" prog_8_method_3_code 4 (some .boolean) ({ frames := 3, cells := 0, slots := 0, locals := 62 } : Room) ((o, oI "com/example/orthrus/orthrus/SignatureSet" sg_1 [(.long ms), (.ref a), (.int (3 : Int32)), (.int hz)]) :: (a, oJ xs) :: F) 0 0 0 #[.val (.ref o), .val (.long x), .second, .unset] [] (Q_c_add3 o a ms x hz n xs F)
  refine wp_lload_n D_prog_8_m3_0 rfl ?_
  refine wp_lconst 0 D_prog_8_m3_1 (by decide) ?_
  refine wp_lcmp_ne D_prog_8_m3_2 D_prog_8_m3_3 (pc'' := 26) ⟨by decide, by decide⟩ (fun h1 => ?_) (fun h1 => by exact absurd h1 hx0)
  refine wp_lload_n D_prog_8_m3_26 rfl ?_
  refine wp_aload_n D_prog_8_m3_27 rfl rfl ?_
  refine wp_getfield D_prog_8_m3_28 (hw _ (List.mem_of_getElem? (i := 12) rfl)) (fld_new (i := 0) (fi := 1) rfl rfl rfl) ?_
  refine wp_lengthJ (i := 1) n D_prog_8_m3_31 rfl hl ?_
  refine wp_callS (c_slot l Z a0 hw x n ((o, oI "com/example/orthrus/orthrus/SignatureSet" sg_1 [(.long ms), (.ref a), (.int (3 : Int32)), (.int hz)]) :: (a, oJ xs) :: F)) D_prog_8_m3_32 (hw _ (List.mem_of_getElem? (i := 19) rfl)) (hw _ (List.mem_of_getElem? (i := 20) rfl)) (hw _ (List.mem_of_getElem? (i := 2) rfl)) (hw _ (List.mem_of_getElem? (i := 21) rfl)) (by decide) pd_2 rfl rfl rfl (Nat.le_of_ble_eq_true rfl) (Nat.le_of_ble_eq_true rfl) (Nat.le_of_ble_eq_true rfl) (Nat.le_of_ble_eq_true rfl) ?_
  rintro _ _ ⟨rfl, rfl⟩
  show Wp none l Z "com/example/orthrus/orthrus/SignatureSet" "add" prog_8_method_3_code 4 (some .boolean) ({ frames := 3, cells := 0, slots := 0, locals := 62 } : Room) ((o, oI "com/example/orthrus/orthrus/SignatureSet" sg_1 [(.long ms), (.ref a), (.int (3 : Int32)), (.int hz)]) :: (a, oJ xs) :: F) 0 0 35 #[.val (.ref o), .val (.long x), .second, .unset] [(.int (f_slot (f_mix x) n))] (Q_c_add3 o a ms x hz n xs F)
  generalize hg_x2 : (f_slot (f_mix x) n) = x2
  refine wp_istore_n #[.val (.ref o), .val (.long x), .second, .val (.int x2)] D_prog_8_m3_35 rfl ?_
  have hs_x := own_slot (f_mix x) n (by omega)
  rw [hg_x2] at hs_x
  obtain ⟨z, hz1, hz0⟩ := nz_zero xs (by omega)
  refine lp_addS l Z a0 hw o a ms x hz 3 n xs F _ hl hL hx z hz1 hz0 (fun s hq0 hq1 hv => ?_) _ x2 hs_x.1 hs_x.2 rfl
  show Wp none l Z "com/example/orthrus/orthrus/SignatureSet" "add" prog_8_method_3_code 4 (some .boolean) ({ frames := 3, cells := 0, slots := 0, locals := 62 } : Room) ((o, oI "com/example/orthrus/orthrus/SignatureSet" sg_1 [(.long ms), (.ref a), (.int (3 : Int32)), (.int hz)]) :: (a, oJ xs) :: F) 0 0 73 #[.val (.ref o), .val (.long x), .second, .val (.int s)] [] (Q_c_add3 o a ms x hz n xs F)
  refine wp_aload_n D_prog_8_m3_73 rfl rfl ?_
  refine wp_virtual (c_full l Z a0 hw o a ms hz (3 : Int32) n xs F (by first | exact hl | (simp only [List.length_set]; exact hl))) (exa_new (i := 0) rfl) D_prog_8_m3_74 (hw _ (List.mem_of_getElem? (i := 36) rfl)) (hw _ (List.mem_of_getElem? (i := 37) rfl)) (hw _ (List.mem_of_getElem? (i := 39) rfl)) (hw _ (List.mem_of_getElem? (i := 39) rfl)) (hw _ (List.mem_of_getElem? (i := 38) rfl)) (hw _ (List.mem_of_getElem? (i := 2) rfl)) (hw _ (List.mem_of_getElem? (i := 40) rfl)) (by decide) pd_4 rfl rfl rfl (Nat.le_of_ble_eq_true rfl) (Nat.le_of_ble_eq_true rfl) (Nat.le_of_ble_eq_true rfl) (Nat.le_of_ble_eq_true rfl) ?_
  rintro _ _ ⟨rfl, rfl⟩
  rw [show f_full (3 : Int32) n = (0 : Int32) from by unfold f_full; rw [own_n4 n hn]; rfl]
  show Wp none l Z "com/example/orthrus/orthrus/SignatureSet" "add" prog_8_method_3_code 4 (some .boolean) ({ frames := 3, cells := 0, slots := 0, locals := 62 } : Room) ((o, oI "com/example/orthrus/orthrus/SignatureSet" sg_1 [(.long ms), (.ref a), (.int (3 : Int32)), (.int hz)]) :: (a, oJ xs) :: F) 0 0 77 #[.val (.ref o), .val (.long x), .second, .val (.int s)] [(.int (0 : Int32))] (Q_c_add3 o a ms x hz n xs F)
  refine wp_if_eq D_prog_8_m3_77 (pc'' := 97) ⟨by decide, by decide⟩ (fun h3 => ?_) (fun h3 => by exact absurd h3 (by decide))
  refine wp_aload_n D_prog_8_m3_97 rfl rfl ?_
  refine wp_getfield D_prog_8_m3_98 (hw _ (List.mem_of_getElem? (i := 12) rfl)) (fld_new (i := 0) (fi := 1) rfl rfl rfl) ?_
  refine wp_iload_n D_prog_8_m3_101 rfl ?_
  refine wp_lload_n D_prog_8_m3_102 rfl ?_
  refine wp_lastore (i := 1) (s.toNatClampNeg) D_prog_8_m3_103 rfl (own_i32 _ hq0) rfl (by have := own_cn s; omega) ?_
  show Wp none l Z "com/example/orthrus/orthrus/SignatureSet" "add" prog_8_method_3_code 4 (some .boolean) ({ frames := 3, cells := 0, slots := 0, locals := 62 } : Room) ((o, oI "com/example/orthrus/orthrus/SignatureSet" sg_1 [(.long ms), (.ref a), (.int (3 : Int32)), (.int hz)]) :: (a, oJ (xs.set (s.toNatClampNeg) x)) :: F) 0 0 104 #[.val (.ref o), .val (.long x), .second, .val (.int s)] [] (Q_c_add3 o a ms x hz n xs F)
  refine wp_aload_n D_prog_8_m3_104 rfl rfl ?_
  refine wp_dup D_prog_8_m3_105 rfl ?_
  refine wp_getfield D_prog_8_m3_106 (hw _ (List.mem_of_getElem? (i := 41) rfl)) (fld_new (i := 0) (fi := 2) rfl rfl rfl) ?_
  refine wp_iconst 1 D_prog_8_m3_109 (by decide) ?_
  refine wp_iadd D_prog_8_m3_110 ?_
  rw [show ((3 : Int32) + (1 : Int32)) = (4 : Int32) from by decide]
  refine wp_putfield (i := 0) (fi := 2) (ty := .int) D_prog_8_m3_111 (hw _ (List.mem_of_getElem? (i := 41) rfl)) rfl rfl rfl (Or.inl (hw _ (List.mem_of_getElem? (i := 42) rfl))) (hw _ (List.mem_of_getElem? (i := 1) rfl)) (by decide) rfl rfl ?_
  show Wp none l Z "com/example/orthrus/orthrus/SignatureSet" "add" prog_8_method_3_code 4 (some .boolean) ({ frames := 3, cells := 0, slots := 0, locals := 62 } : Room) ((o, oI "com/example/orthrus/orthrus/SignatureSet" sg_1 [(.long ms), (.ref a), (.int (4 : Int32)), (.int hz)]) :: (a, oJ (xs.set (s.toNatClampNeg) x)) :: F) 0 0 114 #[.val (.ref o), .val (.long x), .second, .val (.int s)] [] (Q_c_add3 o a ms x hz n xs F)
  refine wp_aload_n D_prog_8_m3_114 rfl rfl ?_
  refine wp_virtual (c_full l Z a0 hw o a ms hz (4 : Int32) n (xs.set (s.toNatClampNeg) x) F (by first | exact hl | (simp only [List.length_set]; exact hl))) (exa_new (i := 0) rfl) D_prog_8_m3_115 (hw _ (List.mem_of_getElem? (i := 36) rfl)) (hw _ (List.mem_of_getElem? (i := 37) rfl)) (hw _ (List.mem_of_getElem? (i := 39) rfl)) (hw _ (List.mem_of_getElem? (i := 39) rfl)) (hw _ (List.mem_of_getElem? (i := 38) rfl)) (hw _ (List.mem_of_getElem? (i := 2) rfl)) (hw _ (List.mem_of_getElem? (i := 40) rfl)) (by decide) pd_4 rfl rfl rfl (Nat.le_of_ble_eq_true rfl) (Nat.le_of_ble_eq_true rfl) (Nat.le_of_ble_eq_true rfl) (Nat.le_of_ble_eq_true rfl) ?_
  rintro _ _ ⟨rfl, rfl⟩
  rw [show f_full (4 : Int32) n = (0 : Int32) from by unfold f_full; rw [own_n4 n hn]; rfl]
  show Wp none l Z "com/example/orthrus/orthrus/SignatureSet" "add" prog_8_method_3_code 4 (some .boolean) ({ frames := 3, cells := 0, slots := 0, locals := 62 } : Room) ((o, oI "com/example/orthrus/orthrus/SignatureSet" sg_1 [(.long ms), (.ref a), (.int (4 : Int32)), (.int hz)]) :: (a, oJ (xs.set (s.toNatClampNeg) x)) :: F) 0 0 118 #[.val (.ref o), .val (.long x), .second, .val (.int s)] [(.int (0 : Int32))] (Q_c_add3 o a ms x hz n xs F)
  refine wp_if_eq D_prog_8_m3_118 (pc'' := 125) ⟨by decide, by decide⟩ (fun h4 => ?_) (fun h4 => by exact absurd h4 (by decide))
  refine wp_iconst 1 D_prog_8_m3_125 (by decide) ?_
  refine wp_ireturnN D_prog_8_m3_126 rfl (by simp) (by decide) (by decide) ?_
  exact ⟨rfl, _, rfl, List.length_set, by rw [nz_set _ _ _ hv hx0, hcn], fun y hy => List.mem_or_eq_of_mem_set hy⟩
def Q_c_add4 (o a : Addr) (ms x : Int64) (hz n : Int32) (xs : List Int64) (F : OH) : Option Value → OH → Prop := fun v H' => v = some (.int 1) ∧ ∃ xs', H' = (o, oI "com/example/orthrus/orthrus/SignatureSet" sg_1 [(.long ms), (.ref a), (.int (5 : Int32)), (.int hz)]) :: (a, oJ xs') :: F ∧ xs'.length = xs.length ∧ nz xs' = 5 ∧ ∀ y ∈ xs', y ∈ xs ∨ y = x
set_option maxRecDepth 65536 in
set_option maxHeartbeats 40000000 in
theorem c_add4 (l : Launch) (Z : State) (a0 : Array Value) (hw : ∀ d ∈ tables_1, d.before a0 Z = true) (o a : Addr) (ms x : Int64) (hz n : Int32) (xs : List Int64) (F : OH)  (hl : xs.length.toInt32 = n) (hL : (xs.length : Int) = n.toInt) (hn : 8 ≤ n.toInt ∧ n.toInt ≤ 11) (hx0 : ¬ x = 0) (hx : ∀ y ∈ xs, y ≠ x) (hcn : nz xs = 4) :
    Met l Z (⟨"com/example/orthrus/orthrus/SignatureSet", "add", "(J)Z"⟩ : MethodName) prog_8_method_3_code 4 (some .boolean) ({ frames := 3, cells := 0, slots := 0, locals := 62 } : Room) [(.ref o), (.long x)] ((o, oI "com/example/orthrus/orthrus/SignatureSet" sg_1 [(.long ms), (.ref a), (.int (4 : Int32)), (.int hz)]) :: (a, oJ xs) :: F) (Q_c_add4 o a ms x hz n xs F) := by
  refine Met.of_wp (Ls := #[.val (.ref o), .val (.long x), .second, .unset]) pn_9 (fun m => (entry_loc m _ _).trans rfl) ?_
  show Wp none l Z "com/example/orthrus/orthrus/SignatureSet" "add" prog_8_method_3_code 4 (some .boolean) ({ frames := 3, cells := 0, slots := 0, locals := 62 } : Room) ((o, oI "com/example/orthrus/orthrus/SignatureSet" sg_1 [(.long ms), (.ref a), (.int (4 : Int32)), (.int hz)]) :: (a, oJ xs) :: F) 0 0 0 #[.val (.ref o), .val (.long x), .second, .unset] [] (Q_c_add4 o a ms x hz n xs F)
  refine wp_lload_n D_prog_8_m3_0 rfl ?_
  refine wp_lconst 0 D_prog_8_m3_1 (by decide) ?_
  refine wp_lcmp_ne D_prog_8_m3_2 D_prog_8_m3_3 (pc'' := 26) ⟨by decide, by decide⟩ (fun h1 => ?_) (fun h1 => by exact absurd h1 hx0)
  refine wp_lload_n D_prog_8_m3_26 rfl ?_
  refine wp_aload_n D_prog_8_m3_27 rfl rfl ?_
  refine wp_getfield D_prog_8_m3_28 (hw _ (List.mem_of_getElem? (i := 12) rfl)) (fld_new (i := 0) (fi := 1) rfl rfl rfl) ?_
  refine wp_lengthJ (i := 1) n D_prog_8_m3_31 rfl hl ?_
  refine wp_callS (c_slot l Z a0 hw x n ((o, oI "com/example/orthrus/orthrus/SignatureSet" sg_1 [(.long ms), (.ref a), (.int (4 : Int32)), (.int hz)]) :: (a, oJ xs) :: F)) D_prog_8_m3_32 (hw _ (List.mem_of_getElem? (i := 19) rfl)) (hw _ (List.mem_of_getElem? (i := 20) rfl)) (hw _ (List.mem_of_getElem? (i := 2) rfl)) (hw _ (List.mem_of_getElem? (i := 21) rfl)) (by decide) pd_2 rfl rfl rfl (Nat.le_of_ble_eq_true rfl) (Nat.le_of_ble_eq_true rfl) (Nat.le_of_ble_eq_true rfl) (Nat.le_of_ble_eq_true rfl) ?_
  rintro _ _ ⟨rfl, rfl⟩
  show Wp none l Z "com/example/orthrus/orthrus/SignatureSet" "add" prog_8_method_3_code 4 (some .boolean) ({ frames := 3, cells := 0, slots := 0, locals := 62 } : Room) ((o, oI "com/example/orthrus/orthrus/SignatureSet" sg_1 [(.long ms), (.ref a), (.int (4 : Int32)), (.int hz)]) :: (a, oJ xs) :: F) 0 0 35 #[.val (.ref o), .val (.long x), .second, .unset] [(.int (f_slot (f_mix x) n))] (Q_c_add4 o a ms x hz n xs F)
  generalize hg_x2 : (f_slot (f_mix x) n) = x2
  refine wp_istore_n #[.val (.ref o), .val (.long x), .second, .val (.int x2)] D_prog_8_m3_35 rfl ?_
  have hs_x := own_slot (f_mix x) n (by omega)
  rw [hg_x2] at hs_x
  obtain ⟨z, hz1, hz0⟩ := nz_zero xs (by omega)
  refine lp_addS l Z a0 hw o a ms x hz 4 n xs F _ hl hL hx z hz1 hz0 (fun s hq0 hq1 hv => ?_) _ x2 hs_x.1 hs_x.2 rfl
  show Wp none l Z "com/example/orthrus/orthrus/SignatureSet" "add" prog_8_method_3_code 4 (some .boolean) ({ frames := 3, cells := 0, slots := 0, locals := 62 } : Room) ((o, oI "com/example/orthrus/orthrus/SignatureSet" sg_1 [(.long ms), (.ref a), (.int (4 : Int32)), (.int hz)]) :: (a, oJ xs) :: F) 0 0 73 #[.val (.ref o), .val (.long x), .second, .val (.int s)] [] (Q_c_add4 o a ms x hz n xs F)
  refine wp_aload_n D_prog_8_m3_73 rfl rfl ?_
  refine wp_virtual (c_full l Z a0 hw o a ms hz (4 : Int32) n xs F (by first | exact hl | (simp only [List.length_set]; exact hl))) (exa_new (i := 0) rfl) D_prog_8_m3_74 (hw _ (List.mem_of_getElem? (i := 36) rfl)) (hw _ (List.mem_of_getElem? (i := 37) rfl)) (hw _ (List.mem_of_getElem? (i := 39) rfl)) (hw _ (List.mem_of_getElem? (i := 39) rfl)) (hw _ (List.mem_of_getElem? (i := 38) rfl)) (hw _ (List.mem_of_getElem? (i := 2) rfl)) (hw _ (List.mem_of_getElem? (i := 40) rfl)) (by decide) pd_4 rfl rfl rfl (Nat.le_of_ble_eq_true rfl) (Nat.le_of_ble_eq_true rfl) (Nat.le_of_ble_eq_true rfl) (Nat.le_of_ble_eq_true rfl) ?_
  rintro _ _ ⟨rfl, rfl⟩
  rw [show f_full (4 : Int32) n = (0 : Int32) from by unfold f_full; rw [own_n4 n hn]; rfl]
  show Wp none l Z "com/example/orthrus/orthrus/SignatureSet" "add" prog_8_method_3_code 4 (some .boolean) ({ frames := 3, cells := 0, slots := 0, locals := 62 } : Room) ((o, oI "com/example/orthrus/orthrus/SignatureSet" sg_1 [(.long ms), (.ref a), (.int (4 : Int32)), (.int hz)]) :: (a, oJ xs) :: F) 0 0 77 #[.val (.ref o), .val (.long x), .second, .val (.int s)] [(.int (0 : Int32))] (Q_c_add4 o a ms x hz n xs F)
  refine wp_if_eq D_prog_8_m3_77 (pc'' := 97) ⟨by decide, by decide⟩ (fun h3 => ?_) (fun h3 => by exact absurd h3 (by decide))
  refine wp_aload_n D_prog_8_m3_97 rfl rfl ?_
  refine wp_getfield D_prog_8_m3_98 (hw _ (List.mem_of_getElem? (i := 12) rfl)) (fld_new (i := 0) (fi := 1) rfl rfl rfl) ?_
  refine wp_iload_n D_prog_8_m3_101 rfl ?_
  refine wp_lload_n D_prog_8_m3_102 rfl ?_
  refine wp_lastore (i := 1) (s.toNatClampNeg) D_prog_8_m3_103 rfl (own_i32 _ hq0) rfl (by have := own_cn s; omega) ?_
  show Wp none l Z "com/example/orthrus/orthrus/SignatureSet" "add" prog_8_method_3_code 4 (some .boolean) ({ frames := 3, cells := 0, slots := 0, locals := 62 } : Room) ((o, oI "com/example/orthrus/orthrus/SignatureSet" sg_1 [(.long ms), (.ref a), (.int (4 : Int32)), (.int hz)]) :: (a, oJ (xs.set (s.toNatClampNeg) x)) :: F) 0 0 104 #[.val (.ref o), .val (.long x), .second, .val (.int s)] [] (Q_c_add4 o a ms x hz n xs F)
  refine wp_aload_n D_prog_8_m3_104 rfl rfl ?_
  refine wp_dup D_prog_8_m3_105 rfl ?_
  refine wp_getfield D_prog_8_m3_106 (hw _ (List.mem_of_getElem? (i := 41) rfl)) (fld_new (i := 0) (fi := 2) rfl rfl rfl) ?_
  refine wp_iconst 1 D_prog_8_m3_109 (by decide) ?_
  refine wp_iadd D_prog_8_m3_110 ?_
  rw [show ((4 : Int32) + (1 : Int32)) = (5 : Int32) from by decide]
  refine wp_putfield (i := 0) (fi := 2) (ty := .int) D_prog_8_m3_111 (hw _ (List.mem_of_getElem? (i := 41) rfl)) rfl rfl rfl (Or.inl (hw _ (List.mem_of_getElem? (i := 42) rfl))) (hw _ (List.mem_of_getElem? (i := 1) rfl)) (by decide) rfl rfl ?_
  show Wp none l Z "com/example/orthrus/orthrus/SignatureSet" "add" prog_8_method_3_code 4 (some .boolean) ({ frames := 3, cells := 0, slots := 0, locals := 62 } : Room) ((o, oI "com/example/orthrus/orthrus/SignatureSet" sg_1 [(.long ms), (.ref a), (.int (5 : Int32)), (.int hz)]) :: (a, oJ (xs.set (s.toNatClampNeg) x)) :: F) 0 0 114 #[.val (.ref o), .val (.long x), .second, .val (.int s)] [] (Q_c_add4 o a ms x hz n xs F)
  refine wp_aload_n D_prog_8_m3_114 rfl rfl ?_
  refine wp_virtual (c_full l Z a0 hw o a ms hz (5 : Int32) n (xs.set (s.toNatClampNeg) x) F (by first | exact hl | (simp only [List.length_set]; exact hl))) (exa_new (i := 0) rfl) D_prog_8_m3_115 (hw _ (List.mem_of_getElem? (i := 36) rfl)) (hw _ (List.mem_of_getElem? (i := 37) rfl)) (hw _ (List.mem_of_getElem? (i := 39) rfl)) (hw _ (List.mem_of_getElem? (i := 39) rfl)) (hw _ (List.mem_of_getElem? (i := 38) rfl)) (hw _ (List.mem_of_getElem? (i := 2) rfl)) (hw _ (List.mem_of_getElem? (i := 40) rfl)) (by decide) pd_4 rfl rfl rfl (Nat.le_of_ble_eq_true rfl) (Nat.le_of_ble_eq_true rfl) (Nat.le_of_ble_eq_true rfl) (Nat.le_of_ble_eq_true rfl) ?_
  rintro _ _ ⟨rfl, rfl⟩
  rw [show f_full (5 : Int32) n = (0 : Int32) from by unfold f_full; rw [own_n4 n hn]; rfl]
  show Wp none l Z "com/example/orthrus/orthrus/SignatureSet" "add" prog_8_method_3_code 4 (some .boolean) ({ frames := 3, cells := 0, slots := 0, locals := 62 } : Room) ((o, oI "com/example/orthrus/orthrus/SignatureSet" sg_1 [(.long ms), (.ref a), (.int (5 : Int32)), (.int hz)]) :: (a, oJ (xs.set (s.toNatClampNeg) x)) :: F) 0 0 118 #[.val (.ref o), .val (.long x), .second, .val (.int s)] [(.int (0 : Int32))] (Q_c_add4 o a ms x hz n xs F)
  refine wp_if_eq D_prog_8_m3_118 (pc'' := 125) ⟨by decide, by decide⟩ (fun h4 => ?_) (fun h4 => by exact absurd h4 (by decide))
  refine wp_iconst 1 D_prog_8_m3_125 (by decide) ?_
  refine wp_ireturnN D_prog_8_m3_126 rfl (by simp) (by decide) (by decide) ?_
  exact ⟨rfl, _, rfl, List.length_set, by rw [nz_set _ _ _ hv hx0, hcn], fun y hy => List.mem_or_eq_of_mem_set hy⟩
def Q_c_add5 (o a : Addr) (ms x : Int64) (hz n : Int32) (xs : List Int64) (F : OH) : Option Value → OH → Prop := fun v H' => v = some (.int 1) ∧ ∃ xs', H' = (o, oI "com/example/orthrus/orthrus/SignatureSet" sg_1 [(.long ms), (.ref a), (.int (6 : Int32)), (.int hz)]) :: (a, oJ xs') :: F ∧ xs'.length = xs.length ∧ nz xs' = 6 ∧ ∀ y ∈ xs', y ∈ xs ∨ y = x
set_option maxRecDepth 65536 in
set_option maxHeartbeats 40000000 in
theorem c_add5 (l : Launch) (Z : State) (a0 : Array Value) (hw : ∀ d ∈ tables_1, d.before a0 Z = true) (o a : Addr) (ms x : Int64) (hz n : Int32) (xs : List Int64) (F : OH)  (hl : xs.length.toInt32 = n) (hL : (xs.length : Int) = n.toInt) (hn : 8 ≤ n.toInt ∧ n.toInt ≤ 11) (hx0 : ¬ x = 0) (hx : ∀ y ∈ xs, y ≠ x) (hcn : nz xs = 5) :
    Met l Z (⟨"com/example/orthrus/orthrus/SignatureSet", "add", "(J)Z"⟩ : MethodName) prog_8_method_3_code 4 (some .boolean) ({ frames := 3, cells := 0, slots := 0, locals := 62 } : Room) [(.ref o), (.long x)] ((o, oI "com/example/orthrus/orthrus/SignatureSet" sg_1 [(.long ms), (.ref a), (.int (5 : Int32)), (.int hz)]) :: (a, oJ xs) :: F) (Q_c_add5 o a ms x hz n xs F) := by
  refine Met.of_wp (Ls := #[.val (.ref o), .val (.long x), .second, .unset]) pn_9 (fun m => (entry_loc m _ _).trans rfl) ?_
  show Wp none l Z "com/example/orthrus/orthrus/SignatureSet" "add" prog_8_method_3_code 4 (some .boolean) ({ frames := 3, cells := 0, slots := 0, locals := 62 } : Room) ((o, oI "com/example/orthrus/orthrus/SignatureSet" sg_1 [(.long ms), (.ref a), (.int (5 : Int32)), (.int hz)]) :: (a, oJ xs) :: F) 0 0 0 #[.val (.ref o), .val (.long x), .second, .unset] [] (Q_c_add5 o a ms x hz n xs F)
  refine wp_lload_n D_prog_8_m3_0 rfl ?_
  refine wp_lconst 0 D_prog_8_m3_1 (by decide) ?_
  refine wp_lcmp_ne D_prog_8_m3_2 D_prog_8_m3_3 (pc'' := 26) ⟨by decide, by decide⟩ (fun h1 => ?_) (fun h1 => by exact absurd h1 hx0)
  refine wp_lload_n D_prog_8_m3_26 rfl ?_
  refine wp_aload_n D_prog_8_m3_27 rfl rfl ?_
  refine wp_getfield D_prog_8_m3_28 (hw _ (List.mem_of_getElem? (i := 12) rfl)) (fld_new (i := 0) (fi := 1) rfl rfl rfl) ?_
  refine wp_lengthJ (i := 1) n D_prog_8_m3_31 rfl hl ?_
  refine wp_callS (c_slot l Z a0 hw x n ((o, oI "com/example/orthrus/orthrus/SignatureSet" sg_1 [(.long ms), (.ref a), (.int (5 : Int32)), (.int hz)]) :: (a, oJ xs) :: F)) D_prog_8_m3_32 (hw _ (List.mem_of_getElem? (i := 19) rfl)) (hw _ (List.mem_of_getElem? (i := 20) rfl)) (hw _ (List.mem_of_getElem? (i := 2) rfl)) (hw _ (List.mem_of_getElem? (i := 21) rfl)) (by decide) pd_2 rfl rfl rfl (Nat.le_of_ble_eq_true rfl) (Nat.le_of_ble_eq_true rfl) (Nat.le_of_ble_eq_true rfl) (Nat.le_of_ble_eq_true rfl) ?_
  rintro _ _ ⟨rfl, rfl⟩
  show Wp none l Z "com/example/orthrus/orthrus/SignatureSet" "add" prog_8_method_3_code 4 (some .boolean) ({ frames := 3, cells := 0, slots := 0, locals := 62 } : Room) ((o, oI "com/example/orthrus/orthrus/SignatureSet" sg_1 [(.long ms), (.ref a), (.int (5 : Int32)), (.int hz)]) :: (a, oJ xs) :: F) 0 0 35 #[.val (.ref o), .val (.long x), .second, .unset] [(.int (f_slot (f_mix x) n))] (Q_c_add5 o a ms x hz n xs F)
  generalize hg_x2 : (f_slot (f_mix x) n) = x2
  refine wp_istore_n #[.val (.ref o), .val (.long x), .second, .val (.int x2)] D_prog_8_m3_35 rfl ?_
  have hs_x := own_slot (f_mix x) n (by omega)
  rw [hg_x2] at hs_x
  obtain ⟨z, hz1, hz0⟩ := nz_zero xs (by omega)
  refine lp_addS l Z a0 hw o a ms x hz 5 n xs F _ hl hL hx z hz1 hz0 (fun s hq0 hq1 hv => ?_) _ x2 hs_x.1 hs_x.2 rfl
  show Wp none l Z "com/example/orthrus/orthrus/SignatureSet" "add" prog_8_method_3_code 4 (some .boolean) ({ frames := 3, cells := 0, slots := 0, locals := 62 } : Room) ((o, oI "com/example/orthrus/orthrus/SignatureSet" sg_1 [(.long ms), (.ref a), (.int (5 : Int32)), (.int hz)]) :: (a, oJ xs) :: F) 0 0 73 #[.val (.ref o), .val (.long x), .second, .val (.int s)] [] (Q_c_add5 o a ms x hz n xs F)
  refine wp_aload_n D_prog_8_m3_73 rfl rfl ?_
  refine wp_virtual (c_full l Z a0 hw o a ms hz (5 : Int32) n xs F (by first | exact hl | (simp only [List.length_set]; exact hl))) (exa_new (i := 0) rfl) D_prog_8_m3_74 (hw _ (List.mem_of_getElem? (i := 36) rfl)) (hw _ (List.mem_of_getElem? (i := 37) rfl)) (hw _ (List.mem_of_getElem? (i := 39) rfl)) (hw _ (List.mem_of_getElem? (i := 39) rfl)) (hw _ (List.mem_of_getElem? (i := 38) rfl)) (hw _ (List.mem_of_getElem? (i := 2) rfl)) (hw _ (List.mem_of_getElem? (i := 40) rfl)) (by decide) pd_4 rfl rfl rfl (Nat.le_of_ble_eq_true rfl) (Nat.le_of_ble_eq_true rfl) (Nat.le_of_ble_eq_true rfl) (Nat.le_of_ble_eq_true rfl) ?_
  rintro _ _ ⟨rfl, rfl⟩
  rw [show f_full (5 : Int32) n = (0 : Int32) from by unfold f_full; rw [own_n4 n hn]; rfl]
  show Wp none l Z "com/example/orthrus/orthrus/SignatureSet" "add" prog_8_method_3_code 4 (some .boolean) ({ frames := 3, cells := 0, slots := 0, locals := 62 } : Room) ((o, oI "com/example/orthrus/orthrus/SignatureSet" sg_1 [(.long ms), (.ref a), (.int (5 : Int32)), (.int hz)]) :: (a, oJ xs) :: F) 0 0 77 #[.val (.ref o), .val (.long x), .second, .val (.int s)] [(.int (0 : Int32))] (Q_c_add5 o a ms x hz n xs F)
  refine wp_if_eq D_prog_8_m3_77 (pc'' := 97) ⟨by decide, by decide⟩ (fun h3 => ?_) (fun h3 => by exact absurd h3 (by decide))
  refine wp_aload_n D_prog_8_m3_97 rfl rfl ?_
  refine wp_getfield D_prog_8_m3_98 (hw _ (List.mem_of_getElem? (i := 12) rfl)) (fld_new (i := 0) (fi := 1) rfl rfl rfl) ?_
  refine wp_iload_n D_prog_8_m3_101 rfl ?_
  refine wp_lload_n D_prog_8_m3_102 rfl ?_
  refine wp_lastore (i := 1) (s.toNatClampNeg) D_prog_8_m3_103 rfl (own_i32 _ hq0) rfl (by have := own_cn s; omega) ?_
  show Wp none l Z "com/example/orthrus/orthrus/SignatureSet" "add" prog_8_method_3_code 4 (some .boolean) ({ frames := 3, cells := 0, slots := 0, locals := 62 } : Room) ((o, oI "com/example/orthrus/orthrus/SignatureSet" sg_1 [(.long ms), (.ref a), (.int (5 : Int32)), (.int hz)]) :: (a, oJ (xs.set (s.toNatClampNeg) x)) :: F) 0 0 104 #[.val (.ref o), .val (.long x), .second, .val (.int s)] [] (Q_c_add5 o a ms x hz n xs F)
  refine wp_aload_n D_prog_8_m3_104 rfl rfl ?_
  refine wp_dup D_prog_8_m3_105 rfl ?_
  refine wp_getfield D_prog_8_m3_106 (hw _ (List.mem_of_getElem? (i := 41) rfl)) (fld_new (i := 0) (fi := 2) rfl rfl rfl) ?_
  refine wp_iconst 1 D_prog_8_m3_109 (by decide) ?_
  refine wp_iadd D_prog_8_m3_110 ?_
  rw [show ((5 : Int32) + (1 : Int32)) = (6 : Int32) from by decide]
  refine wp_putfield (i := 0) (fi := 2) (ty := .int) D_prog_8_m3_111 (hw _ (List.mem_of_getElem? (i := 41) rfl)) rfl rfl rfl (Or.inl (hw _ (List.mem_of_getElem? (i := 42) rfl))) (hw _ (List.mem_of_getElem? (i := 1) rfl)) (by decide) rfl rfl ?_
  show Wp none l Z "com/example/orthrus/orthrus/SignatureSet" "add" prog_8_method_3_code 4 (some .boolean) ({ frames := 3, cells := 0, slots := 0, locals := 62 } : Room) ((o, oI "com/example/orthrus/orthrus/SignatureSet" sg_1 [(.long ms), (.ref a), (.int (6 : Int32)), (.int hz)]) :: (a, oJ (xs.set (s.toNatClampNeg) x)) :: F) 0 0 114 #[.val (.ref o), .val (.long x), .second, .val (.int s)] [] (Q_c_add5 o a ms x hz n xs F)
  refine wp_aload_n D_prog_8_m3_114 rfl rfl ?_
  refine wp_virtual (c_full l Z a0 hw o a ms hz (6 : Int32) n (xs.set (s.toNatClampNeg) x) F (by first | exact hl | (simp only [List.length_set]; exact hl))) (exa_new (i := 0) rfl) D_prog_8_m3_115 (hw _ (List.mem_of_getElem? (i := 36) rfl)) (hw _ (List.mem_of_getElem? (i := 37) rfl)) (hw _ (List.mem_of_getElem? (i := 39) rfl)) (hw _ (List.mem_of_getElem? (i := 39) rfl)) (hw _ (List.mem_of_getElem? (i := 38) rfl)) (hw _ (List.mem_of_getElem? (i := 2) rfl)) (hw _ (List.mem_of_getElem? (i := 40) rfl)) (by decide) pd_4 rfl rfl rfl (Nat.le_of_ble_eq_true rfl) (Nat.le_of_ble_eq_true rfl) (Nat.le_of_ble_eq_true rfl) (Nat.le_of_ble_eq_true rfl) ?_
  rintro _ _ ⟨rfl, rfl⟩
  rw [show f_full (6 : Int32) n = (0 : Int32) from by unfold f_full; rw [own_n4 n hn]; rfl]
  show Wp none l Z "com/example/orthrus/orthrus/SignatureSet" "add" prog_8_method_3_code 4 (some .boolean) ({ frames := 3, cells := 0, slots := 0, locals := 62 } : Room) ((o, oI "com/example/orthrus/orthrus/SignatureSet" sg_1 [(.long ms), (.ref a), (.int (6 : Int32)), (.int hz)]) :: (a, oJ (xs.set (s.toNatClampNeg) x)) :: F) 0 0 118 #[.val (.ref o), .val (.long x), .second, .val (.int s)] [(.int (0 : Int32))] (Q_c_add5 o a ms x hz n xs F)
  refine wp_if_eq D_prog_8_m3_118 (pc'' := 125) ⟨by decide, by decide⟩ (fun h4 => ?_) (fun h4 => by exact absurd h4 (by decide))
  refine wp_iconst 1 D_prog_8_m3_125 (by decide) ?_
  refine wp_ireturnN D_prog_8_m3_126 rfl (by simp) (by decide) (by decide) ?_
  exact ⟨rfl, _, rfl, List.length_set, by rw [nz_set _ _ _ hv hx0, hcn], fun y hy => List.mem_or_eq_of_mem_set hy⟩
def Q_c_add6 (o a : Addr) (ms x : Int64) (hz n m : Int32) (xs : List Int64) (F : OH) : Option Value → OH → Prop := fun v H' => v = some (.int 1) ∧ ((¬ n < m ∧ ∃ xs', xs'.length = xs.length ∧ H' = (o, oI "com/example/orthrus/orthrus/SignatureSet" sg_1 [(.long ms), (.ref a), (.int (7 : Int32)), (.int hz)]) :: (a, oJ xs') :: F) ∨ (n < m ∧ ∃ b xs' ys, ys.length.toInt32 = f_min ((2 : Int32) * n) m ∧ H' = ((b, oJ ys) :: (o, oI "com/example/orthrus/orthrus/SignatureSet" sg_1 [(.long ms), (.ref b), (.int (7 : Int32)), (.int hz)]) :: (a, oJ xs') :: F)))
set_option maxRecDepth 65536 in
set_option maxHeartbeats 40000000 in
theorem c_add6 (l : Launch) (Z : State) (a0 : Array Value) (hw : ∀ d ∈ tables_1, d.before a0 Z = true) (o a : Addr) (ms x : Int64) (hz n m : Int32) (xs : List Int64) (F : OH)  (hl : xs.length.toInt32 = n) (hL : (xs.length : Int) = n.toInt) (hn : 8 ≤ n.toInt ∧ n.toInt ≤ 11) (hx0 : ¬ x = 0) (hx : ∀ y ∈ xs, y ≠ x) (hcn : nz xs = 6) (hm : 0 ≤ m.toInt ∧ m.toInt ≤ 31) (hms : ms = n.toInt64 + m.toInt64) :
    Met l Z (⟨"com/example/orthrus/orthrus/SignatureSet", "add", "(J)Z"⟩ : MethodName) prog_8_method_3_code 4 (some .boolean) ({ frames := 4, cells := 1, slots := 22, locals := 84 } : Room) [(.ref o), (.long x)] ((o, oI "com/example/orthrus/orthrus/SignatureSet" sg_1 [(.long ms), (.ref a), (.int (6 : Int32)), (.int hz)]) :: (a, oJ xs) :: F) (Q_c_add6 o a ms x hz n m xs F) := by
  refine Met.of_wp (Ls := #[.val (.ref o), .val (.long x), .second, .unset]) pn_9 (fun m => (entry_loc m _ _).trans rfl) ?_
  show Wp none l Z "com/example/orthrus/orthrus/SignatureSet" "add" prog_8_method_3_code 4 (some .boolean) ({ frames := 4, cells := 1, slots := 22, locals := 84 } : Room) ((o, oI "com/example/orthrus/orthrus/SignatureSet" sg_1 [(.long ms), (.ref a), (.int (6 : Int32)), (.int hz)]) :: (a, oJ xs) :: F) 0 0 0 #[.val (.ref o), .val (.long x), .second, .unset] [] (Q_c_add6 o a ms x hz n m xs F)
  refine wp_lload_n D_prog_8_m3_0 rfl ?_
  refine wp_lconst 0 D_prog_8_m3_1 (by decide) ?_
  refine wp_lcmp_ne D_prog_8_m3_2 D_prog_8_m3_3 (pc'' := 26) ⟨by decide, by decide⟩ (fun h1 => ?_) (fun h1 => by exact absurd h1 hx0)
  refine wp_lload_n D_prog_8_m3_26 rfl ?_
  refine wp_aload_n D_prog_8_m3_27 rfl rfl ?_
  refine wp_getfield D_prog_8_m3_28 (hw _ (List.mem_of_getElem? (i := 12) rfl)) (fld_new (i := 0) (fi := 1) rfl rfl rfl) ?_
  refine wp_lengthJ (i := 1) n D_prog_8_m3_31 rfl hl ?_
  refine wp_callS (c_slot l Z a0 hw x n ((o, oI "com/example/orthrus/orthrus/SignatureSet" sg_1 [(.long ms), (.ref a), (.int (6 : Int32)), (.int hz)]) :: (a, oJ xs) :: F)) D_prog_8_m3_32 (hw _ (List.mem_of_getElem? (i := 19) rfl)) (hw _ (List.mem_of_getElem? (i := 20) rfl)) (hw _ (List.mem_of_getElem? (i := 2) rfl)) (hw _ (List.mem_of_getElem? (i := 21) rfl)) (by decide) pd_2 rfl rfl rfl (Nat.le_of_ble_eq_true rfl) (Nat.le_of_ble_eq_true rfl) (Nat.le_of_ble_eq_true rfl) (Nat.le_of_ble_eq_true rfl) ?_
  rintro _ _ ⟨rfl, rfl⟩
  show Wp none l Z "com/example/orthrus/orthrus/SignatureSet" "add" prog_8_method_3_code 4 (some .boolean) ({ frames := 4, cells := 1, slots := 22, locals := 84 } : Room) ((o, oI "com/example/orthrus/orthrus/SignatureSet" sg_1 [(.long ms), (.ref a), (.int (6 : Int32)), (.int hz)]) :: (a, oJ xs) :: F) 0 0 35 #[.val (.ref o), .val (.long x), .second, .unset] [(.int (f_slot (f_mix x) n))] (Q_c_add6 o a ms x hz n m xs F)
  generalize hg_x2 : (f_slot (f_mix x) n) = x2
  refine wp_istore_n #[.val (.ref o), .val (.long x), .second, .val (.int x2)] D_prog_8_m3_35 rfl ?_
  have hs_x := own_slot (f_mix x) n (by omega)
  rw [hg_x2] at hs_x
  obtain ⟨z, hz1, hz0⟩ := nz_zero xs (by omega)
  refine lp_addB l Z a0 hw o a ms x hz 6 n xs F _ hl hL hx z hz1 hz0 (fun s hq0 hq1 hv => ?_) _ x2 hs_x.1 hs_x.2 rfl
  show Wp none l Z "com/example/orthrus/orthrus/SignatureSet" "add" prog_8_method_3_code 4 (some .boolean) ({ frames := 4, cells := 1, slots := 22, locals := 84 } : Room) ((o, oI "com/example/orthrus/orthrus/SignatureSet" sg_1 [(.long ms), (.ref a), (.int (6 : Int32)), (.int hz)]) :: (a, oJ xs) :: F) 0 0 73 #[.val (.ref o), .val (.long x), .second, .val (.int s)] [] (Q_c_add6 o a ms x hz n m xs F)
  refine wp_aload_n D_prog_8_m3_73 rfl rfl ?_
  refine wp_virtual (c_full l Z a0 hw o a ms hz (6 : Int32) n xs F (by first | exact hl | (simp only [List.length_set]; exact hl))) (exa_new (i := 0) rfl) D_prog_8_m3_74 (hw _ (List.mem_of_getElem? (i := 36) rfl)) (hw _ (List.mem_of_getElem? (i := 37) rfl)) (hw _ (List.mem_of_getElem? (i := 39) rfl)) (hw _ (List.mem_of_getElem? (i := 39) rfl)) (hw _ (List.mem_of_getElem? (i := 38) rfl)) (hw _ (List.mem_of_getElem? (i := 2) rfl)) (hw _ (List.mem_of_getElem? (i := 40) rfl)) (by decide) pd_4 rfl rfl rfl (Nat.le_of_ble_eq_true rfl) (Nat.le_of_ble_eq_true rfl) (Nat.le_of_ble_eq_true rfl) (Nat.le_of_ble_eq_true rfl) ?_
  rintro _ _ ⟨rfl, rfl⟩
  rw [show f_full (6 : Int32) n = (0 : Int32) from by unfold f_full; rw [own_n4 n hn]; rfl]
  show Wp none l Z "com/example/orthrus/orthrus/SignatureSet" "add" prog_8_method_3_code 4 (some .boolean) ({ frames := 4, cells := 1, slots := 22, locals := 84 } : Room) ((o, oI "com/example/orthrus/orthrus/SignatureSet" sg_1 [(.long ms), (.ref a), (.int (6 : Int32)), (.int hz)]) :: (a, oJ xs) :: F) 0 0 77 #[.val (.ref o), .val (.long x), .second, .val (.int s)] [(.int (0 : Int32))] (Q_c_add6 o a ms x hz n m xs F)
  refine wp_if_eq D_prog_8_m3_77 (pc'' := 97) ⟨by decide, by decide⟩ (fun h3 => ?_) (fun h3 => by exact absurd h3 (by decide))
  refine wp_aload_n D_prog_8_m3_97 rfl rfl ?_
  refine wp_getfield D_prog_8_m3_98 (hw _ (List.mem_of_getElem? (i := 12) rfl)) (fld_new (i := 0) (fi := 1) rfl rfl rfl) ?_
  refine wp_iload_n D_prog_8_m3_101 rfl ?_
  refine wp_lload_n D_prog_8_m3_102 rfl ?_
  refine wp_lastore (i := 1) (s.toNatClampNeg) D_prog_8_m3_103 rfl (own_i32 _ hq0) rfl (by have := own_cn s; omega) ?_
  show Wp none l Z "com/example/orthrus/orthrus/SignatureSet" "add" prog_8_method_3_code 4 (some .boolean) ({ frames := 4, cells := 1, slots := 22, locals := 84 } : Room) ((o, oI "com/example/orthrus/orthrus/SignatureSet" sg_1 [(.long ms), (.ref a), (.int (6 : Int32)), (.int hz)]) :: (a, oJ (xs.set (s.toNatClampNeg) x)) :: F) 0 0 104 #[.val (.ref o), .val (.long x), .second, .val (.int s)] [] (Q_c_add6 o a ms x hz n m xs F)
  refine wp_aload_n D_prog_8_m3_104 rfl rfl ?_
  refine wp_dup D_prog_8_m3_105 rfl ?_
  refine wp_getfield D_prog_8_m3_106 (hw _ (List.mem_of_getElem? (i := 41) rfl)) (fld_new (i := 0) (fi := 2) rfl rfl rfl) ?_
  refine wp_iconst 1 D_prog_8_m3_109 (by decide) ?_
  refine wp_iadd D_prog_8_m3_110 ?_
  rw [show ((6 : Int32) + (1 : Int32)) = (7 : Int32) from by decide]
  refine wp_putfield (i := 0) (fi := 2) (ty := .int) D_prog_8_m3_111 (hw _ (List.mem_of_getElem? (i := 41) rfl)) rfl rfl rfl (Or.inl (hw _ (List.mem_of_getElem? (i := 42) rfl))) (hw _ (List.mem_of_getElem? (i := 1) rfl)) (by decide) rfl rfl ?_
  show Wp none l Z "com/example/orthrus/orthrus/SignatureSet" "add" prog_8_method_3_code 4 (some .boolean) ({ frames := 4, cells := 1, slots := 22, locals := 84 } : Room) ((o, oI "com/example/orthrus/orthrus/SignatureSet" sg_1 [(.long ms), (.ref a), (.int (7 : Int32)), (.int hz)]) :: (a, oJ (xs.set (s.toNatClampNeg) x)) :: F) 0 0 114 #[.val (.ref o), .val (.long x), .second, .val (.int s)] [] (Q_c_add6 o a ms x hz n m xs F)
  refine wp_aload_n D_prog_8_m3_114 rfl rfl ?_
  refine wp_virtual (c_full l Z a0 hw o a ms hz (7 : Int32) n (xs.set (s.toNatClampNeg) x) F (by first | exact hl | (simp only [List.length_set]; exact hl))) (exa_new (i := 0) rfl) D_prog_8_m3_115 (hw _ (List.mem_of_getElem? (i := 36) rfl)) (hw _ (List.mem_of_getElem? (i := 37) rfl)) (hw _ (List.mem_of_getElem? (i := 39) rfl)) (hw _ (List.mem_of_getElem? (i := 39) rfl)) (hw _ (List.mem_of_getElem? (i := 38) rfl)) (hw _ (List.mem_of_getElem? (i := 2) rfl)) (hw _ (List.mem_of_getElem? (i := 40) rfl)) (by decide) pd_4 rfl rfl rfl (Nat.le_of_ble_eq_true rfl) (Nat.le_of_ble_eq_true rfl) (Nat.le_of_ble_eq_true rfl) (Nat.le_of_ble_eq_true rfl) ?_
  rintro _ _ ⟨rfl, rfl⟩
  rw [show f_full (7 : Int32) n = (1 : Int32) from by unfold f_full; rw [own_n4 n hn]; rfl]
  show Wp none l Z "com/example/orthrus/orthrus/SignatureSet" "add" prog_8_method_3_code 4 (some .boolean) ({ frames := 4, cells := 1, slots := 22, locals := 84 } : Room) ((o, oI "com/example/orthrus/orthrus/SignatureSet" sg_1 [(.long ms), (.ref a), (.int (7 : Int32)), (.int hz)]) :: (a, oJ (xs.set (s.toNatClampNeg) x)) :: F) 0 0 118 #[.val (.ref o), .val (.long x), .second, .val (.int s)] [(.int (1 : Int32))] (Q_c_add6 o a ms x hz n m xs F)
  refine wp_if_eq D_prog_8_m3_118 (pc'' := 125) ⟨by decide, by decide⟩ (fun h4 => by exact absurd h4 (by decide)) (fun h4 => ?_)
  refine wp_aload_n D_prog_8_m3_121 rfl rfl ?_
  refine wp_private (c_grow l Z a0 hw o a ms hz n m (xs.set (s.toNatClampNeg) x) F (by simp only [List.length_set]; exact hl) (by simp only [List.length_set]; exact hL) hn hm hms) (exa_new (i := 0) rfl) D_prog_8_m3_122 (hw _ (List.mem_of_getElem? (i := 55) rfl)) (hw _ (List.mem_of_getElem? (i := 56) rfl)) (hw _ (List.mem_of_getElem? (i := 1) rfl)) (hw _ (List.mem_of_getElem? (i := 57) rfl)) (hw _ (List.mem_of_getElem? (i := 2) rfl)) (hw _ (List.mem_of_getElem? (i := 58) rfl)) (by decide) pd_6 rfl rfl rfl (Nat.le_of_ble_eq_true rfl) (Nat.le_of_ble_eq_true rfl) (Nat.le_of_ble_eq_true rfl) (Nat.le_of_ble_eq_true rfl) ?_
  rintro _ _ ⟨rfl, ⟨hnm, rfl⟩ | ⟨hnm, b, ys, hyl, rfl⟩⟩
  · skip
    show Wp none l Z "com/example/orthrus/orthrus/SignatureSet" "add" prog_8_method_3_code 4 (some .boolean) ({ frames := 4, cells := 1, slots := 22, locals := 84 } : Room) ((o, oI "com/example/orthrus/orthrus/SignatureSet" sg_1 [(.long ms), (.ref a), (.int (7 : Int32)), (.int hz)]) :: (a, oJ (xs.set (s.toNatClampNeg) x)) :: F) 1 22 125 #[.val (.ref o), .val (.long x), .second, .val (.int s)] [] (Q_c_add6 o a ms x hz n m xs F)
    refine wp_iconst 1 D_prog_8_m3_125 (by decide) ?_
    refine wp_ireturnN D_prog_8_m3_126 rfl (by simp) (by decide) (by decide) ?_
    exact ⟨rfl, Or.inl ⟨hnm, _, List.length_set, rfl⟩⟩
  · skip
    show Wp none l Z "com/example/orthrus/orthrus/SignatureSet" "add" prog_8_method_3_code 4 (some .boolean) ({ frames := 4, cells := 1, slots := 22, locals := 84 } : Room) ((b, oJ ys) :: (o, oI "com/example/orthrus/orthrus/SignatureSet" sg_1 [(.long ms), (.ref b), (.int (7 : Int32)), (.int hz)]) :: (a, oJ (xs.set (s.toNatClampNeg) x)) :: F) 1 22 125 #[.val (.ref o), .val (.long x), .second, .val (.int s)] [] (Q_c_add6 o a ms x hz n m xs F)
    refine wp_iconst 1 D_prog_8_m3_125 (by decide) ?_
    refine wp_ireturnN D_prog_8_m3_126 rfl (by simp) (by decide) (by decide) ?_
    exact ⟨rfl, Or.inr ⟨hnm, _, _, _, hyl, rfl⟩⟩
def Q_c_addz (o a : Addr) (ms : Int64) (F : OH) : Option Value → OH → Prop := fun v H' => v = some (.int 1) ∧ H' = (o, oI "com/example/orthrus/orthrus/SignatureSet" sg_1 [(.long ms), (.ref a), (.int (0 : Int32)), (.int (1 : Int32))]) :: F
set_option maxRecDepth 65536 in
set_option maxHeartbeats 40000000 in
theorem c_addz (l : Launch) (Z : State) (a0 : Array Value) (hw : ∀ d ∈ tables_1, d.before a0 Z = true) (o a : Addr) (ms : Int64) (F : OH)  :
    Met l Z (⟨"com/example/orthrus/orthrus/SignatureSet", "add", "(J)Z"⟩ : MethodName) prog_8_method_3_code 4 (some .boolean) ({ frames := 0, cells := 0, slots := 0, locals := 0 } : Room) [(.ref o), (.long (0 : Int64))] ((o, oI "com/example/orthrus/orthrus/SignatureSet" sg_1 [(.long ms), (.ref a), (.int (0 : Int32)), (.int (0 : Int32))]) :: F) (Q_c_addz o a ms F) := by
  refine Met.of_wp (Ls := #[.val (.ref o), .val (.long (0 : Int64)), .second, .unset]) pn_9 (fun m => (entry_loc m _ _).trans rfl) ?_
  show Wp none l Z "com/example/orthrus/orthrus/SignatureSet" "add" prog_8_method_3_code 4 (some .boolean) ({ frames := 0, cells := 0, slots := 0, locals := 0 } : Room) ((o, oI "com/example/orthrus/orthrus/SignatureSet" sg_1 [(.long ms), (.ref a), (.int (0 : Int32)), (.int (0 : Int32))]) :: F) 0 0 0 #[.val (.ref o), .val (.long (0 : Int64)), .second, .unset] [] (Q_c_addz o a ms F)
  refine wp_lload_n D_prog_8_m3_0 rfl ?_
  refine wp_lconst 0 D_prog_8_m3_1 (by decide) ?_
  refine wp_lcmp_ne D_prog_8_m3_2 D_prog_8_m3_3 (pc'' := 26) ⟨by decide, by decide⟩ (fun h1 => by exact absurd h1 (by decide)) (fun h1 => ?_)
  refine wp_aload_n D_prog_8_m3_6 rfl rfl ?_
  refine wp_getfield D_prog_8_m3_7 (hw _ (List.mem_of_getElem? (i := 49) rfl)) (fld_new (i := 0) (fi := 3) rfl rfl rfl) ?_
  refine wp_if_ne D_prog_8_m3_10 (pc'' := 17) ⟨by decide, by decide⟩ (fun h2 => by exact absurd h2 (by decide)) (fun h2 => ?_)
  refine wp_iconst 1 D_prog_8_m3_13 (by decide) ?_
  refine wp_goto D_prog_8_m3_14 (pc'' := 18) ⟨by decide, by decide⟩ ?_
  refine wp_istore_n #[.val (.ref o), .val (.long (0 : Int64)), .second, .val (.int (1 : Int32))] D_prog_8_m3_18 rfl ?_
  refine wp_aload_n D_prog_8_m3_19 rfl rfl ?_
  refine wp_iconst 1 D_prog_8_m3_20 (by decide) ?_
  refine wp_putfield (i := 0) (fi := 3) (ty := .boolean) D_prog_8_m3_21 (hw _ (List.mem_of_getElem? (i := 49) rfl)) rfl rfl rfl (Or.inl (hw _ (List.mem_of_getElem? (i := 50) rfl))) (hw _ (List.mem_of_getElem? (i := 1) rfl)) (by decide) rfl rfl ?_
  show Wp none l Z "com/example/orthrus/orthrus/SignatureSet" "add" prog_8_method_3_code 4 (some .boolean) ({ frames := 0, cells := 0, slots := 0, locals := 0 } : Room) ((o, oI "com/example/orthrus/orthrus/SignatureSet" sg_1 [(.long ms), (.ref a), (.int (0 : Int32)), (.int (1 : Int32))]) :: F) 0 0 24 #[.val (.ref o), .val (.long (0 : Int64)), .second, .val (.int (1 : Int32))] [] (Q_c_addz o a ms F)
  refine wp_iload_n D_prog_8_m3_24 rfl ?_
  refine wp_ireturnN D_prog_8_m3_25 rfl (by simp) (by decide) (by decide) ?_
  exact ⟨rfl, rfl⟩
theorem pn_11 : plainFor (⟨"com/example/orthrus/orthrus/SignatureSet", "<init>", "(IJ)V"⟩ : MethodName) = true := by first | exact plainFor_of_name (by first | (simp [plainName, overriddenIn]; done) | decide +kernel) | decide +kernel
theorem D_prog_8_m2_0 : Dc prog_8_method_2_code 0 (.aload_n 0) 1 1 := ⟨by decide +kernel, rfl⟩
theorem D_prog_8_m2_1 : Dc prog_8_method_2_code 1 (.invokespecial 11) 3 4 := ⟨by decide +kernel, rfl⟩
theorem D_prog_8_m2_4 : Dc prog_8_method_2_code 4 (.aload_n 0) 1 5 := ⟨by decide +kernel, rfl⟩
theorem D_prog_8_m2_5 : Dc prog_8_method_2_code 5 (.lload_n 2) 1 6 := ⟨by decide +kernel, rfl⟩
theorem D_prog_8_m2_6 : Dc prog_8_method_2_code 6 (.putfield 16) 3 9 := ⟨by decide +kernel, rfl⟩
theorem D_prog_8_m2_9 : Dc prog_8_method_2_code 9 (.aload_n 0) 1 10 := ⟨by decide +kernel, rfl⟩
theorem D_prog_8_m2_10 : Dc prog_8_method_2_code 10 (.iload_n 1) 1 11 := ⟨by decide +kernel, rfl⟩
theorem D_prog_8_m2_11 : Dc prog_8_method_2_code 11 (.newarray .long) 2 13 := ⟨by decide +kernel, rfl⟩
theorem D_prog_8_m2_13 : Dc prog_8_method_2_code 13 (.putfield 20) 3 16 := ⟨by decide +kernel, rfl⟩
theorem D_prog_8_m2_16 : Dc prog_8_method_2_code 16 (.return_) 1 17 := ⟨by decide +kernel, rfl⟩
def Q_c_new (o : Addr) (n : Int32) (ms : Int64) (F : OH) : Option Value → OH → Prop := fun v H' => v = none ∧ ∃ a, H' = (a, oJ (List.replicate n.toNatClampNeg 0)) :: (o, oI "com/example/orthrus/orthrus/SignatureSet" sg_1 [(.long ms), (.ref a), (.int (0 : Int32)), (.int (0 : Int32))]) :: F
set_option maxRecDepth 65536 in
set_option maxHeartbeats 40000000 in
theorem c_new (l : Launch) (Z : State) (a0 : Array Value) (hw : ∀ d ∈ tables_1, d.before a0 Z = true) (o : Addr) (n : Int32) (ms : Int64) (F : OH)  (hn : 8 ≤ n.toInt ∧ n.toInt ≤ 11) :
    Met l Z (⟨"com/example/orthrus/orthrus/SignatureSet", "<init>", "(IJ)V"⟩ : MethodName) prog_8_method_2_code 4 none ({ frames := 1, cells := 1, slots := 11, locals := 12 } : Room) [(.ref o), (.int n), (.long ms)] ((o, oI "com/example/orthrus/orthrus/SignatureSet" sg_1 [(.long (0 : Int64)), (.null), (.int (0 : Int32)), (.int (0 : Int32))]) :: F) (Q_c_new o n ms F) := by
  refine Met.of_wp (Ls := #[.val (.ref o), .val (.int n), .val (.long ms), .second]) pn_11 (fun m => (entry_loc m _ _).trans rfl) ?_
  show Wp none l Z "com/example/orthrus/orthrus/SignatureSet" "<init>" prog_8_method_2_code 4 none ({ frames := 1, cells := 1, slots := 11, locals := 12 } : Room) ((o, oI "com/example/orthrus/orthrus/SignatureSet" sg_1 [(.long (0 : Int64)), (.null), (.int (0 : Int32)), (.int (0 : Int32))]) :: F) 0 0 0 #[.val (.ref o), .val (.int n), .val (.long ms), .second] [] (Q_c_new o n ms F)
  refine wp_aload_n D_prog_8_m2_0 rfl rfl ?_
  refine wp_initO D_prog_8_m2_1 (hw _ (List.mem_of_getElem? (i := 6) rfl)) (hw _ (List.mem_of_getElem? (i := 7) rfl)) (hw _ (List.mem_of_getElem? (i := 8) rfl)) rfl (Nat.le_of_ble_eq_true rfl) (Nat.le_of_ble_eq_true rfl) ?_
  refine wp_aload_n D_prog_8_m2_4 rfl rfl ?_
  refine wp_lload_n D_prog_8_m2_5 rfl ?_
  refine wp_putfield (i := 0) (fi := 0) (ty := .long) D_prog_8_m2_6 (hw _ (List.mem_of_getElem? (i := 9) rfl)) rfl rfl rfl (Or.inl (hw _ (List.mem_of_getElem? (i := 10) rfl))) (hw _ (List.mem_of_getElem? (i := 1) rfl)) (by decide) rfl rfl ?_
  show Wp none l Z "com/example/orthrus/orthrus/SignatureSet" "<init>" prog_8_method_2_code 4 none ({ frames := 1, cells := 1, slots := 11, locals := 12 } : Room) ((o, oI "com/example/orthrus/orthrus/SignatureSet" sg_1 [(.long ms), (.null), (.int (0 : Int32)), (.int (0 : Int32))]) :: F) 0 0 9 #[.val (.ref o), .val (.int n), .val (.long ms), .second] [] (Q_c_new o n ms F)
  refine wp_aload_n D_prog_8_m2_9 rfl rfl ?_
  refine wp_iload_n D_prog_8_m2_10 rfl ?_
  refine wp_newarrayJ (n := n) (n.toNatClampNeg) 11 D_prog_8_m2_11 (hw _ (List.mem_of_getElem? (i := 11) rfl)) (own_i32 _ (by omega)) rfl (by simp only [Int32.toNatClampNeg]; omega) (by decide) (by decide) (by decide) ?_
  intro a1
  show Wp none l Z "com/example/orthrus/orthrus/SignatureSet" "<init>" prog_8_method_2_code 4 none ({ frames := 1, cells := 1, slots := 11, locals := 12 } : Room) ((a1, oJ (List.replicate (n.toNatClampNeg) 0)) :: (o, oI "com/example/orthrus/orthrus/SignatureSet" sg_1 [(.long ms), (.null), (.int (0 : Int32)), (.int (0 : Int32))]) :: F) 1 11 13 #[.val (.ref o), .val (.int n), .val (.long ms), .second] [(.ref a1), (.ref o)] (Q_c_new o n ms F)
  refine wp_putfield (i := 1) (fi := 1) (ty := (.array .long)) D_prog_8_m2_13 (hw _ (List.mem_of_getElem? (i := 12) rfl)) rfl rfl rfl (Or.inl (hw _ (List.mem_of_getElem? (i := 13) rfl))) (hw _ (List.mem_of_getElem? (i := 1) rfl)) (by decide) rfl rfl ?_
  show Wp none l Z "com/example/orthrus/orthrus/SignatureSet" "<init>" prog_8_method_2_code 4 none ({ frames := 1, cells := 1, slots := 11, locals := 12 } : Room) ((a1, oJ (List.replicate (n.toNatClampNeg) 0)) :: (o, oI "com/example/orthrus/orthrus/SignatureSet" sg_1 [(.long ms), (.ref a1), (.int (0 : Int32)), (.int (0 : Int32))]) :: F) 1 11 16 #[.val (.ref o), .val (.int n), .val (.long ms), .second] [] (Q_c_new o n ms F)
  refine wp_return D_prog_8_m2_16 rfl (by decide) (by decide) ?_
  exact ⟨rfl, _, rfl⟩
theorem own_sh3 (d : Int64) : (d <<< ((3 : Int32).toInt64 &&& 63)) &&& 7 = 0 := by
  apply Int64.toBitVec_inj.mp
  rw [Int64.toBitVec_and, Int64.toBitVec_shiftLeft]
  apply BitVec.eq_of_toNat_eq
  rw [BitVec.toNat_and, BitVec.shiftLeft_eq', show ((((3 : Int32).toInt64 &&& 63).toBitVec.smod 64).toNat) = 3 from by decide, BitVec.toNat_shiftLeft, show (7 : Int64).toBitVec.toNat = 2 ^ 3 - 1 from by decide, Nat.and_two_pow_sub_one_eq_mod, Nat.shiftLeft_eq]
  show _ = 0
  omega
theorem own_or7 (u i : Int64) (hu : u &&& 7 = 0) : (u ||| i) &&& 7 = i &&& 7 := by
  apply Int64.toBitVec_inj.mp
  have h := congrArg Int64.toBitVec hu
  rw [Int64.toBitVec_and] at h
  rw [Int64.toBitVec_and, Int64.toBitVec_or, Int64.toBitVec_and, BitVec.and_comm, BitVec.and_or_distrib_left, BitVec.and_comm, h, BitVec.and_comm (7 : Int64).toBitVec]
  exact BitVec.zero_or
theorem own_sne (u i j : Int64) (hu : u &&& 7 = 0) (h : i &&& 7 ≠ j &&& 7) : u ||| i ≠ u ||| j := fun e => h (by rw [← own_or7 u i hu, e, own_or7 u j hu])
theorem own_sn0 (u i : Int64) (hu : u &&& 7 = 0) (h : i &&& 7 ≠ 0) : ¬ u ||| i = 0 := fun e => h (by rw [← own_or7 u i hu, e]; decide)
theorem own_a8 (a : Int32) : 8 ≤ ((8 : Int32) + (a &&& 3)).toInt ∧ ((8 : Int32) + (a &&& 3)).toInt ≤ 11 := by
  have h : (a &&& 3).toInt = a.toInt % 4 := c_mask a 3 2 (by decide) (by decide)
  rw [Int32.toInt_add]; simp only [Int32.reduceToInt]; rw [Int.bmod_eq_of_le] <;> omega
theorem own_a31 (a : Int32) : 0 ≤ (a &&& 31).toInt ∧ (a &&& 31).toInt ≤ 31 := by
  have h : (a &&& 31).toInt = a.toInt % 32 := c_mask a 31 5 (by decide) (by decide)
  omega
theorem pd_7 : parseMethodDescriptor "(IJ)V" = some ⟨[.int, .long], none⟩ := by decide +kernel
theorem pd_8 : parseMethodDescriptor "(J)Z" = some ⟨[.long], (some .boolean)⟩ := by decide +kernel
theorem pn_12 : plainFor (⟨"com/example/orthrus/orthrus/SignatureSetFullPinLaw", "law", "(IIIJI)Z"⟩ : MethodName) = true := by first | exact plainFor_of_name (by first | (simp [plainName, overriddenIn]; done) | decide +kernel) | decide +kernel
def Q_law : Option Value → OH → Prop := fun v H' => v = some (.int 1)
theorem D_0 : Dc code 0 (.bipush 8) 2 2 := ⟨at_0, rfl⟩
theorem D_2 : Dc code 2 (.iload_n 0) 1 3 := ⟨at_2, rfl⟩
theorem D_3 : Dc code 3 (.iconst 3) 1 4 := ⟨at_3, rfl⟩
theorem D_4 : Dc code 4 (.iand) 1 5 := ⟨at_4, rfl⟩
theorem D_5 : Dc code 5 (.iadd) 1 6 := ⟨at_5, rfl⟩
theorem D_6 : Dc code 6 (.istore 6) 2 8 := ⟨at_6, rfl⟩
theorem D_8 : Dc code 8 (.iload_n 1) 1 9 := ⟨at_8, rfl⟩
theorem D_9 : Dc code 9 (.bipush 7) 2 11 := ⟨at_9, rfl⟩
theorem D_11 : Dc code 11 (.iand) 1 12 := ⟨at_11, rfl⟩
theorem D_12 : Dc code 12 (.istore 7) 2 14 := ⟨at_12, rfl⟩
theorem D_14 : Dc code 14 (.iload_n 2) 1 15 := ⟨at_14, rfl⟩
theorem D_15 : Dc code 15 (.bipush 31) 2 17 := ⟨at_15, rfl⟩
theorem D_17 : Dc code 17 (.iand) 1 18 := ⟨at_17, rfl⟩
theorem D_18 : Dc code 18 (.istore 8) 2 20 := ⟨at_18, rfl⟩
theorem D_20 : Dc code 20 (.new 7) 3 23 := ⟨at_20, rfl⟩
theorem D_23 : Dc code 23 (.dup) 1 24 := ⟨at_23, rfl⟩
theorem D_24 : Dc code 24 (.iload 6) 2 26 := ⟨at_24, rfl⟩
theorem D_26 : Dc code 26 (.iload 6) 2 28 := ⟨at_26, rfl⟩
theorem D_28 : Dc code 28 (.i2l) 1 29 := ⟨at_28, rfl⟩
theorem D_29 : Dc code 29 (.iload 8) 2 31 := ⟨at_29, rfl⟩
theorem D_31 : Dc code 31 (.i2l) 1 32 := ⟨at_31, rfl⟩
theorem D_32 : Dc code 32 (.ladd) 1 33 := ⟨at_32, rfl⟩
theorem D_33 : Dc code 33 (.invokespecial 9) 3 36 := ⟨at_33, rfl⟩
theorem D_36 : Dc code 36 (.astore 9) 2 38 := ⟨at_36, rfl⟩
theorem D_38 : Dc code 38 (.iload 5) 2 40 := ⟨at_38, rfl⟩
theorem D_40 : Dc code 40 (.iconst 1) 1 41 := ⟨at_40, rfl⟩
theorem D_41 : Dc code 41 (.iand) 1 42 := ⟨at_41, rfl⟩
theorem D_42 : Dc code 42 (.ifCond .eq 10) 3 45 := ⟨at_42, rfl⟩
theorem D_45 : Dc code 45 (.aload 9) 2 47 := ⟨at_45, rfl⟩
theorem D_47 : Dc code 47 (.lconst 0) 1 48 := ⟨at_47, rfl⟩
theorem D_48 : Dc code 48 (.invokevirtual 12) 3 51 := ⟨at_48, rfl⟩
theorem D_51 : Dc code 51 (.pop) 1 52 := ⟨at_51, rfl⟩
theorem D_52 : Dc code 52 (.lload_n 3) 1 53 := ⟨at_52, rfl⟩
theorem D_53 : Dc code 53 (.iconst 3) 1 54 := ⟨at_53, rfl⟩
theorem D_54 : Dc code 54 (.lshl) 1 55 := ⟨at_54, rfl⟩
theorem D_55 : Dc code 55 (.lstore 10) 2 57 := ⟨at_55, rfl⟩
theorem D_57 : Dc code 57 (.iload 7) 2 59 := ⟨at_57, rfl⟩
theorem D_59 : Dc code 59 (.iconst 1) 1 60 := ⟨at_59, rfl⟩
theorem D_60 : Dc code 60 (.if_icmp .lt 13) 3 63 := ⟨at_60, rfl⟩
theorem D_63 : Dc code 63 (.aload 9) 2 65 := ⟨at_63, rfl⟩
theorem D_65 : Dc code 65 (.lload 10) 2 67 := ⟨at_65, rfl⟩
theorem D_67 : Dc code 67 (.lconst 1) 1 68 := ⟨at_67, rfl⟩
theorem D_68 : Dc code 68 (.lor) 1 69 := ⟨at_68, rfl⟩
theorem D_69 : Dc code 69 (.invokevirtual 12) 3 72 := ⟨at_69, rfl⟩
theorem D_72 : Dc code 72 (.pop) 1 73 := ⟨at_72, rfl⟩
theorem D_73 : Dc code 73 (.iload 7) 2 75 := ⟨at_73, rfl⟩
theorem D_75 : Dc code 75 (.iconst 2) 1 76 := ⟨at_75, rfl⟩
theorem D_76 : Dc code 76 (.if_icmp .lt 15) 3 79 := ⟨at_76, rfl⟩
theorem D_79 : Dc code 79 (.aload 9) 2 81 := ⟨at_79, rfl⟩
theorem D_81 : Dc code 81 (.lload 10) 2 83 := ⟨at_81, rfl⟩
theorem D_83 : Dc code 83 (.ldc2_w 16) 3 86 := ⟨at_83, rfl⟩
theorem D_86 : Dc code 86 (.lor) 1 87 := ⟨at_86, rfl⟩
theorem D_87 : Dc code 87 (.invokevirtual 12) 3 90 := ⟨at_87, rfl⟩
theorem D_90 : Dc code 90 (.pop) 1 91 := ⟨at_90, rfl⟩
theorem D_91 : Dc code 91 (.iload 7) 2 93 := ⟨at_91, rfl⟩
theorem D_93 : Dc code 93 (.iconst 3) 1 94 := ⟨at_93, rfl⟩
theorem D_94 : Dc code 94 (.if_icmp .lt 15) 3 97 := ⟨at_94, rfl⟩
theorem D_97 : Dc code 97 (.aload 9) 2 99 := ⟨at_97, rfl⟩
theorem D_99 : Dc code 99 (.lload 10) 2 101 := ⟨at_99, rfl⟩
theorem D_101 : Dc code 101 (.ldc2_w 18) 3 104 := ⟨at_101, rfl⟩
theorem D_104 : Dc code 104 (.lor) 1 105 := ⟨at_104, rfl⟩
theorem D_105 : Dc code 105 (.invokevirtual 12) 3 108 := ⟨at_105, rfl⟩
theorem D_108 : Dc code 108 (.pop) 1 109 := ⟨at_108, rfl⟩
theorem D_109 : Dc code 109 (.iload 7) 2 111 := ⟨at_109, rfl⟩
theorem D_111 : Dc code 111 (.iconst 4) 1 112 := ⟨at_111, rfl⟩
theorem D_112 : Dc code 112 (.if_icmp .lt 15) 3 115 := ⟨at_112, rfl⟩
theorem D_115 : Dc code 115 (.aload 9) 2 117 := ⟨at_115, rfl⟩
theorem D_117 : Dc code 117 (.lload 10) 2 119 := ⟨at_117, rfl⟩
theorem D_119 : Dc code 119 (.ldc2_w 20) 3 122 := ⟨at_119, rfl⟩
theorem D_122 : Dc code 122 (.lor) 1 123 := ⟨at_122, rfl⟩
theorem D_123 : Dc code 123 (.invokevirtual 12) 3 126 := ⟨at_123, rfl⟩
theorem D_126 : Dc code 126 (.pop) 1 127 := ⟨at_126, rfl⟩
theorem D_127 : Dc code 127 (.iload 7) 2 129 := ⟨at_127, rfl⟩
theorem D_129 : Dc code 129 (.iconst 5) 1 130 := ⟨at_129, rfl⟩
theorem D_130 : Dc code 130 (.if_icmp .lt 15) 3 133 := ⟨at_130, rfl⟩
theorem D_133 : Dc code 133 (.aload 9) 2 135 := ⟨at_133, rfl⟩
theorem D_135 : Dc code 135 (.lload 10) 2 137 := ⟨at_135, rfl⟩
theorem D_137 : Dc code 137 (.ldc2_w 22) 3 140 := ⟨at_137, rfl⟩
theorem D_140 : Dc code 140 (.lor) 1 141 := ⟨at_140, rfl⟩
theorem D_141 : Dc code 141 (.invokevirtual 12) 3 144 := ⟨at_141, rfl⟩
theorem D_144 : Dc code 144 (.pop) 1 145 := ⟨at_144, rfl⟩
theorem D_145 : Dc code 145 (.iload 7) 2 147 := ⟨at_145, rfl⟩
theorem D_147 : Dc code 147 (.bipush 6) 2 149 := ⟨at_147, rfl⟩
theorem D_149 : Dc code 149 (.if_icmp .lt 15) 3 152 := ⟨at_149, rfl⟩
theorem D_152 : Dc code 152 (.aload 9) 2 154 := ⟨at_152, rfl⟩
theorem D_154 : Dc code 154 (.lload 10) 2 156 := ⟨at_154, rfl⟩
theorem D_156 : Dc code 156 (.ldc2_w 24) 3 159 := ⟨at_156, rfl⟩
theorem D_159 : Dc code 159 (.lor) 1 160 := ⟨at_159, rfl⟩
theorem D_160 : Dc code 160 (.invokevirtual 12) 3 163 := ⟨at_160, rfl⟩
theorem D_163 : Dc code 163 (.pop) 1 164 := ⟨at_163, rfl⟩
theorem D_164 : Dc code 164 (.iload 7) 2 166 := ⟨at_164, rfl⟩
theorem D_166 : Dc code 166 (.bipush 7) 2 168 := ⟨at_166, rfl⟩
theorem D_168 : Dc code 168 (.if_icmp .lt 15) 3 171 := ⟨at_168, rfl⟩
theorem D_171 : Dc code 171 (.aload 9) 2 173 := ⟨at_171, rfl⟩
theorem D_173 : Dc code 173 (.lload 10) 2 175 := ⟨at_173, rfl⟩
theorem D_175 : Dc code 175 (.ldc2_w 26) 3 178 := ⟨at_175, rfl⟩
theorem D_178 : Dc code 178 (.lor) 1 179 := ⟨at_178, rfl⟩
theorem D_179 : Dc code 179 (.invokevirtual 12) 3 182 := ⟨at_179, rfl⟩
theorem D_182 : Dc code 182 (.pop) 1 183 := ⟨at_182, rfl⟩
theorem D_183 : Dc code 183 (.aload 9) 2 185 := ⟨at_183, rfl⟩
theorem D_185 : Dc code 185 (.invokevirtual 28) 3 188 := ⟨at_185, rfl⟩
theorem D_188 : Dc code 188 (.istore 12) 2 190 := ⟨at_188, rfl⟩
theorem D_190 : Dc code 190 (.iload 6) 2 192 := ⟨at_190, rfl⟩
theorem D_192 : Dc code 192 (.istore 13) 2 194 := ⟨at_192, rfl⟩
theorem D_194 : Dc code 194 (.iload 7) 2 196 := ⟨at_194, rfl⟩
theorem D_196 : Dc code 196 (.bipush 7) 2 198 := ⟨at_196, rfl⟩
theorem D_198 : Dc code 198 (.if_icmp .ne 21) 3 201 := ⟨at_198, rfl⟩
theorem D_201 : Dc code 201 (.iload 8) 2 203 := ⟨at_201, rfl⟩
theorem D_203 : Dc code 203 (.iload 6) 2 205 := ⟨at_203, rfl⟩
theorem D_205 : Dc code 205 (.if_icmp .le 14) 3 208 := ⟨at_205, rfl⟩
theorem D_208 : Dc code 208 (.iconst 2) 1 209 := ⟨at_208, rfl⟩
theorem D_209 : Dc code 209 (.iload 6) 2 211 := ⟨at_209, rfl⟩
theorem D_211 : Dc code 211 (.imul) 1 212 := ⟨at_211, rfl⟩
theorem D_212 : Dc code 212 (.iload 8) 2 214 := ⟨at_212, rfl⟩
theorem D_214 : Dc code 214 (.invokestatic 32) 3 217 := ⟨at_214, rfl⟩
theorem D_217 : Dc code 217 (.istore 13) 2 219 := ⟨at_217, rfl⟩
theorem D_219 : Dc code 219 (.iload 7) 2 221 := ⟨at_219, rfl⟩
theorem D_221 : Dc code 221 (.iload 13) 2 223 := ⟨at_221, rfl⟩
theorem D_223 : Dc code 223 (.iconst 4) 1 224 := ⟨at_223, rfl⟩
theorem D_224 : Dc code 224 (.idiv) 1 225 := ⟨at_224, rfl⟩
theorem D_225 : Dc code 225 (.iconst 3) 1 226 := ⟨at_225, rfl⟩
theorem D_226 : Dc code 226 (.imul) 1 227 := ⟨at_226, rfl⟩
theorem D_227 : Dc code 227 (.if_icmp .le 7) 3 230 := ⟨at_227, rfl⟩
theorem D_230 : Dc code 230 (.iconst 1) 1 231 := ⟨at_230, rfl⟩
theorem D_231 : Dc code 231 (.goto 4) 3 234 := ⟨at_231, rfl⟩
theorem D_234 : Dc code 234 (.iconst 0) 1 235 := ⟨at_234, rfl⟩
theorem D_235 : Dc code 235 (.istore 14) 2 237 := ⟨at_235, rfl⟩
theorem D_237 : Dc code 237 (.iload 12) 2 239 := ⟨at_237, rfl⟩
theorem D_239 : Dc code 239 (.iload 14) 2 241 := ⟨at_239, rfl⟩
theorem D_241 : Dc code 241 (.if_icmp .ne 7) 3 244 := ⟨at_241, rfl⟩
theorem D_244 : Dc code 244 (.iconst 1) 1 245 := ⟨at_244, rfl⟩
theorem D_245 : Dc code 245 (.goto 4) 3 248 := ⟨at_245, rfl⟩
theorem D_248 : Dc code 248 (.iconst 0) 1 249 := ⟨at_248, rfl⟩
theorem D_249 : Dc code 249 (.ireturn) 1 250 := ⟨at_249, rfl⟩
set_option maxRecDepth 65536 in
set_option maxHeartbeats 40000000 in
theorem law_wp (l : Launch) (Z : State) (a0 : Array Value) (hw : ∀ d ∈ tables_1, d.before a0 Z = true) (a : Int32) (b : Int32) (c : Int32) (d : Int64) (e : Int32)  : Wp none l Z "com/example/orthrus/orthrus/SignatureSetFullPinLaw" "law" code maxLocals ret room_1 [] 0 0 0 #[.val (.int a), .val (.int b), .val (.int c), .val (.long d), .second, .val (.int e), .unset, .unset, .unset, .unset, .unset, .unset, .unset, .unset, .unset] [] Q_law := by
  refine wp_bipush 8 D_0 (by decide) ?_
  refine wp_iload_n D_2 rfl ?_
  refine wp_iconst 3 D_3 (by decide) ?_
  refine wp_iand D_4 ?_
  refine wp_iadd D_5 ?_
  generalize hg_x1 : ((8 : Int32) + (a &&& (3 : Int32))) = x1
  have hn : 8 ≤ x1.toInt ∧ x1.toInt ≤ 11 := by rw [← hg_x1]; exact own_a8 _
  refine wp_istore #[.val (.int a), .val (.int b), .val (.int c), .val (.long d), .second, .val (.int e), .val (.int x1), .unset, .unset, .unset, .unset, .unset, .unset, .unset, .unset] D_6 rfl ?_
  refine wp_iload_n D_8 rfl ?_
  refine wp_bipush 7 D_9 (by decide) ?_
  refine wp_iand D_11 ?_
  generalize hg_x2 : (b &&& (7 : Int32)) = x2
  refine wp_istore #[.val (.int a), .val (.int b), .val (.int c), .val (.long d), .second, .val (.int e), .val (.int x1), .val (.int x2), .unset, .unset, .unset, .unset, .unset, .unset, .unset] D_12 rfl ?_
  have hs_x2 : x2 = (0 : Int32) ∨ x2 = (1 : Int32) ∨ x2 = (2 : Int32) ∨ x2 = (3 : Int32) ∨ x2 = (4 : Int32) ∨ x2 = (5 : Int32) ∨ x2 = (6 : Int32) ∨ x2 = (7 : Int32) := by
    have h2 : (b &&& 7).toInt = b.toInt % 8 := c_mask b 7 3 (by decide) (by decide)
    rw [hg_x2] at h2
    simp only [← Int32.toInt_inj, Int32.reduceToInt]
    omega
  rcases hs_x2 with hs_x2 | hs_x2 | hs_x2 | hs_x2 | hs_x2 | hs_x2 | hs_x2 | hs_x2
  · subst hs_x2
    show Wp none l Z "com/example/orthrus/orthrus/SignatureSetFullPinLaw" "law" code maxLocals ret room_1 [] 0 0 14 #[.val (.int a), .val (.int b), .val (.int c), .val (.long d), .second, .val (.int e), .val (.int x1), .val (.int (0 : Int32)), .unset, .unset, .unset, .unset, .unset, .unset, .unset] [] Q_law
    refine wp_iload_n D_14 rfl ?_
    refine wp_bipush 31 D_15 (by decide) ?_
    refine wp_iand D_17 ?_
    generalize hg_x3 : (c &&& (31 : Int32)) = x3
    have hm : 0 ≤ x3.toInt ∧ x3.toInt ≤ 31 := by rw [← hg_x3]; exact own_a31 _
    refine wp_istore #[.val (.int a), .val (.int b), .val (.int c), .val (.long d), .second, .val (.int e), .val (.int x1), .val (.int (0 : Int32)), .val (.int x3), .unset, .unset, .unset, .unset, .unset, .unset] D_18 rfl ?_
    have hms : x1.toInt64 + x3.toInt64 = x1.toInt64 + x3.toInt64 := rfl
    refine wp_new sg_1 [(.long (0 : Int64)), (.null), (.int (0 : Int32)), (.int (0 : Int32))] D_20 (hw _ (List.mem_of_getElem? (i := 0) rfl)) (hw _ (List.mem_of_getElem? (i := 1) rfl)) (hw _ (List.mem_of_getElem? (i := 2) rfl)) (laid_sg_1 l Z a0 hw) (by decide) dfl_sg_1 (by decide) (by decide) ?_
    intro a4
    show Wp none l Z "com/example/orthrus/orthrus/SignatureSetFullPinLaw" "law" code maxLocals ret room_1 [(a4, oI "com/example/orthrus/orthrus/SignatureSet" sg_1 [(.long (0 : Int64)), (.null), (.int (0 : Int32)), (.int (0 : Int32))])] 1 4 23 #[.val (.int a), .val (.int b), .val (.int c), .val (.long d), .second, .val (.int e), .val (.int x1), .val (.int (0 : Int32)), .val (.int x3), .unset, .unset, .unset, .unset, .unset, .unset] [(.ref a4)] Q_law
    refine wp_dup D_23 rfl ?_
    refine wp_iload D_24 rfl ?_
    refine wp_iload D_26 rfl ?_
    refine wp_i2l D_28 ?_
    refine wp_iload D_29 rfl ?_
    refine wp_i2l D_31 ?_
    refine wp_ladd D_32 ?_
    refine wp_init (c_new l Z a0 hw a4 x1 (x1.toInt64 + x3.toInt64) [] hn) D_33 rfl (hw _ (List.mem_of_getElem? (i := 3) rfl)) (hw _ (List.mem_of_getElem? (i := 4) rfl)) (hw _ (List.mem_of_getElem? (i := 2) rfl)) (hw _ (List.mem_of_getElem? (i := 5) rfl)) (by decide) pd_7 rfl rfl rfl (Nat.le_of_ble_eq_true rfl) (Nat.le_of_ble_eq_true rfl) (Nat.le_of_ble_eq_true rfl) (Nat.le_of_ble_eq_true rfl) ?_
    rintro _ _ ⟨rfl, A5, rfl⟩
    show Wp none l Z "com/example/orthrus/orthrus/SignatureSetFullPinLaw" "law" code maxLocals ret room_1 [(A5, oJ (List.replicate x1.toNatClampNeg 0)), (a4, oI "com/example/orthrus/orthrus/SignatureSet" sg_1 [(.long (x1.toInt64 + x3.toInt64)), (.ref A5), (.int (0 : Int32)), (.int (0 : Int32))])] 2 15 36 #[.val (.int a), .val (.int b), .val (.int c), .val (.long d), .second, .val (.int e), .val (.int x1), .val (.int (0 : Int32)), .val (.int x3), .unset, .unset, .unset, .unset, .unset, .unset] [(.ref a4)] Q_law
    obtain ⟨xs6, e_xs6⟩ : ∃ zs : List Int64, zs = List.replicate x1.toNatClampNeg 0 := ⟨_, rfl⟩
    rw [← e_xs6]
    have hl_xs6 : (xs6.length : Int) = x1.toInt := by rw [e_xs6, List.length_replicate]; simp only [Int32.toNatClampNeg]; omega
    have hc_xs6 : nz xs6 = 0 := by rw [e_xs6]; exact nz_rep _
    have hp_xs6 : ∀ y ∈ xs6, y = 0 := fun y hy => by rw [e_xs6] at hy; exact (List.mem_replicate.mp hy).2
    show Wp none l Z "com/example/orthrus/orthrus/SignatureSetFullPinLaw" "law" code maxLocals ret room_1 [(A5, oJ xs6), (a4, oI "com/example/orthrus/orthrus/SignatureSet" sg_1 [(.long (x1.toInt64 + x3.toInt64)), (.ref A5), (.int (0 : Int32)), (.int (0 : Int32))])] 2 15 36 #[.val (.int a), .val (.int b), .val (.int c), .val (.long d), .second, .val (.int e), .val (.int x1), .val (.int (0 : Int32)), .val (.int x3), .unset, .unset, .unset, .unset, .unset, .unset] [(.ref a4)] Q_law
    refine wp_astore #[.val (.int a), .val (.int b), .val (.int c), .val (.long d), .second, .val (.int e), .val (.int x1), .val (.int (0 : Int32)), .val (.int x3), .val (.ref a4), .unset, .unset, .unset, .unset, .unset] D_36 rfl rfl ?_
    refine wp_iload D_38 rfl ?_
    refine wp_iconst 1 D_40 (by decide) ?_
    refine wp_iand D_41 ?_
    have J10 : ∀ (b8 : Int32), (((e &&& (1 : Int32)) = (0 : Int32) ∧ b8 = (0 : Int32)) ∨ (¬ (e &&& (1 : Int32)) = (0 : Int32) ∧ b8 = (1 : Int32))) → Wp none l Z "com/example/orthrus/orthrus/SignatureSetFullPinLaw" "law" code maxLocals ret room_1 [(A5, oJ xs6), (a4, oI "com/example/orthrus/orthrus/SignatureSet" sg_1 [(.long (x1.toInt64 + x3.toInt64)), (.ref A5), (.int (0 : Int32)), (.int b8)])] 2 15 52 #[.val (.int a), .val (.int b), .val (.int c), .val (.long d), .second, .val (.int e), .val (.int x1), .val (.int (0 : Int32)), .val (.int x3), .val (.ref a4), .unset, .unset, .unset, .unset, .unset] [] Q_law := by
      intro b8 hj9
      refine wp_lload_n D_52 rfl ?_
      refine wp_iconst 3 D_53 (by decide) ?_
      refine wp_lshl D_54 ?_
      generalize hg_x11 : (d <<< ((3 : Int32).toInt64 &&& 63)) = x11
      have hlow : x11 &&& 7 = 0 := by rw [← hg_x11]; exact own_sh3 _
      refine wp_lstore #[.val (.int a), .val (.int b), .val (.int c), .val (.long d), .second, .val (.int e), .val (.int x1), .val (.int (0 : Int32)), .val (.int x3), .val (.ref a4), .val (.long x11), .second, .unset, .unset, .unset] D_55 rfl ?_
      refine wp_iload D_57 rfl ?_
      refine wp_iconst 1 D_59 (by decide) ?_
      refine wp_icmp_lt D_60 (pc'' := 73) ⟨by decide, by decide⟩ (fun h12 => ?_) (fun h12 => by exact absurd h12 (by decide))
      refine wp_iload D_73 rfl ?_
      refine wp_iconst 2 D_75 (by decide) ?_
      refine wp_icmp_lt D_76 (pc'' := 91) ⟨by decide, by decide⟩ (fun h13 => ?_) (fun h13 => by exact absurd h13 (by decide))
      refine wp_iload D_91 rfl ?_
      refine wp_iconst 3 D_93 (by decide) ?_
      refine wp_icmp_lt D_94 (pc'' := 109) ⟨by decide, by decide⟩ (fun h14 => ?_) (fun h14 => by exact absurd h14 (by decide))
      refine wp_iload D_109 rfl ?_
      refine wp_iconst 4 D_111 (by decide) ?_
      refine wp_icmp_lt D_112 (pc'' := 127) ⟨by decide, by decide⟩ (fun h15 => ?_) (fun h15 => by exact absurd h15 (by decide))
      refine wp_iload D_127 rfl ?_
      refine wp_iconst 5 D_129 (by decide) ?_
      refine wp_icmp_lt D_130 (pc'' := 145) ⟨by decide, by decide⟩ (fun h16 => ?_) (fun h16 => by exact absurd h16 (by decide))
      refine wp_iload D_145 rfl ?_
      refine wp_bipush 6 D_147 (by decide) ?_
      refine wp_icmp_lt D_149 (pc'' := 164) ⟨by decide, by decide⟩ (fun h17 => ?_) (fun h17 => by exact absurd h17 (by decide))
      refine wp_iload D_164 rfl ?_
      refine wp_bipush 7 D_166 (by decide) ?_
      refine wp_icmp_lt D_168 (pc'' := 183) ⟨by decide, by decide⟩ (fun h18 => ?_) (fun h18 => by exact absurd h18 (by decide))
      refine wp_aload D_183 rfl rfl ?_
      refine Wp.pick [1, 0] (by decide) ?_
      show Wp none l Z "com/example/orthrus/orthrus/SignatureSetFullPinLaw" "law" code maxLocals ret room_1 [(a4, oI "com/example/orthrus/orthrus/SignatureSet" sg_1 [(.long (x1.toInt64 + x3.toInt64)), (.ref A5), (.int (0 : Int32)), (.int b8)]), (A5, oJ xs6)] 2 15 185 #[.val (.int a), .val (.int b), .val (.int c), .val (.long d), .second, .val (.int e), .val (.int x1), .val (.int (0 : Int32)), .val (.int x3), .val (.ref a4), .val (.long x11), .second, .unset, .unset, .unset] [(.ref a4)] Q_law
      refine wp_virtual (c_full l Z a0 hw a4 A5 (x1.toInt64 + x3.toInt64) b8 (0 : Int32) x1 xs6 [] (by rw [show xs6.length = x1.toNatClampNeg from by simp only [Int32.toNatClampNeg]; omega]; exact (back32 (own_i32 _ (by omega))).1)) (exa_new (i := 0) rfl) D_185 (hw _ (List.mem_of_getElem? (i := 48) rfl)) (hw _ (List.mem_of_getElem? (i := 37) rfl)) (hw _ (List.mem_of_getElem? (i := 39) rfl)) (hw _ (List.mem_of_getElem? (i := 39) rfl)) (hw _ (List.mem_of_getElem? (i := 38) rfl)) (hw _ (List.mem_of_getElem? (i := 2) rfl)) (hw _ (List.mem_of_getElem? (i := 40) rfl)) (by decide) pd_4 rfl rfl rfl (Nat.le_of_ble_eq_true rfl) (Nat.le_of_ble_eq_true rfl) (Nat.le_of_ble_eq_true rfl) (Nat.le_of_ble_eq_true rfl) ?_
      rintro _ _ ⟨rfl, rfl⟩
      rw [show f_full (0 : Int32) x1 = (0 : Int32) from by unfold f_full; rw [own_n4 x1 hn]; rfl]
      show Wp none l Z "com/example/orthrus/orthrus/SignatureSetFullPinLaw" "law" code maxLocals ret room_1 [(a4, oI "com/example/orthrus/orthrus/SignatureSet" sg_1 [(.long (x1.toInt64 + x3.toInt64)), (.ref A5), (.int (0 : Int32)), (.int b8)]), (A5, oJ xs6)] 2 15 188 #[.val (.int a), .val (.int b), .val (.int c), .val (.long d), .second, .val (.int e), .val (.int x1), .val (.int (0 : Int32)), .val (.int x3), .val (.ref a4), .val (.long x11), .second, .unset, .unset, .unset] [(.int (0 : Int32))] Q_law
      refine wp_istore #[.val (.int a), .val (.int b), .val (.int c), .val (.long d), .second, .val (.int e), .val (.int x1), .val (.int (0 : Int32)), .val (.int x3), .val (.ref a4), .val (.long x11), .second, .val (.int (0 : Int32)), .unset, .unset] D_188 rfl ?_
      refine wp_iload D_190 rfl ?_
      refine wp_istore #[.val (.int a), .val (.int b), .val (.int c), .val (.long d), .second, .val (.int e), .val (.int x1), .val (.int (0 : Int32)), .val (.int x3), .val (.ref a4), .val (.long x11), .second, .val (.int (0 : Int32)), .val (.int x1), .unset] D_192 rfl ?_
      refine wp_iload D_194 rfl ?_
      refine wp_bipush 7 D_196 (by decide) ?_
      refine wp_icmp_ne D_198 (pc'' := 219) ⟨by decide, by decide⟩ (fun h19 => ?_) (fun h19 => by exact absurd h19 (by decide))
      refine wp_iload D_219 rfl ?_
      refine wp_iload D_221 rfl ?_
      refine wp_iconst 4 D_223 (by decide) ?_
      refine wp_idiv D_224 (by decide) ?_
      refine wp_iconst 3 D_225 (by decide) ?_
      refine wp_imul D_226 ?_
      refine wp_icmp_le D_227 (pc'' := 234) ⟨by decide, by decide⟩ (fun h20 => ?_) (fun h20 => by rw [own_n4 x1 hn] at h20; exact absurd h20 (by decide))
      refine wp_iconst 0 D_234 (by decide) ?_
      refine wp_istore #[.val (.int a), .val (.int b), .val (.int c), .val (.long d), .second, .val (.int e), .val (.int x1), .val (.int (0 : Int32)), .val (.int x3), .val (.ref a4), .val (.long x11), .second, .val (.int (0 : Int32)), .val (.int x1), .val (.int (0 : Int32))] D_235 rfl ?_
      refine wp_iload D_237 rfl ?_
      refine wp_iload D_239 rfl ?_
      refine wp_icmp_ne D_241 (pc'' := 248) ⟨by decide, by decide⟩ (fun h21 => by exact absurd h21 (by decide)) (fun h21 => ?_)
      refine wp_iconst 1 D_244 (by decide) ?_
      refine wp_goto D_245 (pc'' := 249) ⟨by decide, by decide⟩ ?_
      refine wp_ireturnN D_249 rfl (by simp) (by decide) (by decide) ?_
      exact rfl
    refine wp_if_eq D_42 (pc'' := 52) ⟨by decide, by decide⟩ (fun h7 => ?_) (fun h7 => ?_)
    · skip
      exact (J10 (0 : Int32) (Or.inl ⟨h7, rfl⟩))
    · skip
      refine wp_aload D_45 rfl rfl ?_
      refine wp_lconst 0 D_47 (by decide) ?_
      refine Wp.pick [1, 0] (by decide) ?_
      show Wp none l Z "com/example/orthrus/orthrus/SignatureSetFullPinLaw" "law" code maxLocals ret room_1 [(a4, oI "com/example/orthrus/orthrus/SignatureSet" sg_1 [(.long (x1.toInt64 + x3.toInt64)), (.ref A5), (.int (0 : Int32)), (.int (0 : Int32))]), (A5, oJ xs6)] 2 15 48 #[.val (.int a), .val (.int b), .val (.int c), .val (.long d), .second, .val (.int e), .val (.int x1), .val (.int (0 : Int32)), .val (.int x3), .val (.ref a4), .unset, .unset, .unset, .unset, .unset] [(.long (0 : Int64)), (.ref a4)] Q_law
      refine wp_virtual (c_addz l Z a0 hw a4 A5 (x1.toInt64 + x3.toInt64) [(A5, oJ xs6)]) (exa_new (i := 0) rfl) D_48 (hw _ (List.mem_of_getElem? (i := 14) rfl)) (hw _ (List.mem_of_getElem? (i := 15) rfl)) (hw _ (List.mem_of_getElem? (i := 17) rfl)) (hw _ (List.mem_of_getElem? (i := 17) rfl)) (hw _ (List.mem_of_getElem? (i := 16) rfl)) (hw _ (List.mem_of_getElem? (i := 2) rfl)) (hw _ (List.mem_of_getElem? (i := 18) rfl)) (by decide) pd_8 rfl rfl rfl (Nat.le_of_ble_eq_true rfl) (Nat.le_of_ble_eq_true rfl) (Nat.le_of_ble_eq_true rfl) (Nat.le_of_ble_eq_true rfl) ?_
      rintro _ _ ⟨rfl, rfl⟩
      show Wp none l Z "com/example/orthrus/orthrus/SignatureSetFullPinLaw" "law" code maxLocals ret room_1 [(a4, oI "com/example/orthrus/orthrus/SignatureSet" sg_1 [(.long (x1.toInt64 + x3.toInt64)), (.ref A5), (.int (0 : Int32)), (.int (1 : Int32))]), (A5, oJ xs6)] 2 15 51 #[.val (.int a), .val (.int b), .val (.int c), .val (.long d), .second, .val (.int e), .val (.int x1), .val (.int (0 : Int32)), .val (.int x3), .val (.ref a4), .unset, .unset, .unset, .unset, .unset] [(.int (1 : Int32))] Q_law
      refine wp_pop D_51 rfl ?_
      refine Wp.pick [1, 0] (by decide) ?_
      show Wp none l Z "com/example/orthrus/orthrus/SignatureSetFullPinLaw" "law" code maxLocals ret room_1 [(A5, oJ xs6), (a4, oI "com/example/orthrus/orthrus/SignatureSet" sg_1 [(.long (x1.toInt64 + x3.toInt64)), (.ref A5), (.int (0 : Int32)), (.int (1 : Int32))])] 2 15 52 #[.val (.int a), .val (.int b), .val (.int c), .val (.long d), .second, .val (.int e), .val (.int x1), .val (.int (0 : Int32)), .val (.int x3), .val (.ref a4), .unset, .unset, .unset, .unset, .unset] [] Q_law
      exact (J10 (1 : Int32) (Or.inr ⟨h7, rfl⟩))
  · subst hs_x2
    show Wp none l Z "com/example/orthrus/orthrus/SignatureSetFullPinLaw" "law" code maxLocals ret room_1 [] 0 0 14 #[.val (.int a), .val (.int b), .val (.int c), .val (.long d), .second, .val (.int e), .val (.int x1), .val (.int (1 : Int32)), .unset, .unset, .unset, .unset, .unset, .unset, .unset] [] Q_law
    refine wp_iload_n D_14 rfl ?_
    refine wp_bipush 31 D_15 (by decide) ?_
    refine wp_iand D_17 ?_
    generalize hg_x22 : (c &&& (31 : Int32)) = x22
    have hm : 0 ≤ x22.toInt ∧ x22.toInt ≤ 31 := by rw [← hg_x22]; exact own_a31 _
    refine wp_istore #[.val (.int a), .val (.int b), .val (.int c), .val (.long d), .second, .val (.int e), .val (.int x1), .val (.int (1 : Int32)), .val (.int x22), .unset, .unset, .unset, .unset, .unset, .unset] D_18 rfl ?_
    have hms : x1.toInt64 + x22.toInt64 = x1.toInt64 + x22.toInt64 := rfl
    refine wp_new sg_1 [(.long (0 : Int64)), (.null), (.int (0 : Int32)), (.int (0 : Int32))] D_20 (hw _ (List.mem_of_getElem? (i := 0) rfl)) (hw _ (List.mem_of_getElem? (i := 1) rfl)) (hw _ (List.mem_of_getElem? (i := 2) rfl)) (laid_sg_1 l Z a0 hw) (by decide) dfl_sg_1 (by decide) (by decide) ?_
    intro a23
    show Wp none l Z "com/example/orthrus/orthrus/SignatureSetFullPinLaw" "law" code maxLocals ret room_1 [(a23, oI "com/example/orthrus/orthrus/SignatureSet" sg_1 [(.long (0 : Int64)), (.null), (.int (0 : Int32)), (.int (0 : Int32))])] 1 4 23 #[.val (.int a), .val (.int b), .val (.int c), .val (.long d), .second, .val (.int e), .val (.int x1), .val (.int (1 : Int32)), .val (.int x22), .unset, .unset, .unset, .unset, .unset, .unset] [(.ref a23)] Q_law
    refine wp_dup D_23 rfl ?_
    refine wp_iload D_24 rfl ?_
    refine wp_iload D_26 rfl ?_
    refine wp_i2l D_28 ?_
    refine wp_iload D_29 rfl ?_
    refine wp_i2l D_31 ?_
    refine wp_ladd D_32 ?_
    refine wp_init (c_new l Z a0 hw a23 x1 (x1.toInt64 + x22.toInt64) [] hn) D_33 rfl (hw _ (List.mem_of_getElem? (i := 3) rfl)) (hw _ (List.mem_of_getElem? (i := 4) rfl)) (hw _ (List.mem_of_getElem? (i := 2) rfl)) (hw _ (List.mem_of_getElem? (i := 5) rfl)) (by decide) pd_7 rfl rfl rfl (Nat.le_of_ble_eq_true rfl) (Nat.le_of_ble_eq_true rfl) (Nat.le_of_ble_eq_true rfl) (Nat.le_of_ble_eq_true rfl) ?_
    rintro _ _ ⟨rfl, A24, rfl⟩
    show Wp none l Z "com/example/orthrus/orthrus/SignatureSetFullPinLaw" "law" code maxLocals ret room_1 [(A24, oJ (List.replicate x1.toNatClampNeg 0)), (a23, oI "com/example/orthrus/orthrus/SignatureSet" sg_1 [(.long (x1.toInt64 + x22.toInt64)), (.ref A24), (.int (0 : Int32)), (.int (0 : Int32))])] 2 15 36 #[.val (.int a), .val (.int b), .val (.int c), .val (.long d), .second, .val (.int e), .val (.int x1), .val (.int (1 : Int32)), .val (.int x22), .unset, .unset, .unset, .unset, .unset, .unset] [(.ref a23)] Q_law
    obtain ⟨xs25, e_xs25⟩ : ∃ zs : List Int64, zs = List.replicate x1.toNatClampNeg 0 := ⟨_, rfl⟩
    rw [← e_xs25]
    have hl_xs25 : (xs25.length : Int) = x1.toInt := by rw [e_xs25, List.length_replicate]; simp only [Int32.toNatClampNeg]; omega
    have hc_xs25 : nz xs25 = 0 := by rw [e_xs25]; exact nz_rep _
    have hp_xs25 : ∀ y ∈ xs25, y = 0 := fun y hy => by rw [e_xs25] at hy; exact (List.mem_replicate.mp hy).2
    show Wp none l Z "com/example/orthrus/orthrus/SignatureSetFullPinLaw" "law" code maxLocals ret room_1 [(A24, oJ xs25), (a23, oI "com/example/orthrus/orthrus/SignatureSet" sg_1 [(.long (x1.toInt64 + x22.toInt64)), (.ref A24), (.int (0 : Int32)), (.int (0 : Int32))])] 2 15 36 #[.val (.int a), .val (.int b), .val (.int c), .val (.long d), .second, .val (.int e), .val (.int x1), .val (.int (1 : Int32)), .val (.int x22), .unset, .unset, .unset, .unset, .unset, .unset] [(.ref a23)] Q_law
    refine wp_astore #[.val (.int a), .val (.int b), .val (.int c), .val (.long d), .second, .val (.int e), .val (.int x1), .val (.int (1 : Int32)), .val (.int x22), .val (.ref a23), .unset, .unset, .unset, .unset, .unset] D_36 rfl rfl ?_
    refine wp_iload D_38 rfl ?_
    refine wp_iconst 1 D_40 (by decide) ?_
    refine wp_iand D_41 ?_
    have J29 : ∀ (b27 : Int32), (((e &&& (1 : Int32)) = (0 : Int32) ∧ b27 = (0 : Int32)) ∨ (¬ (e &&& (1 : Int32)) = (0 : Int32) ∧ b27 = (1 : Int32))) → Wp none l Z "com/example/orthrus/orthrus/SignatureSetFullPinLaw" "law" code maxLocals ret room_1 [(A24, oJ xs25), (a23, oI "com/example/orthrus/orthrus/SignatureSet" sg_1 [(.long (x1.toInt64 + x22.toInt64)), (.ref A24), (.int (0 : Int32)), (.int b27)])] 2 15 52 #[.val (.int a), .val (.int b), .val (.int c), .val (.long d), .second, .val (.int e), .val (.int x1), .val (.int (1 : Int32)), .val (.int x22), .val (.ref a23), .unset, .unset, .unset, .unset, .unset] [] Q_law := by
      intro b27 hj28
      refine wp_lload_n D_52 rfl ?_
      refine wp_iconst 3 D_53 (by decide) ?_
      refine wp_lshl D_54 ?_
      generalize hg_x30 : (d <<< ((3 : Int32).toInt64 &&& 63)) = x30
      have hlow : x30 &&& 7 = 0 := by rw [← hg_x30]; exact own_sh3 _
      refine wp_lstore #[.val (.int a), .val (.int b), .val (.int c), .val (.long d), .second, .val (.int e), .val (.int x1), .val (.int (1 : Int32)), .val (.int x22), .val (.ref a23), .val (.long x30), .second, .unset, .unset, .unset] D_55 rfl ?_
      refine wp_iload D_57 rfl ?_
      refine wp_iconst 1 D_59 (by decide) ?_
      refine wp_icmp_lt D_60 (pc'' := 73) ⟨by decide, by decide⟩ (fun h31 => by exact absurd h31 (by decide)) (fun h31 => ?_)
      refine wp_aload D_63 rfl rfl ?_
      refine wp_lload D_65 rfl ?_
      refine wp_lconst 1 D_67 (by decide) ?_
      refine wp_lor D_68 ?_
      refine Wp.pick [1, 0] (by decide) ?_
      show Wp none l Z "com/example/orthrus/orthrus/SignatureSetFullPinLaw" "law" code maxLocals ret room_1 [(a23, oI "com/example/orthrus/orthrus/SignatureSet" sg_1 [(.long (x1.toInt64 + x22.toInt64)), (.ref A24), (.int (0 : Int32)), (.int b27)]), (A24, oJ xs25)] 2 15 69 #[.val (.int a), .val (.int b), .val (.int c), .val (.long d), .second, .val (.int e), .val (.int x1), .val (.int (1 : Int32)), .val (.int x22), .val (.ref a23), .val (.long x30), .second, .unset, .unset, .unset] [(.long (x30 ||| (1 : Int64))), (.ref a23)] Q_law
      have hli_xs25 : xs25.length.toInt32 = x1 := by rw [show xs25.length = x1.toNatClampNeg from by simp only [Int32.toNatClampNeg]; omega]; exact (back32 (own_i32 _ (by omega))).1
      refine wp_virtual (c_add0 l Z a0 hw a23 A24 (x1.toInt64 + x22.toInt64) (x30 ||| (1 : Int64)) b27 x1 xs25 [] hli_xs25 hl_xs25 hn (own_sn0 _ _ hlow (by decide)) (fun y hy => by rw [hp_xs25 y hy]; exact fun e => own_sn0 x30 (1 : Int64) hlow (by decide) e.symm) hc_xs25) (exa_new (i := 0) rfl) D_69 (hw _ (List.mem_of_getElem? (i := 14) rfl)) (hw _ (List.mem_of_getElem? (i := 15) rfl)) (hw _ (List.mem_of_getElem? (i := 17) rfl)) (hw _ (List.mem_of_getElem? (i := 17) rfl)) (hw _ (List.mem_of_getElem? (i := 16) rfl)) (hw _ (List.mem_of_getElem? (i := 2) rfl)) (hw _ (List.mem_of_getElem? (i := 18) rfl)) (by decide) pd_8 rfl rfl rfl (Nat.le_of_ble_eq_true rfl) (Nat.le_of_ble_eq_true rfl) (Nat.le_of_ble_eq_true rfl) (Nat.le_of_ble_eq_true rfl) ?_
      rintro _ _ ⟨rfl, xs32, rfl, hl0_xs32, hc_xs32, hm_xs32⟩
      show Wp none l Z "com/example/orthrus/orthrus/SignatureSetFullPinLaw" "law" code maxLocals ret room_1 [(a23, oI "com/example/orthrus/orthrus/SignatureSet" sg_1 [(.long (x1.toInt64 + x22.toInt64)), (.ref A24), (.int (1 : Int32)), (.int b27)]), (A24, oJ xs32)] 2 15 72 #[.val (.int a), .val (.int b), .val (.int c), .val (.long d), .second, .val (.int e), .val (.int x1), .val (.int (1 : Int32)), .val (.int x22), .val (.ref a23), .val (.long x30), .second, .unset, .unset, .unset] [(.int (1 : Int32))] Q_law
      have hl_xs32 : (xs32.length : Int) = x1.toInt := by rw [hl0_xs32]; exact hl_xs25
      have hp_xs32 : ∀ y ∈ xs32, y = 0 ∨ y = (x30 ||| (1 : Int64)) := by
        intro y hy
        rcases hm_xs32 y hy with q | q
        · rw [hp_xs25 y q]; simp
        · rw [q]; simp
      show Wp none l Z "com/example/orthrus/orthrus/SignatureSetFullPinLaw" "law" code maxLocals ret room_1 [(a23, oI "com/example/orthrus/orthrus/SignatureSet" sg_1 [(.long (x1.toInt64 + x22.toInt64)), (.ref A24), (.int (1 : Int32)), (.int b27)]), (A24, oJ xs32)] 2 15 72 #[.val (.int a), .val (.int b), .val (.int c), .val (.long d), .second, .val (.int e), .val (.int x1), .val (.int (1 : Int32)), .val (.int x22), .val (.ref a23), .val (.long x30), .second, .unset, .unset, .unset] [(.int (1 : Int32))] Q_law
      refine wp_pop D_72 rfl ?_
      refine wp_iload D_73 rfl ?_
      refine wp_iconst 2 D_75 (by decide) ?_
      refine wp_icmp_lt D_76 (pc'' := 91) ⟨by decide, by decide⟩ (fun h33 => ?_) (fun h33 => by exact absurd h33 (by decide))
      refine wp_iload D_91 rfl ?_
      refine wp_iconst 3 D_93 (by decide) ?_
      refine wp_icmp_lt D_94 (pc'' := 109) ⟨by decide, by decide⟩ (fun h34 => ?_) (fun h34 => by exact absurd h34 (by decide))
      refine wp_iload D_109 rfl ?_
      refine wp_iconst 4 D_111 (by decide) ?_
      refine wp_icmp_lt D_112 (pc'' := 127) ⟨by decide, by decide⟩ (fun h35 => ?_) (fun h35 => by exact absurd h35 (by decide))
      refine wp_iload D_127 rfl ?_
      refine wp_iconst 5 D_129 (by decide) ?_
      refine wp_icmp_lt D_130 (pc'' := 145) ⟨by decide, by decide⟩ (fun h36 => ?_) (fun h36 => by exact absurd h36 (by decide))
      refine wp_iload D_145 rfl ?_
      refine wp_bipush 6 D_147 (by decide) ?_
      refine wp_icmp_lt D_149 (pc'' := 164) ⟨by decide, by decide⟩ (fun h37 => ?_) (fun h37 => by exact absurd h37 (by decide))
      refine wp_iload D_164 rfl ?_
      refine wp_bipush 7 D_166 (by decide) ?_
      refine wp_icmp_lt D_168 (pc'' := 183) ⟨by decide, by decide⟩ (fun h38 => ?_) (fun h38 => by exact absurd h38 (by decide))
      refine wp_aload D_183 rfl rfl ?_
      refine wp_virtual (c_full l Z a0 hw a23 A24 (x1.toInt64 + x22.toInt64) b27 (1 : Int32) x1 xs32 [] (by rw [show xs32.length = x1.toNatClampNeg from by simp only [Int32.toNatClampNeg]; omega]; exact (back32 (own_i32 _ (by omega))).1)) (exa_new (i := 0) rfl) D_185 (hw _ (List.mem_of_getElem? (i := 48) rfl)) (hw _ (List.mem_of_getElem? (i := 37) rfl)) (hw _ (List.mem_of_getElem? (i := 39) rfl)) (hw _ (List.mem_of_getElem? (i := 39) rfl)) (hw _ (List.mem_of_getElem? (i := 38) rfl)) (hw _ (List.mem_of_getElem? (i := 2) rfl)) (hw _ (List.mem_of_getElem? (i := 40) rfl)) (by decide) pd_4 rfl rfl rfl (Nat.le_of_ble_eq_true rfl) (Nat.le_of_ble_eq_true rfl) (Nat.le_of_ble_eq_true rfl) (Nat.le_of_ble_eq_true rfl) ?_
      rintro _ _ ⟨rfl, rfl⟩
      rw [show f_full (1 : Int32) x1 = (0 : Int32) from by unfold f_full; rw [own_n4 x1 hn]; rfl]
      show Wp none l Z "com/example/orthrus/orthrus/SignatureSetFullPinLaw" "law" code maxLocals ret room_1 [(a23, oI "com/example/orthrus/orthrus/SignatureSet" sg_1 [(.long (x1.toInt64 + x22.toInt64)), (.ref A24), (.int (1 : Int32)), (.int b27)]), (A24, oJ xs32)] 2 15 188 #[.val (.int a), .val (.int b), .val (.int c), .val (.long d), .second, .val (.int e), .val (.int x1), .val (.int (1 : Int32)), .val (.int x22), .val (.ref a23), .val (.long x30), .second, .unset, .unset, .unset] [(.int (0 : Int32))] Q_law
      refine wp_istore #[.val (.int a), .val (.int b), .val (.int c), .val (.long d), .second, .val (.int e), .val (.int x1), .val (.int (1 : Int32)), .val (.int x22), .val (.ref a23), .val (.long x30), .second, .val (.int (0 : Int32)), .unset, .unset] D_188 rfl ?_
      refine wp_iload D_190 rfl ?_
      refine wp_istore #[.val (.int a), .val (.int b), .val (.int c), .val (.long d), .second, .val (.int e), .val (.int x1), .val (.int (1 : Int32)), .val (.int x22), .val (.ref a23), .val (.long x30), .second, .val (.int (0 : Int32)), .val (.int x1), .unset] D_192 rfl ?_
      refine wp_iload D_194 rfl ?_
      refine wp_bipush 7 D_196 (by decide) ?_
      refine wp_icmp_ne D_198 (pc'' := 219) ⟨by decide, by decide⟩ (fun h39 => ?_) (fun h39 => by exact absurd h39 (by decide))
      refine wp_iload D_219 rfl ?_
      refine wp_iload D_221 rfl ?_
      refine wp_iconst 4 D_223 (by decide) ?_
      refine wp_idiv D_224 (by decide) ?_
      refine wp_iconst 3 D_225 (by decide) ?_
      refine wp_imul D_226 ?_
      refine wp_icmp_le D_227 (pc'' := 234) ⟨by decide, by decide⟩ (fun h40 => ?_) (fun h40 => by rw [own_n4 x1 hn] at h40; exact absurd h40 (by decide))
      refine wp_iconst 0 D_234 (by decide) ?_
      refine wp_istore #[.val (.int a), .val (.int b), .val (.int c), .val (.long d), .second, .val (.int e), .val (.int x1), .val (.int (1 : Int32)), .val (.int x22), .val (.ref a23), .val (.long x30), .second, .val (.int (0 : Int32)), .val (.int x1), .val (.int (0 : Int32))] D_235 rfl ?_
      refine wp_iload D_237 rfl ?_
      refine wp_iload D_239 rfl ?_
      refine wp_icmp_ne D_241 (pc'' := 248) ⟨by decide, by decide⟩ (fun h41 => by exact absurd h41 (by decide)) (fun h41 => ?_)
      refine wp_iconst 1 D_244 (by decide) ?_
      refine wp_goto D_245 (pc'' := 249) ⟨by decide, by decide⟩ ?_
      refine wp_ireturnN D_249 rfl (by simp) (by decide) (by decide) ?_
      exact rfl
    refine wp_if_eq D_42 (pc'' := 52) ⟨by decide, by decide⟩ (fun h26 => ?_) (fun h26 => ?_)
    · skip
      exact (J29 (0 : Int32) (Or.inl ⟨h26, rfl⟩))
    · skip
      refine wp_aload D_45 rfl rfl ?_
      refine wp_lconst 0 D_47 (by decide) ?_
      refine Wp.pick [1, 0] (by decide) ?_
      show Wp none l Z "com/example/orthrus/orthrus/SignatureSetFullPinLaw" "law" code maxLocals ret room_1 [(a23, oI "com/example/orthrus/orthrus/SignatureSet" sg_1 [(.long (x1.toInt64 + x22.toInt64)), (.ref A24), (.int (0 : Int32)), (.int (0 : Int32))]), (A24, oJ xs25)] 2 15 48 #[.val (.int a), .val (.int b), .val (.int c), .val (.long d), .second, .val (.int e), .val (.int x1), .val (.int (1 : Int32)), .val (.int x22), .val (.ref a23), .unset, .unset, .unset, .unset, .unset] [(.long (0 : Int64)), (.ref a23)] Q_law
      refine wp_virtual (c_addz l Z a0 hw a23 A24 (x1.toInt64 + x22.toInt64) [(A24, oJ xs25)]) (exa_new (i := 0) rfl) D_48 (hw _ (List.mem_of_getElem? (i := 14) rfl)) (hw _ (List.mem_of_getElem? (i := 15) rfl)) (hw _ (List.mem_of_getElem? (i := 17) rfl)) (hw _ (List.mem_of_getElem? (i := 17) rfl)) (hw _ (List.mem_of_getElem? (i := 16) rfl)) (hw _ (List.mem_of_getElem? (i := 2) rfl)) (hw _ (List.mem_of_getElem? (i := 18) rfl)) (by decide) pd_8 rfl rfl rfl (Nat.le_of_ble_eq_true rfl) (Nat.le_of_ble_eq_true rfl) (Nat.le_of_ble_eq_true rfl) (Nat.le_of_ble_eq_true rfl) ?_
      rintro _ _ ⟨rfl, rfl⟩
      show Wp none l Z "com/example/orthrus/orthrus/SignatureSetFullPinLaw" "law" code maxLocals ret room_1 [(a23, oI "com/example/orthrus/orthrus/SignatureSet" sg_1 [(.long (x1.toInt64 + x22.toInt64)), (.ref A24), (.int (0 : Int32)), (.int (1 : Int32))]), (A24, oJ xs25)] 2 15 51 #[.val (.int a), .val (.int b), .val (.int c), .val (.long d), .second, .val (.int e), .val (.int x1), .val (.int (1 : Int32)), .val (.int x22), .val (.ref a23), .unset, .unset, .unset, .unset, .unset] [(.int (1 : Int32))] Q_law
      refine wp_pop D_51 rfl ?_
      refine Wp.pick [1, 0] (by decide) ?_
      show Wp none l Z "com/example/orthrus/orthrus/SignatureSetFullPinLaw" "law" code maxLocals ret room_1 [(A24, oJ xs25), (a23, oI "com/example/orthrus/orthrus/SignatureSet" sg_1 [(.long (x1.toInt64 + x22.toInt64)), (.ref A24), (.int (0 : Int32)), (.int (1 : Int32))])] 2 15 52 #[.val (.int a), .val (.int b), .val (.int c), .val (.long d), .second, .val (.int e), .val (.int x1), .val (.int (1 : Int32)), .val (.int x22), .val (.ref a23), .unset, .unset, .unset, .unset, .unset] [] Q_law
      exact (J29 (1 : Int32) (Or.inr ⟨h26, rfl⟩))
  · subst hs_x2
    show Wp none l Z "com/example/orthrus/orthrus/SignatureSetFullPinLaw" "law" code maxLocals ret room_1 [] 0 0 14 #[.val (.int a), .val (.int b), .val (.int c), .val (.long d), .second, .val (.int e), .val (.int x1), .val (.int (2 : Int32)), .unset, .unset, .unset, .unset, .unset, .unset, .unset] [] Q_law
    refine wp_iload_n D_14 rfl ?_
    refine wp_bipush 31 D_15 (by decide) ?_
    refine wp_iand D_17 ?_
    generalize hg_x42 : (c &&& (31 : Int32)) = x42
    have hm : 0 ≤ x42.toInt ∧ x42.toInt ≤ 31 := by rw [← hg_x42]; exact own_a31 _
    refine wp_istore #[.val (.int a), .val (.int b), .val (.int c), .val (.long d), .second, .val (.int e), .val (.int x1), .val (.int (2 : Int32)), .val (.int x42), .unset, .unset, .unset, .unset, .unset, .unset] D_18 rfl ?_
    have hms : x1.toInt64 + x42.toInt64 = x1.toInt64 + x42.toInt64 := rfl
    refine wp_new sg_1 [(.long (0 : Int64)), (.null), (.int (0 : Int32)), (.int (0 : Int32))] D_20 (hw _ (List.mem_of_getElem? (i := 0) rfl)) (hw _ (List.mem_of_getElem? (i := 1) rfl)) (hw _ (List.mem_of_getElem? (i := 2) rfl)) (laid_sg_1 l Z a0 hw) (by decide) dfl_sg_1 (by decide) (by decide) ?_
    intro a43
    show Wp none l Z "com/example/orthrus/orthrus/SignatureSetFullPinLaw" "law" code maxLocals ret room_1 [(a43, oI "com/example/orthrus/orthrus/SignatureSet" sg_1 [(.long (0 : Int64)), (.null), (.int (0 : Int32)), (.int (0 : Int32))])] 1 4 23 #[.val (.int a), .val (.int b), .val (.int c), .val (.long d), .second, .val (.int e), .val (.int x1), .val (.int (2 : Int32)), .val (.int x42), .unset, .unset, .unset, .unset, .unset, .unset] [(.ref a43)] Q_law
    refine wp_dup D_23 rfl ?_
    refine wp_iload D_24 rfl ?_
    refine wp_iload D_26 rfl ?_
    refine wp_i2l D_28 ?_
    refine wp_iload D_29 rfl ?_
    refine wp_i2l D_31 ?_
    refine wp_ladd D_32 ?_
    refine wp_init (c_new l Z a0 hw a43 x1 (x1.toInt64 + x42.toInt64) [] hn) D_33 rfl (hw _ (List.mem_of_getElem? (i := 3) rfl)) (hw _ (List.mem_of_getElem? (i := 4) rfl)) (hw _ (List.mem_of_getElem? (i := 2) rfl)) (hw _ (List.mem_of_getElem? (i := 5) rfl)) (by decide) pd_7 rfl rfl rfl (Nat.le_of_ble_eq_true rfl) (Nat.le_of_ble_eq_true rfl) (Nat.le_of_ble_eq_true rfl) (Nat.le_of_ble_eq_true rfl) ?_
    rintro _ _ ⟨rfl, A44, rfl⟩
    show Wp none l Z "com/example/orthrus/orthrus/SignatureSetFullPinLaw" "law" code maxLocals ret room_1 [(A44, oJ (List.replicate x1.toNatClampNeg 0)), (a43, oI "com/example/orthrus/orthrus/SignatureSet" sg_1 [(.long (x1.toInt64 + x42.toInt64)), (.ref A44), (.int (0 : Int32)), (.int (0 : Int32))])] 2 15 36 #[.val (.int a), .val (.int b), .val (.int c), .val (.long d), .second, .val (.int e), .val (.int x1), .val (.int (2 : Int32)), .val (.int x42), .unset, .unset, .unset, .unset, .unset, .unset] [(.ref a43)] Q_law
    obtain ⟨xs45, e_xs45⟩ : ∃ zs : List Int64, zs = List.replicate x1.toNatClampNeg 0 := ⟨_, rfl⟩
    rw [← e_xs45]
    have hl_xs45 : (xs45.length : Int) = x1.toInt := by rw [e_xs45, List.length_replicate]; simp only [Int32.toNatClampNeg]; omega
    have hc_xs45 : nz xs45 = 0 := by rw [e_xs45]; exact nz_rep _
    have hp_xs45 : ∀ y ∈ xs45, y = 0 := fun y hy => by rw [e_xs45] at hy; exact (List.mem_replicate.mp hy).2
    show Wp none l Z "com/example/orthrus/orthrus/SignatureSetFullPinLaw" "law" code maxLocals ret room_1 [(A44, oJ xs45), (a43, oI "com/example/orthrus/orthrus/SignatureSet" sg_1 [(.long (x1.toInt64 + x42.toInt64)), (.ref A44), (.int (0 : Int32)), (.int (0 : Int32))])] 2 15 36 #[.val (.int a), .val (.int b), .val (.int c), .val (.long d), .second, .val (.int e), .val (.int x1), .val (.int (2 : Int32)), .val (.int x42), .unset, .unset, .unset, .unset, .unset, .unset] [(.ref a43)] Q_law
    refine wp_astore #[.val (.int a), .val (.int b), .val (.int c), .val (.long d), .second, .val (.int e), .val (.int x1), .val (.int (2 : Int32)), .val (.int x42), .val (.ref a43), .unset, .unset, .unset, .unset, .unset] D_36 rfl rfl ?_
    refine wp_iload D_38 rfl ?_
    refine wp_iconst 1 D_40 (by decide) ?_
    refine wp_iand D_41 ?_
    have J49 : ∀ (b47 : Int32), (((e &&& (1 : Int32)) = (0 : Int32) ∧ b47 = (0 : Int32)) ∨ (¬ (e &&& (1 : Int32)) = (0 : Int32) ∧ b47 = (1 : Int32))) → Wp none l Z "com/example/orthrus/orthrus/SignatureSetFullPinLaw" "law" code maxLocals ret room_1 [(A44, oJ xs45), (a43, oI "com/example/orthrus/orthrus/SignatureSet" sg_1 [(.long (x1.toInt64 + x42.toInt64)), (.ref A44), (.int (0 : Int32)), (.int b47)])] 2 15 52 #[.val (.int a), .val (.int b), .val (.int c), .val (.long d), .second, .val (.int e), .val (.int x1), .val (.int (2 : Int32)), .val (.int x42), .val (.ref a43), .unset, .unset, .unset, .unset, .unset] [] Q_law := by
      intro b47 hj48
      refine wp_lload_n D_52 rfl ?_
      refine wp_iconst 3 D_53 (by decide) ?_
      refine wp_lshl D_54 ?_
      generalize hg_x50 : (d <<< ((3 : Int32).toInt64 &&& 63)) = x50
      have hlow : x50 &&& 7 = 0 := by rw [← hg_x50]; exact own_sh3 _
      refine wp_lstore #[.val (.int a), .val (.int b), .val (.int c), .val (.long d), .second, .val (.int e), .val (.int x1), .val (.int (2 : Int32)), .val (.int x42), .val (.ref a43), .val (.long x50), .second, .unset, .unset, .unset] D_55 rfl ?_
      refine wp_iload D_57 rfl ?_
      refine wp_iconst 1 D_59 (by decide) ?_
      refine wp_icmp_lt D_60 (pc'' := 73) ⟨by decide, by decide⟩ (fun h51 => by exact absurd h51 (by decide)) (fun h51 => ?_)
      refine wp_aload D_63 rfl rfl ?_
      refine wp_lload D_65 rfl ?_
      refine wp_lconst 1 D_67 (by decide) ?_
      refine wp_lor D_68 ?_
      refine Wp.pick [1, 0] (by decide) ?_
      show Wp none l Z "com/example/orthrus/orthrus/SignatureSetFullPinLaw" "law" code maxLocals ret room_1 [(a43, oI "com/example/orthrus/orthrus/SignatureSet" sg_1 [(.long (x1.toInt64 + x42.toInt64)), (.ref A44), (.int (0 : Int32)), (.int b47)]), (A44, oJ xs45)] 2 15 69 #[.val (.int a), .val (.int b), .val (.int c), .val (.long d), .second, .val (.int e), .val (.int x1), .val (.int (2 : Int32)), .val (.int x42), .val (.ref a43), .val (.long x50), .second, .unset, .unset, .unset] [(.long (x50 ||| (1 : Int64))), (.ref a43)] Q_law
      have hli_xs45 : xs45.length.toInt32 = x1 := by rw [show xs45.length = x1.toNatClampNeg from by simp only [Int32.toNatClampNeg]; omega]; exact (back32 (own_i32 _ (by omega))).1
      refine wp_virtual (c_add0 l Z a0 hw a43 A44 (x1.toInt64 + x42.toInt64) (x50 ||| (1 : Int64)) b47 x1 xs45 [] hli_xs45 hl_xs45 hn (own_sn0 _ _ hlow (by decide)) (fun y hy => by rw [hp_xs45 y hy]; exact fun e => own_sn0 x50 (1 : Int64) hlow (by decide) e.symm) hc_xs45) (exa_new (i := 0) rfl) D_69 (hw _ (List.mem_of_getElem? (i := 14) rfl)) (hw _ (List.mem_of_getElem? (i := 15) rfl)) (hw _ (List.mem_of_getElem? (i := 17) rfl)) (hw _ (List.mem_of_getElem? (i := 17) rfl)) (hw _ (List.mem_of_getElem? (i := 16) rfl)) (hw _ (List.mem_of_getElem? (i := 2) rfl)) (hw _ (List.mem_of_getElem? (i := 18) rfl)) (by decide) pd_8 rfl rfl rfl (Nat.le_of_ble_eq_true rfl) (Nat.le_of_ble_eq_true rfl) (Nat.le_of_ble_eq_true rfl) (Nat.le_of_ble_eq_true rfl) ?_
      rintro _ _ ⟨rfl, xs52, rfl, hl0_xs52, hc_xs52, hm_xs52⟩
      show Wp none l Z "com/example/orthrus/orthrus/SignatureSetFullPinLaw" "law" code maxLocals ret room_1 [(a43, oI "com/example/orthrus/orthrus/SignatureSet" sg_1 [(.long (x1.toInt64 + x42.toInt64)), (.ref A44), (.int (1 : Int32)), (.int b47)]), (A44, oJ xs52)] 2 15 72 #[.val (.int a), .val (.int b), .val (.int c), .val (.long d), .second, .val (.int e), .val (.int x1), .val (.int (2 : Int32)), .val (.int x42), .val (.ref a43), .val (.long x50), .second, .unset, .unset, .unset] [(.int (1 : Int32))] Q_law
      have hl_xs52 : (xs52.length : Int) = x1.toInt := by rw [hl0_xs52]; exact hl_xs45
      have hp_xs52 : ∀ y ∈ xs52, y = 0 ∨ y = (x50 ||| (1 : Int64)) := by
        intro y hy
        rcases hm_xs52 y hy with q | q
        · rw [hp_xs45 y q]; simp
        · rw [q]; simp
      show Wp none l Z "com/example/orthrus/orthrus/SignatureSetFullPinLaw" "law" code maxLocals ret room_1 [(a43, oI "com/example/orthrus/orthrus/SignatureSet" sg_1 [(.long (x1.toInt64 + x42.toInt64)), (.ref A44), (.int (1 : Int32)), (.int b47)]), (A44, oJ xs52)] 2 15 72 #[.val (.int a), .val (.int b), .val (.int c), .val (.long d), .second, .val (.int e), .val (.int x1), .val (.int (2 : Int32)), .val (.int x42), .val (.ref a43), .val (.long x50), .second, .unset, .unset, .unset] [(.int (1 : Int32))] Q_law
      refine wp_pop D_72 rfl ?_
      refine wp_iload D_73 rfl ?_
      refine wp_iconst 2 D_75 (by decide) ?_
      refine wp_icmp_lt D_76 (pc'' := 91) ⟨by decide, by decide⟩ (fun h53 => by exact absurd h53 (by decide)) (fun h53 => ?_)
      refine wp_aload D_79 rfl rfl ?_
      refine wp_lload D_81 rfl ?_
      refine wp_ldc2J D_83 (hw _ (List.mem_of_getElem? (i := 43) rfl)) ?_
      refine wp_lor D_86 ?_
      have hli_xs52 : xs52.length.toInt32 = x1 := by rw [show xs52.length = x1.toNatClampNeg from by simp only [Int32.toNatClampNeg]; omega]; exact (back32 (own_i32 _ (by omega))).1
      refine wp_virtual (c_add1 l Z a0 hw a43 A44 (x1.toInt64 + x42.toInt64) (x50 ||| (2 : Int64)) b47 x1 xs52 [] hli_xs52 hl_xs52 hn (own_sn0 _ _ hlow (by decide)) (fun y hy => by rcases hp_xs52 y hy with rfl | rfl <;> first | exact fun e => own_sn0 x50 (2 : Int64) hlow (by decide) e.symm | exact own_sne _ _ _ hlow (by decide)) hc_xs52) (exa_new (i := 0) rfl) D_87 (hw _ (List.mem_of_getElem? (i := 14) rfl)) (hw _ (List.mem_of_getElem? (i := 15) rfl)) (hw _ (List.mem_of_getElem? (i := 17) rfl)) (hw _ (List.mem_of_getElem? (i := 17) rfl)) (hw _ (List.mem_of_getElem? (i := 16) rfl)) (hw _ (List.mem_of_getElem? (i := 2) rfl)) (hw _ (List.mem_of_getElem? (i := 18) rfl)) (by decide) pd_8 rfl rfl rfl (Nat.le_of_ble_eq_true rfl) (Nat.le_of_ble_eq_true rfl) (Nat.le_of_ble_eq_true rfl) (Nat.le_of_ble_eq_true rfl) ?_
      rintro _ _ ⟨rfl, xs54, rfl, hl0_xs54, hc_xs54, hm_xs54⟩
      show Wp none l Z "com/example/orthrus/orthrus/SignatureSetFullPinLaw" "law" code maxLocals ret room_1 [(a43, oI "com/example/orthrus/orthrus/SignatureSet" sg_1 [(.long (x1.toInt64 + x42.toInt64)), (.ref A44), (.int (2 : Int32)), (.int b47)]), (A44, oJ xs54)] 2 15 90 #[.val (.int a), .val (.int b), .val (.int c), .val (.long d), .second, .val (.int e), .val (.int x1), .val (.int (2 : Int32)), .val (.int x42), .val (.ref a43), .val (.long x50), .second, .unset, .unset, .unset] [(.int (1 : Int32))] Q_law
      have hl_xs54 : (xs54.length : Int) = x1.toInt := by rw [hl0_xs54]; exact hl_xs52
      have hp_xs54 : ∀ y ∈ xs54, y = 0 ∨ y = (x50 ||| (1 : Int64)) ∨ y = (x50 ||| (2 : Int64)) := by
        intro y hy
        rcases hm_xs54 y hy with q | q
        · rcases hp_xs52 y q with rfl | rfl <;> simp
        · rw [q]; simp
      show Wp none l Z "com/example/orthrus/orthrus/SignatureSetFullPinLaw" "law" code maxLocals ret room_1 [(a43, oI "com/example/orthrus/orthrus/SignatureSet" sg_1 [(.long (x1.toInt64 + x42.toInt64)), (.ref A44), (.int (2 : Int32)), (.int b47)]), (A44, oJ xs54)] 2 15 90 #[.val (.int a), .val (.int b), .val (.int c), .val (.long d), .second, .val (.int e), .val (.int x1), .val (.int (2 : Int32)), .val (.int x42), .val (.ref a43), .val (.long x50), .second, .unset, .unset, .unset] [(.int (1 : Int32))] Q_law
      refine wp_pop D_90 rfl ?_
      refine wp_iload D_91 rfl ?_
      refine wp_iconst 3 D_93 (by decide) ?_
      refine wp_icmp_lt D_94 (pc'' := 109) ⟨by decide, by decide⟩ (fun h55 => ?_) (fun h55 => by exact absurd h55 (by decide))
      refine wp_iload D_109 rfl ?_
      refine wp_iconst 4 D_111 (by decide) ?_
      refine wp_icmp_lt D_112 (pc'' := 127) ⟨by decide, by decide⟩ (fun h56 => ?_) (fun h56 => by exact absurd h56 (by decide))
      refine wp_iload D_127 rfl ?_
      refine wp_iconst 5 D_129 (by decide) ?_
      refine wp_icmp_lt D_130 (pc'' := 145) ⟨by decide, by decide⟩ (fun h57 => ?_) (fun h57 => by exact absurd h57 (by decide))
      refine wp_iload D_145 rfl ?_
      refine wp_bipush 6 D_147 (by decide) ?_
      refine wp_icmp_lt D_149 (pc'' := 164) ⟨by decide, by decide⟩ (fun h58 => ?_) (fun h58 => by exact absurd h58 (by decide))
      refine wp_iload D_164 rfl ?_
      refine wp_bipush 7 D_166 (by decide) ?_
      refine wp_icmp_lt D_168 (pc'' := 183) ⟨by decide, by decide⟩ (fun h59 => ?_) (fun h59 => by exact absurd h59 (by decide))
      refine wp_aload D_183 rfl rfl ?_
      refine wp_virtual (c_full l Z a0 hw a43 A44 (x1.toInt64 + x42.toInt64) b47 (2 : Int32) x1 xs54 [] (by rw [show xs54.length = x1.toNatClampNeg from by simp only [Int32.toNatClampNeg]; omega]; exact (back32 (own_i32 _ (by omega))).1)) (exa_new (i := 0) rfl) D_185 (hw _ (List.mem_of_getElem? (i := 48) rfl)) (hw _ (List.mem_of_getElem? (i := 37) rfl)) (hw _ (List.mem_of_getElem? (i := 39) rfl)) (hw _ (List.mem_of_getElem? (i := 39) rfl)) (hw _ (List.mem_of_getElem? (i := 38) rfl)) (hw _ (List.mem_of_getElem? (i := 2) rfl)) (hw _ (List.mem_of_getElem? (i := 40) rfl)) (by decide) pd_4 rfl rfl rfl (Nat.le_of_ble_eq_true rfl) (Nat.le_of_ble_eq_true rfl) (Nat.le_of_ble_eq_true rfl) (Nat.le_of_ble_eq_true rfl) ?_
      rintro _ _ ⟨rfl, rfl⟩
      rw [show f_full (2 : Int32) x1 = (0 : Int32) from by unfold f_full; rw [own_n4 x1 hn]; rfl]
      show Wp none l Z "com/example/orthrus/orthrus/SignatureSetFullPinLaw" "law" code maxLocals ret room_1 [(a43, oI "com/example/orthrus/orthrus/SignatureSet" sg_1 [(.long (x1.toInt64 + x42.toInt64)), (.ref A44), (.int (2 : Int32)), (.int b47)]), (A44, oJ xs54)] 2 15 188 #[.val (.int a), .val (.int b), .val (.int c), .val (.long d), .second, .val (.int e), .val (.int x1), .val (.int (2 : Int32)), .val (.int x42), .val (.ref a43), .val (.long x50), .second, .unset, .unset, .unset] [(.int (0 : Int32))] Q_law
      refine wp_istore #[.val (.int a), .val (.int b), .val (.int c), .val (.long d), .second, .val (.int e), .val (.int x1), .val (.int (2 : Int32)), .val (.int x42), .val (.ref a43), .val (.long x50), .second, .val (.int (0 : Int32)), .unset, .unset] D_188 rfl ?_
      refine wp_iload D_190 rfl ?_
      refine wp_istore #[.val (.int a), .val (.int b), .val (.int c), .val (.long d), .second, .val (.int e), .val (.int x1), .val (.int (2 : Int32)), .val (.int x42), .val (.ref a43), .val (.long x50), .second, .val (.int (0 : Int32)), .val (.int x1), .unset] D_192 rfl ?_
      refine wp_iload D_194 rfl ?_
      refine wp_bipush 7 D_196 (by decide) ?_
      refine wp_icmp_ne D_198 (pc'' := 219) ⟨by decide, by decide⟩ (fun h60 => ?_) (fun h60 => by exact absurd h60 (by decide))
      refine wp_iload D_219 rfl ?_
      refine wp_iload D_221 rfl ?_
      refine wp_iconst 4 D_223 (by decide) ?_
      refine wp_idiv D_224 (by decide) ?_
      refine wp_iconst 3 D_225 (by decide) ?_
      refine wp_imul D_226 ?_
      refine wp_icmp_le D_227 (pc'' := 234) ⟨by decide, by decide⟩ (fun h61 => ?_) (fun h61 => by rw [own_n4 x1 hn] at h61; exact absurd h61 (by decide))
      refine wp_iconst 0 D_234 (by decide) ?_
      refine wp_istore #[.val (.int a), .val (.int b), .val (.int c), .val (.long d), .second, .val (.int e), .val (.int x1), .val (.int (2 : Int32)), .val (.int x42), .val (.ref a43), .val (.long x50), .second, .val (.int (0 : Int32)), .val (.int x1), .val (.int (0 : Int32))] D_235 rfl ?_
      refine wp_iload D_237 rfl ?_
      refine wp_iload D_239 rfl ?_
      refine wp_icmp_ne D_241 (pc'' := 248) ⟨by decide, by decide⟩ (fun h62 => by exact absurd h62 (by decide)) (fun h62 => ?_)
      refine wp_iconst 1 D_244 (by decide) ?_
      refine wp_goto D_245 (pc'' := 249) ⟨by decide, by decide⟩ ?_
      refine wp_ireturnN D_249 rfl (by simp) (by decide) (by decide) ?_
      exact rfl
    refine wp_if_eq D_42 (pc'' := 52) ⟨by decide, by decide⟩ (fun h46 => ?_) (fun h46 => ?_)
    · skip
      exact (J49 (0 : Int32) (Or.inl ⟨h46, rfl⟩))
    · skip
      refine wp_aload D_45 rfl rfl ?_
      refine wp_lconst 0 D_47 (by decide) ?_
      refine Wp.pick [1, 0] (by decide) ?_
      show Wp none l Z "com/example/orthrus/orthrus/SignatureSetFullPinLaw" "law" code maxLocals ret room_1 [(a43, oI "com/example/orthrus/orthrus/SignatureSet" sg_1 [(.long (x1.toInt64 + x42.toInt64)), (.ref A44), (.int (0 : Int32)), (.int (0 : Int32))]), (A44, oJ xs45)] 2 15 48 #[.val (.int a), .val (.int b), .val (.int c), .val (.long d), .second, .val (.int e), .val (.int x1), .val (.int (2 : Int32)), .val (.int x42), .val (.ref a43), .unset, .unset, .unset, .unset, .unset] [(.long (0 : Int64)), (.ref a43)] Q_law
      refine wp_virtual (c_addz l Z a0 hw a43 A44 (x1.toInt64 + x42.toInt64) [(A44, oJ xs45)]) (exa_new (i := 0) rfl) D_48 (hw _ (List.mem_of_getElem? (i := 14) rfl)) (hw _ (List.mem_of_getElem? (i := 15) rfl)) (hw _ (List.mem_of_getElem? (i := 17) rfl)) (hw _ (List.mem_of_getElem? (i := 17) rfl)) (hw _ (List.mem_of_getElem? (i := 16) rfl)) (hw _ (List.mem_of_getElem? (i := 2) rfl)) (hw _ (List.mem_of_getElem? (i := 18) rfl)) (by decide) pd_8 rfl rfl rfl (Nat.le_of_ble_eq_true rfl) (Nat.le_of_ble_eq_true rfl) (Nat.le_of_ble_eq_true rfl) (Nat.le_of_ble_eq_true rfl) ?_
      rintro _ _ ⟨rfl, rfl⟩
      show Wp none l Z "com/example/orthrus/orthrus/SignatureSetFullPinLaw" "law" code maxLocals ret room_1 [(a43, oI "com/example/orthrus/orthrus/SignatureSet" sg_1 [(.long (x1.toInt64 + x42.toInt64)), (.ref A44), (.int (0 : Int32)), (.int (1 : Int32))]), (A44, oJ xs45)] 2 15 51 #[.val (.int a), .val (.int b), .val (.int c), .val (.long d), .second, .val (.int e), .val (.int x1), .val (.int (2 : Int32)), .val (.int x42), .val (.ref a43), .unset, .unset, .unset, .unset, .unset] [(.int (1 : Int32))] Q_law
      refine wp_pop D_51 rfl ?_
      refine Wp.pick [1, 0] (by decide) ?_
      show Wp none l Z "com/example/orthrus/orthrus/SignatureSetFullPinLaw" "law" code maxLocals ret room_1 [(A44, oJ xs45), (a43, oI "com/example/orthrus/orthrus/SignatureSet" sg_1 [(.long (x1.toInt64 + x42.toInt64)), (.ref A44), (.int (0 : Int32)), (.int (1 : Int32))])] 2 15 52 #[.val (.int a), .val (.int b), .val (.int c), .val (.long d), .second, .val (.int e), .val (.int x1), .val (.int (2 : Int32)), .val (.int x42), .val (.ref a43), .unset, .unset, .unset, .unset, .unset] [] Q_law
      exact (J49 (1 : Int32) (Or.inr ⟨h46, rfl⟩))
  · subst hs_x2
    show Wp none l Z "com/example/orthrus/orthrus/SignatureSetFullPinLaw" "law" code maxLocals ret room_1 [] 0 0 14 #[.val (.int a), .val (.int b), .val (.int c), .val (.long d), .second, .val (.int e), .val (.int x1), .val (.int (3 : Int32)), .unset, .unset, .unset, .unset, .unset, .unset, .unset] [] Q_law
    refine wp_iload_n D_14 rfl ?_
    refine wp_bipush 31 D_15 (by decide) ?_
    refine wp_iand D_17 ?_
    generalize hg_x63 : (c &&& (31 : Int32)) = x63
    have hm : 0 ≤ x63.toInt ∧ x63.toInt ≤ 31 := by rw [← hg_x63]; exact own_a31 _
    refine wp_istore #[.val (.int a), .val (.int b), .val (.int c), .val (.long d), .second, .val (.int e), .val (.int x1), .val (.int (3 : Int32)), .val (.int x63), .unset, .unset, .unset, .unset, .unset, .unset] D_18 rfl ?_
    have hms : x1.toInt64 + x63.toInt64 = x1.toInt64 + x63.toInt64 := rfl
    refine wp_new sg_1 [(.long (0 : Int64)), (.null), (.int (0 : Int32)), (.int (0 : Int32))] D_20 (hw _ (List.mem_of_getElem? (i := 0) rfl)) (hw _ (List.mem_of_getElem? (i := 1) rfl)) (hw _ (List.mem_of_getElem? (i := 2) rfl)) (laid_sg_1 l Z a0 hw) (by decide) dfl_sg_1 (by decide) (by decide) ?_
    intro a64
    show Wp none l Z "com/example/orthrus/orthrus/SignatureSetFullPinLaw" "law" code maxLocals ret room_1 [(a64, oI "com/example/orthrus/orthrus/SignatureSet" sg_1 [(.long (0 : Int64)), (.null), (.int (0 : Int32)), (.int (0 : Int32))])] 1 4 23 #[.val (.int a), .val (.int b), .val (.int c), .val (.long d), .second, .val (.int e), .val (.int x1), .val (.int (3 : Int32)), .val (.int x63), .unset, .unset, .unset, .unset, .unset, .unset] [(.ref a64)] Q_law
    refine wp_dup D_23 rfl ?_
    refine wp_iload D_24 rfl ?_
    refine wp_iload D_26 rfl ?_
    refine wp_i2l D_28 ?_
    refine wp_iload D_29 rfl ?_
    refine wp_i2l D_31 ?_
    refine wp_ladd D_32 ?_
    refine wp_init (c_new l Z a0 hw a64 x1 (x1.toInt64 + x63.toInt64) [] hn) D_33 rfl (hw _ (List.mem_of_getElem? (i := 3) rfl)) (hw _ (List.mem_of_getElem? (i := 4) rfl)) (hw _ (List.mem_of_getElem? (i := 2) rfl)) (hw _ (List.mem_of_getElem? (i := 5) rfl)) (by decide) pd_7 rfl rfl rfl (Nat.le_of_ble_eq_true rfl) (Nat.le_of_ble_eq_true rfl) (Nat.le_of_ble_eq_true rfl) (Nat.le_of_ble_eq_true rfl) ?_
    rintro _ _ ⟨rfl, A65, rfl⟩
    show Wp none l Z "com/example/orthrus/orthrus/SignatureSetFullPinLaw" "law" code maxLocals ret room_1 [(A65, oJ (List.replicate x1.toNatClampNeg 0)), (a64, oI "com/example/orthrus/orthrus/SignatureSet" sg_1 [(.long (x1.toInt64 + x63.toInt64)), (.ref A65), (.int (0 : Int32)), (.int (0 : Int32))])] 2 15 36 #[.val (.int a), .val (.int b), .val (.int c), .val (.long d), .second, .val (.int e), .val (.int x1), .val (.int (3 : Int32)), .val (.int x63), .unset, .unset, .unset, .unset, .unset, .unset] [(.ref a64)] Q_law
    obtain ⟨xs66, e_xs66⟩ : ∃ zs : List Int64, zs = List.replicate x1.toNatClampNeg 0 := ⟨_, rfl⟩
    rw [← e_xs66]
    have hl_xs66 : (xs66.length : Int) = x1.toInt := by rw [e_xs66, List.length_replicate]; simp only [Int32.toNatClampNeg]; omega
    have hc_xs66 : nz xs66 = 0 := by rw [e_xs66]; exact nz_rep _
    have hp_xs66 : ∀ y ∈ xs66, y = 0 := fun y hy => by rw [e_xs66] at hy; exact (List.mem_replicate.mp hy).2
    show Wp none l Z "com/example/orthrus/orthrus/SignatureSetFullPinLaw" "law" code maxLocals ret room_1 [(A65, oJ xs66), (a64, oI "com/example/orthrus/orthrus/SignatureSet" sg_1 [(.long (x1.toInt64 + x63.toInt64)), (.ref A65), (.int (0 : Int32)), (.int (0 : Int32))])] 2 15 36 #[.val (.int a), .val (.int b), .val (.int c), .val (.long d), .second, .val (.int e), .val (.int x1), .val (.int (3 : Int32)), .val (.int x63), .unset, .unset, .unset, .unset, .unset, .unset] [(.ref a64)] Q_law
    refine wp_astore #[.val (.int a), .val (.int b), .val (.int c), .val (.long d), .second, .val (.int e), .val (.int x1), .val (.int (3 : Int32)), .val (.int x63), .val (.ref a64), .unset, .unset, .unset, .unset, .unset] D_36 rfl rfl ?_
    refine wp_iload D_38 rfl ?_
    refine wp_iconst 1 D_40 (by decide) ?_
    refine wp_iand D_41 ?_
    have J70 : ∀ (b68 : Int32), (((e &&& (1 : Int32)) = (0 : Int32) ∧ b68 = (0 : Int32)) ∨ (¬ (e &&& (1 : Int32)) = (0 : Int32) ∧ b68 = (1 : Int32))) → Wp none l Z "com/example/orthrus/orthrus/SignatureSetFullPinLaw" "law" code maxLocals ret room_1 [(A65, oJ xs66), (a64, oI "com/example/orthrus/orthrus/SignatureSet" sg_1 [(.long (x1.toInt64 + x63.toInt64)), (.ref A65), (.int (0 : Int32)), (.int b68)])] 2 15 52 #[.val (.int a), .val (.int b), .val (.int c), .val (.long d), .second, .val (.int e), .val (.int x1), .val (.int (3 : Int32)), .val (.int x63), .val (.ref a64), .unset, .unset, .unset, .unset, .unset] [] Q_law := by
      intro b68 hj69
      refine wp_lload_n D_52 rfl ?_
      refine wp_iconst 3 D_53 (by decide) ?_
      refine wp_lshl D_54 ?_
      generalize hg_x71 : (d <<< ((3 : Int32).toInt64 &&& 63)) = x71
      have hlow : x71 &&& 7 = 0 := by rw [← hg_x71]; exact own_sh3 _
      refine wp_lstore #[.val (.int a), .val (.int b), .val (.int c), .val (.long d), .second, .val (.int e), .val (.int x1), .val (.int (3 : Int32)), .val (.int x63), .val (.ref a64), .val (.long x71), .second, .unset, .unset, .unset] D_55 rfl ?_
      refine wp_iload D_57 rfl ?_
      refine wp_iconst 1 D_59 (by decide) ?_
      refine wp_icmp_lt D_60 (pc'' := 73) ⟨by decide, by decide⟩ (fun h72 => by exact absurd h72 (by decide)) (fun h72 => ?_)
      refine wp_aload D_63 rfl rfl ?_
      refine wp_lload D_65 rfl ?_
      refine wp_lconst 1 D_67 (by decide) ?_
      refine wp_lor D_68 ?_
      refine Wp.pick [1, 0] (by decide) ?_
      show Wp none l Z "com/example/orthrus/orthrus/SignatureSetFullPinLaw" "law" code maxLocals ret room_1 [(a64, oI "com/example/orthrus/orthrus/SignatureSet" sg_1 [(.long (x1.toInt64 + x63.toInt64)), (.ref A65), (.int (0 : Int32)), (.int b68)]), (A65, oJ xs66)] 2 15 69 #[.val (.int a), .val (.int b), .val (.int c), .val (.long d), .second, .val (.int e), .val (.int x1), .val (.int (3 : Int32)), .val (.int x63), .val (.ref a64), .val (.long x71), .second, .unset, .unset, .unset] [(.long (x71 ||| (1 : Int64))), (.ref a64)] Q_law
      have hli_xs66 : xs66.length.toInt32 = x1 := by rw [show xs66.length = x1.toNatClampNeg from by simp only [Int32.toNatClampNeg]; omega]; exact (back32 (own_i32 _ (by omega))).1
      refine wp_virtual (c_add0 l Z a0 hw a64 A65 (x1.toInt64 + x63.toInt64) (x71 ||| (1 : Int64)) b68 x1 xs66 [] hli_xs66 hl_xs66 hn (own_sn0 _ _ hlow (by decide)) (fun y hy => by rw [hp_xs66 y hy]; exact fun e => own_sn0 x71 (1 : Int64) hlow (by decide) e.symm) hc_xs66) (exa_new (i := 0) rfl) D_69 (hw _ (List.mem_of_getElem? (i := 14) rfl)) (hw _ (List.mem_of_getElem? (i := 15) rfl)) (hw _ (List.mem_of_getElem? (i := 17) rfl)) (hw _ (List.mem_of_getElem? (i := 17) rfl)) (hw _ (List.mem_of_getElem? (i := 16) rfl)) (hw _ (List.mem_of_getElem? (i := 2) rfl)) (hw _ (List.mem_of_getElem? (i := 18) rfl)) (by decide) pd_8 rfl rfl rfl (Nat.le_of_ble_eq_true rfl) (Nat.le_of_ble_eq_true rfl) (Nat.le_of_ble_eq_true rfl) (Nat.le_of_ble_eq_true rfl) ?_
      rintro _ _ ⟨rfl, xs73, rfl, hl0_xs73, hc_xs73, hm_xs73⟩
      show Wp none l Z "com/example/orthrus/orthrus/SignatureSetFullPinLaw" "law" code maxLocals ret room_1 [(a64, oI "com/example/orthrus/orthrus/SignatureSet" sg_1 [(.long (x1.toInt64 + x63.toInt64)), (.ref A65), (.int (1 : Int32)), (.int b68)]), (A65, oJ xs73)] 2 15 72 #[.val (.int a), .val (.int b), .val (.int c), .val (.long d), .second, .val (.int e), .val (.int x1), .val (.int (3 : Int32)), .val (.int x63), .val (.ref a64), .val (.long x71), .second, .unset, .unset, .unset] [(.int (1 : Int32))] Q_law
      have hl_xs73 : (xs73.length : Int) = x1.toInt := by rw [hl0_xs73]; exact hl_xs66
      have hp_xs73 : ∀ y ∈ xs73, y = 0 ∨ y = (x71 ||| (1 : Int64)) := by
        intro y hy
        rcases hm_xs73 y hy with q | q
        · rw [hp_xs66 y q]; simp
        · rw [q]; simp
      show Wp none l Z "com/example/orthrus/orthrus/SignatureSetFullPinLaw" "law" code maxLocals ret room_1 [(a64, oI "com/example/orthrus/orthrus/SignatureSet" sg_1 [(.long (x1.toInt64 + x63.toInt64)), (.ref A65), (.int (1 : Int32)), (.int b68)]), (A65, oJ xs73)] 2 15 72 #[.val (.int a), .val (.int b), .val (.int c), .val (.long d), .second, .val (.int e), .val (.int x1), .val (.int (3 : Int32)), .val (.int x63), .val (.ref a64), .val (.long x71), .second, .unset, .unset, .unset] [(.int (1 : Int32))] Q_law
      refine wp_pop D_72 rfl ?_
      refine wp_iload D_73 rfl ?_
      refine wp_iconst 2 D_75 (by decide) ?_
      refine wp_icmp_lt D_76 (pc'' := 91) ⟨by decide, by decide⟩ (fun h74 => by exact absurd h74 (by decide)) (fun h74 => ?_)
      refine wp_aload D_79 rfl rfl ?_
      refine wp_lload D_81 rfl ?_
      refine wp_ldc2J D_83 (hw _ (List.mem_of_getElem? (i := 43) rfl)) ?_
      refine wp_lor D_86 ?_
      have hli_xs73 : xs73.length.toInt32 = x1 := by rw [show xs73.length = x1.toNatClampNeg from by simp only [Int32.toNatClampNeg]; omega]; exact (back32 (own_i32 _ (by omega))).1
      refine wp_virtual (c_add1 l Z a0 hw a64 A65 (x1.toInt64 + x63.toInt64) (x71 ||| (2 : Int64)) b68 x1 xs73 [] hli_xs73 hl_xs73 hn (own_sn0 _ _ hlow (by decide)) (fun y hy => by rcases hp_xs73 y hy with rfl | rfl <;> first | exact fun e => own_sn0 x71 (2 : Int64) hlow (by decide) e.symm | exact own_sne _ _ _ hlow (by decide)) hc_xs73) (exa_new (i := 0) rfl) D_87 (hw _ (List.mem_of_getElem? (i := 14) rfl)) (hw _ (List.mem_of_getElem? (i := 15) rfl)) (hw _ (List.mem_of_getElem? (i := 17) rfl)) (hw _ (List.mem_of_getElem? (i := 17) rfl)) (hw _ (List.mem_of_getElem? (i := 16) rfl)) (hw _ (List.mem_of_getElem? (i := 2) rfl)) (hw _ (List.mem_of_getElem? (i := 18) rfl)) (by decide) pd_8 rfl rfl rfl (Nat.le_of_ble_eq_true rfl) (Nat.le_of_ble_eq_true rfl) (Nat.le_of_ble_eq_true rfl) (Nat.le_of_ble_eq_true rfl) ?_
      rintro _ _ ⟨rfl, xs75, rfl, hl0_xs75, hc_xs75, hm_xs75⟩
      show Wp none l Z "com/example/orthrus/orthrus/SignatureSetFullPinLaw" "law" code maxLocals ret room_1 [(a64, oI "com/example/orthrus/orthrus/SignatureSet" sg_1 [(.long (x1.toInt64 + x63.toInt64)), (.ref A65), (.int (2 : Int32)), (.int b68)]), (A65, oJ xs75)] 2 15 90 #[.val (.int a), .val (.int b), .val (.int c), .val (.long d), .second, .val (.int e), .val (.int x1), .val (.int (3 : Int32)), .val (.int x63), .val (.ref a64), .val (.long x71), .second, .unset, .unset, .unset] [(.int (1 : Int32))] Q_law
      have hl_xs75 : (xs75.length : Int) = x1.toInt := by rw [hl0_xs75]; exact hl_xs73
      have hp_xs75 : ∀ y ∈ xs75, y = 0 ∨ y = (x71 ||| (1 : Int64)) ∨ y = (x71 ||| (2 : Int64)) := by
        intro y hy
        rcases hm_xs75 y hy with q | q
        · rcases hp_xs73 y q with rfl | rfl <;> simp
        · rw [q]; simp
      show Wp none l Z "com/example/orthrus/orthrus/SignatureSetFullPinLaw" "law" code maxLocals ret room_1 [(a64, oI "com/example/orthrus/orthrus/SignatureSet" sg_1 [(.long (x1.toInt64 + x63.toInt64)), (.ref A65), (.int (2 : Int32)), (.int b68)]), (A65, oJ xs75)] 2 15 90 #[.val (.int a), .val (.int b), .val (.int c), .val (.long d), .second, .val (.int e), .val (.int x1), .val (.int (3 : Int32)), .val (.int x63), .val (.ref a64), .val (.long x71), .second, .unset, .unset, .unset] [(.int (1 : Int32))] Q_law
      refine wp_pop D_90 rfl ?_
      refine wp_iload D_91 rfl ?_
      refine wp_iconst 3 D_93 (by decide) ?_
      refine wp_icmp_lt D_94 (pc'' := 109) ⟨by decide, by decide⟩ (fun h76 => by exact absurd h76 (by decide)) (fun h76 => ?_)
      refine wp_aload D_97 rfl rfl ?_
      refine wp_lload D_99 rfl ?_
      refine wp_ldc2J D_101 (hw _ (List.mem_of_getElem? (i := 44) rfl)) ?_
      refine wp_lor D_104 ?_
      have hli_xs75 : xs75.length.toInt32 = x1 := by rw [show xs75.length = x1.toNatClampNeg from by simp only [Int32.toNatClampNeg]; omega]; exact (back32 (own_i32 _ (by omega))).1
      refine wp_virtual (c_add2 l Z a0 hw a64 A65 (x1.toInt64 + x63.toInt64) (x71 ||| (3 : Int64)) b68 x1 xs75 [] hli_xs75 hl_xs75 hn (own_sn0 _ _ hlow (by decide)) (fun y hy => by rcases hp_xs75 y hy with rfl | rfl | rfl <;> first | exact fun e => own_sn0 x71 (3 : Int64) hlow (by decide) e.symm | exact own_sne _ _ _ hlow (by decide)) hc_xs75) (exa_new (i := 0) rfl) D_105 (hw _ (List.mem_of_getElem? (i := 14) rfl)) (hw _ (List.mem_of_getElem? (i := 15) rfl)) (hw _ (List.mem_of_getElem? (i := 17) rfl)) (hw _ (List.mem_of_getElem? (i := 17) rfl)) (hw _ (List.mem_of_getElem? (i := 16) rfl)) (hw _ (List.mem_of_getElem? (i := 2) rfl)) (hw _ (List.mem_of_getElem? (i := 18) rfl)) (by decide) pd_8 rfl rfl rfl (Nat.le_of_ble_eq_true rfl) (Nat.le_of_ble_eq_true rfl) (Nat.le_of_ble_eq_true rfl) (Nat.le_of_ble_eq_true rfl) ?_
      rintro _ _ ⟨rfl, xs77, rfl, hl0_xs77, hc_xs77, hm_xs77⟩
      show Wp none l Z "com/example/orthrus/orthrus/SignatureSetFullPinLaw" "law" code maxLocals ret room_1 [(a64, oI "com/example/orthrus/orthrus/SignatureSet" sg_1 [(.long (x1.toInt64 + x63.toInt64)), (.ref A65), (.int (3 : Int32)), (.int b68)]), (A65, oJ xs77)] 2 15 108 #[.val (.int a), .val (.int b), .val (.int c), .val (.long d), .second, .val (.int e), .val (.int x1), .val (.int (3 : Int32)), .val (.int x63), .val (.ref a64), .val (.long x71), .second, .unset, .unset, .unset] [(.int (1 : Int32))] Q_law
      have hl_xs77 : (xs77.length : Int) = x1.toInt := by rw [hl0_xs77]; exact hl_xs75
      have hp_xs77 : ∀ y ∈ xs77, y = 0 ∨ y = (x71 ||| (1 : Int64)) ∨ y = (x71 ||| (2 : Int64)) ∨ y = (x71 ||| (3 : Int64)) := by
        intro y hy
        rcases hm_xs77 y hy with q | q
        · rcases hp_xs75 y q with rfl | rfl | rfl <;> simp
        · rw [q]; simp
      show Wp none l Z "com/example/orthrus/orthrus/SignatureSetFullPinLaw" "law" code maxLocals ret room_1 [(a64, oI "com/example/orthrus/orthrus/SignatureSet" sg_1 [(.long (x1.toInt64 + x63.toInt64)), (.ref A65), (.int (3 : Int32)), (.int b68)]), (A65, oJ xs77)] 2 15 108 #[.val (.int a), .val (.int b), .val (.int c), .val (.long d), .second, .val (.int e), .val (.int x1), .val (.int (3 : Int32)), .val (.int x63), .val (.ref a64), .val (.long x71), .second, .unset, .unset, .unset] [(.int (1 : Int32))] Q_law
      refine wp_pop D_108 rfl ?_
      refine wp_iload D_109 rfl ?_
      refine wp_iconst 4 D_111 (by decide) ?_
      refine wp_icmp_lt D_112 (pc'' := 127) ⟨by decide, by decide⟩ (fun h78 => ?_) (fun h78 => by exact absurd h78 (by decide))
      refine wp_iload D_127 rfl ?_
      refine wp_iconst 5 D_129 (by decide) ?_
      refine wp_icmp_lt D_130 (pc'' := 145) ⟨by decide, by decide⟩ (fun h79 => ?_) (fun h79 => by exact absurd h79 (by decide))
      refine wp_iload D_145 rfl ?_
      refine wp_bipush 6 D_147 (by decide) ?_
      refine wp_icmp_lt D_149 (pc'' := 164) ⟨by decide, by decide⟩ (fun h80 => ?_) (fun h80 => by exact absurd h80 (by decide))
      refine wp_iload D_164 rfl ?_
      refine wp_bipush 7 D_166 (by decide) ?_
      refine wp_icmp_lt D_168 (pc'' := 183) ⟨by decide, by decide⟩ (fun h81 => ?_) (fun h81 => by exact absurd h81 (by decide))
      refine wp_aload D_183 rfl rfl ?_
      refine wp_virtual (c_full l Z a0 hw a64 A65 (x1.toInt64 + x63.toInt64) b68 (3 : Int32) x1 xs77 [] (by rw [show xs77.length = x1.toNatClampNeg from by simp only [Int32.toNatClampNeg]; omega]; exact (back32 (own_i32 _ (by omega))).1)) (exa_new (i := 0) rfl) D_185 (hw _ (List.mem_of_getElem? (i := 48) rfl)) (hw _ (List.mem_of_getElem? (i := 37) rfl)) (hw _ (List.mem_of_getElem? (i := 39) rfl)) (hw _ (List.mem_of_getElem? (i := 39) rfl)) (hw _ (List.mem_of_getElem? (i := 38) rfl)) (hw _ (List.mem_of_getElem? (i := 2) rfl)) (hw _ (List.mem_of_getElem? (i := 40) rfl)) (by decide) pd_4 rfl rfl rfl (Nat.le_of_ble_eq_true rfl) (Nat.le_of_ble_eq_true rfl) (Nat.le_of_ble_eq_true rfl) (Nat.le_of_ble_eq_true rfl) ?_
      rintro _ _ ⟨rfl, rfl⟩
      rw [show f_full (3 : Int32) x1 = (0 : Int32) from by unfold f_full; rw [own_n4 x1 hn]; rfl]
      show Wp none l Z "com/example/orthrus/orthrus/SignatureSetFullPinLaw" "law" code maxLocals ret room_1 [(a64, oI "com/example/orthrus/orthrus/SignatureSet" sg_1 [(.long (x1.toInt64 + x63.toInt64)), (.ref A65), (.int (3 : Int32)), (.int b68)]), (A65, oJ xs77)] 2 15 188 #[.val (.int a), .val (.int b), .val (.int c), .val (.long d), .second, .val (.int e), .val (.int x1), .val (.int (3 : Int32)), .val (.int x63), .val (.ref a64), .val (.long x71), .second, .unset, .unset, .unset] [(.int (0 : Int32))] Q_law
      refine wp_istore #[.val (.int a), .val (.int b), .val (.int c), .val (.long d), .second, .val (.int e), .val (.int x1), .val (.int (3 : Int32)), .val (.int x63), .val (.ref a64), .val (.long x71), .second, .val (.int (0 : Int32)), .unset, .unset] D_188 rfl ?_
      refine wp_iload D_190 rfl ?_
      refine wp_istore #[.val (.int a), .val (.int b), .val (.int c), .val (.long d), .second, .val (.int e), .val (.int x1), .val (.int (3 : Int32)), .val (.int x63), .val (.ref a64), .val (.long x71), .second, .val (.int (0 : Int32)), .val (.int x1), .unset] D_192 rfl ?_
      refine wp_iload D_194 rfl ?_
      refine wp_bipush 7 D_196 (by decide) ?_
      refine wp_icmp_ne D_198 (pc'' := 219) ⟨by decide, by decide⟩ (fun h82 => ?_) (fun h82 => by exact absurd h82 (by decide))
      refine wp_iload D_219 rfl ?_
      refine wp_iload D_221 rfl ?_
      refine wp_iconst 4 D_223 (by decide) ?_
      refine wp_idiv D_224 (by decide) ?_
      refine wp_iconst 3 D_225 (by decide) ?_
      refine wp_imul D_226 ?_
      refine wp_icmp_le D_227 (pc'' := 234) ⟨by decide, by decide⟩ (fun h83 => ?_) (fun h83 => by rw [own_n4 x1 hn] at h83; exact absurd h83 (by decide))
      refine wp_iconst 0 D_234 (by decide) ?_
      refine wp_istore #[.val (.int a), .val (.int b), .val (.int c), .val (.long d), .second, .val (.int e), .val (.int x1), .val (.int (3 : Int32)), .val (.int x63), .val (.ref a64), .val (.long x71), .second, .val (.int (0 : Int32)), .val (.int x1), .val (.int (0 : Int32))] D_235 rfl ?_
      refine wp_iload D_237 rfl ?_
      refine wp_iload D_239 rfl ?_
      refine wp_icmp_ne D_241 (pc'' := 248) ⟨by decide, by decide⟩ (fun h84 => by exact absurd h84 (by decide)) (fun h84 => ?_)
      refine wp_iconst 1 D_244 (by decide) ?_
      refine wp_goto D_245 (pc'' := 249) ⟨by decide, by decide⟩ ?_
      refine wp_ireturnN D_249 rfl (by simp) (by decide) (by decide) ?_
      exact rfl
    refine wp_if_eq D_42 (pc'' := 52) ⟨by decide, by decide⟩ (fun h67 => ?_) (fun h67 => ?_)
    · skip
      exact (J70 (0 : Int32) (Or.inl ⟨h67, rfl⟩))
    · skip
      refine wp_aload D_45 rfl rfl ?_
      refine wp_lconst 0 D_47 (by decide) ?_
      refine Wp.pick [1, 0] (by decide) ?_
      show Wp none l Z "com/example/orthrus/orthrus/SignatureSetFullPinLaw" "law" code maxLocals ret room_1 [(a64, oI "com/example/orthrus/orthrus/SignatureSet" sg_1 [(.long (x1.toInt64 + x63.toInt64)), (.ref A65), (.int (0 : Int32)), (.int (0 : Int32))]), (A65, oJ xs66)] 2 15 48 #[.val (.int a), .val (.int b), .val (.int c), .val (.long d), .second, .val (.int e), .val (.int x1), .val (.int (3 : Int32)), .val (.int x63), .val (.ref a64), .unset, .unset, .unset, .unset, .unset] [(.long (0 : Int64)), (.ref a64)] Q_law
      refine wp_virtual (c_addz l Z a0 hw a64 A65 (x1.toInt64 + x63.toInt64) [(A65, oJ xs66)]) (exa_new (i := 0) rfl) D_48 (hw _ (List.mem_of_getElem? (i := 14) rfl)) (hw _ (List.mem_of_getElem? (i := 15) rfl)) (hw _ (List.mem_of_getElem? (i := 17) rfl)) (hw _ (List.mem_of_getElem? (i := 17) rfl)) (hw _ (List.mem_of_getElem? (i := 16) rfl)) (hw _ (List.mem_of_getElem? (i := 2) rfl)) (hw _ (List.mem_of_getElem? (i := 18) rfl)) (by decide) pd_8 rfl rfl rfl (Nat.le_of_ble_eq_true rfl) (Nat.le_of_ble_eq_true rfl) (Nat.le_of_ble_eq_true rfl) (Nat.le_of_ble_eq_true rfl) ?_
      rintro _ _ ⟨rfl, rfl⟩
      show Wp none l Z "com/example/orthrus/orthrus/SignatureSetFullPinLaw" "law" code maxLocals ret room_1 [(a64, oI "com/example/orthrus/orthrus/SignatureSet" sg_1 [(.long (x1.toInt64 + x63.toInt64)), (.ref A65), (.int (0 : Int32)), (.int (1 : Int32))]), (A65, oJ xs66)] 2 15 51 #[.val (.int a), .val (.int b), .val (.int c), .val (.long d), .second, .val (.int e), .val (.int x1), .val (.int (3 : Int32)), .val (.int x63), .val (.ref a64), .unset, .unset, .unset, .unset, .unset] [(.int (1 : Int32))] Q_law
      refine wp_pop D_51 rfl ?_
      refine Wp.pick [1, 0] (by decide) ?_
      show Wp none l Z "com/example/orthrus/orthrus/SignatureSetFullPinLaw" "law" code maxLocals ret room_1 [(A65, oJ xs66), (a64, oI "com/example/orthrus/orthrus/SignatureSet" sg_1 [(.long (x1.toInt64 + x63.toInt64)), (.ref A65), (.int (0 : Int32)), (.int (1 : Int32))])] 2 15 52 #[.val (.int a), .val (.int b), .val (.int c), .val (.long d), .second, .val (.int e), .val (.int x1), .val (.int (3 : Int32)), .val (.int x63), .val (.ref a64), .unset, .unset, .unset, .unset, .unset] [] Q_law
      exact (J70 (1 : Int32) (Or.inr ⟨h67, rfl⟩))
  · subst hs_x2
    show Wp none l Z "com/example/orthrus/orthrus/SignatureSetFullPinLaw" "law" code maxLocals ret room_1 [] 0 0 14 #[.val (.int a), .val (.int b), .val (.int c), .val (.long d), .second, .val (.int e), .val (.int x1), .val (.int (4 : Int32)), .unset, .unset, .unset, .unset, .unset, .unset, .unset] [] Q_law
    refine wp_iload_n D_14 rfl ?_
    refine wp_bipush 31 D_15 (by decide) ?_
    refine wp_iand D_17 ?_
    generalize hg_x85 : (c &&& (31 : Int32)) = x85
    have hm : 0 ≤ x85.toInt ∧ x85.toInt ≤ 31 := by rw [← hg_x85]; exact own_a31 _
    refine wp_istore #[.val (.int a), .val (.int b), .val (.int c), .val (.long d), .second, .val (.int e), .val (.int x1), .val (.int (4 : Int32)), .val (.int x85), .unset, .unset, .unset, .unset, .unset, .unset] D_18 rfl ?_
    have hms : x1.toInt64 + x85.toInt64 = x1.toInt64 + x85.toInt64 := rfl
    refine wp_new sg_1 [(.long (0 : Int64)), (.null), (.int (0 : Int32)), (.int (0 : Int32))] D_20 (hw _ (List.mem_of_getElem? (i := 0) rfl)) (hw _ (List.mem_of_getElem? (i := 1) rfl)) (hw _ (List.mem_of_getElem? (i := 2) rfl)) (laid_sg_1 l Z a0 hw) (by decide) dfl_sg_1 (by decide) (by decide) ?_
    intro a86
    show Wp none l Z "com/example/orthrus/orthrus/SignatureSetFullPinLaw" "law" code maxLocals ret room_1 [(a86, oI "com/example/orthrus/orthrus/SignatureSet" sg_1 [(.long (0 : Int64)), (.null), (.int (0 : Int32)), (.int (0 : Int32))])] 1 4 23 #[.val (.int a), .val (.int b), .val (.int c), .val (.long d), .second, .val (.int e), .val (.int x1), .val (.int (4 : Int32)), .val (.int x85), .unset, .unset, .unset, .unset, .unset, .unset] [(.ref a86)] Q_law
    refine wp_dup D_23 rfl ?_
    refine wp_iload D_24 rfl ?_
    refine wp_iload D_26 rfl ?_
    refine wp_i2l D_28 ?_
    refine wp_iload D_29 rfl ?_
    refine wp_i2l D_31 ?_
    refine wp_ladd D_32 ?_
    refine wp_init (c_new l Z a0 hw a86 x1 (x1.toInt64 + x85.toInt64) [] hn) D_33 rfl (hw _ (List.mem_of_getElem? (i := 3) rfl)) (hw _ (List.mem_of_getElem? (i := 4) rfl)) (hw _ (List.mem_of_getElem? (i := 2) rfl)) (hw _ (List.mem_of_getElem? (i := 5) rfl)) (by decide) pd_7 rfl rfl rfl (Nat.le_of_ble_eq_true rfl) (Nat.le_of_ble_eq_true rfl) (Nat.le_of_ble_eq_true rfl) (Nat.le_of_ble_eq_true rfl) ?_
    rintro _ _ ⟨rfl, A87, rfl⟩
    show Wp none l Z "com/example/orthrus/orthrus/SignatureSetFullPinLaw" "law" code maxLocals ret room_1 [(A87, oJ (List.replicate x1.toNatClampNeg 0)), (a86, oI "com/example/orthrus/orthrus/SignatureSet" sg_1 [(.long (x1.toInt64 + x85.toInt64)), (.ref A87), (.int (0 : Int32)), (.int (0 : Int32))])] 2 15 36 #[.val (.int a), .val (.int b), .val (.int c), .val (.long d), .second, .val (.int e), .val (.int x1), .val (.int (4 : Int32)), .val (.int x85), .unset, .unset, .unset, .unset, .unset, .unset] [(.ref a86)] Q_law
    obtain ⟨xs88, e_xs88⟩ : ∃ zs : List Int64, zs = List.replicate x1.toNatClampNeg 0 := ⟨_, rfl⟩
    rw [← e_xs88]
    have hl_xs88 : (xs88.length : Int) = x1.toInt := by rw [e_xs88, List.length_replicate]; simp only [Int32.toNatClampNeg]; omega
    have hc_xs88 : nz xs88 = 0 := by rw [e_xs88]; exact nz_rep _
    have hp_xs88 : ∀ y ∈ xs88, y = 0 := fun y hy => by rw [e_xs88] at hy; exact (List.mem_replicate.mp hy).2
    show Wp none l Z "com/example/orthrus/orthrus/SignatureSetFullPinLaw" "law" code maxLocals ret room_1 [(A87, oJ xs88), (a86, oI "com/example/orthrus/orthrus/SignatureSet" sg_1 [(.long (x1.toInt64 + x85.toInt64)), (.ref A87), (.int (0 : Int32)), (.int (0 : Int32))])] 2 15 36 #[.val (.int a), .val (.int b), .val (.int c), .val (.long d), .second, .val (.int e), .val (.int x1), .val (.int (4 : Int32)), .val (.int x85), .unset, .unset, .unset, .unset, .unset, .unset] [(.ref a86)] Q_law
    refine wp_astore #[.val (.int a), .val (.int b), .val (.int c), .val (.long d), .second, .val (.int e), .val (.int x1), .val (.int (4 : Int32)), .val (.int x85), .val (.ref a86), .unset, .unset, .unset, .unset, .unset] D_36 rfl rfl ?_
    refine wp_iload D_38 rfl ?_
    refine wp_iconst 1 D_40 (by decide) ?_
    refine wp_iand D_41 ?_
    have J92 : ∀ (b90 : Int32), (((e &&& (1 : Int32)) = (0 : Int32) ∧ b90 = (0 : Int32)) ∨ (¬ (e &&& (1 : Int32)) = (0 : Int32) ∧ b90 = (1 : Int32))) → Wp none l Z "com/example/orthrus/orthrus/SignatureSetFullPinLaw" "law" code maxLocals ret room_1 [(A87, oJ xs88), (a86, oI "com/example/orthrus/orthrus/SignatureSet" sg_1 [(.long (x1.toInt64 + x85.toInt64)), (.ref A87), (.int (0 : Int32)), (.int b90)])] 2 15 52 #[.val (.int a), .val (.int b), .val (.int c), .val (.long d), .second, .val (.int e), .val (.int x1), .val (.int (4 : Int32)), .val (.int x85), .val (.ref a86), .unset, .unset, .unset, .unset, .unset] [] Q_law := by
      intro b90 hj91
      refine wp_lload_n D_52 rfl ?_
      refine wp_iconst 3 D_53 (by decide) ?_
      refine wp_lshl D_54 ?_
      generalize hg_x93 : (d <<< ((3 : Int32).toInt64 &&& 63)) = x93
      have hlow : x93 &&& 7 = 0 := by rw [← hg_x93]; exact own_sh3 _
      refine wp_lstore #[.val (.int a), .val (.int b), .val (.int c), .val (.long d), .second, .val (.int e), .val (.int x1), .val (.int (4 : Int32)), .val (.int x85), .val (.ref a86), .val (.long x93), .second, .unset, .unset, .unset] D_55 rfl ?_
      refine wp_iload D_57 rfl ?_
      refine wp_iconst 1 D_59 (by decide) ?_
      refine wp_icmp_lt D_60 (pc'' := 73) ⟨by decide, by decide⟩ (fun h94 => by exact absurd h94 (by decide)) (fun h94 => ?_)
      refine wp_aload D_63 rfl rfl ?_
      refine wp_lload D_65 rfl ?_
      refine wp_lconst 1 D_67 (by decide) ?_
      refine wp_lor D_68 ?_
      refine Wp.pick [1, 0] (by decide) ?_
      show Wp none l Z "com/example/orthrus/orthrus/SignatureSetFullPinLaw" "law" code maxLocals ret room_1 [(a86, oI "com/example/orthrus/orthrus/SignatureSet" sg_1 [(.long (x1.toInt64 + x85.toInt64)), (.ref A87), (.int (0 : Int32)), (.int b90)]), (A87, oJ xs88)] 2 15 69 #[.val (.int a), .val (.int b), .val (.int c), .val (.long d), .second, .val (.int e), .val (.int x1), .val (.int (4 : Int32)), .val (.int x85), .val (.ref a86), .val (.long x93), .second, .unset, .unset, .unset] [(.long (x93 ||| (1 : Int64))), (.ref a86)] Q_law
      have hli_xs88 : xs88.length.toInt32 = x1 := by rw [show xs88.length = x1.toNatClampNeg from by simp only [Int32.toNatClampNeg]; omega]; exact (back32 (own_i32 _ (by omega))).1
      refine wp_virtual (c_add0 l Z a0 hw a86 A87 (x1.toInt64 + x85.toInt64) (x93 ||| (1 : Int64)) b90 x1 xs88 [] hli_xs88 hl_xs88 hn (own_sn0 _ _ hlow (by decide)) (fun y hy => by rw [hp_xs88 y hy]; exact fun e => own_sn0 x93 (1 : Int64) hlow (by decide) e.symm) hc_xs88) (exa_new (i := 0) rfl) D_69 (hw _ (List.mem_of_getElem? (i := 14) rfl)) (hw _ (List.mem_of_getElem? (i := 15) rfl)) (hw _ (List.mem_of_getElem? (i := 17) rfl)) (hw _ (List.mem_of_getElem? (i := 17) rfl)) (hw _ (List.mem_of_getElem? (i := 16) rfl)) (hw _ (List.mem_of_getElem? (i := 2) rfl)) (hw _ (List.mem_of_getElem? (i := 18) rfl)) (by decide) pd_8 rfl rfl rfl (Nat.le_of_ble_eq_true rfl) (Nat.le_of_ble_eq_true rfl) (Nat.le_of_ble_eq_true rfl) (Nat.le_of_ble_eq_true rfl) ?_
      rintro _ _ ⟨rfl, xs95, rfl, hl0_xs95, hc_xs95, hm_xs95⟩
      show Wp none l Z "com/example/orthrus/orthrus/SignatureSetFullPinLaw" "law" code maxLocals ret room_1 [(a86, oI "com/example/orthrus/orthrus/SignatureSet" sg_1 [(.long (x1.toInt64 + x85.toInt64)), (.ref A87), (.int (1 : Int32)), (.int b90)]), (A87, oJ xs95)] 2 15 72 #[.val (.int a), .val (.int b), .val (.int c), .val (.long d), .second, .val (.int e), .val (.int x1), .val (.int (4 : Int32)), .val (.int x85), .val (.ref a86), .val (.long x93), .second, .unset, .unset, .unset] [(.int (1 : Int32))] Q_law
      have hl_xs95 : (xs95.length : Int) = x1.toInt := by rw [hl0_xs95]; exact hl_xs88
      have hp_xs95 : ∀ y ∈ xs95, y = 0 ∨ y = (x93 ||| (1 : Int64)) := by
        intro y hy
        rcases hm_xs95 y hy with q | q
        · rw [hp_xs88 y q]; simp
        · rw [q]; simp
      show Wp none l Z "com/example/orthrus/orthrus/SignatureSetFullPinLaw" "law" code maxLocals ret room_1 [(a86, oI "com/example/orthrus/orthrus/SignatureSet" sg_1 [(.long (x1.toInt64 + x85.toInt64)), (.ref A87), (.int (1 : Int32)), (.int b90)]), (A87, oJ xs95)] 2 15 72 #[.val (.int a), .val (.int b), .val (.int c), .val (.long d), .second, .val (.int e), .val (.int x1), .val (.int (4 : Int32)), .val (.int x85), .val (.ref a86), .val (.long x93), .second, .unset, .unset, .unset] [(.int (1 : Int32))] Q_law
      refine wp_pop D_72 rfl ?_
      refine wp_iload D_73 rfl ?_
      refine wp_iconst 2 D_75 (by decide) ?_
      refine wp_icmp_lt D_76 (pc'' := 91) ⟨by decide, by decide⟩ (fun h96 => by exact absurd h96 (by decide)) (fun h96 => ?_)
      refine wp_aload D_79 rfl rfl ?_
      refine wp_lload D_81 rfl ?_
      refine wp_ldc2J D_83 (hw _ (List.mem_of_getElem? (i := 43) rfl)) ?_
      refine wp_lor D_86 ?_
      have hli_xs95 : xs95.length.toInt32 = x1 := by rw [show xs95.length = x1.toNatClampNeg from by simp only [Int32.toNatClampNeg]; omega]; exact (back32 (own_i32 _ (by omega))).1
      refine wp_virtual (c_add1 l Z a0 hw a86 A87 (x1.toInt64 + x85.toInt64) (x93 ||| (2 : Int64)) b90 x1 xs95 [] hli_xs95 hl_xs95 hn (own_sn0 _ _ hlow (by decide)) (fun y hy => by rcases hp_xs95 y hy with rfl | rfl <;> first | exact fun e => own_sn0 x93 (2 : Int64) hlow (by decide) e.symm | exact own_sne _ _ _ hlow (by decide)) hc_xs95) (exa_new (i := 0) rfl) D_87 (hw _ (List.mem_of_getElem? (i := 14) rfl)) (hw _ (List.mem_of_getElem? (i := 15) rfl)) (hw _ (List.mem_of_getElem? (i := 17) rfl)) (hw _ (List.mem_of_getElem? (i := 17) rfl)) (hw _ (List.mem_of_getElem? (i := 16) rfl)) (hw _ (List.mem_of_getElem? (i := 2) rfl)) (hw _ (List.mem_of_getElem? (i := 18) rfl)) (by decide) pd_8 rfl rfl rfl (Nat.le_of_ble_eq_true rfl) (Nat.le_of_ble_eq_true rfl) (Nat.le_of_ble_eq_true rfl) (Nat.le_of_ble_eq_true rfl) ?_
      rintro _ _ ⟨rfl, xs97, rfl, hl0_xs97, hc_xs97, hm_xs97⟩
      show Wp none l Z "com/example/orthrus/orthrus/SignatureSetFullPinLaw" "law" code maxLocals ret room_1 [(a86, oI "com/example/orthrus/orthrus/SignatureSet" sg_1 [(.long (x1.toInt64 + x85.toInt64)), (.ref A87), (.int (2 : Int32)), (.int b90)]), (A87, oJ xs97)] 2 15 90 #[.val (.int a), .val (.int b), .val (.int c), .val (.long d), .second, .val (.int e), .val (.int x1), .val (.int (4 : Int32)), .val (.int x85), .val (.ref a86), .val (.long x93), .second, .unset, .unset, .unset] [(.int (1 : Int32))] Q_law
      have hl_xs97 : (xs97.length : Int) = x1.toInt := by rw [hl0_xs97]; exact hl_xs95
      have hp_xs97 : ∀ y ∈ xs97, y = 0 ∨ y = (x93 ||| (1 : Int64)) ∨ y = (x93 ||| (2 : Int64)) := by
        intro y hy
        rcases hm_xs97 y hy with q | q
        · rcases hp_xs95 y q with rfl | rfl <;> simp
        · rw [q]; simp
      show Wp none l Z "com/example/orthrus/orthrus/SignatureSetFullPinLaw" "law" code maxLocals ret room_1 [(a86, oI "com/example/orthrus/orthrus/SignatureSet" sg_1 [(.long (x1.toInt64 + x85.toInt64)), (.ref A87), (.int (2 : Int32)), (.int b90)]), (A87, oJ xs97)] 2 15 90 #[.val (.int a), .val (.int b), .val (.int c), .val (.long d), .second, .val (.int e), .val (.int x1), .val (.int (4 : Int32)), .val (.int x85), .val (.ref a86), .val (.long x93), .second, .unset, .unset, .unset] [(.int (1 : Int32))] Q_law
      refine wp_pop D_90 rfl ?_
      refine wp_iload D_91 rfl ?_
      refine wp_iconst 3 D_93 (by decide) ?_
      refine wp_icmp_lt D_94 (pc'' := 109) ⟨by decide, by decide⟩ (fun h98 => by exact absurd h98 (by decide)) (fun h98 => ?_)
      refine wp_aload D_97 rfl rfl ?_
      refine wp_lload D_99 rfl ?_
      refine wp_ldc2J D_101 (hw _ (List.mem_of_getElem? (i := 44) rfl)) ?_
      refine wp_lor D_104 ?_
      have hli_xs97 : xs97.length.toInt32 = x1 := by rw [show xs97.length = x1.toNatClampNeg from by simp only [Int32.toNatClampNeg]; omega]; exact (back32 (own_i32 _ (by omega))).1
      refine wp_virtual (c_add2 l Z a0 hw a86 A87 (x1.toInt64 + x85.toInt64) (x93 ||| (3 : Int64)) b90 x1 xs97 [] hli_xs97 hl_xs97 hn (own_sn0 _ _ hlow (by decide)) (fun y hy => by rcases hp_xs97 y hy with rfl | rfl | rfl <;> first | exact fun e => own_sn0 x93 (3 : Int64) hlow (by decide) e.symm | exact own_sne _ _ _ hlow (by decide)) hc_xs97) (exa_new (i := 0) rfl) D_105 (hw _ (List.mem_of_getElem? (i := 14) rfl)) (hw _ (List.mem_of_getElem? (i := 15) rfl)) (hw _ (List.mem_of_getElem? (i := 17) rfl)) (hw _ (List.mem_of_getElem? (i := 17) rfl)) (hw _ (List.mem_of_getElem? (i := 16) rfl)) (hw _ (List.mem_of_getElem? (i := 2) rfl)) (hw _ (List.mem_of_getElem? (i := 18) rfl)) (by decide) pd_8 rfl rfl rfl (Nat.le_of_ble_eq_true rfl) (Nat.le_of_ble_eq_true rfl) (Nat.le_of_ble_eq_true rfl) (Nat.le_of_ble_eq_true rfl) ?_
      rintro _ _ ⟨rfl, xs99, rfl, hl0_xs99, hc_xs99, hm_xs99⟩
      show Wp none l Z "com/example/orthrus/orthrus/SignatureSetFullPinLaw" "law" code maxLocals ret room_1 [(a86, oI "com/example/orthrus/orthrus/SignatureSet" sg_1 [(.long (x1.toInt64 + x85.toInt64)), (.ref A87), (.int (3 : Int32)), (.int b90)]), (A87, oJ xs99)] 2 15 108 #[.val (.int a), .val (.int b), .val (.int c), .val (.long d), .second, .val (.int e), .val (.int x1), .val (.int (4 : Int32)), .val (.int x85), .val (.ref a86), .val (.long x93), .second, .unset, .unset, .unset] [(.int (1 : Int32))] Q_law
      have hl_xs99 : (xs99.length : Int) = x1.toInt := by rw [hl0_xs99]; exact hl_xs97
      have hp_xs99 : ∀ y ∈ xs99, y = 0 ∨ y = (x93 ||| (1 : Int64)) ∨ y = (x93 ||| (2 : Int64)) ∨ y = (x93 ||| (3 : Int64)) := by
        intro y hy
        rcases hm_xs99 y hy with q | q
        · rcases hp_xs97 y q with rfl | rfl | rfl <;> simp
        · rw [q]; simp
      show Wp none l Z "com/example/orthrus/orthrus/SignatureSetFullPinLaw" "law" code maxLocals ret room_1 [(a86, oI "com/example/orthrus/orthrus/SignatureSet" sg_1 [(.long (x1.toInt64 + x85.toInt64)), (.ref A87), (.int (3 : Int32)), (.int b90)]), (A87, oJ xs99)] 2 15 108 #[.val (.int a), .val (.int b), .val (.int c), .val (.long d), .second, .val (.int e), .val (.int x1), .val (.int (4 : Int32)), .val (.int x85), .val (.ref a86), .val (.long x93), .second, .unset, .unset, .unset] [(.int (1 : Int32))] Q_law
      refine wp_pop D_108 rfl ?_
      refine wp_iload D_109 rfl ?_
      refine wp_iconst 4 D_111 (by decide) ?_
      refine wp_icmp_lt D_112 (pc'' := 127) ⟨by decide, by decide⟩ (fun h100 => by exact absurd h100 (by decide)) (fun h100 => ?_)
      refine wp_aload D_115 rfl rfl ?_
      refine wp_lload D_117 rfl ?_
      refine wp_ldc2J D_119 (hw _ (List.mem_of_getElem? (i := 51) rfl)) ?_
      refine wp_lor D_122 ?_
      have hli_xs99 : xs99.length.toInt32 = x1 := by rw [show xs99.length = x1.toNatClampNeg from by simp only [Int32.toNatClampNeg]; omega]; exact (back32 (own_i32 _ (by omega))).1
      refine wp_virtual (c_add3 l Z a0 hw a86 A87 (x1.toInt64 + x85.toInt64) (x93 ||| (4 : Int64)) b90 x1 xs99 [] hli_xs99 hl_xs99 hn (own_sn0 _ _ hlow (by decide)) (fun y hy => by rcases hp_xs99 y hy with rfl | rfl | rfl | rfl <;> first | exact fun e => own_sn0 x93 (4 : Int64) hlow (by decide) e.symm | exact own_sne _ _ _ hlow (by decide)) hc_xs99) (exa_new (i := 0) rfl) D_123 (hw _ (List.mem_of_getElem? (i := 14) rfl)) (hw _ (List.mem_of_getElem? (i := 15) rfl)) (hw _ (List.mem_of_getElem? (i := 17) rfl)) (hw _ (List.mem_of_getElem? (i := 17) rfl)) (hw _ (List.mem_of_getElem? (i := 16) rfl)) (hw _ (List.mem_of_getElem? (i := 2) rfl)) (hw _ (List.mem_of_getElem? (i := 18) rfl)) (by decide) pd_8 rfl rfl rfl (Nat.le_of_ble_eq_true rfl) (Nat.le_of_ble_eq_true rfl) (Nat.le_of_ble_eq_true rfl) (Nat.le_of_ble_eq_true rfl) ?_
      rintro _ _ ⟨rfl, xs101, rfl, hl0_xs101, hc_xs101, hm_xs101⟩
      show Wp none l Z "com/example/orthrus/orthrus/SignatureSetFullPinLaw" "law" code maxLocals ret room_1 [(a86, oI "com/example/orthrus/orthrus/SignatureSet" sg_1 [(.long (x1.toInt64 + x85.toInt64)), (.ref A87), (.int (4 : Int32)), (.int b90)]), (A87, oJ xs101)] 2 15 126 #[.val (.int a), .val (.int b), .val (.int c), .val (.long d), .second, .val (.int e), .val (.int x1), .val (.int (4 : Int32)), .val (.int x85), .val (.ref a86), .val (.long x93), .second, .unset, .unset, .unset] [(.int (1 : Int32))] Q_law
      have hl_xs101 : (xs101.length : Int) = x1.toInt := by rw [hl0_xs101]; exact hl_xs99
      have hp_xs101 : ∀ y ∈ xs101, y = 0 ∨ y = (x93 ||| (1 : Int64)) ∨ y = (x93 ||| (2 : Int64)) ∨ y = (x93 ||| (3 : Int64)) ∨ y = (x93 ||| (4 : Int64)) := by
        intro y hy
        rcases hm_xs101 y hy with q | q
        · rcases hp_xs99 y q with rfl | rfl | rfl | rfl <;> simp
        · rw [q]; simp
      show Wp none l Z "com/example/orthrus/orthrus/SignatureSetFullPinLaw" "law" code maxLocals ret room_1 [(a86, oI "com/example/orthrus/orthrus/SignatureSet" sg_1 [(.long (x1.toInt64 + x85.toInt64)), (.ref A87), (.int (4 : Int32)), (.int b90)]), (A87, oJ xs101)] 2 15 126 #[.val (.int a), .val (.int b), .val (.int c), .val (.long d), .second, .val (.int e), .val (.int x1), .val (.int (4 : Int32)), .val (.int x85), .val (.ref a86), .val (.long x93), .second, .unset, .unset, .unset] [(.int (1 : Int32))] Q_law
      refine wp_pop D_126 rfl ?_
      refine wp_iload D_127 rfl ?_
      refine wp_iconst 5 D_129 (by decide) ?_
      refine wp_icmp_lt D_130 (pc'' := 145) ⟨by decide, by decide⟩ (fun h102 => ?_) (fun h102 => by exact absurd h102 (by decide))
      refine wp_iload D_145 rfl ?_
      refine wp_bipush 6 D_147 (by decide) ?_
      refine wp_icmp_lt D_149 (pc'' := 164) ⟨by decide, by decide⟩ (fun h103 => ?_) (fun h103 => by exact absurd h103 (by decide))
      refine wp_iload D_164 rfl ?_
      refine wp_bipush 7 D_166 (by decide) ?_
      refine wp_icmp_lt D_168 (pc'' := 183) ⟨by decide, by decide⟩ (fun h104 => ?_) (fun h104 => by exact absurd h104 (by decide))
      refine wp_aload D_183 rfl rfl ?_
      refine wp_virtual (c_full l Z a0 hw a86 A87 (x1.toInt64 + x85.toInt64) b90 (4 : Int32) x1 xs101 [] (by rw [show xs101.length = x1.toNatClampNeg from by simp only [Int32.toNatClampNeg]; omega]; exact (back32 (own_i32 _ (by omega))).1)) (exa_new (i := 0) rfl) D_185 (hw _ (List.mem_of_getElem? (i := 48) rfl)) (hw _ (List.mem_of_getElem? (i := 37) rfl)) (hw _ (List.mem_of_getElem? (i := 39) rfl)) (hw _ (List.mem_of_getElem? (i := 39) rfl)) (hw _ (List.mem_of_getElem? (i := 38) rfl)) (hw _ (List.mem_of_getElem? (i := 2) rfl)) (hw _ (List.mem_of_getElem? (i := 40) rfl)) (by decide) pd_4 rfl rfl rfl (Nat.le_of_ble_eq_true rfl) (Nat.le_of_ble_eq_true rfl) (Nat.le_of_ble_eq_true rfl) (Nat.le_of_ble_eq_true rfl) ?_
      rintro _ _ ⟨rfl, rfl⟩
      rw [show f_full (4 : Int32) x1 = (0 : Int32) from by unfold f_full; rw [own_n4 x1 hn]; rfl]
      show Wp none l Z "com/example/orthrus/orthrus/SignatureSetFullPinLaw" "law" code maxLocals ret room_1 [(a86, oI "com/example/orthrus/orthrus/SignatureSet" sg_1 [(.long (x1.toInt64 + x85.toInt64)), (.ref A87), (.int (4 : Int32)), (.int b90)]), (A87, oJ xs101)] 2 15 188 #[.val (.int a), .val (.int b), .val (.int c), .val (.long d), .second, .val (.int e), .val (.int x1), .val (.int (4 : Int32)), .val (.int x85), .val (.ref a86), .val (.long x93), .second, .unset, .unset, .unset] [(.int (0 : Int32))] Q_law
      refine wp_istore #[.val (.int a), .val (.int b), .val (.int c), .val (.long d), .second, .val (.int e), .val (.int x1), .val (.int (4 : Int32)), .val (.int x85), .val (.ref a86), .val (.long x93), .second, .val (.int (0 : Int32)), .unset, .unset] D_188 rfl ?_
      refine wp_iload D_190 rfl ?_
      refine wp_istore #[.val (.int a), .val (.int b), .val (.int c), .val (.long d), .second, .val (.int e), .val (.int x1), .val (.int (4 : Int32)), .val (.int x85), .val (.ref a86), .val (.long x93), .second, .val (.int (0 : Int32)), .val (.int x1), .unset] D_192 rfl ?_
      refine wp_iload D_194 rfl ?_
      refine wp_bipush 7 D_196 (by decide) ?_
      refine wp_icmp_ne D_198 (pc'' := 219) ⟨by decide, by decide⟩ (fun h105 => ?_) (fun h105 => by exact absurd h105 (by decide))
      refine wp_iload D_219 rfl ?_
      refine wp_iload D_221 rfl ?_
      refine wp_iconst 4 D_223 (by decide) ?_
      refine wp_idiv D_224 (by decide) ?_
      refine wp_iconst 3 D_225 (by decide) ?_
      refine wp_imul D_226 ?_
      refine wp_icmp_le D_227 (pc'' := 234) ⟨by decide, by decide⟩ (fun h106 => ?_) (fun h106 => by rw [own_n4 x1 hn] at h106; exact absurd h106 (by decide))
      refine wp_iconst 0 D_234 (by decide) ?_
      refine wp_istore #[.val (.int a), .val (.int b), .val (.int c), .val (.long d), .second, .val (.int e), .val (.int x1), .val (.int (4 : Int32)), .val (.int x85), .val (.ref a86), .val (.long x93), .second, .val (.int (0 : Int32)), .val (.int x1), .val (.int (0 : Int32))] D_235 rfl ?_
      refine wp_iload D_237 rfl ?_
      refine wp_iload D_239 rfl ?_
      refine wp_icmp_ne D_241 (pc'' := 248) ⟨by decide, by decide⟩ (fun h107 => by exact absurd h107 (by decide)) (fun h107 => ?_)
      refine wp_iconst 1 D_244 (by decide) ?_
      refine wp_goto D_245 (pc'' := 249) ⟨by decide, by decide⟩ ?_
      refine wp_ireturnN D_249 rfl (by simp) (by decide) (by decide) ?_
      exact rfl
    refine wp_if_eq D_42 (pc'' := 52) ⟨by decide, by decide⟩ (fun h89 => ?_) (fun h89 => ?_)
    · skip
      exact (J92 (0 : Int32) (Or.inl ⟨h89, rfl⟩))
    · skip
      refine wp_aload D_45 rfl rfl ?_
      refine wp_lconst 0 D_47 (by decide) ?_
      refine Wp.pick [1, 0] (by decide) ?_
      show Wp none l Z "com/example/orthrus/orthrus/SignatureSetFullPinLaw" "law" code maxLocals ret room_1 [(a86, oI "com/example/orthrus/orthrus/SignatureSet" sg_1 [(.long (x1.toInt64 + x85.toInt64)), (.ref A87), (.int (0 : Int32)), (.int (0 : Int32))]), (A87, oJ xs88)] 2 15 48 #[.val (.int a), .val (.int b), .val (.int c), .val (.long d), .second, .val (.int e), .val (.int x1), .val (.int (4 : Int32)), .val (.int x85), .val (.ref a86), .unset, .unset, .unset, .unset, .unset] [(.long (0 : Int64)), (.ref a86)] Q_law
      refine wp_virtual (c_addz l Z a0 hw a86 A87 (x1.toInt64 + x85.toInt64) [(A87, oJ xs88)]) (exa_new (i := 0) rfl) D_48 (hw _ (List.mem_of_getElem? (i := 14) rfl)) (hw _ (List.mem_of_getElem? (i := 15) rfl)) (hw _ (List.mem_of_getElem? (i := 17) rfl)) (hw _ (List.mem_of_getElem? (i := 17) rfl)) (hw _ (List.mem_of_getElem? (i := 16) rfl)) (hw _ (List.mem_of_getElem? (i := 2) rfl)) (hw _ (List.mem_of_getElem? (i := 18) rfl)) (by decide) pd_8 rfl rfl rfl (Nat.le_of_ble_eq_true rfl) (Nat.le_of_ble_eq_true rfl) (Nat.le_of_ble_eq_true rfl) (Nat.le_of_ble_eq_true rfl) ?_
      rintro _ _ ⟨rfl, rfl⟩
      show Wp none l Z "com/example/orthrus/orthrus/SignatureSetFullPinLaw" "law" code maxLocals ret room_1 [(a86, oI "com/example/orthrus/orthrus/SignatureSet" sg_1 [(.long (x1.toInt64 + x85.toInt64)), (.ref A87), (.int (0 : Int32)), (.int (1 : Int32))]), (A87, oJ xs88)] 2 15 51 #[.val (.int a), .val (.int b), .val (.int c), .val (.long d), .second, .val (.int e), .val (.int x1), .val (.int (4 : Int32)), .val (.int x85), .val (.ref a86), .unset, .unset, .unset, .unset, .unset] [(.int (1 : Int32))] Q_law
      refine wp_pop D_51 rfl ?_
      refine Wp.pick [1, 0] (by decide) ?_
      show Wp none l Z "com/example/orthrus/orthrus/SignatureSetFullPinLaw" "law" code maxLocals ret room_1 [(A87, oJ xs88), (a86, oI "com/example/orthrus/orthrus/SignatureSet" sg_1 [(.long (x1.toInt64 + x85.toInt64)), (.ref A87), (.int (0 : Int32)), (.int (1 : Int32))])] 2 15 52 #[.val (.int a), .val (.int b), .val (.int c), .val (.long d), .second, .val (.int e), .val (.int x1), .val (.int (4 : Int32)), .val (.int x85), .val (.ref a86), .unset, .unset, .unset, .unset, .unset] [] Q_law
      exact (J92 (1 : Int32) (Or.inr ⟨h89, rfl⟩))
  · subst hs_x2
    show Wp none l Z "com/example/orthrus/orthrus/SignatureSetFullPinLaw" "law" code maxLocals ret room_1 [] 0 0 14 #[.val (.int a), .val (.int b), .val (.int c), .val (.long d), .second, .val (.int e), .val (.int x1), .val (.int (5 : Int32)), .unset, .unset, .unset, .unset, .unset, .unset, .unset] [] Q_law
    refine wp_iload_n D_14 rfl ?_
    refine wp_bipush 31 D_15 (by decide) ?_
    refine wp_iand D_17 ?_
    generalize hg_x108 : (c &&& (31 : Int32)) = x108
    have hm : 0 ≤ x108.toInt ∧ x108.toInt ≤ 31 := by rw [← hg_x108]; exact own_a31 _
    refine wp_istore #[.val (.int a), .val (.int b), .val (.int c), .val (.long d), .second, .val (.int e), .val (.int x1), .val (.int (5 : Int32)), .val (.int x108), .unset, .unset, .unset, .unset, .unset, .unset] D_18 rfl ?_
    have hms : x1.toInt64 + x108.toInt64 = x1.toInt64 + x108.toInt64 := rfl
    refine wp_new sg_1 [(.long (0 : Int64)), (.null), (.int (0 : Int32)), (.int (0 : Int32))] D_20 (hw _ (List.mem_of_getElem? (i := 0) rfl)) (hw _ (List.mem_of_getElem? (i := 1) rfl)) (hw _ (List.mem_of_getElem? (i := 2) rfl)) (laid_sg_1 l Z a0 hw) (by decide) dfl_sg_1 (by decide) (by decide) ?_
    intro a109
    show Wp none l Z "com/example/orthrus/orthrus/SignatureSetFullPinLaw" "law" code maxLocals ret room_1 [(a109, oI "com/example/orthrus/orthrus/SignatureSet" sg_1 [(.long (0 : Int64)), (.null), (.int (0 : Int32)), (.int (0 : Int32))])] 1 4 23 #[.val (.int a), .val (.int b), .val (.int c), .val (.long d), .second, .val (.int e), .val (.int x1), .val (.int (5 : Int32)), .val (.int x108), .unset, .unset, .unset, .unset, .unset, .unset] [(.ref a109)] Q_law
    refine wp_dup D_23 rfl ?_
    refine wp_iload D_24 rfl ?_
    refine wp_iload D_26 rfl ?_
    refine wp_i2l D_28 ?_
    refine wp_iload D_29 rfl ?_
    refine wp_i2l D_31 ?_
    refine wp_ladd D_32 ?_
    refine wp_init (c_new l Z a0 hw a109 x1 (x1.toInt64 + x108.toInt64) [] hn) D_33 rfl (hw _ (List.mem_of_getElem? (i := 3) rfl)) (hw _ (List.mem_of_getElem? (i := 4) rfl)) (hw _ (List.mem_of_getElem? (i := 2) rfl)) (hw _ (List.mem_of_getElem? (i := 5) rfl)) (by decide) pd_7 rfl rfl rfl (Nat.le_of_ble_eq_true rfl) (Nat.le_of_ble_eq_true rfl) (Nat.le_of_ble_eq_true rfl) (Nat.le_of_ble_eq_true rfl) ?_
    rintro _ _ ⟨rfl, A110, rfl⟩
    show Wp none l Z "com/example/orthrus/orthrus/SignatureSetFullPinLaw" "law" code maxLocals ret room_1 [(A110, oJ (List.replicate x1.toNatClampNeg 0)), (a109, oI "com/example/orthrus/orthrus/SignatureSet" sg_1 [(.long (x1.toInt64 + x108.toInt64)), (.ref A110), (.int (0 : Int32)), (.int (0 : Int32))])] 2 15 36 #[.val (.int a), .val (.int b), .val (.int c), .val (.long d), .second, .val (.int e), .val (.int x1), .val (.int (5 : Int32)), .val (.int x108), .unset, .unset, .unset, .unset, .unset, .unset] [(.ref a109)] Q_law
    obtain ⟨xs111, e_xs111⟩ : ∃ zs : List Int64, zs = List.replicate x1.toNatClampNeg 0 := ⟨_, rfl⟩
    rw [← e_xs111]
    have hl_xs111 : (xs111.length : Int) = x1.toInt := by rw [e_xs111, List.length_replicate]; simp only [Int32.toNatClampNeg]; omega
    have hc_xs111 : nz xs111 = 0 := by rw [e_xs111]; exact nz_rep _
    have hp_xs111 : ∀ y ∈ xs111, y = 0 := fun y hy => by rw [e_xs111] at hy; exact (List.mem_replicate.mp hy).2
    show Wp none l Z "com/example/orthrus/orthrus/SignatureSetFullPinLaw" "law" code maxLocals ret room_1 [(A110, oJ xs111), (a109, oI "com/example/orthrus/orthrus/SignatureSet" sg_1 [(.long (x1.toInt64 + x108.toInt64)), (.ref A110), (.int (0 : Int32)), (.int (0 : Int32))])] 2 15 36 #[.val (.int a), .val (.int b), .val (.int c), .val (.long d), .second, .val (.int e), .val (.int x1), .val (.int (5 : Int32)), .val (.int x108), .unset, .unset, .unset, .unset, .unset, .unset] [(.ref a109)] Q_law
    refine wp_astore #[.val (.int a), .val (.int b), .val (.int c), .val (.long d), .second, .val (.int e), .val (.int x1), .val (.int (5 : Int32)), .val (.int x108), .val (.ref a109), .unset, .unset, .unset, .unset, .unset] D_36 rfl rfl ?_
    refine wp_iload D_38 rfl ?_
    refine wp_iconst 1 D_40 (by decide) ?_
    refine wp_iand D_41 ?_
    have J115 : ∀ (b113 : Int32), (((e &&& (1 : Int32)) = (0 : Int32) ∧ b113 = (0 : Int32)) ∨ (¬ (e &&& (1 : Int32)) = (0 : Int32) ∧ b113 = (1 : Int32))) → Wp none l Z "com/example/orthrus/orthrus/SignatureSetFullPinLaw" "law" code maxLocals ret room_1 [(A110, oJ xs111), (a109, oI "com/example/orthrus/orthrus/SignatureSet" sg_1 [(.long (x1.toInt64 + x108.toInt64)), (.ref A110), (.int (0 : Int32)), (.int b113)])] 2 15 52 #[.val (.int a), .val (.int b), .val (.int c), .val (.long d), .second, .val (.int e), .val (.int x1), .val (.int (5 : Int32)), .val (.int x108), .val (.ref a109), .unset, .unset, .unset, .unset, .unset] [] Q_law := by
      intro b113 hj114
      refine wp_lload_n D_52 rfl ?_
      refine wp_iconst 3 D_53 (by decide) ?_
      refine wp_lshl D_54 ?_
      generalize hg_x116 : (d <<< ((3 : Int32).toInt64 &&& 63)) = x116
      have hlow : x116 &&& 7 = 0 := by rw [← hg_x116]; exact own_sh3 _
      refine wp_lstore #[.val (.int a), .val (.int b), .val (.int c), .val (.long d), .second, .val (.int e), .val (.int x1), .val (.int (5 : Int32)), .val (.int x108), .val (.ref a109), .val (.long x116), .second, .unset, .unset, .unset] D_55 rfl ?_
      refine wp_iload D_57 rfl ?_
      refine wp_iconst 1 D_59 (by decide) ?_
      refine wp_icmp_lt D_60 (pc'' := 73) ⟨by decide, by decide⟩ (fun h117 => by exact absurd h117 (by decide)) (fun h117 => ?_)
      refine wp_aload D_63 rfl rfl ?_
      refine wp_lload D_65 rfl ?_
      refine wp_lconst 1 D_67 (by decide) ?_
      refine wp_lor D_68 ?_
      refine Wp.pick [1, 0] (by decide) ?_
      show Wp none l Z "com/example/orthrus/orthrus/SignatureSetFullPinLaw" "law" code maxLocals ret room_1 [(a109, oI "com/example/orthrus/orthrus/SignatureSet" sg_1 [(.long (x1.toInt64 + x108.toInt64)), (.ref A110), (.int (0 : Int32)), (.int b113)]), (A110, oJ xs111)] 2 15 69 #[.val (.int a), .val (.int b), .val (.int c), .val (.long d), .second, .val (.int e), .val (.int x1), .val (.int (5 : Int32)), .val (.int x108), .val (.ref a109), .val (.long x116), .second, .unset, .unset, .unset] [(.long (x116 ||| (1 : Int64))), (.ref a109)] Q_law
      have hli_xs111 : xs111.length.toInt32 = x1 := by rw [show xs111.length = x1.toNatClampNeg from by simp only [Int32.toNatClampNeg]; omega]; exact (back32 (own_i32 _ (by omega))).1
      refine wp_virtual (c_add0 l Z a0 hw a109 A110 (x1.toInt64 + x108.toInt64) (x116 ||| (1 : Int64)) b113 x1 xs111 [] hli_xs111 hl_xs111 hn (own_sn0 _ _ hlow (by decide)) (fun y hy => by rw [hp_xs111 y hy]; exact fun e => own_sn0 x116 (1 : Int64) hlow (by decide) e.symm) hc_xs111) (exa_new (i := 0) rfl) D_69 (hw _ (List.mem_of_getElem? (i := 14) rfl)) (hw _ (List.mem_of_getElem? (i := 15) rfl)) (hw _ (List.mem_of_getElem? (i := 17) rfl)) (hw _ (List.mem_of_getElem? (i := 17) rfl)) (hw _ (List.mem_of_getElem? (i := 16) rfl)) (hw _ (List.mem_of_getElem? (i := 2) rfl)) (hw _ (List.mem_of_getElem? (i := 18) rfl)) (by decide) pd_8 rfl rfl rfl (Nat.le_of_ble_eq_true rfl) (Nat.le_of_ble_eq_true rfl) (Nat.le_of_ble_eq_true rfl) (Nat.le_of_ble_eq_true rfl) ?_
      rintro _ _ ⟨rfl, xs118, rfl, hl0_xs118, hc_xs118, hm_xs118⟩
      show Wp none l Z "com/example/orthrus/orthrus/SignatureSetFullPinLaw" "law" code maxLocals ret room_1 [(a109, oI "com/example/orthrus/orthrus/SignatureSet" sg_1 [(.long (x1.toInt64 + x108.toInt64)), (.ref A110), (.int (1 : Int32)), (.int b113)]), (A110, oJ xs118)] 2 15 72 #[.val (.int a), .val (.int b), .val (.int c), .val (.long d), .second, .val (.int e), .val (.int x1), .val (.int (5 : Int32)), .val (.int x108), .val (.ref a109), .val (.long x116), .second, .unset, .unset, .unset] [(.int (1 : Int32))] Q_law
      have hl_xs118 : (xs118.length : Int) = x1.toInt := by rw [hl0_xs118]; exact hl_xs111
      have hp_xs118 : ∀ y ∈ xs118, y = 0 ∨ y = (x116 ||| (1 : Int64)) := by
        intro y hy
        rcases hm_xs118 y hy with q | q
        · rw [hp_xs111 y q]; simp
        · rw [q]; simp
      show Wp none l Z "com/example/orthrus/orthrus/SignatureSetFullPinLaw" "law" code maxLocals ret room_1 [(a109, oI "com/example/orthrus/orthrus/SignatureSet" sg_1 [(.long (x1.toInt64 + x108.toInt64)), (.ref A110), (.int (1 : Int32)), (.int b113)]), (A110, oJ xs118)] 2 15 72 #[.val (.int a), .val (.int b), .val (.int c), .val (.long d), .second, .val (.int e), .val (.int x1), .val (.int (5 : Int32)), .val (.int x108), .val (.ref a109), .val (.long x116), .second, .unset, .unset, .unset] [(.int (1 : Int32))] Q_law
      refine wp_pop D_72 rfl ?_
      refine wp_iload D_73 rfl ?_
      refine wp_iconst 2 D_75 (by decide) ?_
      refine wp_icmp_lt D_76 (pc'' := 91) ⟨by decide, by decide⟩ (fun h119 => by exact absurd h119 (by decide)) (fun h119 => ?_)
      refine wp_aload D_79 rfl rfl ?_
      refine wp_lload D_81 rfl ?_
      refine wp_ldc2J D_83 (hw _ (List.mem_of_getElem? (i := 43) rfl)) ?_
      refine wp_lor D_86 ?_
      have hli_xs118 : xs118.length.toInt32 = x1 := by rw [show xs118.length = x1.toNatClampNeg from by simp only [Int32.toNatClampNeg]; omega]; exact (back32 (own_i32 _ (by omega))).1
      refine wp_virtual (c_add1 l Z a0 hw a109 A110 (x1.toInt64 + x108.toInt64) (x116 ||| (2 : Int64)) b113 x1 xs118 [] hli_xs118 hl_xs118 hn (own_sn0 _ _ hlow (by decide)) (fun y hy => by rcases hp_xs118 y hy with rfl | rfl <;> first | exact fun e => own_sn0 x116 (2 : Int64) hlow (by decide) e.symm | exact own_sne _ _ _ hlow (by decide)) hc_xs118) (exa_new (i := 0) rfl) D_87 (hw _ (List.mem_of_getElem? (i := 14) rfl)) (hw _ (List.mem_of_getElem? (i := 15) rfl)) (hw _ (List.mem_of_getElem? (i := 17) rfl)) (hw _ (List.mem_of_getElem? (i := 17) rfl)) (hw _ (List.mem_of_getElem? (i := 16) rfl)) (hw _ (List.mem_of_getElem? (i := 2) rfl)) (hw _ (List.mem_of_getElem? (i := 18) rfl)) (by decide) pd_8 rfl rfl rfl (Nat.le_of_ble_eq_true rfl) (Nat.le_of_ble_eq_true rfl) (Nat.le_of_ble_eq_true rfl) (Nat.le_of_ble_eq_true rfl) ?_
      rintro _ _ ⟨rfl, xs120, rfl, hl0_xs120, hc_xs120, hm_xs120⟩
      show Wp none l Z "com/example/orthrus/orthrus/SignatureSetFullPinLaw" "law" code maxLocals ret room_1 [(a109, oI "com/example/orthrus/orthrus/SignatureSet" sg_1 [(.long (x1.toInt64 + x108.toInt64)), (.ref A110), (.int (2 : Int32)), (.int b113)]), (A110, oJ xs120)] 2 15 90 #[.val (.int a), .val (.int b), .val (.int c), .val (.long d), .second, .val (.int e), .val (.int x1), .val (.int (5 : Int32)), .val (.int x108), .val (.ref a109), .val (.long x116), .second, .unset, .unset, .unset] [(.int (1 : Int32))] Q_law
      have hl_xs120 : (xs120.length : Int) = x1.toInt := by rw [hl0_xs120]; exact hl_xs118
      have hp_xs120 : ∀ y ∈ xs120, y = 0 ∨ y = (x116 ||| (1 : Int64)) ∨ y = (x116 ||| (2 : Int64)) := by
        intro y hy
        rcases hm_xs120 y hy with q | q
        · rcases hp_xs118 y q with rfl | rfl <;> simp
        · rw [q]; simp
      show Wp none l Z "com/example/orthrus/orthrus/SignatureSetFullPinLaw" "law" code maxLocals ret room_1 [(a109, oI "com/example/orthrus/orthrus/SignatureSet" sg_1 [(.long (x1.toInt64 + x108.toInt64)), (.ref A110), (.int (2 : Int32)), (.int b113)]), (A110, oJ xs120)] 2 15 90 #[.val (.int a), .val (.int b), .val (.int c), .val (.long d), .second, .val (.int e), .val (.int x1), .val (.int (5 : Int32)), .val (.int x108), .val (.ref a109), .val (.long x116), .second, .unset, .unset, .unset] [(.int (1 : Int32))] Q_law
      refine wp_pop D_90 rfl ?_
      refine wp_iload D_91 rfl ?_
      refine wp_iconst 3 D_93 (by decide) ?_
      refine wp_icmp_lt D_94 (pc'' := 109) ⟨by decide, by decide⟩ (fun h121 => by exact absurd h121 (by decide)) (fun h121 => ?_)
      refine wp_aload D_97 rfl rfl ?_
      refine wp_lload D_99 rfl ?_
      refine wp_ldc2J D_101 (hw _ (List.mem_of_getElem? (i := 44) rfl)) ?_
      refine wp_lor D_104 ?_
      have hli_xs120 : xs120.length.toInt32 = x1 := by rw [show xs120.length = x1.toNatClampNeg from by simp only [Int32.toNatClampNeg]; omega]; exact (back32 (own_i32 _ (by omega))).1
      refine wp_virtual (c_add2 l Z a0 hw a109 A110 (x1.toInt64 + x108.toInt64) (x116 ||| (3 : Int64)) b113 x1 xs120 [] hli_xs120 hl_xs120 hn (own_sn0 _ _ hlow (by decide)) (fun y hy => by rcases hp_xs120 y hy with rfl | rfl | rfl <;> first | exact fun e => own_sn0 x116 (3 : Int64) hlow (by decide) e.symm | exact own_sne _ _ _ hlow (by decide)) hc_xs120) (exa_new (i := 0) rfl) D_105 (hw _ (List.mem_of_getElem? (i := 14) rfl)) (hw _ (List.mem_of_getElem? (i := 15) rfl)) (hw _ (List.mem_of_getElem? (i := 17) rfl)) (hw _ (List.mem_of_getElem? (i := 17) rfl)) (hw _ (List.mem_of_getElem? (i := 16) rfl)) (hw _ (List.mem_of_getElem? (i := 2) rfl)) (hw _ (List.mem_of_getElem? (i := 18) rfl)) (by decide) pd_8 rfl rfl rfl (Nat.le_of_ble_eq_true rfl) (Nat.le_of_ble_eq_true rfl) (Nat.le_of_ble_eq_true rfl) (Nat.le_of_ble_eq_true rfl) ?_
      rintro _ _ ⟨rfl, xs122, rfl, hl0_xs122, hc_xs122, hm_xs122⟩
      show Wp none l Z "com/example/orthrus/orthrus/SignatureSetFullPinLaw" "law" code maxLocals ret room_1 [(a109, oI "com/example/orthrus/orthrus/SignatureSet" sg_1 [(.long (x1.toInt64 + x108.toInt64)), (.ref A110), (.int (3 : Int32)), (.int b113)]), (A110, oJ xs122)] 2 15 108 #[.val (.int a), .val (.int b), .val (.int c), .val (.long d), .second, .val (.int e), .val (.int x1), .val (.int (5 : Int32)), .val (.int x108), .val (.ref a109), .val (.long x116), .second, .unset, .unset, .unset] [(.int (1 : Int32))] Q_law
      have hl_xs122 : (xs122.length : Int) = x1.toInt := by rw [hl0_xs122]; exact hl_xs120
      have hp_xs122 : ∀ y ∈ xs122, y = 0 ∨ y = (x116 ||| (1 : Int64)) ∨ y = (x116 ||| (2 : Int64)) ∨ y = (x116 ||| (3 : Int64)) := by
        intro y hy
        rcases hm_xs122 y hy with q | q
        · rcases hp_xs120 y q with rfl | rfl | rfl <;> simp
        · rw [q]; simp
      show Wp none l Z "com/example/orthrus/orthrus/SignatureSetFullPinLaw" "law" code maxLocals ret room_1 [(a109, oI "com/example/orthrus/orthrus/SignatureSet" sg_1 [(.long (x1.toInt64 + x108.toInt64)), (.ref A110), (.int (3 : Int32)), (.int b113)]), (A110, oJ xs122)] 2 15 108 #[.val (.int a), .val (.int b), .val (.int c), .val (.long d), .second, .val (.int e), .val (.int x1), .val (.int (5 : Int32)), .val (.int x108), .val (.ref a109), .val (.long x116), .second, .unset, .unset, .unset] [(.int (1 : Int32))] Q_law
      refine wp_pop D_108 rfl ?_
      refine wp_iload D_109 rfl ?_
      refine wp_iconst 4 D_111 (by decide) ?_
      refine wp_icmp_lt D_112 (pc'' := 127) ⟨by decide, by decide⟩ (fun h123 => by exact absurd h123 (by decide)) (fun h123 => ?_)
      refine wp_aload D_115 rfl rfl ?_
      refine wp_lload D_117 rfl ?_
      refine wp_ldc2J D_119 (hw _ (List.mem_of_getElem? (i := 51) rfl)) ?_
      refine wp_lor D_122 ?_
      have hli_xs122 : xs122.length.toInt32 = x1 := by rw [show xs122.length = x1.toNatClampNeg from by simp only [Int32.toNatClampNeg]; omega]; exact (back32 (own_i32 _ (by omega))).1
      refine wp_virtual (c_add3 l Z a0 hw a109 A110 (x1.toInt64 + x108.toInt64) (x116 ||| (4 : Int64)) b113 x1 xs122 [] hli_xs122 hl_xs122 hn (own_sn0 _ _ hlow (by decide)) (fun y hy => by rcases hp_xs122 y hy with rfl | rfl | rfl | rfl <;> first | exact fun e => own_sn0 x116 (4 : Int64) hlow (by decide) e.symm | exact own_sne _ _ _ hlow (by decide)) hc_xs122) (exa_new (i := 0) rfl) D_123 (hw _ (List.mem_of_getElem? (i := 14) rfl)) (hw _ (List.mem_of_getElem? (i := 15) rfl)) (hw _ (List.mem_of_getElem? (i := 17) rfl)) (hw _ (List.mem_of_getElem? (i := 17) rfl)) (hw _ (List.mem_of_getElem? (i := 16) rfl)) (hw _ (List.mem_of_getElem? (i := 2) rfl)) (hw _ (List.mem_of_getElem? (i := 18) rfl)) (by decide) pd_8 rfl rfl rfl (Nat.le_of_ble_eq_true rfl) (Nat.le_of_ble_eq_true rfl) (Nat.le_of_ble_eq_true rfl) (Nat.le_of_ble_eq_true rfl) ?_
      rintro _ _ ⟨rfl, xs124, rfl, hl0_xs124, hc_xs124, hm_xs124⟩
      show Wp none l Z "com/example/orthrus/orthrus/SignatureSetFullPinLaw" "law" code maxLocals ret room_1 [(a109, oI "com/example/orthrus/orthrus/SignatureSet" sg_1 [(.long (x1.toInt64 + x108.toInt64)), (.ref A110), (.int (4 : Int32)), (.int b113)]), (A110, oJ xs124)] 2 15 126 #[.val (.int a), .val (.int b), .val (.int c), .val (.long d), .second, .val (.int e), .val (.int x1), .val (.int (5 : Int32)), .val (.int x108), .val (.ref a109), .val (.long x116), .second, .unset, .unset, .unset] [(.int (1 : Int32))] Q_law
      have hl_xs124 : (xs124.length : Int) = x1.toInt := by rw [hl0_xs124]; exact hl_xs122
      have hp_xs124 : ∀ y ∈ xs124, y = 0 ∨ y = (x116 ||| (1 : Int64)) ∨ y = (x116 ||| (2 : Int64)) ∨ y = (x116 ||| (3 : Int64)) ∨ y = (x116 ||| (4 : Int64)) := by
        intro y hy
        rcases hm_xs124 y hy with q | q
        · rcases hp_xs122 y q with rfl | rfl | rfl | rfl <;> simp
        · rw [q]; simp
      show Wp none l Z "com/example/orthrus/orthrus/SignatureSetFullPinLaw" "law" code maxLocals ret room_1 [(a109, oI "com/example/orthrus/orthrus/SignatureSet" sg_1 [(.long (x1.toInt64 + x108.toInt64)), (.ref A110), (.int (4 : Int32)), (.int b113)]), (A110, oJ xs124)] 2 15 126 #[.val (.int a), .val (.int b), .val (.int c), .val (.long d), .second, .val (.int e), .val (.int x1), .val (.int (5 : Int32)), .val (.int x108), .val (.ref a109), .val (.long x116), .second, .unset, .unset, .unset] [(.int (1 : Int32))] Q_law
      refine wp_pop D_126 rfl ?_
      refine wp_iload D_127 rfl ?_
      refine wp_iconst 5 D_129 (by decide) ?_
      refine wp_icmp_lt D_130 (pc'' := 145) ⟨by decide, by decide⟩ (fun h125 => by exact absurd h125 (by decide)) (fun h125 => ?_)
      refine wp_aload D_133 rfl rfl ?_
      refine wp_lload D_135 rfl ?_
      refine wp_ldc2J D_137 (hw _ (List.mem_of_getElem? (i := 52) rfl)) ?_
      refine wp_lor D_140 ?_
      have hli_xs124 : xs124.length.toInt32 = x1 := by rw [show xs124.length = x1.toNatClampNeg from by simp only [Int32.toNatClampNeg]; omega]; exact (back32 (own_i32 _ (by omega))).1
      refine wp_virtual (c_add4 l Z a0 hw a109 A110 (x1.toInt64 + x108.toInt64) (x116 ||| (5 : Int64)) b113 x1 xs124 [] hli_xs124 hl_xs124 hn (own_sn0 _ _ hlow (by decide)) (fun y hy => by rcases hp_xs124 y hy with rfl | rfl | rfl | rfl | rfl <;> first | exact fun e => own_sn0 x116 (5 : Int64) hlow (by decide) e.symm | exact own_sne _ _ _ hlow (by decide)) hc_xs124) (exa_new (i := 0) rfl) D_141 (hw _ (List.mem_of_getElem? (i := 14) rfl)) (hw _ (List.mem_of_getElem? (i := 15) rfl)) (hw _ (List.mem_of_getElem? (i := 17) rfl)) (hw _ (List.mem_of_getElem? (i := 17) rfl)) (hw _ (List.mem_of_getElem? (i := 16) rfl)) (hw _ (List.mem_of_getElem? (i := 2) rfl)) (hw _ (List.mem_of_getElem? (i := 18) rfl)) (by decide) pd_8 rfl rfl rfl (Nat.le_of_ble_eq_true rfl) (Nat.le_of_ble_eq_true rfl) (Nat.le_of_ble_eq_true rfl) (Nat.le_of_ble_eq_true rfl) ?_
      rintro _ _ ⟨rfl, xs126, rfl, hl0_xs126, hc_xs126, hm_xs126⟩
      show Wp none l Z "com/example/orthrus/orthrus/SignatureSetFullPinLaw" "law" code maxLocals ret room_1 [(a109, oI "com/example/orthrus/orthrus/SignatureSet" sg_1 [(.long (x1.toInt64 + x108.toInt64)), (.ref A110), (.int (5 : Int32)), (.int b113)]), (A110, oJ xs126)] 2 15 144 #[.val (.int a), .val (.int b), .val (.int c), .val (.long d), .second, .val (.int e), .val (.int x1), .val (.int (5 : Int32)), .val (.int x108), .val (.ref a109), .val (.long x116), .second, .unset, .unset, .unset] [(.int (1 : Int32))] Q_law
      have hl_xs126 : (xs126.length : Int) = x1.toInt := by rw [hl0_xs126]; exact hl_xs124
      have hp_xs126 : ∀ y ∈ xs126, y = 0 ∨ y = (x116 ||| (1 : Int64)) ∨ y = (x116 ||| (2 : Int64)) ∨ y = (x116 ||| (3 : Int64)) ∨ y = (x116 ||| (4 : Int64)) ∨ y = (x116 ||| (5 : Int64)) := by
        intro y hy
        rcases hm_xs126 y hy with q | q
        · rcases hp_xs124 y q with rfl | rfl | rfl | rfl | rfl <;> simp
        · rw [q]; simp
      show Wp none l Z "com/example/orthrus/orthrus/SignatureSetFullPinLaw" "law" code maxLocals ret room_1 [(a109, oI "com/example/orthrus/orthrus/SignatureSet" sg_1 [(.long (x1.toInt64 + x108.toInt64)), (.ref A110), (.int (5 : Int32)), (.int b113)]), (A110, oJ xs126)] 2 15 144 #[.val (.int a), .val (.int b), .val (.int c), .val (.long d), .second, .val (.int e), .val (.int x1), .val (.int (5 : Int32)), .val (.int x108), .val (.ref a109), .val (.long x116), .second, .unset, .unset, .unset] [(.int (1 : Int32))] Q_law
      refine wp_pop D_144 rfl ?_
      refine wp_iload D_145 rfl ?_
      refine wp_bipush 6 D_147 (by decide) ?_
      refine wp_icmp_lt D_149 (pc'' := 164) ⟨by decide, by decide⟩ (fun h127 => ?_) (fun h127 => by exact absurd h127 (by decide))
      refine wp_iload D_164 rfl ?_
      refine wp_bipush 7 D_166 (by decide) ?_
      refine wp_icmp_lt D_168 (pc'' := 183) ⟨by decide, by decide⟩ (fun h128 => ?_) (fun h128 => by exact absurd h128 (by decide))
      refine wp_aload D_183 rfl rfl ?_
      refine wp_virtual (c_full l Z a0 hw a109 A110 (x1.toInt64 + x108.toInt64) b113 (5 : Int32) x1 xs126 [] (by rw [show xs126.length = x1.toNatClampNeg from by simp only [Int32.toNatClampNeg]; omega]; exact (back32 (own_i32 _ (by omega))).1)) (exa_new (i := 0) rfl) D_185 (hw _ (List.mem_of_getElem? (i := 48) rfl)) (hw _ (List.mem_of_getElem? (i := 37) rfl)) (hw _ (List.mem_of_getElem? (i := 39) rfl)) (hw _ (List.mem_of_getElem? (i := 39) rfl)) (hw _ (List.mem_of_getElem? (i := 38) rfl)) (hw _ (List.mem_of_getElem? (i := 2) rfl)) (hw _ (List.mem_of_getElem? (i := 40) rfl)) (by decide) pd_4 rfl rfl rfl (Nat.le_of_ble_eq_true rfl) (Nat.le_of_ble_eq_true rfl) (Nat.le_of_ble_eq_true rfl) (Nat.le_of_ble_eq_true rfl) ?_
      rintro _ _ ⟨rfl, rfl⟩
      rw [show f_full (5 : Int32) x1 = (0 : Int32) from by unfold f_full; rw [own_n4 x1 hn]; rfl]
      show Wp none l Z "com/example/orthrus/orthrus/SignatureSetFullPinLaw" "law" code maxLocals ret room_1 [(a109, oI "com/example/orthrus/orthrus/SignatureSet" sg_1 [(.long (x1.toInt64 + x108.toInt64)), (.ref A110), (.int (5 : Int32)), (.int b113)]), (A110, oJ xs126)] 2 15 188 #[.val (.int a), .val (.int b), .val (.int c), .val (.long d), .second, .val (.int e), .val (.int x1), .val (.int (5 : Int32)), .val (.int x108), .val (.ref a109), .val (.long x116), .second, .unset, .unset, .unset] [(.int (0 : Int32))] Q_law
      refine wp_istore #[.val (.int a), .val (.int b), .val (.int c), .val (.long d), .second, .val (.int e), .val (.int x1), .val (.int (5 : Int32)), .val (.int x108), .val (.ref a109), .val (.long x116), .second, .val (.int (0 : Int32)), .unset, .unset] D_188 rfl ?_
      refine wp_iload D_190 rfl ?_
      refine wp_istore #[.val (.int a), .val (.int b), .val (.int c), .val (.long d), .second, .val (.int e), .val (.int x1), .val (.int (5 : Int32)), .val (.int x108), .val (.ref a109), .val (.long x116), .second, .val (.int (0 : Int32)), .val (.int x1), .unset] D_192 rfl ?_
      refine wp_iload D_194 rfl ?_
      refine wp_bipush 7 D_196 (by decide) ?_
      refine wp_icmp_ne D_198 (pc'' := 219) ⟨by decide, by decide⟩ (fun h129 => ?_) (fun h129 => by exact absurd h129 (by decide))
      refine wp_iload D_219 rfl ?_
      refine wp_iload D_221 rfl ?_
      refine wp_iconst 4 D_223 (by decide) ?_
      refine wp_idiv D_224 (by decide) ?_
      refine wp_iconst 3 D_225 (by decide) ?_
      refine wp_imul D_226 ?_
      refine wp_icmp_le D_227 (pc'' := 234) ⟨by decide, by decide⟩ (fun h130 => ?_) (fun h130 => by rw [own_n4 x1 hn] at h130; exact absurd h130 (by decide))
      refine wp_iconst 0 D_234 (by decide) ?_
      refine wp_istore #[.val (.int a), .val (.int b), .val (.int c), .val (.long d), .second, .val (.int e), .val (.int x1), .val (.int (5 : Int32)), .val (.int x108), .val (.ref a109), .val (.long x116), .second, .val (.int (0 : Int32)), .val (.int x1), .val (.int (0 : Int32))] D_235 rfl ?_
      refine wp_iload D_237 rfl ?_
      refine wp_iload D_239 rfl ?_
      refine wp_icmp_ne D_241 (pc'' := 248) ⟨by decide, by decide⟩ (fun h131 => by exact absurd h131 (by decide)) (fun h131 => ?_)
      refine wp_iconst 1 D_244 (by decide) ?_
      refine wp_goto D_245 (pc'' := 249) ⟨by decide, by decide⟩ ?_
      refine wp_ireturnN D_249 rfl (by simp) (by decide) (by decide) ?_
      exact rfl
    refine wp_if_eq D_42 (pc'' := 52) ⟨by decide, by decide⟩ (fun h112 => ?_) (fun h112 => ?_)
    · skip
      exact (J115 (0 : Int32) (Or.inl ⟨h112, rfl⟩))
    · skip
      refine wp_aload D_45 rfl rfl ?_
      refine wp_lconst 0 D_47 (by decide) ?_
      refine Wp.pick [1, 0] (by decide) ?_
      show Wp none l Z "com/example/orthrus/orthrus/SignatureSetFullPinLaw" "law" code maxLocals ret room_1 [(a109, oI "com/example/orthrus/orthrus/SignatureSet" sg_1 [(.long (x1.toInt64 + x108.toInt64)), (.ref A110), (.int (0 : Int32)), (.int (0 : Int32))]), (A110, oJ xs111)] 2 15 48 #[.val (.int a), .val (.int b), .val (.int c), .val (.long d), .second, .val (.int e), .val (.int x1), .val (.int (5 : Int32)), .val (.int x108), .val (.ref a109), .unset, .unset, .unset, .unset, .unset] [(.long (0 : Int64)), (.ref a109)] Q_law
      refine wp_virtual (c_addz l Z a0 hw a109 A110 (x1.toInt64 + x108.toInt64) [(A110, oJ xs111)]) (exa_new (i := 0) rfl) D_48 (hw _ (List.mem_of_getElem? (i := 14) rfl)) (hw _ (List.mem_of_getElem? (i := 15) rfl)) (hw _ (List.mem_of_getElem? (i := 17) rfl)) (hw _ (List.mem_of_getElem? (i := 17) rfl)) (hw _ (List.mem_of_getElem? (i := 16) rfl)) (hw _ (List.mem_of_getElem? (i := 2) rfl)) (hw _ (List.mem_of_getElem? (i := 18) rfl)) (by decide) pd_8 rfl rfl rfl (Nat.le_of_ble_eq_true rfl) (Nat.le_of_ble_eq_true rfl) (Nat.le_of_ble_eq_true rfl) (Nat.le_of_ble_eq_true rfl) ?_
      rintro _ _ ⟨rfl, rfl⟩
      show Wp none l Z "com/example/orthrus/orthrus/SignatureSetFullPinLaw" "law" code maxLocals ret room_1 [(a109, oI "com/example/orthrus/orthrus/SignatureSet" sg_1 [(.long (x1.toInt64 + x108.toInt64)), (.ref A110), (.int (0 : Int32)), (.int (1 : Int32))]), (A110, oJ xs111)] 2 15 51 #[.val (.int a), .val (.int b), .val (.int c), .val (.long d), .second, .val (.int e), .val (.int x1), .val (.int (5 : Int32)), .val (.int x108), .val (.ref a109), .unset, .unset, .unset, .unset, .unset] [(.int (1 : Int32))] Q_law
      refine wp_pop D_51 rfl ?_
      refine Wp.pick [1, 0] (by decide) ?_
      show Wp none l Z "com/example/orthrus/orthrus/SignatureSetFullPinLaw" "law" code maxLocals ret room_1 [(A110, oJ xs111), (a109, oI "com/example/orthrus/orthrus/SignatureSet" sg_1 [(.long (x1.toInt64 + x108.toInt64)), (.ref A110), (.int (0 : Int32)), (.int (1 : Int32))])] 2 15 52 #[.val (.int a), .val (.int b), .val (.int c), .val (.long d), .second, .val (.int e), .val (.int x1), .val (.int (5 : Int32)), .val (.int x108), .val (.ref a109), .unset, .unset, .unset, .unset, .unset] [] Q_law
      exact (J115 (1 : Int32) (Or.inr ⟨h112, rfl⟩))
  · subst hs_x2
    show Wp none l Z "com/example/orthrus/orthrus/SignatureSetFullPinLaw" "law" code maxLocals ret room_1 [] 0 0 14 #[.val (.int a), .val (.int b), .val (.int c), .val (.long d), .second, .val (.int e), .val (.int x1), .val (.int (6 : Int32)), .unset, .unset, .unset, .unset, .unset, .unset, .unset] [] Q_law
    refine wp_iload_n D_14 rfl ?_
    refine wp_bipush 31 D_15 (by decide) ?_
    refine wp_iand D_17 ?_
    generalize hg_x132 : (c &&& (31 : Int32)) = x132
    have hm : 0 ≤ x132.toInt ∧ x132.toInt ≤ 31 := by rw [← hg_x132]; exact own_a31 _
    refine wp_istore #[.val (.int a), .val (.int b), .val (.int c), .val (.long d), .second, .val (.int e), .val (.int x1), .val (.int (6 : Int32)), .val (.int x132), .unset, .unset, .unset, .unset, .unset, .unset] D_18 rfl ?_
    have hms : x1.toInt64 + x132.toInt64 = x1.toInt64 + x132.toInt64 := rfl
    refine wp_new sg_1 [(.long (0 : Int64)), (.null), (.int (0 : Int32)), (.int (0 : Int32))] D_20 (hw _ (List.mem_of_getElem? (i := 0) rfl)) (hw _ (List.mem_of_getElem? (i := 1) rfl)) (hw _ (List.mem_of_getElem? (i := 2) rfl)) (laid_sg_1 l Z a0 hw) (by decide) dfl_sg_1 (by decide) (by decide) ?_
    intro a133
    show Wp none l Z "com/example/orthrus/orthrus/SignatureSetFullPinLaw" "law" code maxLocals ret room_1 [(a133, oI "com/example/orthrus/orthrus/SignatureSet" sg_1 [(.long (0 : Int64)), (.null), (.int (0 : Int32)), (.int (0 : Int32))])] 1 4 23 #[.val (.int a), .val (.int b), .val (.int c), .val (.long d), .second, .val (.int e), .val (.int x1), .val (.int (6 : Int32)), .val (.int x132), .unset, .unset, .unset, .unset, .unset, .unset] [(.ref a133)] Q_law
    refine wp_dup D_23 rfl ?_
    refine wp_iload D_24 rfl ?_
    refine wp_iload D_26 rfl ?_
    refine wp_i2l D_28 ?_
    refine wp_iload D_29 rfl ?_
    refine wp_i2l D_31 ?_
    refine wp_ladd D_32 ?_
    refine wp_init (c_new l Z a0 hw a133 x1 (x1.toInt64 + x132.toInt64) [] hn) D_33 rfl (hw _ (List.mem_of_getElem? (i := 3) rfl)) (hw _ (List.mem_of_getElem? (i := 4) rfl)) (hw _ (List.mem_of_getElem? (i := 2) rfl)) (hw _ (List.mem_of_getElem? (i := 5) rfl)) (by decide) pd_7 rfl rfl rfl (Nat.le_of_ble_eq_true rfl) (Nat.le_of_ble_eq_true rfl) (Nat.le_of_ble_eq_true rfl) (Nat.le_of_ble_eq_true rfl) ?_
    rintro _ _ ⟨rfl, A134, rfl⟩
    show Wp none l Z "com/example/orthrus/orthrus/SignatureSetFullPinLaw" "law" code maxLocals ret room_1 [(A134, oJ (List.replicate x1.toNatClampNeg 0)), (a133, oI "com/example/orthrus/orthrus/SignatureSet" sg_1 [(.long (x1.toInt64 + x132.toInt64)), (.ref A134), (.int (0 : Int32)), (.int (0 : Int32))])] 2 15 36 #[.val (.int a), .val (.int b), .val (.int c), .val (.long d), .second, .val (.int e), .val (.int x1), .val (.int (6 : Int32)), .val (.int x132), .unset, .unset, .unset, .unset, .unset, .unset] [(.ref a133)] Q_law
    obtain ⟨xs135, e_xs135⟩ : ∃ zs : List Int64, zs = List.replicate x1.toNatClampNeg 0 := ⟨_, rfl⟩
    rw [← e_xs135]
    have hl_xs135 : (xs135.length : Int) = x1.toInt := by rw [e_xs135, List.length_replicate]; simp only [Int32.toNatClampNeg]; omega
    have hc_xs135 : nz xs135 = 0 := by rw [e_xs135]; exact nz_rep _
    have hp_xs135 : ∀ y ∈ xs135, y = 0 := fun y hy => by rw [e_xs135] at hy; exact (List.mem_replicate.mp hy).2
    show Wp none l Z "com/example/orthrus/orthrus/SignatureSetFullPinLaw" "law" code maxLocals ret room_1 [(A134, oJ xs135), (a133, oI "com/example/orthrus/orthrus/SignatureSet" sg_1 [(.long (x1.toInt64 + x132.toInt64)), (.ref A134), (.int (0 : Int32)), (.int (0 : Int32))])] 2 15 36 #[.val (.int a), .val (.int b), .val (.int c), .val (.long d), .second, .val (.int e), .val (.int x1), .val (.int (6 : Int32)), .val (.int x132), .unset, .unset, .unset, .unset, .unset, .unset] [(.ref a133)] Q_law
    refine wp_astore #[.val (.int a), .val (.int b), .val (.int c), .val (.long d), .second, .val (.int e), .val (.int x1), .val (.int (6 : Int32)), .val (.int x132), .val (.ref a133), .unset, .unset, .unset, .unset, .unset] D_36 rfl rfl ?_
    refine wp_iload D_38 rfl ?_
    refine wp_iconst 1 D_40 (by decide) ?_
    refine wp_iand D_41 ?_
    have J139 : ∀ (b137 : Int32), (((e &&& (1 : Int32)) = (0 : Int32) ∧ b137 = (0 : Int32)) ∨ (¬ (e &&& (1 : Int32)) = (0 : Int32) ∧ b137 = (1 : Int32))) → Wp none l Z "com/example/orthrus/orthrus/SignatureSetFullPinLaw" "law" code maxLocals ret room_1 [(A134, oJ xs135), (a133, oI "com/example/orthrus/orthrus/SignatureSet" sg_1 [(.long (x1.toInt64 + x132.toInt64)), (.ref A134), (.int (0 : Int32)), (.int b137)])] 2 15 52 #[.val (.int a), .val (.int b), .val (.int c), .val (.long d), .second, .val (.int e), .val (.int x1), .val (.int (6 : Int32)), .val (.int x132), .val (.ref a133), .unset, .unset, .unset, .unset, .unset] [] Q_law := by
      intro b137 hj138
      refine wp_lload_n D_52 rfl ?_
      refine wp_iconst 3 D_53 (by decide) ?_
      refine wp_lshl D_54 ?_
      generalize hg_x140 : (d <<< ((3 : Int32).toInt64 &&& 63)) = x140
      have hlow : x140 &&& 7 = 0 := by rw [← hg_x140]; exact own_sh3 _
      refine wp_lstore #[.val (.int a), .val (.int b), .val (.int c), .val (.long d), .second, .val (.int e), .val (.int x1), .val (.int (6 : Int32)), .val (.int x132), .val (.ref a133), .val (.long x140), .second, .unset, .unset, .unset] D_55 rfl ?_
      refine wp_iload D_57 rfl ?_
      refine wp_iconst 1 D_59 (by decide) ?_
      refine wp_icmp_lt D_60 (pc'' := 73) ⟨by decide, by decide⟩ (fun h141 => by exact absurd h141 (by decide)) (fun h141 => ?_)
      refine wp_aload D_63 rfl rfl ?_
      refine wp_lload D_65 rfl ?_
      refine wp_lconst 1 D_67 (by decide) ?_
      refine wp_lor D_68 ?_
      refine Wp.pick [1, 0] (by decide) ?_
      show Wp none l Z "com/example/orthrus/orthrus/SignatureSetFullPinLaw" "law" code maxLocals ret room_1 [(a133, oI "com/example/orthrus/orthrus/SignatureSet" sg_1 [(.long (x1.toInt64 + x132.toInt64)), (.ref A134), (.int (0 : Int32)), (.int b137)]), (A134, oJ xs135)] 2 15 69 #[.val (.int a), .val (.int b), .val (.int c), .val (.long d), .second, .val (.int e), .val (.int x1), .val (.int (6 : Int32)), .val (.int x132), .val (.ref a133), .val (.long x140), .second, .unset, .unset, .unset] [(.long (x140 ||| (1 : Int64))), (.ref a133)] Q_law
      have hli_xs135 : xs135.length.toInt32 = x1 := by rw [show xs135.length = x1.toNatClampNeg from by simp only [Int32.toNatClampNeg]; omega]; exact (back32 (own_i32 _ (by omega))).1
      refine wp_virtual (c_add0 l Z a0 hw a133 A134 (x1.toInt64 + x132.toInt64) (x140 ||| (1 : Int64)) b137 x1 xs135 [] hli_xs135 hl_xs135 hn (own_sn0 _ _ hlow (by decide)) (fun y hy => by rw [hp_xs135 y hy]; exact fun e => own_sn0 x140 (1 : Int64) hlow (by decide) e.symm) hc_xs135) (exa_new (i := 0) rfl) D_69 (hw _ (List.mem_of_getElem? (i := 14) rfl)) (hw _ (List.mem_of_getElem? (i := 15) rfl)) (hw _ (List.mem_of_getElem? (i := 17) rfl)) (hw _ (List.mem_of_getElem? (i := 17) rfl)) (hw _ (List.mem_of_getElem? (i := 16) rfl)) (hw _ (List.mem_of_getElem? (i := 2) rfl)) (hw _ (List.mem_of_getElem? (i := 18) rfl)) (by decide) pd_8 rfl rfl rfl (Nat.le_of_ble_eq_true rfl) (Nat.le_of_ble_eq_true rfl) (Nat.le_of_ble_eq_true rfl) (Nat.le_of_ble_eq_true rfl) ?_
      rintro _ _ ⟨rfl, xs142, rfl, hl0_xs142, hc_xs142, hm_xs142⟩
      show Wp none l Z "com/example/orthrus/orthrus/SignatureSetFullPinLaw" "law" code maxLocals ret room_1 [(a133, oI "com/example/orthrus/orthrus/SignatureSet" sg_1 [(.long (x1.toInt64 + x132.toInt64)), (.ref A134), (.int (1 : Int32)), (.int b137)]), (A134, oJ xs142)] 2 15 72 #[.val (.int a), .val (.int b), .val (.int c), .val (.long d), .second, .val (.int e), .val (.int x1), .val (.int (6 : Int32)), .val (.int x132), .val (.ref a133), .val (.long x140), .second, .unset, .unset, .unset] [(.int (1 : Int32))] Q_law
      have hl_xs142 : (xs142.length : Int) = x1.toInt := by rw [hl0_xs142]; exact hl_xs135
      have hp_xs142 : ∀ y ∈ xs142, y = 0 ∨ y = (x140 ||| (1 : Int64)) := by
        intro y hy
        rcases hm_xs142 y hy with q | q
        · rw [hp_xs135 y q]; simp
        · rw [q]; simp
      show Wp none l Z "com/example/orthrus/orthrus/SignatureSetFullPinLaw" "law" code maxLocals ret room_1 [(a133, oI "com/example/orthrus/orthrus/SignatureSet" sg_1 [(.long (x1.toInt64 + x132.toInt64)), (.ref A134), (.int (1 : Int32)), (.int b137)]), (A134, oJ xs142)] 2 15 72 #[.val (.int a), .val (.int b), .val (.int c), .val (.long d), .second, .val (.int e), .val (.int x1), .val (.int (6 : Int32)), .val (.int x132), .val (.ref a133), .val (.long x140), .second, .unset, .unset, .unset] [(.int (1 : Int32))] Q_law
      refine wp_pop D_72 rfl ?_
      refine wp_iload D_73 rfl ?_
      refine wp_iconst 2 D_75 (by decide) ?_
      refine wp_icmp_lt D_76 (pc'' := 91) ⟨by decide, by decide⟩ (fun h143 => by exact absurd h143 (by decide)) (fun h143 => ?_)
      refine wp_aload D_79 rfl rfl ?_
      refine wp_lload D_81 rfl ?_
      refine wp_ldc2J D_83 (hw _ (List.mem_of_getElem? (i := 43) rfl)) ?_
      refine wp_lor D_86 ?_
      have hli_xs142 : xs142.length.toInt32 = x1 := by rw [show xs142.length = x1.toNatClampNeg from by simp only [Int32.toNatClampNeg]; omega]; exact (back32 (own_i32 _ (by omega))).1
      refine wp_virtual (c_add1 l Z a0 hw a133 A134 (x1.toInt64 + x132.toInt64) (x140 ||| (2 : Int64)) b137 x1 xs142 [] hli_xs142 hl_xs142 hn (own_sn0 _ _ hlow (by decide)) (fun y hy => by rcases hp_xs142 y hy with rfl | rfl <;> first | exact fun e => own_sn0 x140 (2 : Int64) hlow (by decide) e.symm | exact own_sne _ _ _ hlow (by decide)) hc_xs142) (exa_new (i := 0) rfl) D_87 (hw _ (List.mem_of_getElem? (i := 14) rfl)) (hw _ (List.mem_of_getElem? (i := 15) rfl)) (hw _ (List.mem_of_getElem? (i := 17) rfl)) (hw _ (List.mem_of_getElem? (i := 17) rfl)) (hw _ (List.mem_of_getElem? (i := 16) rfl)) (hw _ (List.mem_of_getElem? (i := 2) rfl)) (hw _ (List.mem_of_getElem? (i := 18) rfl)) (by decide) pd_8 rfl rfl rfl (Nat.le_of_ble_eq_true rfl) (Nat.le_of_ble_eq_true rfl) (Nat.le_of_ble_eq_true rfl) (Nat.le_of_ble_eq_true rfl) ?_
      rintro _ _ ⟨rfl, xs144, rfl, hl0_xs144, hc_xs144, hm_xs144⟩
      show Wp none l Z "com/example/orthrus/orthrus/SignatureSetFullPinLaw" "law" code maxLocals ret room_1 [(a133, oI "com/example/orthrus/orthrus/SignatureSet" sg_1 [(.long (x1.toInt64 + x132.toInt64)), (.ref A134), (.int (2 : Int32)), (.int b137)]), (A134, oJ xs144)] 2 15 90 #[.val (.int a), .val (.int b), .val (.int c), .val (.long d), .second, .val (.int e), .val (.int x1), .val (.int (6 : Int32)), .val (.int x132), .val (.ref a133), .val (.long x140), .second, .unset, .unset, .unset] [(.int (1 : Int32))] Q_law
      have hl_xs144 : (xs144.length : Int) = x1.toInt := by rw [hl0_xs144]; exact hl_xs142
      have hp_xs144 : ∀ y ∈ xs144, y = 0 ∨ y = (x140 ||| (1 : Int64)) ∨ y = (x140 ||| (2 : Int64)) := by
        intro y hy
        rcases hm_xs144 y hy with q | q
        · rcases hp_xs142 y q with rfl | rfl <;> simp
        · rw [q]; simp
      show Wp none l Z "com/example/orthrus/orthrus/SignatureSetFullPinLaw" "law" code maxLocals ret room_1 [(a133, oI "com/example/orthrus/orthrus/SignatureSet" sg_1 [(.long (x1.toInt64 + x132.toInt64)), (.ref A134), (.int (2 : Int32)), (.int b137)]), (A134, oJ xs144)] 2 15 90 #[.val (.int a), .val (.int b), .val (.int c), .val (.long d), .second, .val (.int e), .val (.int x1), .val (.int (6 : Int32)), .val (.int x132), .val (.ref a133), .val (.long x140), .second, .unset, .unset, .unset] [(.int (1 : Int32))] Q_law
      refine wp_pop D_90 rfl ?_
      refine wp_iload D_91 rfl ?_
      refine wp_iconst 3 D_93 (by decide) ?_
      refine wp_icmp_lt D_94 (pc'' := 109) ⟨by decide, by decide⟩ (fun h145 => by exact absurd h145 (by decide)) (fun h145 => ?_)
      refine wp_aload D_97 rfl rfl ?_
      refine wp_lload D_99 rfl ?_
      refine wp_ldc2J D_101 (hw _ (List.mem_of_getElem? (i := 44) rfl)) ?_
      refine wp_lor D_104 ?_
      have hli_xs144 : xs144.length.toInt32 = x1 := by rw [show xs144.length = x1.toNatClampNeg from by simp only [Int32.toNatClampNeg]; omega]; exact (back32 (own_i32 _ (by omega))).1
      refine wp_virtual (c_add2 l Z a0 hw a133 A134 (x1.toInt64 + x132.toInt64) (x140 ||| (3 : Int64)) b137 x1 xs144 [] hli_xs144 hl_xs144 hn (own_sn0 _ _ hlow (by decide)) (fun y hy => by rcases hp_xs144 y hy with rfl | rfl | rfl <;> first | exact fun e => own_sn0 x140 (3 : Int64) hlow (by decide) e.symm | exact own_sne _ _ _ hlow (by decide)) hc_xs144) (exa_new (i := 0) rfl) D_105 (hw _ (List.mem_of_getElem? (i := 14) rfl)) (hw _ (List.mem_of_getElem? (i := 15) rfl)) (hw _ (List.mem_of_getElem? (i := 17) rfl)) (hw _ (List.mem_of_getElem? (i := 17) rfl)) (hw _ (List.mem_of_getElem? (i := 16) rfl)) (hw _ (List.mem_of_getElem? (i := 2) rfl)) (hw _ (List.mem_of_getElem? (i := 18) rfl)) (by decide) pd_8 rfl rfl rfl (Nat.le_of_ble_eq_true rfl) (Nat.le_of_ble_eq_true rfl) (Nat.le_of_ble_eq_true rfl) (Nat.le_of_ble_eq_true rfl) ?_
      rintro _ _ ⟨rfl, xs146, rfl, hl0_xs146, hc_xs146, hm_xs146⟩
      show Wp none l Z "com/example/orthrus/orthrus/SignatureSetFullPinLaw" "law" code maxLocals ret room_1 [(a133, oI "com/example/orthrus/orthrus/SignatureSet" sg_1 [(.long (x1.toInt64 + x132.toInt64)), (.ref A134), (.int (3 : Int32)), (.int b137)]), (A134, oJ xs146)] 2 15 108 #[.val (.int a), .val (.int b), .val (.int c), .val (.long d), .second, .val (.int e), .val (.int x1), .val (.int (6 : Int32)), .val (.int x132), .val (.ref a133), .val (.long x140), .second, .unset, .unset, .unset] [(.int (1 : Int32))] Q_law
      have hl_xs146 : (xs146.length : Int) = x1.toInt := by rw [hl0_xs146]; exact hl_xs144
      have hp_xs146 : ∀ y ∈ xs146, y = 0 ∨ y = (x140 ||| (1 : Int64)) ∨ y = (x140 ||| (2 : Int64)) ∨ y = (x140 ||| (3 : Int64)) := by
        intro y hy
        rcases hm_xs146 y hy with q | q
        · rcases hp_xs144 y q with rfl | rfl | rfl <;> simp
        · rw [q]; simp
      show Wp none l Z "com/example/orthrus/orthrus/SignatureSetFullPinLaw" "law" code maxLocals ret room_1 [(a133, oI "com/example/orthrus/orthrus/SignatureSet" sg_1 [(.long (x1.toInt64 + x132.toInt64)), (.ref A134), (.int (3 : Int32)), (.int b137)]), (A134, oJ xs146)] 2 15 108 #[.val (.int a), .val (.int b), .val (.int c), .val (.long d), .second, .val (.int e), .val (.int x1), .val (.int (6 : Int32)), .val (.int x132), .val (.ref a133), .val (.long x140), .second, .unset, .unset, .unset] [(.int (1 : Int32))] Q_law
      refine wp_pop D_108 rfl ?_
      refine wp_iload D_109 rfl ?_
      refine wp_iconst 4 D_111 (by decide) ?_
      refine wp_icmp_lt D_112 (pc'' := 127) ⟨by decide, by decide⟩ (fun h147 => by exact absurd h147 (by decide)) (fun h147 => ?_)
      refine wp_aload D_115 rfl rfl ?_
      refine wp_lload D_117 rfl ?_
      refine wp_ldc2J D_119 (hw _ (List.mem_of_getElem? (i := 51) rfl)) ?_
      refine wp_lor D_122 ?_
      have hli_xs146 : xs146.length.toInt32 = x1 := by rw [show xs146.length = x1.toNatClampNeg from by simp only [Int32.toNatClampNeg]; omega]; exact (back32 (own_i32 _ (by omega))).1
      refine wp_virtual (c_add3 l Z a0 hw a133 A134 (x1.toInt64 + x132.toInt64) (x140 ||| (4 : Int64)) b137 x1 xs146 [] hli_xs146 hl_xs146 hn (own_sn0 _ _ hlow (by decide)) (fun y hy => by rcases hp_xs146 y hy with rfl | rfl | rfl | rfl <;> first | exact fun e => own_sn0 x140 (4 : Int64) hlow (by decide) e.symm | exact own_sne _ _ _ hlow (by decide)) hc_xs146) (exa_new (i := 0) rfl) D_123 (hw _ (List.mem_of_getElem? (i := 14) rfl)) (hw _ (List.mem_of_getElem? (i := 15) rfl)) (hw _ (List.mem_of_getElem? (i := 17) rfl)) (hw _ (List.mem_of_getElem? (i := 17) rfl)) (hw _ (List.mem_of_getElem? (i := 16) rfl)) (hw _ (List.mem_of_getElem? (i := 2) rfl)) (hw _ (List.mem_of_getElem? (i := 18) rfl)) (by decide) pd_8 rfl rfl rfl (Nat.le_of_ble_eq_true rfl) (Nat.le_of_ble_eq_true rfl) (Nat.le_of_ble_eq_true rfl) (Nat.le_of_ble_eq_true rfl) ?_
      rintro _ _ ⟨rfl, xs148, rfl, hl0_xs148, hc_xs148, hm_xs148⟩
      show Wp none l Z "com/example/orthrus/orthrus/SignatureSetFullPinLaw" "law" code maxLocals ret room_1 [(a133, oI "com/example/orthrus/orthrus/SignatureSet" sg_1 [(.long (x1.toInt64 + x132.toInt64)), (.ref A134), (.int (4 : Int32)), (.int b137)]), (A134, oJ xs148)] 2 15 126 #[.val (.int a), .val (.int b), .val (.int c), .val (.long d), .second, .val (.int e), .val (.int x1), .val (.int (6 : Int32)), .val (.int x132), .val (.ref a133), .val (.long x140), .second, .unset, .unset, .unset] [(.int (1 : Int32))] Q_law
      have hl_xs148 : (xs148.length : Int) = x1.toInt := by rw [hl0_xs148]; exact hl_xs146
      have hp_xs148 : ∀ y ∈ xs148, y = 0 ∨ y = (x140 ||| (1 : Int64)) ∨ y = (x140 ||| (2 : Int64)) ∨ y = (x140 ||| (3 : Int64)) ∨ y = (x140 ||| (4 : Int64)) := by
        intro y hy
        rcases hm_xs148 y hy with q | q
        · rcases hp_xs146 y q with rfl | rfl | rfl | rfl <;> simp
        · rw [q]; simp
      show Wp none l Z "com/example/orthrus/orthrus/SignatureSetFullPinLaw" "law" code maxLocals ret room_1 [(a133, oI "com/example/orthrus/orthrus/SignatureSet" sg_1 [(.long (x1.toInt64 + x132.toInt64)), (.ref A134), (.int (4 : Int32)), (.int b137)]), (A134, oJ xs148)] 2 15 126 #[.val (.int a), .val (.int b), .val (.int c), .val (.long d), .second, .val (.int e), .val (.int x1), .val (.int (6 : Int32)), .val (.int x132), .val (.ref a133), .val (.long x140), .second, .unset, .unset, .unset] [(.int (1 : Int32))] Q_law
      refine wp_pop D_126 rfl ?_
      refine wp_iload D_127 rfl ?_
      refine wp_iconst 5 D_129 (by decide) ?_
      refine wp_icmp_lt D_130 (pc'' := 145) ⟨by decide, by decide⟩ (fun h149 => by exact absurd h149 (by decide)) (fun h149 => ?_)
      refine wp_aload D_133 rfl rfl ?_
      refine wp_lload D_135 rfl ?_
      refine wp_ldc2J D_137 (hw _ (List.mem_of_getElem? (i := 52) rfl)) ?_
      refine wp_lor D_140 ?_
      have hli_xs148 : xs148.length.toInt32 = x1 := by rw [show xs148.length = x1.toNatClampNeg from by simp only [Int32.toNatClampNeg]; omega]; exact (back32 (own_i32 _ (by omega))).1
      refine wp_virtual (c_add4 l Z a0 hw a133 A134 (x1.toInt64 + x132.toInt64) (x140 ||| (5 : Int64)) b137 x1 xs148 [] hli_xs148 hl_xs148 hn (own_sn0 _ _ hlow (by decide)) (fun y hy => by rcases hp_xs148 y hy with rfl | rfl | rfl | rfl | rfl <;> first | exact fun e => own_sn0 x140 (5 : Int64) hlow (by decide) e.symm | exact own_sne _ _ _ hlow (by decide)) hc_xs148) (exa_new (i := 0) rfl) D_141 (hw _ (List.mem_of_getElem? (i := 14) rfl)) (hw _ (List.mem_of_getElem? (i := 15) rfl)) (hw _ (List.mem_of_getElem? (i := 17) rfl)) (hw _ (List.mem_of_getElem? (i := 17) rfl)) (hw _ (List.mem_of_getElem? (i := 16) rfl)) (hw _ (List.mem_of_getElem? (i := 2) rfl)) (hw _ (List.mem_of_getElem? (i := 18) rfl)) (by decide) pd_8 rfl rfl rfl (Nat.le_of_ble_eq_true rfl) (Nat.le_of_ble_eq_true rfl) (Nat.le_of_ble_eq_true rfl) (Nat.le_of_ble_eq_true rfl) ?_
      rintro _ _ ⟨rfl, xs150, rfl, hl0_xs150, hc_xs150, hm_xs150⟩
      show Wp none l Z "com/example/orthrus/orthrus/SignatureSetFullPinLaw" "law" code maxLocals ret room_1 [(a133, oI "com/example/orthrus/orthrus/SignatureSet" sg_1 [(.long (x1.toInt64 + x132.toInt64)), (.ref A134), (.int (5 : Int32)), (.int b137)]), (A134, oJ xs150)] 2 15 144 #[.val (.int a), .val (.int b), .val (.int c), .val (.long d), .second, .val (.int e), .val (.int x1), .val (.int (6 : Int32)), .val (.int x132), .val (.ref a133), .val (.long x140), .second, .unset, .unset, .unset] [(.int (1 : Int32))] Q_law
      have hl_xs150 : (xs150.length : Int) = x1.toInt := by rw [hl0_xs150]; exact hl_xs148
      have hp_xs150 : ∀ y ∈ xs150, y = 0 ∨ y = (x140 ||| (1 : Int64)) ∨ y = (x140 ||| (2 : Int64)) ∨ y = (x140 ||| (3 : Int64)) ∨ y = (x140 ||| (4 : Int64)) ∨ y = (x140 ||| (5 : Int64)) := by
        intro y hy
        rcases hm_xs150 y hy with q | q
        · rcases hp_xs148 y q with rfl | rfl | rfl | rfl | rfl <;> simp
        · rw [q]; simp
      show Wp none l Z "com/example/orthrus/orthrus/SignatureSetFullPinLaw" "law" code maxLocals ret room_1 [(a133, oI "com/example/orthrus/orthrus/SignatureSet" sg_1 [(.long (x1.toInt64 + x132.toInt64)), (.ref A134), (.int (5 : Int32)), (.int b137)]), (A134, oJ xs150)] 2 15 144 #[.val (.int a), .val (.int b), .val (.int c), .val (.long d), .second, .val (.int e), .val (.int x1), .val (.int (6 : Int32)), .val (.int x132), .val (.ref a133), .val (.long x140), .second, .unset, .unset, .unset] [(.int (1 : Int32))] Q_law
      refine wp_pop D_144 rfl ?_
      refine wp_iload D_145 rfl ?_
      refine wp_bipush 6 D_147 (by decide) ?_
      refine wp_icmp_lt D_149 (pc'' := 164) ⟨by decide, by decide⟩ (fun h151 => by exact absurd h151 (by decide)) (fun h151 => ?_)
      refine wp_aload D_152 rfl rfl ?_
      refine wp_lload D_154 rfl ?_
      refine wp_ldc2J D_156 (hw _ (List.mem_of_getElem? (i := 53) rfl)) ?_
      refine wp_lor D_159 ?_
      have hli_xs150 : xs150.length.toInt32 = x1 := by rw [show xs150.length = x1.toNatClampNeg from by simp only [Int32.toNatClampNeg]; omega]; exact (back32 (own_i32 _ (by omega))).1
      refine wp_virtual (c_add5 l Z a0 hw a133 A134 (x1.toInt64 + x132.toInt64) (x140 ||| (6 : Int64)) b137 x1 xs150 [] hli_xs150 hl_xs150 hn (own_sn0 _ _ hlow (by decide)) (fun y hy => by rcases hp_xs150 y hy with rfl | rfl | rfl | rfl | rfl | rfl <;> first | exact fun e => own_sn0 x140 (6 : Int64) hlow (by decide) e.symm | exact own_sne _ _ _ hlow (by decide)) hc_xs150) (exa_new (i := 0) rfl) D_160 (hw _ (List.mem_of_getElem? (i := 14) rfl)) (hw _ (List.mem_of_getElem? (i := 15) rfl)) (hw _ (List.mem_of_getElem? (i := 17) rfl)) (hw _ (List.mem_of_getElem? (i := 17) rfl)) (hw _ (List.mem_of_getElem? (i := 16) rfl)) (hw _ (List.mem_of_getElem? (i := 2) rfl)) (hw _ (List.mem_of_getElem? (i := 18) rfl)) (by decide) pd_8 rfl rfl rfl (Nat.le_of_ble_eq_true rfl) (Nat.le_of_ble_eq_true rfl) (Nat.le_of_ble_eq_true rfl) (Nat.le_of_ble_eq_true rfl) ?_
      rintro _ _ ⟨rfl, xs152, rfl, hl0_xs152, hc_xs152, hm_xs152⟩
      show Wp none l Z "com/example/orthrus/orthrus/SignatureSetFullPinLaw" "law" code maxLocals ret room_1 [(a133, oI "com/example/orthrus/orthrus/SignatureSet" sg_1 [(.long (x1.toInt64 + x132.toInt64)), (.ref A134), (.int (6 : Int32)), (.int b137)]), (A134, oJ xs152)] 2 15 163 #[.val (.int a), .val (.int b), .val (.int c), .val (.long d), .second, .val (.int e), .val (.int x1), .val (.int (6 : Int32)), .val (.int x132), .val (.ref a133), .val (.long x140), .second, .unset, .unset, .unset] [(.int (1 : Int32))] Q_law
      have hl_xs152 : (xs152.length : Int) = x1.toInt := by rw [hl0_xs152]; exact hl_xs150
      have hp_xs152 : ∀ y ∈ xs152, y = 0 ∨ y = (x140 ||| (1 : Int64)) ∨ y = (x140 ||| (2 : Int64)) ∨ y = (x140 ||| (3 : Int64)) ∨ y = (x140 ||| (4 : Int64)) ∨ y = (x140 ||| (5 : Int64)) ∨ y = (x140 ||| (6 : Int64)) := by
        intro y hy
        rcases hm_xs152 y hy with q | q
        · rcases hp_xs150 y q with rfl | rfl | rfl | rfl | rfl | rfl <;> simp
        · rw [q]; simp
      show Wp none l Z "com/example/orthrus/orthrus/SignatureSetFullPinLaw" "law" code maxLocals ret room_1 [(a133, oI "com/example/orthrus/orthrus/SignatureSet" sg_1 [(.long (x1.toInt64 + x132.toInt64)), (.ref A134), (.int (6 : Int32)), (.int b137)]), (A134, oJ xs152)] 2 15 163 #[.val (.int a), .val (.int b), .val (.int c), .val (.long d), .second, .val (.int e), .val (.int x1), .val (.int (6 : Int32)), .val (.int x132), .val (.ref a133), .val (.long x140), .second, .unset, .unset, .unset] [(.int (1 : Int32))] Q_law
      refine wp_pop D_163 rfl ?_
      refine wp_iload D_164 rfl ?_
      refine wp_bipush 7 D_166 (by decide) ?_
      refine wp_icmp_lt D_168 (pc'' := 183) ⟨by decide, by decide⟩ (fun h153 => ?_) (fun h153 => by exact absurd h153 (by decide))
      refine wp_aload D_183 rfl rfl ?_
      refine wp_virtual (c_full l Z a0 hw a133 A134 (x1.toInt64 + x132.toInt64) b137 (6 : Int32) x1 xs152 [] (by rw [show xs152.length = x1.toNatClampNeg from by simp only [Int32.toNatClampNeg]; omega]; exact (back32 (own_i32 _ (by omega))).1)) (exa_new (i := 0) rfl) D_185 (hw _ (List.mem_of_getElem? (i := 48) rfl)) (hw _ (List.mem_of_getElem? (i := 37) rfl)) (hw _ (List.mem_of_getElem? (i := 39) rfl)) (hw _ (List.mem_of_getElem? (i := 39) rfl)) (hw _ (List.mem_of_getElem? (i := 38) rfl)) (hw _ (List.mem_of_getElem? (i := 2) rfl)) (hw _ (List.mem_of_getElem? (i := 40) rfl)) (by decide) pd_4 rfl rfl rfl (Nat.le_of_ble_eq_true rfl) (Nat.le_of_ble_eq_true rfl) (Nat.le_of_ble_eq_true rfl) (Nat.le_of_ble_eq_true rfl) ?_
      rintro _ _ ⟨rfl, rfl⟩
      rw [show f_full (6 : Int32) x1 = (0 : Int32) from by unfold f_full; rw [own_n4 x1 hn]; rfl]
      show Wp none l Z "com/example/orthrus/orthrus/SignatureSetFullPinLaw" "law" code maxLocals ret room_1 [(a133, oI "com/example/orthrus/orthrus/SignatureSet" sg_1 [(.long (x1.toInt64 + x132.toInt64)), (.ref A134), (.int (6 : Int32)), (.int b137)]), (A134, oJ xs152)] 2 15 188 #[.val (.int a), .val (.int b), .val (.int c), .val (.long d), .second, .val (.int e), .val (.int x1), .val (.int (6 : Int32)), .val (.int x132), .val (.ref a133), .val (.long x140), .second, .unset, .unset, .unset] [(.int (0 : Int32))] Q_law
      refine wp_istore #[.val (.int a), .val (.int b), .val (.int c), .val (.long d), .second, .val (.int e), .val (.int x1), .val (.int (6 : Int32)), .val (.int x132), .val (.ref a133), .val (.long x140), .second, .val (.int (0 : Int32)), .unset, .unset] D_188 rfl ?_
      refine wp_iload D_190 rfl ?_
      refine wp_istore #[.val (.int a), .val (.int b), .val (.int c), .val (.long d), .second, .val (.int e), .val (.int x1), .val (.int (6 : Int32)), .val (.int x132), .val (.ref a133), .val (.long x140), .second, .val (.int (0 : Int32)), .val (.int x1), .unset] D_192 rfl ?_
      refine wp_iload D_194 rfl ?_
      refine wp_bipush 7 D_196 (by decide) ?_
      refine wp_icmp_ne D_198 (pc'' := 219) ⟨by decide, by decide⟩ (fun h154 => ?_) (fun h154 => by exact absurd h154 (by decide))
      refine wp_iload D_219 rfl ?_
      refine wp_iload D_221 rfl ?_
      refine wp_iconst 4 D_223 (by decide) ?_
      refine wp_idiv D_224 (by decide) ?_
      refine wp_iconst 3 D_225 (by decide) ?_
      refine wp_imul D_226 ?_
      refine wp_icmp_le D_227 (pc'' := 234) ⟨by decide, by decide⟩ (fun h155 => ?_) (fun h155 => by rw [own_n4 x1 hn] at h155; exact absurd h155 (by decide))
      refine wp_iconst 0 D_234 (by decide) ?_
      refine wp_istore #[.val (.int a), .val (.int b), .val (.int c), .val (.long d), .second, .val (.int e), .val (.int x1), .val (.int (6 : Int32)), .val (.int x132), .val (.ref a133), .val (.long x140), .second, .val (.int (0 : Int32)), .val (.int x1), .val (.int (0 : Int32))] D_235 rfl ?_
      refine wp_iload D_237 rfl ?_
      refine wp_iload D_239 rfl ?_
      refine wp_icmp_ne D_241 (pc'' := 248) ⟨by decide, by decide⟩ (fun h156 => by exact absurd h156 (by decide)) (fun h156 => ?_)
      refine wp_iconst 1 D_244 (by decide) ?_
      refine wp_goto D_245 (pc'' := 249) ⟨by decide, by decide⟩ ?_
      refine wp_ireturnN D_249 rfl (by simp) (by decide) (by decide) ?_
      exact rfl
    refine wp_if_eq D_42 (pc'' := 52) ⟨by decide, by decide⟩ (fun h136 => ?_) (fun h136 => ?_)
    · skip
      exact (J139 (0 : Int32) (Or.inl ⟨h136, rfl⟩))
    · skip
      refine wp_aload D_45 rfl rfl ?_
      refine wp_lconst 0 D_47 (by decide) ?_
      refine Wp.pick [1, 0] (by decide) ?_
      show Wp none l Z "com/example/orthrus/orthrus/SignatureSetFullPinLaw" "law" code maxLocals ret room_1 [(a133, oI "com/example/orthrus/orthrus/SignatureSet" sg_1 [(.long (x1.toInt64 + x132.toInt64)), (.ref A134), (.int (0 : Int32)), (.int (0 : Int32))]), (A134, oJ xs135)] 2 15 48 #[.val (.int a), .val (.int b), .val (.int c), .val (.long d), .second, .val (.int e), .val (.int x1), .val (.int (6 : Int32)), .val (.int x132), .val (.ref a133), .unset, .unset, .unset, .unset, .unset] [(.long (0 : Int64)), (.ref a133)] Q_law
      refine wp_virtual (c_addz l Z a0 hw a133 A134 (x1.toInt64 + x132.toInt64) [(A134, oJ xs135)]) (exa_new (i := 0) rfl) D_48 (hw _ (List.mem_of_getElem? (i := 14) rfl)) (hw _ (List.mem_of_getElem? (i := 15) rfl)) (hw _ (List.mem_of_getElem? (i := 17) rfl)) (hw _ (List.mem_of_getElem? (i := 17) rfl)) (hw _ (List.mem_of_getElem? (i := 16) rfl)) (hw _ (List.mem_of_getElem? (i := 2) rfl)) (hw _ (List.mem_of_getElem? (i := 18) rfl)) (by decide) pd_8 rfl rfl rfl (Nat.le_of_ble_eq_true rfl) (Nat.le_of_ble_eq_true rfl) (Nat.le_of_ble_eq_true rfl) (Nat.le_of_ble_eq_true rfl) ?_
      rintro _ _ ⟨rfl, rfl⟩
      show Wp none l Z "com/example/orthrus/orthrus/SignatureSetFullPinLaw" "law" code maxLocals ret room_1 [(a133, oI "com/example/orthrus/orthrus/SignatureSet" sg_1 [(.long (x1.toInt64 + x132.toInt64)), (.ref A134), (.int (0 : Int32)), (.int (1 : Int32))]), (A134, oJ xs135)] 2 15 51 #[.val (.int a), .val (.int b), .val (.int c), .val (.long d), .second, .val (.int e), .val (.int x1), .val (.int (6 : Int32)), .val (.int x132), .val (.ref a133), .unset, .unset, .unset, .unset, .unset] [(.int (1 : Int32))] Q_law
      refine wp_pop D_51 rfl ?_
      refine Wp.pick [1, 0] (by decide) ?_
      show Wp none l Z "com/example/orthrus/orthrus/SignatureSetFullPinLaw" "law" code maxLocals ret room_1 [(A134, oJ xs135), (a133, oI "com/example/orthrus/orthrus/SignatureSet" sg_1 [(.long (x1.toInt64 + x132.toInt64)), (.ref A134), (.int (0 : Int32)), (.int (1 : Int32))])] 2 15 52 #[.val (.int a), .val (.int b), .val (.int c), .val (.long d), .second, .val (.int e), .val (.int x1), .val (.int (6 : Int32)), .val (.int x132), .val (.ref a133), .unset, .unset, .unset, .unset, .unset] [] Q_law
      exact (J139 (1 : Int32) (Or.inr ⟨h136, rfl⟩))
  · subst hs_x2
    show Wp none l Z "com/example/orthrus/orthrus/SignatureSetFullPinLaw" "law" code maxLocals ret room_1 [] 0 0 14 #[.val (.int a), .val (.int b), .val (.int c), .val (.long d), .second, .val (.int e), .val (.int x1), .val (.int (7 : Int32)), .unset, .unset, .unset, .unset, .unset, .unset, .unset] [] Q_law
    refine wp_iload_n D_14 rfl ?_
    refine wp_bipush 31 D_15 (by decide) ?_
    refine wp_iand D_17 ?_
    generalize hg_x157 : (c &&& (31 : Int32)) = x157
    have hm : 0 ≤ x157.toInt ∧ x157.toInt ≤ 31 := by rw [← hg_x157]; exact own_a31 _
    refine wp_istore #[.val (.int a), .val (.int b), .val (.int c), .val (.long d), .second, .val (.int e), .val (.int x1), .val (.int (7 : Int32)), .val (.int x157), .unset, .unset, .unset, .unset, .unset, .unset] D_18 rfl ?_
    have hms : x1.toInt64 + x157.toInt64 = x1.toInt64 + x157.toInt64 := rfl
    refine wp_new sg_1 [(.long (0 : Int64)), (.null), (.int (0 : Int32)), (.int (0 : Int32))] D_20 (hw _ (List.mem_of_getElem? (i := 0) rfl)) (hw _ (List.mem_of_getElem? (i := 1) rfl)) (hw _ (List.mem_of_getElem? (i := 2) rfl)) (laid_sg_1 l Z a0 hw) (by decide) dfl_sg_1 (by decide) (by decide) ?_
    intro a158
    show Wp none l Z "com/example/orthrus/orthrus/SignatureSetFullPinLaw" "law" code maxLocals ret room_1 [(a158, oI "com/example/orthrus/orthrus/SignatureSet" sg_1 [(.long (0 : Int64)), (.null), (.int (0 : Int32)), (.int (0 : Int32))])] 1 4 23 #[.val (.int a), .val (.int b), .val (.int c), .val (.long d), .second, .val (.int e), .val (.int x1), .val (.int (7 : Int32)), .val (.int x157), .unset, .unset, .unset, .unset, .unset, .unset] [(.ref a158)] Q_law
    refine wp_dup D_23 rfl ?_
    refine wp_iload D_24 rfl ?_
    refine wp_iload D_26 rfl ?_
    refine wp_i2l D_28 ?_
    refine wp_iload D_29 rfl ?_
    refine wp_i2l D_31 ?_
    refine wp_ladd D_32 ?_
    refine wp_init (c_new l Z a0 hw a158 x1 (x1.toInt64 + x157.toInt64) [] hn) D_33 rfl (hw _ (List.mem_of_getElem? (i := 3) rfl)) (hw _ (List.mem_of_getElem? (i := 4) rfl)) (hw _ (List.mem_of_getElem? (i := 2) rfl)) (hw _ (List.mem_of_getElem? (i := 5) rfl)) (by decide) pd_7 rfl rfl rfl (Nat.le_of_ble_eq_true rfl) (Nat.le_of_ble_eq_true rfl) (Nat.le_of_ble_eq_true rfl) (Nat.le_of_ble_eq_true rfl) ?_
    rintro _ _ ⟨rfl, A159, rfl⟩
    show Wp none l Z "com/example/orthrus/orthrus/SignatureSetFullPinLaw" "law" code maxLocals ret room_1 [(A159, oJ (List.replicate x1.toNatClampNeg 0)), (a158, oI "com/example/orthrus/orthrus/SignatureSet" sg_1 [(.long (x1.toInt64 + x157.toInt64)), (.ref A159), (.int (0 : Int32)), (.int (0 : Int32))])] 2 15 36 #[.val (.int a), .val (.int b), .val (.int c), .val (.long d), .second, .val (.int e), .val (.int x1), .val (.int (7 : Int32)), .val (.int x157), .unset, .unset, .unset, .unset, .unset, .unset] [(.ref a158)] Q_law
    obtain ⟨xs160, e_xs160⟩ : ∃ zs : List Int64, zs = List.replicate x1.toNatClampNeg 0 := ⟨_, rfl⟩
    rw [← e_xs160]
    have hl_xs160 : (xs160.length : Int) = x1.toInt := by rw [e_xs160, List.length_replicate]; simp only [Int32.toNatClampNeg]; omega
    have hc_xs160 : nz xs160 = 0 := by rw [e_xs160]; exact nz_rep _
    have hp_xs160 : ∀ y ∈ xs160, y = 0 := fun y hy => by rw [e_xs160] at hy; exact (List.mem_replicate.mp hy).2
    show Wp none l Z "com/example/orthrus/orthrus/SignatureSetFullPinLaw" "law" code maxLocals ret room_1 [(A159, oJ xs160), (a158, oI "com/example/orthrus/orthrus/SignatureSet" sg_1 [(.long (x1.toInt64 + x157.toInt64)), (.ref A159), (.int (0 : Int32)), (.int (0 : Int32))])] 2 15 36 #[.val (.int a), .val (.int b), .val (.int c), .val (.long d), .second, .val (.int e), .val (.int x1), .val (.int (7 : Int32)), .val (.int x157), .unset, .unset, .unset, .unset, .unset, .unset] [(.ref a158)] Q_law
    refine wp_astore #[.val (.int a), .val (.int b), .val (.int c), .val (.long d), .second, .val (.int e), .val (.int x1), .val (.int (7 : Int32)), .val (.int x157), .val (.ref a158), .unset, .unset, .unset, .unset, .unset] D_36 rfl rfl ?_
    refine wp_iload D_38 rfl ?_
    refine wp_iconst 1 D_40 (by decide) ?_
    refine wp_iand D_41 ?_
    have J164 : ∀ (b162 : Int32), (((e &&& (1 : Int32)) = (0 : Int32) ∧ b162 = (0 : Int32)) ∨ (¬ (e &&& (1 : Int32)) = (0 : Int32) ∧ b162 = (1 : Int32))) → Wp none l Z "com/example/orthrus/orthrus/SignatureSetFullPinLaw" "law" code maxLocals ret room_1 [(A159, oJ xs160), (a158, oI "com/example/orthrus/orthrus/SignatureSet" sg_1 [(.long (x1.toInt64 + x157.toInt64)), (.ref A159), (.int (0 : Int32)), (.int b162)])] 2 15 52 #[.val (.int a), .val (.int b), .val (.int c), .val (.long d), .second, .val (.int e), .val (.int x1), .val (.int (7 : Int32)), .val (.int x157), .val (.ref a158), .unset, .unset, .unset, .unset, .unset] [] Q_law := by
      intro b162 hj163
      refine wp_lload_n D_52 rfl ?_
      refine wp_iconst 3 D_53 (by decide) ?_
      refine wp_lshl D_54 ?_
      generalize hg_x165 : (d <<< ((3 : Int32).toInt64 &&& 63)) = x165
      have hlow : x165 &&& 7 = 0 := by rw [← hg_x165]; exact own_sh3 _
      refine wp_lstore #[.val (.int a), .val (.int b), .val (.int c), .val (.long d), .second, .val (.int e), .val (.int x1), .val (.int (7 : Int32)), .val (.int x157), .val (.ref a158), .val (.long x165), .second, .unset, .unset, .unset] D_55 rfl ?_
      refine wp_iload D_57 rfl ?_
      refine wp_iconst 1 D_59 (by decide) ?_
      refine wp_icmp_lt D_60 (pc'' := 73) ⟨by decide, by decide⟩ (fun h166 => by exact absurd h166 (by decide)) (fun h166 => ?_)
      refine wp_aload D_63 rfl rfl ?_
      refine wp_lload D_65 rfl ?_
      refine wp_lconst 1 D_67 (by decide) ?_
      refine wp_lor D_68 ?_
      refine Wp.pick [1, 0] (by decide) ?_
      show Wp none l Z "com/example/orthrus/orthrus/SignatureSetFullPinLaw" "law" code maxLocals ret room_1 [(a158, oI "com/example/orthrus/orthrus/SignatureSet" sg_1 [(.long (x1.toInt64 + x157.toInt64)), (.ref A159), (.int (0 : Int32)), (.int b162)]), (A159, oJ xs160)] 2 15 69 #[.val (.int a), .val (.int b), .val (.int c), .val (.long d), .second, .val (.int e), .val (.int x1), .val (.int (7 : Int32)), .val (.int x157), .val (.ref a158), .val (.long x165), .second, .unset, .unset, .unset] [(.long (x165 ||| (1 : Int64))), (.ref a158)] Q_law
      have hli_xs160 : xs160.length.toInt32 = x1 := by rw [show xs160.length = x1.toNatClampNeg from by simp only [Int32.toNatClampNeg]; omega]; exact (back32 (own_i32 _ (by omega))).1
      refine wp_virtual (c_add0 l Z a0 hw a158 A159 (x1.toInt64 + x157.toInt64) (x165 ||| (1 : Int64)) b162 x1 xs160 [] hli_xs160 hl_xs160 hn (own_sn0 _ _ hlow (by decide)) (fun y hy => by rw [hp_xs160 y hy]; exact fun e => own_sn0 x165 (1 : Int64) hlow (by decide) e.symm) hc_xs160) (exa_new (i := 0) rfl) D_69 (hw _ (List.mem_of_getElem? (i := 14) rfl)) (hw _ (List.mem_of_getElem? (i := 15) rfl)) (hw _ (List.mem_of_getElem? (i := 17) rfl)) (hw _ (List.mem_of_getElem? (i := 17) rfl)) (hw _ (List.mem_of_getElem? (i := 16) rfl)) (hw _ (List.mem_of_getElem? (i := 2) rfl)) (hw _ (List.mem_of_getElem? (i := 18) rfl)) (by decide) pd_8 rfl rfl rfl (Nat.le_of_ble_eq_true rfl) (Nat.le_of_ble_eq_true rfl) (Nat.le_of_ble_eq_true rfl) (Nat.le_of_ble_eq_true rfl) ?_
      rintro _ _ ⟨rfl, xs167, rfl, hl0_xs167, hc_xs167, hm_xs167⟩
      show Wp none l Z "com/example/orthrus/orthrus/SignatureSetFullPinLaw" "law" code maxLocals ret room_1 [(a158, oI "com/example/orthrus/orthrus/SignatureSet" sg_1 [(.long (x1.toInt64 + x157.toInt64)), (.ref A159), (.int (1 : Int32)), (.int b162)]), (A159, oJ xs167)] 2 15 72 #[.val (.int a), .val (.int b), .val (.int c), .val (.long d), .second, .val (.int e), .val (.int x1), .val (.int (7 : Int32)), .val (.int x157), .val (.ref a158), .val (.long x165), .second, .unset, .unset, .unset] [(.int (1 : Int32))] Q_law
      have hl_xs167 : (xs167.length : Int) = x1.toInt := by rw [hl0_xs167]; exact hl_xs160
      have hp_xs167 : ∀ y ∈ xs167, y = 0 ∨ y = (x165 ||| (1 : Int64)) := by
        intro y hy
        rcases hm_xs167 y hy with q | q
        · rw [hp_xs160 y q]; simp
        · rw [q]; simp
      show Wp none l Z "com/example/orthrus/orthrus/SignatureSetFullPinLaw" "law" code maxLocals ret room_1 [(a158, oI "com/example/orthrus/orthrus/SignatureSet" sg_1 [(.long (x1.toInt64 + x157.toInt64)), (.ref A159), (.int (1 : Int32)), (.int b162)]), (A159, oJ xs167)] 2 15 72 #[.val (.int a), .val (.int b), .val (.int c), .val (.long d), .second, .val (.int e), .val (.int x1), .val (.int (7 : Int32)), .val (.int x157), .val (.ref a158), .val (.long x165), .second, .unset, .unset, .unset] [(.int (1 : Int32))] Q_law
      refine wp_pop D_72 rfl ?_
      refine wp_iload D_73 rfl ?_
      refine wp_iconst 2 D_75 (by decide) ?_
      refine wp_icmp_lt D_76 (pc'' := 91) ⟨by decide, by decide⟩ (fun h168 => by exact absurd h168 (by decide)) (fun h168 => ?_)
      refine wp_aload D_79 rfl rfl ?_
      refine wp_lload D_81 rfl ?_
      refine wp_ldc2J D_83 (hw _ (List.mem_of_getElem? (i := 43) rfl)) ?_
      refine wp_lor D_86 ?_
      have hli_xs167 : xs167.length.toInt32 = x1 := by rw [show xs167.length = x1.toNatClampNeg from by simp only [Int32.toNatClampNeg]; omega]; exact (back32 (own_i32 _ (by omega))).1
      refine wp_virtual (c_add1 l Z a0 hw a158 A159 (x1.toInt64 + x157.toInt64) (x165 ||| (2 : Int64)) b162 x1 xs167 [] hli_xs167 hl_xs167 hn (own_sn0 _ _ hlow (by decide)) (fun y hy => by rcases hp_xs167 y hy with rfl | rfl <;> first | exact fun e => own_sn0 x165 (2 : Int64) hlow (by decide) e.symm | exact own_sne _ _ _ hlow (by decide)) hc_xs167) (exa_new (i := 0) rfl) D_87 (hw _ (List.mem_of_getElem? (i := 14) rfl)) (hw _ (List.mem_of_getElem? (i := 15) rfl)) (hw _ (List.mem_of_getElem? (i := 17) rfl)) (hw _ (List.mem_of_getElem? (i := 17) rfl)) (hw _ (List.mem_of_getElem? (i := 16) rfl)) (hw _ (List.mem_of_getElem? (i := 2) rfl)) (hw _ (List.mem_of_getElem? (i := 18) rfl)) (by decide) pd_8 rfl rfl rfl (Nat.le_of_ble_eq_true rfl) (Nat.le_of_ble_eq_true rfl) (Nat.le_of_ble_eq_true rfl) (Nat.le_of_ble_eq_true rfl) ?_
      rintro _ _ ⟨rfl, xs169, rfl, hl0_xs169, hc_xs169, hm_xs169⟩
      show Wp none l Z "com/example/orthrus/orthrus/SignatureSetFullPinLaw" "law" code maxLocals ret room_1 [(a158, oI "com/example/orthrus/orthrus/SignatureSet" sg_1 [(.long (x1.toInt64 + x157.toInt64)), (.ref A159), (.int (2 : Int32)), (.int b162)]), (A159, oJ xs169)] 2 15 90 #[.val (.int a), .val (.int b), .val (.int c), .val (.long d), .second, .val (.int e), .val (.int x1), .val (.int (7 : Int32)), .val (.int x157), .val (.ref a158), .val (.long x165), .second, .unset, .unset, .unset] [(.int (1 : Int32))] Q_law
      have hl_xs169 : (xs169.length : Int) = x1.toInt := by rw [hl0_xs169]; exact hl_xs167
      have hp_xs169 : ∀ y ∈ xs169, y = 0 ∨ y = (x165 ||| (1 : Int64)) ∨ y = (x165 ||| (2 : Int64)) := by
        intro y hy
        rcases hm_xs169 y hy with q | q
        · rcases hp_xs167 y q with rfl | rfl <;> simp
        · rw [q]; simp
      show Wp none l Z "com/example/orthrus/orthrus/SignatureSetFullPinLaw" "law" code maxLocals ret room_1 [(a158, oI "com/example/orthrus/orthrus/SignatureSet" sg_1 [(.long (x1.toInt64 + x157.toInt64)), (.ref A159), (.int (2 : Int32)), (.int b162)]), (A159, oJ xs169)] 2 15 90 #[.val (.int a), .val (.int b), .val (.int c), .val (.long d), .second, .val (.int e), .val (.int x1), .val (.int (7 : Int32)), .val (.int x157), .val (.ref a158), .val (.long x165), .second, .unset, .unset, .unset] [(.int (1 : Int32))] Q_law
      refine wp_pop D_90 rfl ?_
      refine wp_iload D_91 rfl ?_
      refine wp_iconst 3 D_93 (by decide) ?_
      refine wp_icmp_lt D_94 (pc'' := 109) ⟨by decide, by decide⟩ (fun h170 => by exact absurd h170 (by decide)) (fun h170 => ?_)
      refine wp_aload D_97 rfl rfl ?_
      refine wp_lload D_99 rfl ?_
      refine wp_ldc2J D_101 (hw _ (List.mem_of_getElem? (i := 44) rfl)) ?_
      refine wp_lor D_104 ?_
      have hli_xs169 : xs169.length.toInt32 = x1 := by rw [show xs169.length = x1.toNatClampNeg from by simp only [Int32.toNatClampNeg]; omega]; exact (back32 (own_i32 _ (by omega))).1
      refine wp_virtual (c_add2 l Z a0 hw a158 A159 (x1.toInt64 + x157.toInt64) (x165 ||| (3 : Int64)) b162 x1 xs169 [] hli_xs169 hl_xs169 hn (own_sn0 _ _ hlow (by decide)) (fun y hy => by rcases hp_xs169 y hy with rfl | rfl | rfl <;> first | exact fun e => own_sn0 x165 (3 : Int64) hlow (by decide) e.symm | exact own_sne _ _ _ hlow (by decide)) hc_xs169) (exa_new (i := 0) rfl) D_105 (hw _ (List.mem_of_getElem? (i := 14) rfl)) (hw _ (List.mem_of_getElem? (i := 15) rfl)) (hw _ (List.mem_of_getElem? (i := 17) rfl)) (hw _ (List.mem_of_getElem? (i := 17) rfl)) (hw _ (List.mem_of_getElem? (i := 16) rfl)) (hw _ (List.mem_of_getElem? (i := 2) rfl)) (hw _ (List.mem_of_getElem? (i := 18) rfl)) (by decide) pd_8 rfl rfl rfl (Nat.le_of_ble_eq_true rfl) (Nat.le_of_ble_eq_true rfl) (Nat.le_of_ble_eq_true rfl) (Nat.le_of_ble_eq_true rfl) ?_
      rintro _ _ ⟨rfl, xs171, rfl, hl0_xs171, hc_xs171, hm_xs171⟩
      show Wp none l Z "com/example/orthrus/orthrus/SignatureSetFullPinLaw" "law" code maxLocals ret room_1 [(a158, oI "com/example/orthrus/orthrus/SignatureSet" sg_1 [(.long (x1.toInt64 + x157.toInt64)), (.ref A159), (.int (3 : Int32)), (.int b162)]), (A159, oJ xs171)] 2 15 108 #[.val (.int a), .val (.int b), .val (.int c), .val (.long d), .second, .val (.int e), .val (.int x1), .val (.int (7 : Int32)), .val (.int x157), .val (.ref a158), .val (.long x165), .second, .unset, .unset, .unset] [(.int (1 : Int32))] Q_law
      have hl_xs171 : (xs171.length : Int) = x1.toInt := by rw [hl0_xs171]; exact hl_xs169
      have hp_xs171 : ∀ y ∈ xs171, y = 0 ∨ y = (x165 ||| (1 : Int64)) ∨ y = (x165 ||| (2 : Int64)) ∨ y = (x165 ||| (3 : Int64)) := by
        intro y hy
        rcases hm_xs171 y hy with q | q
        · rcases hp_xs169 y q with rfl | rfl | rfl <;> simp
        · rw [q]; simp
      show Wp none l Z "com/example/orthrus/orthrus/SignatureSetFullPinLaw" "law" code maxLocals ret room_1 [(a158, oI "com/example/orthrus/orthrus/SignatureSet" sg_1 [(.long (x1.toInt64 + x157.toInt64)), (.ref A159), (.int (3 : Int32)), (.int b162)]), (A159, oJ xs171)] 2 15 108 #[.val (.int a), .val (.int b), .val (.int c), .val (.long d), .second, .val (.int e), .val (.int x1), .val (.int (7 : Int32)), .val (.int x157), .val (.ref a158), .val (.long x165), .second, .unset, .unset, .unset] [(.int (1 : Int32))] Q_law
      refine wp_pop D_108 rfl ?_
      refine wp_iload D_109 rfl ?_
      refine wp_iconst 4 D_111 (by decide) ?_
      refine wp_icmp_lt D_112 (pc'' := 127) ⟨by decide, by decide⟩ (fun h172 => by exact absurd h172 (by decide)) (fun h172 => ?_)
      refine wp_aload D_115 rfl rfl ?_
      refine wp_lload D_117 rfl ?_
      refine wp_ldc2J D_119 (hw _ (List.mem_of_getElem? (i := 51) rfl)) ?_
      refine wp_lor D_122 ?_
      have hli_xs171 : xs171.length.toInt32 = x1 := by rw [show xs171.length = x1.toNatClampNeg from by simp only [Int32.toNatClampNeg]; omega]; exact (back32 (own_i32 _ (by omega))).1
      refine wp_virtual (c_add3 l Z a0 hw a158 A159 (x1.toInt64 + x157.toInt64) (x165 ||| (4 : Int64)) b162 x1 xs171 [] hli_xs171 hl_xs171 hn (own_sn0 _ _ hlow (by decide)) (fun y hy => by rcases hp_xs171 y hy with rfl | rfl | rfl | rfl <;> first | exact fun e => own_sn0 x165 (4 : Int64) hlow (by decide) e.symm | exact own_sne _ _ _ hlow (by decide)) hc_xs171) (exa_new (i := 0) rfl) D_123 (hw _ (List.mem_of_getElem? (i := 14) rfl)) (hw _ (List.mem_of_getElem? (i := 15) rfl)) (hw _ (List.mem_of_getElem? (i := 17) rfl)) (hw _ (List.mem_of_getElem? (i := 17) rfl)) (hw _ (List.mem_of_getElem? (i := 16) rfl)) (hw _ (List.mem_of_getElem? (i := 2) rfl)) (hw _ (List.mem_of_getElem? (i := 18) rfl)) (by decide) pd_8 rfl rfl rfl (Nat.le_of_ble_eq_true rfl) (Nat.le_of_ble_eq_true rfl) (Nat.le_of_ble_eq_true rfl) (Nat.le_of_ble_eq_true rfl) ?_
      rintro _ _ ⟨rfl, xs173, rfl, hl0_xs173, hc_xs173, hm_xs173⟩
      show Wp none l Z "com/example/orthrus/orthrus/SignatureSetFullPinLaw" "law" code maxLocals ret room_1 [(a158, oI "com/example/orthrus/orthrus/SignatureSet" sg_1 [(.long (x1.toInt64 + x157.toInt64)), (.ref A159), (.int (4 : Int32)), (.int b162)]), (A159, oJ xs173)] 2 15 126 #[.val (.int a), .val (.int b), .val (.int c), .val (.long d), .second, .val (.int e), .val (.int x1), .val (.int (7 : Int32)), .val (.int x157), .val (.ref a158), .val (.long x165), .second, .unset, .unset, .unset] [(.int (1 : Int32))] Q_law
      have hl_xs173 : (xs173.length : Int) = x1.toInt := by rw [hl0_xs173]; exact hl_xs171
      have hp_xs173 : ∀ y ∈ xs173, y = 0 ∨ y = (x165 ||| (1 : Int64)) ∨ y = (x165 ||| (2 : Int64)) ∨ y = (x165 ||| (3 : Int64)) ∨ y = (x165 ||| (4 : Int64)) := by
        intro y hy
        rcases hm_xs173 y hy with q | q
        · rcases hp_xs171 y q with rfl | rfl | rfl | rfl <;> simp
        · rw [q]; simp
      show Wp none l Z "com/example/orthrus/orthrus/SignatureSetFullPinLaw" "law" code maxLocals ret room_1 [(a158, oI "com/example/orthrus/orthrus/SignatureSet" sg_1 [(.long (x1.toInt64 + x157.toInt64)), (.ref A159), (.int (4 : Int32)), (.int b162)]), (A159, oJ xs173)] 2 15 126 #[.val (.int a), .val (.int b), .val (.int c), .val (.long d), .second, .val (.int e), .val (.int x1), .val (.int (7 : Int32)), .val (.int x157), .val (.ref a158), .val (.long x165), .second, .unset, .unset, .unset] [(.int (1 : Int32))] Q_law
      refine wp_pop D_126 rfl ?_
      refine wp_iload D_127 rfl ?_
      refine wp_iconst 5 D_129 (by decide) ?_
      refine wp_icmp_lt D_130 (pc'' := 145) ⟨by decide, by decide⟩ (fun h174 => by exact absurd h174 (by decide)) (fun h174 => ?_)
      refine wp_aload D_133 rfl rfl ?_
      refine wp_lload D_135 rfl ?_
      refine wp_ldc2J D_137 (hw _ (List.mem_of_getElem? (i := 52) rfl)) ?_
      refine wp_lor D_140 ?_
      have hli_xs173 : xs173.length.toInt32 = x1 := by rw [show xs173.length = x1.toNatClampNeg from by simp only [Int32.toNatClampNeg]; omega]; exact (back32 (own_i32 _ (by omega))).1
      refine wp_virtual (c_add4 l Z a0 hw a158 A159 (x1.toInt64 + x157.toInt64) (x165 ||| (5 : Int64)) b162 x1 xs173 [] hli_xs173 hl_xs173 hn (own_sn0 _ _ hlow (by decide)) (fun y hy => by rcases hp_xs173 y hy with rfl | rfl | rfl | rfl | rfl <;> first | exact fun e => own_sn0 x165 (5 : Int64) hlow (by decide) e.symm | exact own_sne _ _ _ hlow (by decide)) hc_xs173) (exa_new (i := 0) rfl) D_141 (hw _ (List.mem_of_getElem? (i := 14) rfl)) (hw _ (List.mem_of_getElem? (i := 15) rfl)) (hw _ (List.mem_of_getElem? (i := 17) rfl)) (hw _ (List.mem_of_getElem? (i := 17) rfl)) (hw _ (List.mem_of_getElem? (i := 16) rfl)) (hw _ (List.mem_of_getElem? (i := 2) rfl)) (hw _ (List.mem_of_getElem? (i := 18) rfl)) (by decide) pd_8 rfl rfl rfl (Nat.le_of_ble_eq_true rfl) (Nat.le_of_ble_eq_true rfl) (Nat.le_of_ble_eq_true rfl) (Nat.le_of_ble_eq_true rfl) ?_
      rintro _ _ ⟨rfl, xs175, rfl, hl0_xs175, hc_xs175, hm_xs175⟩
      show Wp none l Z "com/example/orthrus/orthrus/SignatureSetFullPinLaw" "law" code maxLocals ret room_1 [(a158, oI "com/example/orthrus/orthrus/SignatureSet" sg_1 [(.long (x1.toInt64 + x157.toInt64)), (.ref A159), (.int (5 : Int32)), (.int b162)]), (A159, oJ xs175)] 2 15 144 #[.val (.int a), .val (.int b), .val (.int c), .val (.long d), .second, .val (.int e), .val (.int x1), .val (.int (7 : Int32)), .val (.int x157), .val (.ref a158), .val (.long x165), .second, .unset, .unset, .unset] [(.int (1 : Int32))] Q_law
      have hl_xs175 : (xs175.length : Int) = x1.toInt := by rw [hl0_xs175]; exact hl_xs173
      have hp_xs175 : ∀ y ∈ xs175, y = 0 ∨ y = (x165 ||| (1 : Int64)) ∨ y = (x165 ||| (2 : Int64)) ∨ y = (x165 ||| (3 : Int64)) ∨ y = (x165 ||| (4 : Int64)) ∨ y = (x165 ||| (5 : Int64)) := by
        intro y hy
        rcases hm_xs175 y hy with q | q
        · rcases hp_xs173 y q with rfl | rfl | rfl | rfl | rfl <;> simp
        · rw [q]; simp
      show Wp none l Z "com/example/orthrus/orthrus/SignatureSetFullPinLaw" "law" code maxLocals ret room_1 [(a158, oI "com/example/orthrus/orthrus/SignatureSet" sg_1 [(.long (x1.toInt64 + x157.toInt64)), (.ref A159), (.int (5 : Int32)), (.int b162)]), (A159, oJ xs175)] 2 15 144 #[.val (.int a), .val (.int b), .val (.int c), .val (.long d), .second, .val (.int e), .val (.int x1), .val (.int (7 : Int32)), .val (.int x157), .val (.ref a158), .val (.long x165), .second, .unset, .unset, .unset] [(.int (1 : Int32))] Q_law
      refine wp_pop D_144 rfl ?_
      refine wp_iload D_145 rfl ?_
      refine wp_bipush 6 D_147 (by decide) ?_
      refine wp_icmp_lt D_149 (pc'' := 164) ⟨by decide, by decide⟩ (fun h176 => by exact absurd h176 (by decide)) (fun h176 => ?_)
      refine wp_aload D_152 rfl rfl ?_
      refine wp_lload D_154 rfl ?_
      refine wp_ldc2J D_156 (hw _ (List.mem_of_getElem? (i := 53) rfl)) ?_
      refine wp_lor D_159 ?_
      have hli_xs175 : xs175.length.toInt32 = x1 := by rw [show xs175.length = x1.toNatClampNeg from by simp only [Int32.toNatClampNeg]; omega]; exact (back32 (own_i32 _ (by omega))).1
      refine wp_virtual (c_add5 l Z a0 hw a158 A159 (x1.toInt64 + x157.toInt64) (x165 ||| (6 : Int64)) b162 x1 xs175 [] hli_xs175 hl_xs175 hn (own_sn0 _ _ hlow (by decide)) (fun y hy => by rcases hp_xs175 y hy with rfl | rfl | rfl | rfl | rfl | rfl <;> first | exact fun e => own_sn0 x165 (6 : Int64) hlow (by decide) e.symm | exact own_sne _ _ _ hlow (by decide)) hc_xs175) (exa_new (i := 0) rfl) D_160 (hw _ (List.mem_of_getElem? (i := 14) rfl)) (hw _ (List.mem_of_getElem? (i := 15) rfl)) (hw _ (List.mem_of_getElem? (i := 17) rfl)) (hw _ (List.mem_of_getElem? (i := 17) rfl)) (hw _ (List.mem_of_getElem? (i := 16) rfl)) (hw _ (List.mem_of_getElem? (i := 2) rfl)) (hw _ (List.mem_of_getElem? (i := 18) rfl)) (by decide) pd_8 rfl rfl rfl (Nat.le_of_ble_eq_true rfl) (Nat.le_of_ble_eq_true rfl) (Nat.le_of_ble_eq_true rfl) (Nat.le_of_ble_eq_true rfl) ?_
      rintro _ _ ⟨rfl, xs177, rfl, hl0_xs177, hc_xs177, hm_xs177⟩
      show Wp none l Z "com/example/orthrus/orthrus/SignatureSetFullPinLaw" "law" code maxLocals ret room_1 [(a158, oI "com/example/orthrus/orthrus/SignatureSet" sg_1 [(.long (x1.toInt64 + x157.toInt64)), (.ref A159), (.int (6 : Int32)), (.int b162)]), (A159, oJ xs177)] 2 15 163 #[.val (.int a), .val (.int b), .val (.int c), .val (.long d), .second, .val (.int e), .val (.int x1), .val (.int (7 : Int32)), .val (.int x157), .val (.ref a158), .val (.long x165), .second, .unset, .unset, .unset] [(.int (1 : Int32))] Q_law
      have hl_xs177 : (xs177.length : Int) = x1.toInt := by rw [hl0_xs177]; exact hl_xs175
      have hp_xs177 : ∀ y ∈ xs177, y = 0 ∨ y = (x165 ||| (1 : Int64)) ∨ y = (x165 ||| (2 : Int64)) ∨ y = (x165 ||| (3 : Int64)) ∨ y = (x165 ||| (4 : Int64)) ∨ y = (x165 ||| (5 : Int64)) ∨ y = (x165 ||| (6 : Int64)) := by
        intro y hy
        rcases hm_xs177 y hy with q | q
        · rcases hp_xs175 y q with rfl | rfl | rfl | rfl | rfl | rfl <;> simp
        · rw [q]; simp
      show Wp none l Z "com/example/orthrus/orthrus/SignatureSetFullPinLaw" "law" code maxLocals ret room_1 [(a158, oI "com/example/orthrus/orthrus/SignatureSet" sg_1 [(.long (x1.toInt64 + x157.toInt64)), (.ref A159), (.int (6 : Int32)), (.int b162)]), (A159, oJ xs177)] 2 15 163 #[.val (.int a), .val (.int b), .val (.int c), .val (.long d), .second, .val (.int e), .val (.int x1), .val (.int (7 : Int32)), .val (.int x157), .val (.ref a158), .val (.long x165), .second, .unset, .unset, .unset] [(.int (1 : Int32))] Q_law
      refine wp_pop D_163 rfl ?_
      refine wp_iload D_164 rfl ?_
      refine wp_bipush 7 D_166 (by decide) ?_
      refine wp_icmp_lt D_168 (pc'' := 183) ⟨by decide, by decide⟩ (fun h178 => by exact absurd h178 (by decide)) (fun h178 => ?_)
      refine wp_aload D_171 rfl rfl ?_
      refine wp_lload D_173 rfl ?_
      refine wp_ldc2J D_175 (hw _ (List.mem_of_getElem? (i := 54) rfl)) ?_
      refine wp_lor D_178 ?_
      have hli_xs177 : xs177.length.toInt32 = x1 := by rw [show xs177.length = x1.toNatClampNeg from by simp only [Int32.toNatClampNeg]; omega]; exact (back32 (own_i32 _ (by omega))).1
      refine wp_virtual (c_add6 l Z a0 hw a158 A159 (x1.toInt64 + x157.toInt64) (x165 ||| (7 : Int64)) b162 x1 x157 xs177 [] hli_xs177 hl_xs177 hn (own_sn0 _ _ hlow (by decide)) (fun y hy => by rcases hp_xs177 y hy with rfl | rfl | rfl | rfl | rfl | rfl | rfl <;> first | exact fun e => own_sn0 x165 (7 : Int64) hlow (by decide) e.symm | exact own_sne _ _ _ hlow (by decide)) hc_xs177 hm hms) (exa_new (i := 0) rfl) D_179 (hw _ (List.mem_of_getElem? (i := 14) rfl)) (hw _ (List.mem_of_getElem? (i := 15) rfl)) (hw _ (List.mem_of_getElem? (i := 17) rfl)) (hw _ (List.mem_of_getElem? (i := 17) rfl)) (hw _ (List.mem_of_getElem? (i := 16) rfl)) (hw _ (List.mem_of_getElem? (i := 2) rfl)) (hw _ (List.mem_of_getElem? (i := 18) rfl)) (by decide) pd_8 rfl rfl rfl (Nat.le_of_ble_eq_true rfl) (Nat.le_of_ble_eq_true rfl) (Nat.le_of_ble_eq_true rfl) (Nat.le_of_ble_eq_true rfl) ?_
      rintro _ _ ⟨rfl, ⟨hnm, xs180, hl0_xs180, rfl⟩ | ⟨hnm, b179, xs180, ys181, hly, rfl⟩⟩
      · skip
        have hfl : xs180.length.toInt32 = x1 := by rw [hl0_xs180]; exact hli_xs177
        show Wp none l Z "com/example/orthrus/orthrus/SignatureSetFullPinLaw" "law" code maxLocals ret room_1 [(a158, oI "com/example/orthrus/orthrus/SignatureSet" sg_1 [(.long (x1.toInt64 + x157.toInt64)), (.ref A159), (.int (7 : Int32)), (.int b162)]), (A159, oJ xs180)] 3 37 182 #[.val (.int a), .val (.int b), .val (.int c), .val (.long d), .second, .val (.int e), .val (.int x1), .val (.int (7 : Int32)), .val (.int x157), .val (.ref a158), .val (.long x165), .second, .unset, .unset, .unset] [(.int (1 : Int32))] Q_law
        refine wp_pop D_182 rfl ?_
        refine wp_aload D_183 rfl rfl ?_
        refine wp_virtual (c_full l Z a0 hw a158 A159 (x1.toInt64 + x157.toInt64) b162 (7 : Int32) x1 xs180 [] hfl) (exa_new (i := 0) rfl) D_185 (hw _ (List.mem_of_getElem? (i := 48) rfl)) (hw _ (List.mem_of_getElem? (i := 37) rfl)) (hw _ (List.mem_of_getElem? (i := 39) rfl)) (hw _ (List.mem_of_getElem? (i := 39) rfl)) (hw _ (List.mem_of_getElem? (i := 38) rfl)) (hw _ (List.mem_of_getElem? (i := 2) rfl)) (hw _ (List.mem_of_getElem? (i := 40) rfl)) (by decide) pd_4 rfl rfl rfl (Nat.le_of_ble_eq_true rfl) (Nat.le_of_ble_eq_true rfl) (Nat.le_of_ble_eq_true rfl) (Nat.le_of_ble_eq_true rfl) ?_
        rintro _ _ ⟨rfl, rfl⟩
        rw [show f_full (7 : Int32) x1 = (1 : Int32) from by unfold f_full; rw [own_n4 x1 hn]; rfl]
        show Wp none l Z "com/example/orthrus/orthrus/SignatureSetFullPinLaw" "law" code maxLocals ret room_1 [(a158, oI "com/example/orthrus/orthrus/SignatureSet" sg_1 [(.long (x1.toInt64 + x157.toInt64)), (.ref A159), (.int (7 : Int32)), (.int b162)]), (A159, oJ xs180)] 3 37 188 #[.val (.int a), .val (.int b), .val (.int c), .val (.long d), .second, .val (.int e), .val (.int x1), .val (.int (7 : Int32)), .val (.int x157), .val (.ref a158), .val (.long x165), .second, .unset, .unset, .unset] [(.int (1 : Int32))] Q_law
        refine wp_istore #[.val (.int a), .val (.int b), .val (.int c), .val (.long d), .second, .val (.int e), .val (.int x1), .val (.int (7 : Int32)), .val (.int x157), .val (.ref a158), .val (.long x165), .second, .val (.int (1 : Int32)), .unset, .unset] D_188 rfl ?_
        refine wp_iload D_190 rfl ?_
        refine wp_istore #[.val (.int a), .val (.int b), .val (.int c), .val (.long d), .second, .val (.int e), .val (.int x1), .val (.int (7 : Int32)), .val (.int x157), .val (.ref a158), .val (.long x165), .second, .val (.int (1 : Int32)), .val (.int x1), .unset] D_192 rfl ?_
        refine wp_iload D_194 rfl ?_
        refine wp_bipush 7 D_196 (by decide) ?_
        refine wp_icmp_ne D_198 (pc'' := 219) ⟨by decide, by decide⟩ (fun h182 => by exact absurd h182 (by decide)) (fun h182 => ?_)
        refine wp_iload D_201 rfl ?_
        refine wp_iload D_203 rfl ?_
        refine wp_icmp_le D_205 (pc'' := 219) ⟨by decide, by decide⟩ (fun h183 => ?_) (fun h183 => by exact absurd h183 hnm)
        refine wp_iload D_219 rfl ?_
        refine wp_iload D_221 rfl ?_
        refine wp_iconst 4 D_223 (by decide) ?_
        refine wp_idiv D_224 (by decide) ?_
        refine wp_iconst 3 D_225 (by decide) ?_
        refine wp_imul D_226 ?_
        refine wp_icmp_le D_227 (pc'' := 234) ⟨by decide, by decide⟩ (fun h184 => by rw [own_n4 x1 hn] at h184; exact absurd h184 (by decide)) (fun h184 => ?_)
        refine wp_iconst 1 D_230 (by decide) ?_
        refine wp_goto D_231 (pc'' := 235) ⟨by decide, by decide⟩ ?_
        refine wp_istore #[.val (.int a), .val (.int b), .val (.int c), .val (.long d), .second, .val (.int e), .val (.int x1), .val (.int (7 : Int32)), .val (.int x157), .val (.ref a158), .val (.long x165), .second, .val (.int (1 : Int32)), .val (.int x1), .val (.int (1 : Int32))] D_235 rfl ?_
        refine wp_iload D_237 rfl ?_
        refine wp_iload D_239 rfl ?_
        refine wp_icmp_ne D_241 (pc'' := 248) ⟨by decide, by decide⟩ (fun h185 => by exact absurd h185 (by decide)) (fun h185 => ?_)
        refine wp_iconst 1 D_244 (by decide) ?_
        refine wp_goto D_245 (pc'' := 249) ⟨by decide, by decide⟩ ?_
        refine wp_ireturnN D_249 rfl (by simp) (by decide) (by decide) ?_
        exact rfl
      · skip
        show Wp none l Z "com/example/orthrus/orthrus/SignatureSetFullPinLaw" "law" code maxLocals ret room_1 [(b179, oJ ys181), (a158, oI "com/example/orthrus/orthrus/SignatureSet" sg_1 [(.long (x1.toInt64 + x157.toInt64)), (.ref b179), (.int (7 : Int32)), (.int b162)]), (A159, oJ xs180)] 3 37 182 #[.val (.int a), .val (.int b), .val (.int c), .val (.long d), .second, .val (.int e), .val (.int x1), .val (.int (7 : Int32)), .val (.int x157), .val (.ref a158), .val (.long x165), .second, .unset, .unset, .unset] [(.int (1 : Int32))] Q_law
        refine wp_pop D_182 rfl ?_
        refine wp_aload D_183 rfl rfl ?_
        refine Wp.pick [1, 0, 2] (by decide) ?_
        show Wp none l Z "com/example/orthrus/orthrus/SignatureSetFullPinLaw" "law" code maxLocals ret room_1 [(a158, oI "com/example/orthrus/orthrus/SignatureSet" sg_1 [(.long (x1.toInt64 + x157.toInt64)), (.ref b179), (.int (7 : Int32)), (.int b162)]), (b179, oJ ys181), (A159, oJ xs180)] 3 37 185 #[.val (.int a), .val (.int b), .val (.int c), .val (.long d), .second, .val (.int e), .val (.int x1), .val (.int (7 : Int32)), .val (.int x157), .val (.ref a158), .val (.long x165), .second, .unset, .unset, .unset] [(.ref a158)] Q_law
        refine wp_virtual (c_full l Z a0 hw a158 b179 (x1.toInt64 + x157.toInt64) b162 (7 : Int32) (f_min ((2 : Int32) * x1) x157) ys181 [(A159, oJ xs180)] hly) (exa_new (i := 0) rfl) D_185 (hw _ (List.mem_of_getElem? (i := 48) rfl)) (hw _ (List.mem_of_getElem? (i := 37) rfl)) (hw _ (List.mem_of_getElem? (i := 39) rfl)) (hw _ (List.mem_of_getElem? (i := 39) rfl)) (hw _ (List.mem_of_getElem? (i := 38) rfl)) (hw _ (List.mem_of_getElem? (i := 2) rfl)) (hw _ (List.mem_of_getElem? (i := 40) rfl)) (by decide) pd_4 rfl rfl rfl (Nat.le_of_ble_eq_true rfl) (Nat.le_of_ble_eq_true rfl) (Nat.le_of_ble_eq_true rfl) (Nat.le_of_ble_eq_true rfl) ?_
        rintro _ _ ⟨rfl, rfl⟩
        show Wp none l Z "com/example/orthrus/orthrus/SignatureSetFullPinLaw" "law" code maxLocals ret room_1 [(a158, oI "com/example/orthrus/orthrus/SignatureSet" sg_1 [(.long (x1.toInt64 + x157.toInt64)), (.ref b179), (.int (7 : Int32)), (.int b162)]), (b179, oJ ys181), (A159, oJ xs180)] 3 37 188 #[.val (.int a), .val (.int b), .val (.int c), .val (.long d), .second, .val (.int e), .val (.int x1), .val (.int (7 : Int32)), .val (.int x157), .val (.ref a158), .val (.long x165), .second, .unset, .unset, .unset] [(.int (f_full (7 : Int32) (f_min ((2 : Int32) * x1) x157)))] Q_law
        generalize hg_x186 : (f_full (7 : Int32) (f_min ((2 : Int32) * x1) x157)) = x186
        refine wp_istore #[.val (.int a), .val (.int b), .val (.int c), .val (.long d), .second, .val (.int e), .val (.int x1), .val (.int (7 : Int32)), .val (.int x157), .val (.ref a158), .val (.long x165), .second, .val (.int x186), .unset, .unset] D_188 rfl ?_
        refine wp_iload D_190 rfl ?_
        refine wp_istore #[.val (.int a), .val (.int b), .val (.int c), .val (.long d), .second, .val (.int e), .val (.int x1), .val (.int (7 : Int32)), .val (.int x157), .val (.ref a158), .val (.long x165), .second, .val (.int x186), .val (.int x1), .unset] D_192 rfl ?_
        refine wp_iload D_194 rfl ?_
        refine wp_bipush 7 D_196 (by decide) ?_
        refine wp_icmp_ne D_198 (pc'' := 219) ⟨by decide, by decide⟩ (fun h187 => by exact absurd h187 (by decide)) (fun h187 => ?_)
        refine wp_iload D_201 rfl ?_
        refine wp_iload D_203 rfl ?_
        refine wp_icmp_le D_205 (pc'' := 219) ⟨by decide, by decide⟩ (fun h188 => by exact absurd hnm h188) (fun h188 => ?_)
        refine wp_iconst 2 D_208 (by decide) ?_
        refine wp_iload D_209 rfl ?_
        refine wp_imul D_211 ?_
        refine wp_iload D_212 rfl ?_
        refine wp_callS (c_min l Z a0 hw ((2 : Int32) * x1) x157 [(a158, oI "com/example/orthrus/orthrus/SignatureSet" sg_1 [(.long (x1.toInt64 + x157.toInt64)), (.ref b179), (.int (7 : Int32)), (.int b162)]), (b179, oJ ys181), (A159, oJ xs180)]) D_214 (hw _ (List.mem_of_getElem? (i := 64) rfl)) (hw _ (List.mem_of_getElem? (i := 65) rfl)) (hw _ (List.mem_of_getElem? (i := 33) rfl)) (hw _ (List.mem_of_getElem? (i := 66) rfl)) (by decide) pd_5 rfl rfl rfl (Nat.le_of_ble_eq_true rfl) (Nat.le_of_ble_eq_true rfl) (Nat.le_of_ble_eq_true rfl) (Nat.le_of_ble_eq_true rfl) ?_
        rintro _ _ ⟨rfl, rfl⟩
        show Wp none l Z "com/example/orthrus/orthrus/SignatureSetFullPinLaw" "law" code maxLocals ret room_1 [(a158, oI "com/example/orthrus/orthrus/SignatureSet" sg_1 [(.long (x1.toInt64 + x157.toInt64)), (.ref b179), (.int (7 : Int32)), (.int b162)]), (b179, oJ ys181), (A159, oJ xs180)] 3 37 217 #[.val (.int a), .val (.int b), .val (.int c), .val (.long d), .second, .val (.int e), .val (.int x1), .val (.int (7 : Int32)), .val (.int x157), .val (.ref a158), .val (.long x165), .second, .val (.int x186), .val (.int x1), .unset] [(.int (f_min ((2 : Int32) * x1) x157))] Q_law
        have hm189 := own_min ((2 : Int32) * x1) x157
        generalize hg_x190 : (f_min ((2 : Int32) * x1) x157) = x190
        refine wp_istore #[.val (.int a), .val (.int b), .val (.int c), .val (.long d), .second, .val (.int e), .val (.int x1), .val (.int (7 : Int32)), .val (.int x157), .val (.ref a158), .val (.long x165), .second, .val (.int x186), .val (.int x190), .unset] D_217 rfl ?_
        refine wp_iload D_219 rfl ?_
        refine wp_iload D_221 rfl ?_
        refine wp_iconst 4 D_223 (by decide) ?_
        refine wp_idiv D_224 (by decide) ?_
        refine wp_iconst 3 D_225 (by decide) ?_
        refine wp_imul D_226 ?_
        refine wp_icmp_le D_227 (pc'' := 234) ⟨by decide, by decide⟩ (fun h191 => ?_) (fun h191 => ?_)
        · skip
          refine wp_iconst 0 D_234 (by decide) ?_
          refine wp_istore #[.val (.int a), .val (.int b), .val (.int c), .val (.long d), .second, .val (.int e), .val (.int x1), .val (.int (7 : Int32)), .val (.int x157), .val (.ref a158), .val (.long x165), .second, .val (.int x186), .val (.int x190), .val (.int (0 : Int32))] D_235 rfl ?_
          refine wp_iload D_237 rfl ?_
          refine wp_iload D_239 rfl ?_
          refine wp_icmp_ne D_241 (pc'' := 248) ⟨by decide, by decide⟩ (fun h192 => ?_) (fun h192 => ?_)
          · skip
            refine wp_iconst 0 D_248 (by decide) ?_
            refine wp_ireturnN D_249 rfl (by simp) (by decide) (by decide) ?_
            exfalso; simp_all [f_full]
          · skip
            refine wp_iconst 1 D_244 (by decide) ?_
            refine wp_goto D_245 (pc'' := 249) ⟨by decide, by decide⟩ ?_
            refine wp_ireturnN D_249 rfl (by simp) (by decide) (by decide) ?_
            exact rfl
        · skip
          refine wp_iconst 1 D_230 (by decide) ?_
          refine wp_goto D_231 (pc'' := 235) ⟨by decide, by decide⟩ ?_
          refine wp_istore #[.val (.int a), .val (.int b), .val (.int c), .val (.long d), .second, .val (.int e), .val (.int x1), .val (.int (7 : Int32)), .val (.int x157), .val (.ref a158), .val (.long x165), .second, .val (.int x186), .val (.int x190), .val (.int (1 : Int32))] D_235 rfl ?_
          refine wp_iload D_237 rfl ?_
          refine wp_iload D_239 rfl ?_
          refine wp_icmp_ne D_241 (pc'' := 248) ⟨by decide, by decide⟩ (fun h193 => ?_) (fun h193 => ?_)
          · skip
            refine wp_iconst 0 D_248 (by decide) ?_
            refine wp_ireturnN D_249 rfl (by simp) (by decide) (by decide) ?_
            exfalso; simp_all [f_full]
          · skip
            refine wp_iconst 1 D_244 (by decide) ?_
            refine wp_goto D_245 (pc'' := 249) ⟨by decide, by decide⟩ ?_
            refine wp_ireturnN D_249 rfl (by simp) (by decide) (by decide) ?_
            exact rfl
    refine wp_if_eq D_42 (pc'' := 52) ⟨by decide, by decide⟩ (fun h161 => ?_) (fun h161 => ?_)
    · skip
      exact (J164 (0 : Int32) (Or.inl ⟨h161, rfl⟩))
    · skip
      refine wp_aload D_45 rfl rfl ?_
      refine wp_lconst 0 D_47 (by decide) ?_
      refine Wp.pick [1, 0] (by decide) ?_
      show Wp none l Z "com/example/orthrus/orthrus/SignatureSetFullPinLaw" "law" code maxLocals ret room_1 [(a158, oI "com/example/orthrus/orthrus/SignatureSet" sg_1 [(.long (x1.toInt64 + x157.toInt64)), (.ref A159), (.int (0 : Int32)), (.int (0 : Int32))]), (A159, oJ xs160)] 2 15 48 #[.val (.int a), .val (.int b), .val (.int c), .val (.long d), .second, .val (.int e), .val (.int x1), .val (.int (7 : Int32)), .val (.int x157), .val (.ref a158), .unset, .unset, .unset, .unset, .unset] [(.long (0 : Int64)), (.ref a158)] Q_law
      refine wp_virtual (c_addz l Z a0 hw a158 A159 (x1.toInt64 + x157.toInt64) [(A159, oJ xs160)]) (exa_new (i := 0) rfl) D_48 (hw _ (List.mem_of_getElem? (i := 14) rfl)) (hw _ (List.mem_of_getElem? (i := 15) rfl)) (hw _ (List.mem_of_getElem? (i := 17) rfl)) (hw _ (List.mem_of_getElem? (i := 17) rfl)) (hw _ (List.mem_of_getElem? (i := 16) rfl)) (hw _ (List.mem_of_getElem? (i := 2) rfl)) (hw _ (List.mem_of_getElem? (i := 18) rfl)) (by decide) pd_8 rfl rfl rfl (Nat.le_of_ble_eq_true rfl) (Nat.le_of_ble_eq_true rfl) (Nat.le_of_ble_eq_true rfl) (Nat.le_of_ble_eq_true rfl) ?_
      rintro _ _ ⟨rfl, rfl⟩
      show Wp none l Z "com/example/orthrus/orthrus/SignatureSetFullPinLaw" "law" code maxLocals ret room_1 [(a158, oI "com/example/orthrus/orthrus/SignatureSet" sg_1 [(.long (x1.toInt64 + x157.toInt64)), (.ref A159), (.int (0 : Int32)), (.int (1 : Int32))]), (A159, oJ xs160)] 2 15 51 #[.val (.int a), .val (.int b), .val (.int c), .val (.long d), .second, .val (.int e), .val (.int x1), .val (.int (7 : Int32)), .val (.int x157), .val (.ref a158), .unset, .unset, .unset, .unset, .unset] [(.int (1 : Int32))] Q_law
      refine wp_pop D_51 rfl ?_
      refine Wp.pick [1, 0] (by decide) ?_
      show Wp none l Z "com/example/orthrus/orthrus/SignatureSetFullPinLaw" "law" code maxLocals ret room_1 [(A159, oJ xs160), (a158, oI "com/example/orthrus/orthrus/SignatureSet" sg_1 [(.long (x1.toInt64 + x157.toInt64)), (.ref A159), (.int (0 : Int32)), (.int (1 : Int32))])] 2 15 52 #[.val (.int a), .val (.int b), .val (.int c), .val (.long d), .second, .val (.int e), .val (.int x1), .val (.int (7 : Int32)), .val (.int x157), .val (.ref a158), .unset, .unset, .unset, .unset, .unset] [] Q_law
      exact (J164 (1 : Int32) (Or.inr ⟨h161, rfl⟩))
set_option maxRecDepth 65536 in
set_option maxHeartbeats 40000000 in
theorem comes_1 {Post : Tables → Env → Array Value → State → Outcome → State → Prop} (hpost : ∀ tb e args s v u, (limb_1_1.after args s (.returned v) u = true ∧ limb_1_2.after args s (.returned v) u = true ∧ True) → FrameEnd s (.returned v) u (Jvm.fieldLocs frame_1_writes args s ++ Jvm.arrayLocs frame_1_arrays args s ++ Jvm.staticLocs frame_1_statics s) 16 192 → Post tb e args s (.returned v) u) :
    ArmFor flags0 classFile x code maxLocals ret World_1 tables_1 room_1 Calls_1 rest_1 Pre_1 Post := by
  intro l hfl _ _ p e ha hc hk s m args below hf hA hF happ hP
  obtain ⟨hcalls, hrest, hpre⟩ := hP
  obtain ⟨-, -, -, hnamed, -, -, -, hat⟩ := (Spec.applies_iff hf).mp happ
  obtain ⟨hg, hn⟩ := and_e (Cond.before_iff.mp (show (Jvm.Cond.and given_1 narrow_1).before args s = true from hpre))
  obtain ⟨hcnt, hk0⟩ := and_e hg
  obtain ⟨hz0, hk1⟩ := and_e hk0
  obtain ⟨hz1, hk2⟩ := and_e hk1
  obtain ⟨hz2, hk3⟩ := and_e hk2
  obtain ⟨hz3, hk4⟩ := and_e hk3
  have hz4 := hk4
  obtain ⟨w0, w1, w2, w3, w4, rfl⟩ : ∃ w0 w1 w2 w3 w4 : Value, args = #[w0, w1, w2, w3, w4] := by
    have hs : args.size = 5 := by simpa [Cond.value, given_1] using hcnt
    obtain ⟨L⟩ := args
    match L, hs with
    | [w0, w1, w2, w3, w4], _ => exact ⟨w0, w1, w2, w3, w4, rfl⟩
  have hw := fun d (hd : d ∈ tables_1) => atoms_spec (ws := Jvm.Cond.code x code maxLocals ret :: tables_1) hat d (List.mem_cons_of_mem _ hd)
  have hfit : Fit s := fun {y c} hc i hi => by
    obtain ⟨ha, rfl⟩ := Array.getElem?_eq_some_iff.mp hc
    have q := List.all_eq_true.mp ((Array.all_eq_true_iff_forall_mem.mp hF) _ (Array.getElem_mem ha)) i (List.mem_range.mpr hi)
    simpa [Array.getElem?_eq_getElem hi] using q
  obtain ⟨a, e0⟩ := is_v hz0
  obtain rfl : w0 = (.int a) := Option.some.inj e0
  obtain ⟨b, e1⟩ := is_v hz1
  obtain rfl : w1 = (.int b) := Option.some.inj e1
  obtain ⟨c_, e2⟩ := is_v hz2
  obtain rfl : w2 = (.int c_) := Option.some.inj e2
  obtain ⟨d, e3⟩ := isL_v hz3
  obtain rfl : w3 = (.long d) := Option.some.inj e3
  obtain ⟨e_, e4⟩ := is_v hz4
  obtain rfl : w4 = (.int e_) := Option.some.inj e4
  have hm := (law_wp l s _ hw a b c_ d e_ )
  obtain ⟨n, o, h1, h2, h3, v, L, rfl, ⟨N, -, H', -, hQ⟩, hq⟩ := Met.of_wp (y := x) (as' := [(.int a), (.int b), (.int c_), (.long d), (.int e_)]) pn_12 (fun m => (entry_loc m _ _).trans rfl) hm tables_1 s.heap (Hp.nil s) p e ha hc hk s m _ below hf ((Spec.applies_iff_loose hf).mp happ).1 ⟨rfl, State.Warmed39.refl s, rfl⟩ trivial
  obtain rfl : v = some (.int 1) := hQ
  refine ⟨n, _, h1, h2, h3, hpost _ _ _ _ _ _ ⟨Cond.after_iff.mpr rfl, Cond.after_iff.mpr (eq_i res_at (Term.int_eval (1)) rfl), trivial⟩ ⟨hq.1, hq.2.1, (hq.2.2.sift fun y hy => Or.inr (N y hy)).mono (by decide) (by decide)⟩⟩
theorem main_1_1 : Claimed_1_1 := comes_1 fun _ _ _ _ _ _ h hF => ⟨h.1, hF⟩
theorem main_1_2 : Claimed_1_2 := comes_1 fun _ _ _ _ _ _ h hF => ⟨h.2.1, hF⟩
end Jvm.Pilot.@@N@@
namespace Jvm.Pilot.@@N@@
open Jvm Jvm.ClassFile Sem Op Lib Jvm.Free Jvm.Stand Jvm.Pilot.@@N@@.Jvm.D
/-! MADE BY PROGRAM (witnessworld.py) out of the Statement's table words and the real class files: 13 classes; the members and pool entries that the words name. The judged class is class 1, her method 1. -/
namespace start1
open Jvm.ClassFile
def u (s : String) : CpInfo := .utf8 (stringToUtf16 s)
/-- a pool by its gaps: so many unusable entries, then the entry; so many at the end -/
def gap : Nat → List CpInfo → List CpInfo
  | 0, r => r
  | n + 1, r => .unusable :: gap n r
def poolList (es : List (Nat × CpInfo)) (last : Nat) : List CpInfo := es.foldr (fun e r => gap e.1 (e.2 :: r)) (gap last [])
def pool (es : List (Nat × CpInfo)) (last : Nat) : Array CpInfo := ⟨poolList es last⟩
def fileOf (pool : Array CpInfo) (this : Nat) (attrs : Array Attribute := #[]) (ms : Array MethodInfo := #[]) (fl : Nat := 33) (sup : Nat := 0) (ifs : Array Nat := #[]) (fds : Array FieldInfo := #[]) : ClassFile where
  minorVersion := 0
  majorVersion := 65
  constantPool := pool
  accessFlags := fl
  thisClass := this
  superClass := sup
  interfaces := ifs
  fields := fds
  methods := ms
  attributes := attrs
def plain (name : String) (sup : Option ClassId) : Class where
  name := name
  kind := .ordinary
  loader := none
  accessFlags := 33
  super := sup
  interfaces := #[]
  cf := none
  fields := #[]
  methods := #[]
  instanceTypes := #[]
  staticTypes := #[]
  resolved := #[]
  callSites := []
  init := .initialized
  statics := none
  mirror := none

def pool0 : Array CpInfo := pool [(5, u "<init>"), (0, u "()V"), (1, .class_ 10), (1, u "java/lang/Object")] 113

def k0c0 : Code := { maxStack := 0, maxLocals := 1, code := object_method_1_code, exceptionTable := #[], attributes := #[] }
def k0m0 : Method := { name := "<init>", desc := "()V", sig := { parameters := [], returnType := none }, accessFlags := 1, code := some k0c0 }
/-- java/lang/Object -/
def k0 : Class := { plain "java/lang/Object" none with
  accessFlags := 33
  interfaces := #[]
  cf := some (fileOf pool0 8 #[] #[{ accessFlags := 1, nameIndex := 5, descriptorIndex := 6, attributes := #[] }] 33 0 #[] #[])
  fields := #[]
  methods := #[k0m0]
  instanceTypes := #[]
  staticTypes := #[]
  resolved := Array.replicate 124 none
  statics := none }

def pool1 : Array CpInfo := pool [(2, .class_ 4), (1, u "java/lang/Object"), (0, u "<init>"), (0, u "()V"), (0, .class_ 8), (0, u "com/example/orthrus/orthrus/SignatureSet"), (0, .methodref 7 10), (0, .nameAndType 5 11), (0, u "(IJ)V"), (0, .methodref 7 13), (0, .nameAndType 14 15), (0, u "add"), (0, u "(J)Z"), (0, .long 2), (1, .long 3), (1, .long 4), (1, .long 5), (1, .long 6), (1, .long 7), (1, .methodref 7 29), (0, .nameAndType 30 31), (0, u "full"), (0, u "()Z"), (0, .methodref 33 34), (0, .class_ 35), (0, .nameAndType 36 37), (0, u "java/lang/Math"), (0, u "min"), (0, u "(II)I"), (0, .class_ 39), (0, u "com/example/orthrus/orthrus/SignatureSetFullPinLaw"), (2, u "law"), (0, u "(IIIJI)Z")] 3

def k1m0 : Method := { name := "<init>", desc := "()V", sig := { parameters := [], returnType := none }, accessFlags := 1, code := none }
def k1c1 : Code := { maxStack := 7, maxLocals := 15, code := code, exceptionTable := #[], attributes := #[] }
def k1m1 : Method := { name := "law", desc := "(IIIJI)Z", sig := { parameters := [.int, .int, .int, .long, .int], returnType := some .boolean }, accessFlags := 9, code := some k1c1 }
/-- com/example/orthrus/orthrus/SignatureSetFullPinLaw -/
def k1 : Class := { plain "com/example/orthrus/orthrus/SignatureSetFullPinLaw" (some 0) with
  accessFlags := 49
  interfaces := #[]
  cf := some (fileOf pool1 38 #[] #[{ accessFlags := 1, nameIndex := 5, descriptorIndex := 6, attributes := #[] }, { accessFlags := 9, nameIndex := 42, descriptorIndex := 43, attributes := #[] }] 49 2 #[] #[])
  fields := #[]
  methods := #[k1m0, k1m1]
  instanceTypes := #[]
  staticTypes := #[]
  resolved := Array.replicate 47 none
  statics := none }

def pool2 : Array CpInfo := pool [(1, .class_ 2), (0, u "com/example/orthrus/orthrus/SignatureSet"), (6, u "<init>"), (0, u "(IJ)V"), (0, .methodref 12 13), (0, .class_ 14), (0, .nameAndType 9 15), (0, u "java/lang/Object"), (0, u "()V"), (0, .fieldref 1 17), (0, .nameAndType 18 19), (0, u "maxSlots"), (0, u "J"), (0, .fieldref 1 21), (0, .nameAndType 22 23), (0, u "slots"), (0, u "[J"), (0, .fieldref 1 25), (0, .nameAndType 26 27), (0, u "hasZero"), (0, u "Z"), (0, .methodref 1 29), (0, .nameAndType 30 31), (0, u "slotOf"), (0, u "(JI)I"), (0, .methodref 1 33), (0, .nameAndType 34 35), (0, u "next"), (0, u "(II)I"), (0, .methodref 1 37), (0, .nameAndType 38 39), (0, u "full"), (0, u "()Z"), (2, .fieldref 1 43), (0, .nameAndType 44 45), (0, u "filled"), (0, u "I"), (7, .methodref 1 54), (0, .nameAndType 55 15), (0, u "grow"), (14, .class_ 71), (0, u "com/example/orthrus/orthrus/Cells"), (0, .long 2147483639), (1, .methodref 75 76), (0, .class_ 77), (0, .nameAndType 78 79), (0, u "java/lang/Math"), (0, u "min"), (0, u "(JJ)J"), (0, .long 2), (1, .methodref 70 83), (0, .nameAndType 84 85), (0, u "mix"), (0, u "(J)J"), (0, .methodref 70 87), (0, .nameAndType 88 79), (0, u "reduce"), (0, u "INITIAL_CAPACITY"), (4, u "add"), (0, u "(J)Z")] 29

def k2m0 : Method := { name := "<init>", desc := "()V", sig := { parameters := [], returnType := none }, accessFlags := 0, code := none }
def k2c1 : Code := { maxStack := 3, maxLocals := 4, code := prog_8_method_2_code, exceptionTable := #[], attributes := #[] }
def k2m1 : Method := { name := "<init>", desc := "(IJ)V", sig := { parameters := [.int, .long], returnType := none }, accessFlags := 0, code := some k2c1 }
def k2c2 : Code := { maxStack := 4, maxLocals := 4, code := prog_8_method_3_code, exceptionTable := #[], attributes := #[] }
def k2m2 : Method := { name := "add", desc := "(J)Z", sig := { parameters := [.long], returnType := some .boolean }, accessFlags := 0, code := some k2c2 }
def k2c3 : Code := { maxStack := 3, maxLocals := 1, code := prog_8_method_5_code, exceptionTable := #[], attributes := #[] }
def k2m3 : Method := { name := "full", desc := "()Z", sig := { parameters := [], returnType := some .boolean }, accessFlags := 0, code := some k2c3 }
def k2c4 : Code := { maxStack := 4, maxLocals := 11, code := prog_8_method_11_code, exceptionTable := #[], attributes := #[] }
def k2m4 : Method := { name := "grow", desc := "()V", sig := { parameters := [], returnType := none }, accessFlags := 2, code := some k2c4 }
def k2c5 : Code := { maxStack := 4, maxLocals := 3, code := prog_8_method_12_code, exceptionTable := #[], attributes := #[] }
def k2m5 : Method := { name := "slotOf", desc := "(JI)I", sig := { parameters := [.long, .int], returnType := some .int }, accessFlags := 10, code := some k2c5 }
def k2c6 : Code := { maxStack := 2, maxLocals := 2, code := prog_8_method_13_code, exceptionTable := #[], attributes := #[] }
def k2m6 : Method := { name := "next", desc := "(II)I", sig := { parameters := [.int, .int], returnType := some .int }, accessFlags := 10, code := some k2c6 }
/-- com/example/orthrus/orthrus/SignatureSet -/
def k2 : Class := { plain "com/example/orthrus/orthrus/SignatureSet" (some 0) with
  accessFlags := 48
  interfaces := #[]
  cf := some (fileOf pool2 1 #[] #[{ accessFlags := 0, nameIndex := 9, descriptorIndex := 15, attributes := #[] }, { accessFlags := 0, nameIndex := 9, descriptorIndex := 10, attributes := #[] }, { accessFlags := 0, nameIndex := 94, descriptorIndex := 95, attributes := #[] }, { accessFlags := 0, nameIndex := 38, descriptorIndex := 39, attributes := #[] }, { accessFlags := 2, nameIndex := 55, descriptorIndex := 15, attributes := #[] }, { accessFlags := 10, nameIndex := 30, descriptorIndex := 31, attributes := #[] }, { accessFlags := 10, nameIndex := 34, descriptorIndex := 35, attributes := #[] }] 48 12 #[] #[{ accessFlags := 24, nameIndex := 89, descriptorIndex := 45, attributes := #[] }, { accessFlags := 2, nameIndex := 18, descriptorIndex := 19, attributes := #[] }, { accessFlags := 2, nameIndex := 22, descriptorIndex := 23, attributes := #[] }, { accessFlags := 2, nameIndex := 44, descriptorIndex := 45, attributes := #[] }, { accessFlags := 2, nameIndex := 26, descriptorIndex := 27, attributes := #[] }])
  fields := #[{ name := "INITIAL_CAPACITY", type := .int, accessFlags := 24, slot := 0, constantValue := 0 }, { name := "maxSlots", type := .long, accessFlags := 2, slot := 0, constantValue := 0 }, { name := "slots", type := (.array .long), accessFlags := 2, slot := 1, constantValue := 0 }, { name := "filled", type := .int, accessFlags := 2, slot := 2, constantValue := 0 }, { name := "hasZero", type := .boolean, accessFlags := 2, slot := 3, constantValue := 0 }]
  methods := #[k2m0, k2m1, k2m2, k2m3, k2m4, k2m5, k2m6]
  instanceTypes := #[.long, (.array .long), .int, .boolean]
  staticTypes := #[.int]
  resolved := Array.replicate 125 none
  statics := none }

def pool3 : Array CpInfo := pool [(4, .class_ 6), (1, u "java/lang/Object"), (0, u "<init>"), (0, u "()V"), (1, .class_ 12), (1, u "com/example/orthrus/orthrus/Cells"), (0, u "mix"), (0, u "(J)J"), (2, u "reduce"), (0, u "(JJ)J"), (0, .methodref 20 21), (0, .class_ 22), (0, .nameAndType 23 18), (0, u "java/lang/Math"), (0, u "multiplyHigh"), (0, .long 13787848793156543929), (1, .long 10723151780598845931), (1, u "HASHING"), (0, u "Ljava/lang/String;"), (3, u "MAX_WORDS"), (0, u "I")] 8

def k3m0 : Method := { name := "<init>", desc := "()V", sig := { parameters := [], returnType := none }, accessFlags := 2, code := none }
def k3c1 : Code := { maxStack := 6, maxLocals := 4, code := prog_3_method_4_code, exceptionTable := #[], attributes := #[] }
def k3m1 : Method := { name := "reduce", desc := "(JJ)J", sig := { parameters := [.long, .long], returnType := some .long }, accessFlags := 8, code := some k3c1 }
def k3c2 : Code := { maxStack := 5, maxLocals := 2, code := prog_3_method_5_code, exceptionTable := #[], attributes := #[] }
def k3m2 : Method := { name := "mix", desc := "(J)J", sig := { parameters := [.long], returnType := some .long }, accessFlags := 8, code := some k3c2 }
/-- com/example/orthrus/orthrus/Cells -/
def k3 : Class := { plain "com/example/orthrus/orthrus/Cells" (some 0) with
  accessFlags := 48
  interfaces := #[]
  cf := some (fileOf pool3 10 #[] #[{ accessFlags := 2, nameIndex := 7, descriptorIndex := 8, attributes := #[] }, { accessFlags := 8, nameIndex := 17, descriptorIndex := 18, attributes := #[] }, { accessFlags := 8, nameIndex := 13, descriptorIndex := 14, attributes := #[] }] 48 4 #[] #[{ accessFlags := 24, nameIndex := 28, descriptorIndex := 29, attributes := #[] }, { accessFlags := 24, nameIndex := 33, descriptorIndex := 34, attributes := #[] }])
  fields := #[{ name := "HASHING", type := (.object "java/lang/String"), accessFlags := 24, slot := 0, constantValue := 0 }, { name := "MAX_WORDS", type := .int, accessFlags := 24, slot := 1, constantValue := 0 }]
  methods := #[k3m0, k3m1, k3m2]
  instanceTypes := #[]
  staticTypes := #[(.object "java/lang/String"), .int]
  resolved := Array.replicate 43 none
  statics := none }

def pool4 : Array CpInfo := pool [(1, .class_ 2), (0, u "java/lang/Math"), (1, .class_ 6), (1, u "java/lang/Object"), (0, u "<init>"), (0, u "()V"), (89, .class_ 100), (1, u "java/lang/Math$RandomNumberGeneratorHolder"), (20, u "(JJ)J"), (16, .long 4294967295), (3, u "multiplyHigh"), (29, u "negativeZeroFloatBits"), (0, u "J"), (2, u "negativeZeroDoubleBits"), (24, u "min"), (43, u "$assertionsDisabled"), (0, u "Z"), (88, u "(II)I"), (2, u "twoToTheDoubleScaleDown"), (0, u "D"), (4, u "twoToTheDoubleScaleUp"), (9, u "E"), (3, u "PI"), (2, u "TAU"), (2, u "DEGREES_TO_RADIANS"), (0, u "RADIANS_TO_DEGREES")] 94

def k4m0 : Method := { name := "<init>", desc := "()V", sig := { parameters := [], returnType := none }, accessFlags := 2, code := none }
def k4c1 : Code := { maxStack := 6, maxLocals := 20, code := jdk_29_method_45_code, exceptionTable := #[], attributes := #[] }
def k4m1 : Method := { name := "multiplyHigh", desc := "(JJ)J", sig := { parameters := [.long, .long], returnType := some .long }, accessFlags := 9, code := some k4c1 }
def k4c2 : Code := { maxStack := 2, maxLocals := 2, code := jdk_29_method_69_code, exceptionTable := #[], attributes := #[] }
def k4m2 : Method := { name := "min", desc := "(II)I", sig := { parameters := [.int, .int], returnType := some .int }, accessFlags := 9, code := some k4c2 }
def k4c3 : Code := { maxStack := 4, maxLocals := 4, code := jdk_29_method_70_code, exceptionTable := #[], attributes := #[] }
def k4m3 : Method := { name := "min", desc := "(JJ)J", sig := { parameters := [.long, .long], returnType := some .long }, accessFlags := 9, code := some k4c3 }
/-- java/lang/Math -/
def k4 : Class := { plain "java/lang/Math" (some 0) with
  accessFlags := 49
  interfaces := #[]
  cf := some (fileOf pool4 1 #[.nestMembers #[98]] #[{ accessFlags := 2, nameIndex := 7, descriptorIndex := 8, attributes := #[] }, { accessFlags := 9, nameIndex := 142, descriptorIndex := 121, attributes := #[] }, { accessFlags := 9, nameIndex := 201, descriptorIndex := 335, attributes := #[] }, { accessFlags := 9, nameIndex := 201, descriptorIndex := 121, attributes := #[] }] 49 4 #[] #[{ accessFlags := 25, nameIndex := 354, descriptorIndex := 339, attributes := #[] }, { accessFlags := 25, nameIndex := 358, descriptorIndex := 339, attributes := #[] }, { accessFlags := 25, nameIndex := 361, descriptorIndex := 339, attributes := #[] }, { accessFlags := 26, nameIndex := 364, descriptorIndex := 339, attributes := #[] }, { accessFlags := 26, nameIndex := 365, descriptorIndex := 339, attributes := #[] }, { accessFlags := 26, nameIndex := 172, descriptorIndex := 173, attributes := #[] }, { accessFlags := 26, nameIndex := 176, descriptorIndex := 173, attributes := #[] }, { accessFlags := 8, nameIndex := 344, descriptorIndex := 339, attributes := #[] }, { accessFlags := 8, nameIndex := 338, descriptorIndex := 339, attributes := #[] }, { accessFlags := 4120, nameIndex := 245, descriptorIndex := 246, attributes := #[] }])
  fields := #[{ name := "E", type := .double, accessFlags := 25, slot := 0, constantValue := 0 }, { name := "PI", type := .double, accessFlags := 25, slot := 1, constantValue := 0 }, { name := "TAU", type := .double, accessFlags := 25, slot := 2, constantValue := 0 }, { name := "DEGREES_TO_RADIANS", type := .double, accessFlags := 26, slot := 3, constantValue := 0 }, { name := "RADIANS_TO_DEGREES", type := .double, accessFlags := 26, slot := 4, constantValue := 0 }, { name := "negativeZeroFloatBits", type := .long, accessFlags := 26, slot := 5, constantValue := 0 }, { name := "negativeZeroDoubleBits", type := .long, accessFlags := 26, slot := 6, constantValue := 0 }, { name := "twoToTheDoubleScaleUp", type := .double, accessFlags := 8, slot := 7, constantValue := 0 }, { name := "twoToTheDoubleScaleDown", type := .double, accessFlags := 8, slot := 8, constantValue := 0 }, { name := "$assertionsDisabled", type := .boolean, accessFlags := 4120, slot := 9, constantValue := 0 }]
  methods := #[k4m0, k4m1, k4m2, k4m3]
  instanceTypes := #[]
  staticTypes := #[.double, .double, .double, .double, .double, .long, .long, .double, .double, .boolean]
  resolved := Array.replicate 460 none
  statics := none }

def pool5 : Array CpInfo := pool [(1, u "java/lang/Cloneable"), (0, .class_ 1), (0, u "java/lang/Object"), (0, .class_ 3)] 3

/-- java/lang/Cloneable -/
def k5 : Class := { plain "java/lang/Cloneable" (some 0) with
  accessFlags := 1537
  interfaces := #[]
  cf := some (fileOf pool5 2 #[] #[] 1537 4 #[] #[])
  fields := #[]
  methods := #[]
  instanceTypes := #[]
  staticTypes := #[]
  resolved := Array.replicate 8 none
  statics := none }

def pool6 : Array CpInfo := pool [(1, u "java/io/Serializable"), (0, .class_ 1), (0, u "java/lang/Object"), (0, .class_ 3)] 3

/-- java/io/Serializable -/
def k6 : Class := { plain "java/io/Serializable" (some 0) with
  accessFlags := 1537
  interfaces := #[]
  cf := some (fileOf pool6 2 #[] #[] 1537 4 #[] #[])
  fields := #[]
  methods := #[]
  instanceTypes := #[]
  staticTypes := #[]
  resolved := Array.replicate 8 none
  statics := none }

/-- the primitive byte -/
def k7 : Class := { plain "byte" none with kind := .primitive 'B', accessFlags := 0x411 }
/-- [B -/
def k8 : Class := { plain "[B" (some 0) with kind := .array 7 .byte, interfaces := #[5, 6], accessFlags := 1041 }

/-- the primitive int -/
def k9 : Class := { plain "int" none with kind := .primitive 'I', accessFlags := 0x411 }
/-- [I -/
def k10 : Class := { plain "[I" (some 0) with kind := .array 9 .int, interfaces := #[5, 6], accessFlags := 1041 }

/-- the primitive long -/
def k11 : Class := { plain "long" none with kind := .primitive 'J', accessFlags := 0x411 }
/-- [J -/
def k12 : Class := { plain "[J" (some 0) with kind := .array 11 .long, interfaces := #[5, 6], accessFlags := 1041 }

def heap : Heap := #[]
def classes : Array Class := #[k0, k1, k2, k3, k4, k5, k6, k7, k8, k9, k10, k11, k12]
def interned : List (Array UInt16 × Addr) := []
def slotsUsed : Nat := 0
def theMethod : MethodId := ⟨1, 1⟩
def args0 : Array Value := #[.int 1, .int 3, .int 20, .long 5, .int 1]
def aboutOver (below : List Frame) : State where
  vm := { classes := classes, interned := interned.toArray }
  heap := heap
  slotsUsed := slotsUsed
  threads := #[{ frames := .invoking theMethod args0 :: below }]
def below0 : List Frame := [.native { method := ⟨0, 0⟩, args := #[] }]
def about1 : State := aboutOver below0
def p0 : Program := .bare "" "" ""
def e0 : Env := launch0.env 0 0 0
theorem w_frames : about1.frames = Frame.invoking theMethod args0 :: below0 := rfl
set_option maxRecDepth 65536 in
theorem w_args : argsFit about1.vm theMethod args0 = true := by decide +kernel
set_option maxRecDepth 65536 in
theorem w_heap : heapFits about1 = true := by decide +kernel
set_option maxRecDepth 65536 in
theorem w_runnable : about1.curStatus? = some .runnable := by decide +kernel
set_option maxRecDepth 65536 in
theorem w_alone : about1.alone = true := by decide +kernel
set_option maxRecDepth 65536 in
theorem w_named : about1.methodNamed? x = some theMethod := by decide +kernel
set_option maxRecDepth 65536 in
theorem w_hears : about1.hears theMethod below0 = true := by decide +kernel
set_option maxRecDepth 65536 in
theorem w_ripe : about1.ripe theMethod args0 below0 = true := by decide +kernel
theorem w_running : about1.status = .running := rfl
set_option maxRecDepth 65536 in
theorem w_room : about1.hasRoom e0.platform room_1 = true :=
  launch0.hasRoom_least _ room_1 (by decide +kernel) (by decide +kernel) (by decide +kernel) (by decide +kernel) (by decide +kernel) (by decide +kernel)
theorem allAtoms_all (ts : List Jvm.Cond) (a : Array Jvm.Value) (st : Jvm.State) : (allAtoms ts).before a st = ts.all (fun c => c.before a st) := by
  induction ts with
  | nil => rfl
  | cons c t ih =>
    show (Jvm.Cond.and c (allAtoms t)).before a st = _
    rw [Jvm.Cond.before_and, ih, List.all_cons]
def words1 : List Jvm.Cond := Jvm.Cond.code x code maxLocals ret :: tables_1
/-- a 'code' word, met by the world's own term for the bytes: nothing is compared byte by byte -/
theorem code_word {y : MethodName} {bytes : ByteArray} {mx : Nat} {rt : Option FieldType} {a : Array Value} {s : State} {m : MethodId} {meth : Method} {c : Code} (h1 : s.methodNamed? y = some m) (h2 : s.vm.method? m = some meth) (h3 : meth.code = some c) (h4 : c.code = bytes)
    (h5 : (c.maxLocals == mx && c.exceptionTable.isEmpty && decide (c.maxStack ≤ mostOperands) && decide (meth.sig.returnType = rt) && !meth.locks && decide (parseMethodDescriptor y.desc = some meth.sig)) = true) : (Jvm.Cond.code y bytes mx rt).before a s = true := by
  simp only [Bool.and_eq_true, beq_iff_eq, Bool.not_eq_true', decide_eq_true_eq] at h5
  obtain ⟨⟨⟨⟨⟨g1, g2⟩, g3⟩, g4⟩, g5⟩, g6⟩ := h5
  simp [Cond.before, Cond.holds, Cond.value, h1, h2, h3, h4, g1, g2, g3, g4, g5, g6]
def isCode : Jvm.Cond → Bool
  | .code _ _ _ _ => true
  | _ => false
theorem all_split {L : List Jvm.Cond} {P : Jvm.Cond → Bool} (h1 : L.all (fun c => isCode c || P c) = true) (h2 : ∀ c ∈ L.filter isCode, P c = true) : L.all P = true := by
  refine List.all_eq_true.mpr fun c hc => ?_
  have h := List.all_eq_true.mp h1 c hc
  rcases Bool.eq_false_or_eq_true (isCode c) with hi | hi
  · exact h2 c (List.mem_filter.mpr ⟨hc, hi⟩)
  · simpa [hi] using h
set_option maxRecDepth 65536 in
theorem w_c0 : (Jvm.Cond.code x code maxLocals ret).before args0 about1 = true := code_word (m := ⟨1, 1⟩) (meth := k1m1) (c := k1c1) (by decide +kernel) rfl rfl rfl (by decide +kernel)
set_option maxRecDepth 65536 in
theorem w_c1 : (Jvm.Cond.code ({ cls := "com/example/orthrus/orthrus/SignatureSet", name := "<init>", desc := "(IJ)V" } : Jvm.MethodName) prog_8_method_2_code (4 : Nat) (Option.none : Option Jvm.ClassFile.FieldType)).before args0 about1 = true := code_word (m := ⟨2, 1⟩) (meth := k2m1) (c := k2c1) (by decide +kernel) rfl rfl rfl (by decide +kernel)
set_option maxRecDepth 65536 in
theorem w_c2 : (Jvm.Cond.code ({ cls := "java/lang/Object", name := "<init>", desc := "()V" } : Jvm.MethodName) object_method_1_code (1 : Nat) (Option.none : Option Jvm.ClassFile.FieldType)).before args0 about1 = true := code_word (m := ⟨0, 0⟩) (meth := k0m0) (c := k0c0) (by decide +kernel) rfl rfl rfl (by decide +kernel)
set_option maxRecDepth 65536 in
theorem w_c3 : (Jvm.Cond.code ({ cls := "com/example/orthrus/orthrus/SignatureSet", name := "add", desc := "(J)Z" } : Jvm.MethodName) prog_8_method_3_code (4 : Nat) (Option.some Jvm.ClassFile.FieldType.boolean)).before args0 about1 = true := code_word (m := ⟨2, 2⟩) (meth := k2m2) (c := k2c2) (by decide +kernel) rfl rfl rfl (by decide +kernel)
set_option maxRecDepth 65536 in
theorem w_c4 : (Jvm.Cond.code ({ cls := "com/example/orthrus/orthrus/SignatureSet", name := "slotOf", desc := "(JI)I" } : Jvm.MethodName) prog_8_method_12_code (3 : Nat) (Option.some Jvm.ClassFile.FieldType.int)).before args0 about1 = true := code_word (m := ⟨2, 5⟩) (meth := k2m5) (c := k2c5) (by decide +kernel) rfl rfl rfl (by decide +kernel)
set_option maxRecDepth 65536 in
theorem w_c5 : (Jvm.Cond.code ({ cls := "com/example/orthrus/orthrus/Cells", name := "mix", desc := "(J)J" } : Jvm.MethodName) prog_3_method_5_code (2 : Nat) (Option.some Jvm.ClassFile.FieldType.long)).before args0 about1 = true := code_word (m := ⟨3, 2⟩) (meth := k3m2) (c := k3c2) (by decide +kernel) rfl rfl rfl (by decide +kernel)
set_option maxRecDepth 65536 in
theorem w_c6 : (Jvm.Cond.code ({ cls := "com/example/orthrus/orthrus/Cells", name := "reduce", desc := "(JJ)J" } : Jvm.MethodName) prog_3_method_4_code (4 : Nat) (Option.some Jvm.ClassFile.FieldType.long)).before args0 about1 = true := code_word (m := ⟨3, 1⟩) (meth := k3m1) (c := k3c1) (by decide +kernel) rfl rfl rfl (by decide +kernel)
set_option maxRecDepth 65536 in
theorem w_c7 : (Jvm.Cond.code ({ cls := "java/lang/Math", name := "multiplyHigh", desc := "(JJ)J" } : Jvm.MethodName) jdk_29_method_45_code (20 : Nat) (Option.some Jvm.ClassFile.FieldType.long)).before args0 about1 = true := code_word (m := ⟨4, 1⟩) (meth := k4m1) (c := k4c1) (by decide +kernel) rfl rfl rfl (by decide +kernel)
set_option maxRecDepth 65536 in
theorem w_c8 : (Jvm.Cond.code ({ cls := "com/example/orthrus/orthrus/SignatureSet", name := "full", desc := "()Z" } : Jvm.MethodName) prog_8_method_5_code (1 : Nat) (Option.some Jvm.ClassFile.FieldType.boolean)).before args0 about1 = true := code_word (m := ⟨2, 3⟩) (meth := k2m3) (c := k2c3) (by decide +kernel) rfl rfl rfl (by decide +kernel)
set_option maxRecDepth 65536 in
theorem w_c9 : (Jvm.Cond.code ({ cls := "com/example/orthrus/orthrus/SignatureSet", name := "next", desc := "(II)I" } : Jvm.MethodName) prog_8_method_13_code (2 : Nat) (Option.some Jvm.ClassFile.FieldType.int)).before args0 about1 = true := code_word (m := ⟨2, 6⟩) (meth := k2m6) (c := k2c6) (by decide +kernel) rfl rfl rfl (by decide +kernel)
set_option maxRecDepth 65536 in
theorem w_c10 : (Jvm.Cond.code ({ cls := "com/example/orthrus/orthrus/SignatureSet", name := "grow", desc := "()V" } : Jvm.MethodName) prog_8_method_11_code (11 : Nat) (Option.none : Option Jvm.ClassFile.FieldType)).before args0 about1 = true := code_word (m := ⟨2, 4⟩) (meth := k2m4) (c := k2c4) (by decide +kernel) rfl rfl rfl (by decide +kernel)
set_option maxRecDepth 65536 in
theorem w_c11 : (Jvm.Cond.code ({ cls := "java/lang/Math", name := "min", desc := "(JJ)J" } : Jvm.MethodName) jdk_29_method_70_code (4 : Nat) (Option.some Jvm.ClassFile.FieldType.long)).before args0 about1 = true := code_word (m := ⟨4, 3⟩) (meth := k4m3) (c := k4c3) (by decide +kernel) rfl rfl rfl (by decide +kernel)
set_option maxRecDepth 65536 in
theorem w_c12 : (Jvm.Cond.code ({ cls := "java/lang/Math", name := "min", desc := "(II)I" } : Jvm.MethodName) jdk_29_method_69_code (2 : Nat) (Option.some Jvm.ClassFile.FieldType.int)).before args0 about1 = true := code_word (m := ⟨4, 2⟩) (meth := k4m2) (c := k4c2) (by decide +kernel) rfl rfl rfl (by decide +kernel)
def codes1 : List Jvm.Cond := [Jvm.Cond.code x code maxLocals ret, Jvm.Cond.code ({ cls := "com/example/orthrus/orthrus/SignatureSet", name := "<init>", desc := "(IJ)V" } : Jvm.MethodName) prog_8_method_2_code (4 : Nat) (Option.none : Option Jvm.ClassFile.FieldType), Jvm.Cond.code ({ cls := "java/lang/Object", name := "<init>", desc := "()V" } : Jvm.MethodName) object_method_1_code (1 : Nat) (Option.none : Option Jvm.ClassFile.FieldType), Jvm.Cond.code ({ cls := "com/example/orthrus/orthrus/SignatureSet", name := "add", desc := "(J)Z" } : Jvm.MethodName) prog_8_method_3_code (4 : Nat) (Option.some Jvm.ClassFile.FieldType.boolean), Jvm.Cond.code ({ cls := "com/example/orthrus/orthrus/SignatureSet", name := "slotOf", desc := "(JI)I" } : Jvm.MethodName) prog_8_method_12_code (3 : Nat) (Option.some Jvm.ClassFile.FieldType.int), Jvm.Cond.code ({ cls := "com/example/orthrus/orthrus/Cells", name := "mix", desc := "(J)J" } : Jvm.MethodName) prog_3_method_5_code (2 : Nat) (Option.some Jvm.ClassFile.FieldType.long), Jvm.Cond.code ({ cls := "com/example/orthrus/orthrus/Cells", name := "reduce", desc := "(JJ)J" } : Jvm.MethodName) prog_3_method_4_code (4 : Nat) (Option.some Jvm.ClassFile.FieldType.long), Jvm.Cond.code ({ cls := "java/lang/Math", name := "multiplyHigh", desc := "(JJ)J" } : Jvm.MethodName) jdk_29_method_45_code (20 : Nat) (Option.some Jvm.ClassFile.FieldType.long), Jvm.Cond.code ({ cls := "com/example/orthrus/orthrus/SignatureSet", name := "full", desc := "()Z" } : Jvm.MethodName) prog_8_method_5_code (1 : Nat) (Option.some Jvm.ClassFile.FieldType.boolean), Jvm.Cond.code ({ cls := "com/example/orthrus/orthrus/SignatureSet", name := "next", desc := "(II)I" } : Jvm.MethodName) prog_8_method_13_code (2 : Nat) (Option.some Jvm.ClassFile.FieldType.int), Jvm.Cond.code ({ cls := "com/example/orthrus/orthrus/SignatureSet", name := "grow", desc := "()V" } : Jvm.MethodName) prog_8_method_11_code (11 : Nat) (Option.none : Option Jvm.ClassFile.FieldType), Jvm.Cond.code ({ cls := "java/lang/Math", name := "min", desc := "(JJ)J" } : Jvm.MethodName) jdk_29_method_70_code (4 : Nat) (Option.some Jvm.ClassFile.FieldType.long), Jvm.Cond.code ({ cls := "java/lang/Math", name := "min", desc := "(II)I" } : Jvm.MethodName) jdk_29_method_69_code (2 : Nat) (Option.some Jvm.ClassFile.FieldType.int)]
set_option maxRecDepth 65536 in
theorem codes_eq : words1.filter isCode = codes1 := rfl
theorem w_codes : ∀ c ∈ words1.filter isCode, c.before args0 about1 = true := by
  rw [codes_eq]
  intro c hc
  simp only [codes1, List.mem_cons, List.not_mem_nil, or_false] at hc
  rcases hc with rfl | rfl | rfl | rfl | rfl | rfl | rfl | rfl | rfl | rfl | rfl | rfl | rfl
  · exact w_c0
  · exact w_c1
  · exact w_c2
  · exact w_c3
  · exact w_c4
  · exact w_c5
  · exact w_c6
  · exact w_c7
  · exact w_c8
  · exact w_c9
  · exact w_c10
  · exact w_c11
  · exact w_c12
set_option maxRecDepth 65536 in
theorem w_t1 : (words1.take 24).all (fun c => isCode c || c.before args0 about1) = true := by decide +kernel
set_option maxRecDepth 65536 in
theorem w_t2 : ((words1.drop 24).take 24).all (fun c => isCode c || c.before args0 about1) = true := by decide +kernel
set_option maxRecDepth 65536 in
theorem w_t3 : ((words1.drop 24).drop 24).all (fun c => isCode c || c.before args0 about1) = true := by decide +kernel
theorem w_tables : (allAtoms (Jvm.Cond.code x code maxLocals ret :: tables_1)).before args0 about1 = true := by
  rw [allAtoms_all]
  show words1.all (fun c => c.before args0 about1) = true
  refine all_split ?_ w_codes
  rw [← List.take_append_drop 24 words1, List.all_append, w_t1, ← List.take_append_drop 24 (words1.drop 24), List.all_append, w_t2, w_t3]
  rfl
set_option maxRecDepth 65536 in
theorem w_case : (Jvm.Cond.and given_1 narrow_1).before args0 about1 = true := by decide +kernel
theorem w_applies : (headSpec (Jvm.Cond.code x code maxLocals ret :: tables_1) room_1).applies x e0.platform about1 = true :=
  (Spec.applies_iff w_frames).mpr ⟨w_running, w_runnable, w_alone, w_named, w_hears, w_ripe, w_room, w_tables⟩
theorem atStart : AtStart classFile x code maxLocals ret World_1 tables_1 room_1 Calls_1 rest_1 Pre_1 launch0 p0 e0 about1 theMethod args0 below0 :=
  ⟨lists_1, trivial, launch0.admits_env _ _ _, launch0.least_env, fairChoices_fair.cas, fairChoices_fair.clock, w_frames, w_args, w_heap, w_applies, trivial, trivial, w_case⟩
end start1
theorem witness_1 : WitnessClaimed_1 := ⟨start1.p0, start1.e0, start1.about1, start1.theMethod, start1.args0, start1.below0, start1.atStart⟩
end Jvm.Pilot.@@N@@
