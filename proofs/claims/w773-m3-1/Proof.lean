import JvmDerived
import JvmDerived.Pilot.@@N@@Statement
import JvmDerived.Pilot.@@N@@Code
set_option linter.unusedVariables false
set_option linter.unusedSimpArgs false
namespace Jvm.Pilot.@@N@@
open Jvm Jvm.ClassFile Sem Op Lib Jvm.Free Jvm.Stand Jvm.LawKit Jvm.RoadKit Bundle Jvm.Pilot.@@N@@.Jvm.D
/-! THE OWN LAYER (printed by own/gen_layer.py): Wp: from this pc, with these locals, this operand stack and these new objects, the body comes to its return and Q holds of what it returns and of the new objects then -/
def locL : List Value → List Slot
  | [] => []
  | v :: vs => (if v.category = 2 then [.val v, .second] else [.val v]) ++ locL vs
theorem entry_fold (as' : List Value) : ∀ acc : Array Slot, as'.foldl (fun acc v => if v.category = 2 then (acc.push (.val v)).push .second else acc.push (.val v)) acc = acc ++ (locL as').toArray := by
  induction as' with
  | nil => intro acc; simp [locL]
  | cons v vs ih =>
    intro acc
    rw [List.foldl_cons, ih, locL]
    by_cases h : v.category = 2
    · simp [h]
    · simp [h]
theorem entry_loc (m : MethodId) (as' : List Value) (maxL : Nat) : entryFrame m as'.toArray maxL = mkF m 0 (locL as' ++ List.replicate (maxL - (locL as').length) Slot.unset).toArray [] := by
  have e : (as'.toArray.foldl (fun (acc : Array Slot) v => if v.category = 2 then (acc.push (.val v)).push .second else acc.push (.val v)) #[]) = (locL as').toArray := by
    rw [← Array.foldl_toList]
    show as'.foldl _ _ = _
    rw [entry_fold]; simp
  show mkF m 0 (argsToLocals as'.toArray maxL) [] = _
  unfold argsToLocals
  simp only [e]
  congr 1
  simp
abbrev OSig := List (String × String × String)
abbrev ObjB := (String × OSig × List Value) ⊕ ((FieldType × List Int32) ⊕ (List Int64 ⊕ (String × FieldType × List Value)))
/-- an object of the walk: true: made by it (it may be written); false: only read -/
abbrev Obj := Bool × ObjB
abbrev oI (C : String) (sg : OSig) (vs : List Value) : Obj := (true, .inl (C, sg, vs))
abbrev oA (ty : FieldType) (xs : List Int32) : Obj := (true, .inr (.inl (ty, xs)))
abbrev oJ (xs : List Int64) : Obj := (true, .inr (.inr (.inl xs)))
abbrev oR (C : String) (ty : FieldType) (vs : List Value) : Obj := (true, .inr (.inr (.inr (C, ty, vs))))
abbrev fI (C : String) (sg : OSig) (vs : List Value) : Obj := (false, .inl (C, sg, vs))
abbrev fA (ty : FieldType) (xs : List Int32) : Obj := (false, .inr (.inl (ty, xs)))
abbrev OH := List (Addr × Obj)
def Slo (Z : State) (sg : OSig) : Prop := sg.Pairwise fun f g => Jvm.RoadKit.slotOf Z f.1 f.2.1 f.2.2 ≠ Jvm.RoadKit.slotOf Z g.1 g.2.1 g.2.2
def OvrT (Z : State) (cA : ClassId) (C : String) (ty : FieldType) : Prop := ∃ (k : Class) (comp : ClassId), Z.vm.classes[cA]? = some k ∧ k.kind = .array comp ty ∧ Z.vm.findClass C = some comp
def Sat (Z : State) (h : Heap) (a : Addr) : ObjB → Prop
  | .inl (C, sg, vs) => Exa Z h a C ∧ Slo Z sg ∧ ∀ (i : Nat) (f : String × String × String) (v : Value), sg[i]? = some f → vs[i]? = some v → Fld Z h a f.1 f.2.1 f.2.2 v
  | .inr (.inl (ty, xs)) => (ty = .byte ∨ Exa Z h a ("[" ++ ty.toString)) ∧ ∃ c : Cell, Arr Z h a c ty ∧ c.slots = (xs.map Value.int).toArray ∧ ∀ x ∈ xs, fits ty (.int x) = true
  | .inr (.inr (.inl xs)) => Exa Z h a "[J" ∧ ∃ c : Cell, Arr Z h a c .long ∧ c.slots = (xs.map Value.long).toArray
  | .inr (.inr (.inr (C, ty, vs))) => Exa Z h a ("[" ++ ty.toString) ∧ ∃ c : Cell, Arr Z h a c ty ∧ OvrT Z c.cls C ty ∧ c.slots = vs.toArray ∧ ∀ v ∈ vs, v.isRef = true
def Hp (Z : State) (h : Heap) (H : OH) : Prop := Ext Z.heap h ∧ (∀ x ∈ H, (x.2.1 = true → Z.heap.size ≤ x.1) ∧ Sat Z h x.1 x.2.2) ∧ H.Pairwise fun x y => (x.2.1 = true ∨ y.2.1 = true) → x.1 ≠ y.1
theorem Sat.ext {Z : State} {h h' : Heap} {a : Addr} (E : Ext h h') : ∀ {o : ObjB}, Sat Z h a o → Sat Z h' a o
  | .inl (C, sg, vs), ⟨h1, h2, h3⟩ => ⟨h1.ext E, h2, fun i f v q r => (h3 i f v q r).ext E⟩
  | .inr (.inl (ty, xs)), ⟨q, c, h1, h2⟩ => ⟨q.imp id (·.ext E), c, h1.ext E, h2⟩
  | .inr (.inr (.inl xs)), ⟨q, c, h1, h2⟩ => ⟨q.ext E, c, h1.ext E, h2⟩
  | .inr (.inr (.inr (C, ty, vs))), ⟨q, c, h1, h2⟩ => ⟨q.ext E, c, h1.ext E, h2⟩
theorem Sat.other {Z : State} {h h' : Heap} {a b : Addr} {sl : Nat} {v : Value} (W : Wr h h' a sl v) (ne : b ≠ a) : ∀ {o : ObjB}, Sat Z h b o → Sat Z h' b o
  | .inl (C, sg, vs), ⟨h1, h2, h3⟩ => ⟨h1.wr W, h2, fun i f v q r => (h3 i f v q r).other W (Or.inl ne)⟩
  | .inr (.inl (ty, xs)), ⟨q, c, h1, h2⟩ => ⟨q.imp id (·.wr W), c, h1.other W ne, h2⟩
  | .inr (.inr (.inl xs)), ⟨q, c, h1, h2⟩ => ⟨q.wr W, c, h1.other W ne, h2⟩
  | .inr (.inr (.inr (C, ty, vs))), ⟨q, c, h1, h2⟩ => ⟨q.wr W, c, h1.other W ne, h2⟩
theorem Sat.lt {Z : State} {h : Heap} {a : Addr} : ∀ {o : ObjB}, Sat Z h a o → a < h.size
  | .inl (C, sg, vs), ⟨h1, h2, h3⟩ => h1.lt
  | .inr (.inl (ty, xs)), ⟨_, c, h1, _⟩ => h1.lt
  | .inr (.inr (.inl xs)), ⟨q, _⟩ => q.lt
  | .inr (.inr (.inr (C, ty, vs))), ⟨q, _⟩ => q.lt
theorem Hp.nil (Z : State) : Hp Z Z.heap [] := ⟨⟨Nat.le_refl _, fun _ _ q => q⟩, (fun _ q => nomatch q), List.Pairwise.nil⟩
theorem ext_trans {h h1 h2 : Heap} (E : Ext h h1) (E' : Ext h1 h2) : Ext h h2 := ⟨Nat.le_trans E.1 E'.1, fun a c q => E'.2 a c (E.2 a c q)⟩
theorem Hp.ext {Z : State} {h h' : Heap} {H : OH} (P : Hp Z h H) (E : Ext h h') : Hp Z h' H := ⟨ext_trans P.1 E, fun x q => ⟨(P.2.1 x q).1, (P.2.1 x q).2.ext E⟩, P.2.2⟩
theorem Hp.cons {Z : State} {h h' : Heap} {H : OH} (P : Hp Z h H) (E : Ext h h') {fl : Bool} {o : ObjB} (S : Sat Z h' h.size o) : Hp Z h' ((h.size, (fl, o)) :: H) :=
  ⟨ext_trans P.1 E, fun x q => (List.mem_cons.mp q).elim (fun e => by subst e; exact ⟨fun _ => P.1.1, S⟩) fun q => ⟨(P.2.1 x q).1, (P.2.1 x q).2.ext E⟩,
    List.Pairwise.cons (fun y q _ e => absurd ((P.2.1 y q).2.lt) (by rw [← e]; exact Nat.lt_irrefl _)) P.2.2⟩
theorem Hp.at {Z : State} {h : Heap} {H : OH} (P : Hp Z h H) {i : Nat} {x : Addr × Obj} (q : H[i]? = some x) : (x.2.1 = true → Z.heap.size ≤ x.1) ∧ Sat Z h x.1 x.2.2 := P.2.1 x (List.mem_of_getElem? q)
theorem Hp.ne {Z : State} {h : Heap} {H : OH} (P : Hp Z h H) {i j : Nat} {x y : Addr × Obj} (q : H[i]? = some x) (r : H[j]? = some y) (ht : x.2.1 = true ∨ y.2.1 = true) (ij : i ≠ j) : x.1 ≠ y.1 := by
  have hP := List.pairwise_iff_getElem.mp P.2.2
  obtain ⟨hi, rfl⟩ := List.getElem?_eq_some_iff.mp q
  obtain ⟨hj, rfl⟩ := List.getElem?_eq_some_iff.mp r
  rcases Nat.lt_or_gt_of_ne ij with u | u
  · exact hP i j hi hj u ht
  · exact fun e => hP j i hj hi u ht.symm e.symm
theorem Hp.set {Z : State} {h h' : Heap} {H : OH} (P : Hp Z h H) {i : Nat} {a : Addr} {o o' : ObjB} (q : H[i]? = some (a, (true, o))) {sl : Nat} {v : Value} (W : Wr h h' a sl v) (S : Sat Z h' a o') : Hp Z h' (H.set i (a, (true, o'))) := by
  have g : Z.heap.size ≤ a := (P.at q).1 rfl
  obtain ⟨hi, hq⟩ := List.getElem?_eq_some_iff.mp q
  refine ⟨⟨by rw [W.size]; exact P.1.1, fun b c r => ?_⟩, fun x hx => ?_, ?_⟩
  · obtain ⟨c', e1, -, -, -, e5, -⟩ := wr_at W (P.1.2 b c r)
    have : b < Z.heap.size := (Array.getElem?_eq_some_iff.mp r).1
    rw [← e5 (by rintro rfl; exact absurd this (Nat.not_lt.mpr g))]; exact e1
  · obtain ⟨n, hn⟩ := List.getElem?_of_mem hx
    rw [List.getElem?_set] at hn
    split at hn
    · have e0 : (a, (true, o')) = x := by simpa [hi] using hn
      subst e0; exact ⟨fun _ => g, S⟩
    · rename_i ne
      exact ⟨(P.at hn).1, (P.at hn).2.other W (P.ne hn q (Or.inr rfl) (Ne.symm ne))⟩
  · have e : (H.set i (a, (true, o'))).map (fun x => (x.1, x.2.1)) = H.map (fun x => (x.1, x.2.1)) := by
      rw [List.map_set]
      refine List.ext_getElem? fun n => ?_
      rw [List.getElem?_set]
      split
      · rename_i e; subst e
        simp [hi, hq]
      · rfl
    have h1 : (H.map (fun x => (x.1, x.2.1))).Pairwise (fun u v => (u.2 = true ∨ v.2 = true) → u.1 ≠ v.1) := List.pairwise_map.mpr P.2.2
    rw [← e] at h1
    exact List.pairwise_map.mp h1
theorem Hp.pick {Z : State} {h : Heap} {H : OH} (P : Hp Z h H) (is : List Nat) (hn : is.Nodup) : Hp Z h (is.filterMap fun i => H[i]?) := by
  refine ⟨P.1, fun x hx => ?_, ?_⟩
  · obtain ⟨i, -, q⟩ := List.mem_filterMap.mp hx
    exact P.at q
  · refine List.pairwise_filterMap.mpr (hn.imp fun {i j} ne x hx y hy ht => P.ne hx hy ht ne)
/-- what an instruction says: its constructor, its length, the next pc -/
def Dc (bytes : ByteArray) (pc : Nat) (i : Instr) (n pc' : Nat) : Prop := decode bytes pc = .ok (i, n) ∧ pc + n = pc'
def Tg (pc : Nat) (o : Int) (pc' : Nat) : Prop := 0 ≤ (pc : Int) + o ∧ ((pc : Int) + o).toNat = pc'
/-- the walk's mode: none: it loads no String constant; some none: it may; some (some Ts): it has loaded these texts and no others -/
abbrev Md := Option (Option (List String))
def MdOk (b : Md) (Z s : State) (vm0 : Vm) : Prop := ∀ Ts, b = some (some Ts) → s.heap = Z.heap ∧ Jvm.RoadKit.IB Z vm0 Ts
def Wp (b : Md) (l : Launch) (Z : State) (own nm : String) (bytes : ByteArray) (maxL : Nat) (ret : Option FieldType) (R : Room) (H : OH) (k j : Nat) (pc : Nat) (Ls : Array Slot) (st : List Value) (Q : Option Value → OH → Prop) : Prop :=
  ∀ (p : Program) (e : Env) (s : State) (vm0 : Vm) (k0 : Nat) (m : MethodId) (args : Array Value) (below : List Frame) (meth : Method) (c : Code) (T : State) (L : List Loc),
    p.tables.exec = Jvm.exec → Z.Warmed39 vm0 → s.Since vm0 k0 → k0 ≤ T.heap.size → c.code = bytes → c.maxLocals = maxL → vm0.findClass own = some m.cls → meth.name = nm → meth.sig.returnType = ret →
    Stand p l e R (s.setVm vm0) m args below meth c T L k j → Fr Z.heap.size L → Hp Z T.heap H → MdOk b Z s vm0 →
    ∃ (T' : State) (v : Option Value) (L' : List Loc) (k' j' : Nat) (vm1 : Vm) (k1 : Nat) (H' : OH),
      (s.Since vm1 k1 ∧ k1 ≤ T'.heap.size ∧ (b = none → vm1 = vm0)) ∧ Stand p l e R (s.setVm vm1) m args below meth c T' L' k' j' ∧ (k' ≤ R.cells ∧ j' ≤ R.slots ∧ T.heap.size ≤ T'.heap.size) ∧ Fr Z.heap.size L' ∧ Hp Z T'.heap H' ∧ (ret = none → v = none) ∧ Q v H' ∧
      ∀ fs, (∀ (f : JFrame) (acts : List Action), f.method = m → f.locked = none → f.entered = [] → (doReturn e (T'.setTop f) acts v).1 = T'.setFrames fs) → Steps p.tables e below (T.setTop (mkF m pc Ls st)) (T'.setFrames fs)
section Own
variable {b : Md} {l : Launch} {Z : State} {a0 : Array Value} {own nm : String} {bytes : ByteArray} {maxL : Nat} {ret : Option FieldType} {R : Room} {H : OH} {k j pc pc' : Nat} {Ls : Array Slot} {st : List Value} {Q : Option Value → OH → Prop}
theorem Wp.stepH
    (hs : ∀ (p : Program) (e : Env) (s : State) (m : MethodId) (args : Array Value) (below : List Frame) (meth : Method) (c : Code) (T : State) (L : List Loc),
      p.tables.exec = Jvm.exec → Z.Warmed39 s.vm → c.code = bytes → c.maxLocals = maxL → s.vm.findClass own = some m.cls → meth.name = nm → meth.sig.returnType = ret →
      Stand p l e R s m args below meth c T L k j → Fr Z.heap.size L → Hp Z T.heap H →
      ∃ (T' : State) (L' : List Loc) (k' j' : Nat) (H' : OH) (pc' : Nat) (Ls' : Array Slot) (st' : List Value), Stand p l e R s m args below meth c T' L' k' j' ∧ T.heap.size ≤ T'.heap.size ∧ Fr Z.heap.size L' ∧ Hp Z T'.heap H' ∧ Wp b l Z own nm bytes maxL ret R H' k' j' pc' Ls' st' Q ∧
        ∀ target, Steps p.tables e below (T'.setTop (mkF m pc' Ls' st')) target → Steps p.tables e below (T.setTop (mkF m pc Ls st)) target) :
    Wp b l Z own nm bytes maxL ret R H k j pc Ls st Q := by
  intro p e s vm0 k0 m args below meth c T L hx hZ hS hk hby hml hown hnm hret X N hH hB
  obtain ⟨T', L', k', j', H', pc', Ls', st', X', hsz, N', hH', hr, stp⟩ := hs p e (s.setVm vm0) m args below meth c T L hx hZ hby hml hown hnm hret X N hH
  obtain ⟨T2, v, L2, k2, j2, vm1, k1, H2, r1, r2, ⟨r3, r4, r5⟩, r6, r7, r8, r9, r10⟩ := hr p e s vm0 k0 m args below meth c T' L' hx hZ hS (Nat.le_trans hk hsz) hby hml hown hnm hret X' N' hH' hB
  exact ⟨T2, v, L2, k2, j2, vm1, k1, H2, r1, r2, ⟨r3, r4, Nat.le_trans hsz r5⟩, r6, r7, r8, r9, fun fs hl => stp _ (r10 fs hl)⟩
theorem Wp.step {Ls' : Array Slot} {st' : List Value}
    (hs : ∀ (p : Program) (e : Env) (s : State) (m : MethodId) (args : Array Value) (below : List Frame) (meth : Method) (c : Code) (T : State) (L : List Loc),
      p.tables.exec = Jvm.exec → Z.Warmed39 s.vm → c.code = bytes → s.vm.findClass own = some m.cls → Stand p l e R s m args below meth c T L k j → Hp Z T.heap H →
        ∀ target, Steps p.tables e below (T.setTop (mkF m pc' Ls' st')) target → Steps p.tables e below (T.setTop (mkF m pc Ls st)) target)
    (hr : Wp b l Z own nm bytes maxL ret R H k j pc' Ls' st' Q) : Wp b l Z own nm bytes maxL ret R H k j pc Ls st Q :=
  Wp.stepH fun p e s m args below meth c T L hx hZ hby hml hown hnm hret X N hH => ⟨T, L, k, j, H, pc', Ls', st', X, Nat.le_refl _, N, hH, hr, hs p e s m args below meth c T L hx hZ hby hown X hH⟩
theorem Wp.know {P : Prop} (hp : ∀ h, Hp Z h H → P) (hr : P → Wp b l Z own nm bytes maxL ret R H k j pc Ls st Q) : Wp b l Z own nm bytes maxL ret R H k j pc Ls st Q :=
  fun p e s vm0 k0 m args below meth c T L hx hZ hS hk hby hml hown hnm hret X N hH hB => hr (hp _ hH) p e s vm0 k0 m args below meth c T L hx hZ hS hk hby hml hown hnm hret X N hH hB
theorem Wp.pick (is : List Nat) (hn : is.Nodup) (hr : Wp b l Z own nm bytes maxL ret R (is.filterMap fun i => H[i]?) k j pc Ls st Q) : Wp b l Z own nm bytes maxL ret R H k j pc Ls st Q :=
  Wp.stepH fun p e s m args below meth c T L hx hZ hby hml hown hnm hret X N hH => ⟨T, L, k, j, _, pc, Ls, st, X, Nat.le_refl _, N, hH.pick is hn, hr, fun _ q => q⟩
theorem Wp.more {k' j' : Nat} (hk : k ≤ k') (hj : j ≤ j') (hr : Wp b l Z own nm bytes maxL ret R H k' j' pc Ls st Q) : Wp b l Z own nm bytes maxL ret R H k j pc Ls st Q :=
  Wp.stepH fun p e s m args below meth c T L hx hZ hby hml hown hnm hret X N hH => ⟨T, L, k', j', H, pc, Ls, st, X.more hk hj, Nat.le_refl _, N, hH, hr, fun _ q => q⟩
theorem Wp.mono {Q' : Option Value → OH → Prop} (hr : Wp b l Z own nm bytes maxL ret R H k j pc Ls st Q') (hq : ∀ v H', Q' v H' → Q v H') : Wp b l Z own nm bytes maxL ret R H k j pc Ls st Q :=
  fun p e s vm0 k0 m args below meth c T L hx hZ hS hk hby hml hown hnm hret X N hH hB => by
    obtain ⟨T2, v, L2, k2, j2, vm1, k1, H2, r1, r2, r3, r6, r7, r8, r9, r10⟩ := hr p e s vm0 k0 m args below meth c T L hx hZ hS hk hby hml hown hnm hret X N hH hB
    exact ⟨T2, v, L2, k2, j2, vm1, k1, H2, r1, r2, r3, r6, r7, r8, hq _ _ r9, r10⟩
theorem wp_iadd {x y : Int32} (hd : Dc bytes pc (.iadd) 1 pc')  (hr : Wp b l Z own nm bytes maxL ret R H k j pc' Ls (.int (x + y) :: st) Q) : Wp b l Z own nm bytes maxL ret R H k j pc Ls (.int y :: .int x :: st) Q := by
  obtain ⟨hd, rfl⟩ := hd
  exact Wp.step (fun p e s m args below meth c T L hx hZ hby hown X hH target ht => XS.iadd X.here hx rfl (hb hby hd) rfl ht) hr
theorem wp_isub {x y : Int32} (hd : Dc bytes pc (.isub) 1 pc')  (hr : Wp b l Z own nm bytes maxL ret R H k j pc' Ls (.int (x - y) :: st) Q) : Wp b l Z own nm bytes maxL ret R H k j pc Ls (.int y :: .int x :: st) Q := by
  obtain ⟨hd, rfl⟩ := hd
  exact Wp.step (fun p e s m args below meth c T L hx hZ hby hown X hH target ht => XS.isub X.here hx rfl (hb hby hd) rfl ht) hr
theorem wp_iand {x y : Int32} (hd : Dc bytes pc (.iand) 1 pc')  (hr : Wp b l Z own nm bytes maxL ret R H k j pc' Ls (.int (x &&& y) :: st) Q) : Wp b l Z own nm bytes maxL ret R H k j pc Ls (.int y :: .int x :: st) Q := by
  obtain ⟨hd, rfl⟩ := hd
  exact Wp.step (fun p e s m args below meth c T L hx hZ hby hown X hH target ht => XS.iand X.here hx rfl (hb hby hd) rfl ht) hr
theorem wp_imul {x y : Int32} (hd : Dc bytes pc (.imul) 1 pc')  (hr : Wp b l Z own nm bytes maxL ret R H k j pc' Ls (.int (x * y) :: st) Q) : Wp b l Z own nm bytes maxL ret R H k j pc Ls (.int y :: .int x :: st) Q := by
  obtain ⟨hd, rfl⟩ := hd
  exact Wp.step (fun p e s m args below meth c T L hx hZ hby hown X hH target ht => XS.imul X.here hx rfl (hb hby hd) rfl ht) hr
theorem wp_ixor {x y : Int32} (hd : Dc bytes pc (.ixor) 1 pc')  (hr : Wp b l Z own nm bytes maxL ret R H k j pc' Ls (.int (x ^^^ y) :: st) Q) : Wp b l Z own nm bytes maxL ret R H k j pc Ls (.int y :: .int x :: st) Q := by
  obtain ⟨hd, rfl⟩ := hd
  exact Wp.step (fun p e s m args below meth c T L hx hZ hby hown X hH target ht => XT.ixor X.here hx rfl (hb hby hd) rfl ht) hr
theorem wp_ior {x y : Int32} (hd : Dc bytes pc (.ior) 1 pc')  (hr : Wp b l Z own nm bytes maxL ret R H k j pc' Ls (.int (x ||| y) :: st) Q) : Wp b l Z own nm bytes maxL ret R H k j pc Ls (.int y :: .int x :: st) Q := by
  obtain ⟨hd, rfl⟩ := hd
  exact Wp.step (fun p e s m args below meth c T L hx hZ hby hown X hH target ht => XT.ior X.here hx rfl (hb hby hd) rfl ht) hr
theorem wp_ishl {x y : Int32} (hd : Dc bytes pc (.ishl) 1 pc')  (hr : Wp b l Z own nm bytes maxL ret R H k j pc' Ls (.int (x <<< (y &&& 31)) :: st) Q) : Wp b l Z own nm bytes maxL ret R H k j pc Ls (.int y :: .int x :: st) Q := by
  obtain ⟨hd, rfl⟩ := hd
  exact Wp.step (fun p e s m args below meth c T L hx hZ hby hown X hH target ht => XT.ishl X.here hx rfl (hb hby hd) rfl ht) hr
theorem wp_ishr {x y : Int32} (hd : Dc bytes pc (.ishr) 1 pc')  (hr : Wp b l Z own nm bytes maxL ret R H k j pc' Ls (.int (x >>> (y &&& 31)) :: st) Q) : Wp b l Z own nm bytes maxL ret R H k j pc Ls (.int y :: .int x :: st) Q := by
  obtain ⟨hd, rfl⟩ := hd
  exact Wp.step (fun p e s m args below meth c T L hx hZ hby hown X hH target ht => XT.ishr X.here hx rfl (hb hby hd) rfl ht) hr
theorem wp_iushr {x y : Int32} (hd : Dc bytes pc (.iushr) 1 pc')  (hr : Wp b l Z own nm bytes maxL ret R H k j pc' Ls (.int (XT.ushr x y) :: st) Q) : Wp b l Z own nm bytes maxL ret R H k j pc Ls (.int y :: .int x :: st) Q := by
  obtain ⟨hd, rfl⟩ := hd
  exact Wp.step (fun p e s m args below meth c T L hx hZ hby hown X hH target ht => XT.iushr X.here hx rfl (hb hby hd) rfl ht) hr
theorem wp_idiv {x y : Int32} (hd : Dc bytes pc (.idiv) 1 pc') (hy : y ≠ 0) (hr : Wp b l Z own nm bytes maxL ret R H k j pc' Ls (.int (x / y) :: st) Q) : Wp b l Z own nm bytes maxL ret R H k j pc Ls (.int y :: .int x :: st) Q := by
  obtain ⟨hd, rfl⟩ := hd
  exact Wp.step (fun p e s m args below meth c T L hx hZ hby hown X hH target ht => XS.idiv X.here hx rfl (hb hby hd) rfl hy ht) hr
theorem wp_irem {x y : Int32} (hd : Dc bytes pc (.irem) 1 pc') (hy : y ≠ 0) (hr : Wp b l Z own nm bytes maxL ret R H k j pc' Ls (.int (x % y) :: st) Q) : Wp b l Z own nm bytes maxL ret R H k j pc Ls (.int y :: .int x :: st) Q := by
  obtain ⟨hd, rfl⟩ := hd
  exact Wp.step (fun p e s m args below meth c T L hx hZ hby hown X hH target ht => iremM X hx rfl (hb hby hd) rfl hy ht) hr
theorem wp_ineg {x : Int32} (hd : Dc bytes pc (.ineg) 1 pc')  (hr : Wp b l Z own nm bytes maxL ret R H k j pc' Ls (.int (-x) :: st) Q) : Wp b l Z own nm bytes maxL ret R H k j pc Ls (.int x :: st) Q := by
  obtain ⟨hd, rfl⟩ := hd
  exact Wp.step (fun p e s m args below meth c T L hx hZ hby hown X hH target ht => XS.ineg X.here hx rfl (hb hby hd) rfl ht) hr
theorem wp_ladd {x y : Int64} (hd : Dc bytes pc (.ladd) 1 pc')  (hr : Wp b l Z own nm bytes maxL ret R H k j pc' Ls (.long (x + y) :: st) Q) : Wp b l Z own nm bytes maxL ret R H k j pc Ls (.long y :: .long x :: st) Q := by
  obtain ⟨hd, rfl⟩ := hd
  exact Wp.step (fun p e s m args below meth c T L hx hZ hby hown X hH target ht => XT.ladd X.here hx rfl (hb hby hd) rfl ht) hr
theorem wp_lsub {x y : Int64} (hd : Dc bytes pc (.lsub) 1 pc')  (hr : Wp b l Z own nm bytes maxL ret R H k j pc' Ls (.long (x - y) :: st) Q) : Wp b l Z own nm bytes maxL ret R H k j pc Ls (.long y :: .long x :: st) Q := by
  obtain ⟨hd, rfl⟩ := hd
  exact Wp.step (fun p e s m args below meth c T L hx hZ hby hown X hH target ht => XT.lsub X.here hx rfl (hb hby hd) rfl ht) hr
theorem wp_lmul {x y : Int64} (hd : Dc bytes pc (.lmul) 1 pc')  (hr : Wp b l Z own nm bytes maxL ret R H k j pc' Ls (.long (x * y) :: st) Q) : Wp b l Z own nm bytes maxL ret R H k j pc Ls (.long y :: .long x :: st) Q := by
  obtain ⟨hd, rfl⟩ := hd
  exact Wp.step (fun p e s m args below meth c T L hx hZ hby hown X hH target ht => XT.lmul X.here hx rfl (hb hby hd) rfl ht) hr
theorem wp_land {x y : Int64} (hd : Dc bytes pc (.land) 1 pc')  (hr : Wp b l Z own nm bytes maxL ret R H k j pc' Ls (.long (x &&& y) :: st) Q) : Wp b l Z own nm bytes maxL ret R H k j pc Ls (.long y :: .long x :: st) Q := by
  obtain ⟨hd, rfl⟩ := hd
  exact Wp.step (fun p e s m args below meth c T L hx hZ hby hown X hH target ht => XT.land X.here hx rfl (hb hby hd) rfl ht) hr
theorem wp_lor {x y : Int64} (hd : Dc bytes pc (.lor) 1 pc')  (hr : Wp b l Z own nm bytes maxL ret R H k j pc' Ls (.long (x ||| y) :: st) Q) : Wp b l Z own nm bytes maxL ret R H k j pc Ls (.long y :: .long x :: st) Q := by
  obtain ⟨hd, rfl⟩ := hd
  exact Wp.step (fun p e s m args below meth c T L hx hZ hby hown X hH target ht => XT.lor X.here hx rfl (hb hby hd) rfl ht) hr
theorem wp_lxor {x y : Int64} (hd : Dc bytes pc (.lxor) 1 pc')  (hr : Wp b l Z own nm bytes maxL ret R H k j pc' Ls (.long (x ^^^ y) :: st) Q) : Wp b l Z own nm bytes maxL ret R H k j pc Ls (.long y :: .long x :: st) Q := by
  obtain ⟨hd, rfl⟩ := hd
  exact Wp.step (fun p e s m args below meth c T L hx hZ hby hown X hH target ht => XT.lxor X.here hx rfl (hb hby hd) rfl ht) hr
theorem wp_lshl {x : Int64} {y : Int32} (hd : Dc bytes pc (.lshl) 1 pc')  (hr : Wp b l Z own nm bytes maxL ret R H k j pc' Ls (.long (x <<< (y.toInt64 &&& 63)) :: st) Q) : Wp b l Z own nm bytes maxL ret R H k j pc Ls (.int y :: .long x :: st) Q := by
  obtain ⟨hd, rfl⟩ := hd
  exact Wp.step (fun p e s m args below meth c T L hx hZ hby hown X hH target ht => XT.lshl X.here hx rfl (hb hby hd) rfl ht) hr
theorem wp_lshr {x : Int64} {y : Int32} (hd : Dc bytes pc (.lshr) 1 pc')  (hr : Wp b l Z own nm bytes maxL ret R H k j pc' Ls (.long (x >>> (y.toInt64 &&& 63)) :: st) Q) : Wp b l Z own nm bytes maxL ret R H k j pc Ls (.int y :: .long x :: st) Q := by
  obtain ⟨hd, rfl⟩ := hd
  exact Wp.step (fun p e s m args below meth c T L hx hZ hby hown X hH target ht => XT.lshr X.here hx rfl (hb hby hd) rfl ht) hr
theorem wp_lushr {x : Int64} {y : Int32} (hd : Dc bytes pc (.lushr) 1 pc')  (hr : Wp b l Z own nm bytes maxL ret R H k j pc' Ls (.long (XT.ushrL x y) :: st) Q) : Wp b l Z own nm bytes maxL ret R H k j pc Ls (.int y :: .long x :: st) Q := by
  obtain ⟨hd, rfl⟩ := hd
  exact Wp.step (fun p e s m args below meth c T L hx hZ hby hown X hH target ht => XT.lushr X.here hx rfl (hb hby hd) rfl ht) hr
theorem wp_ldiv {x y : Int64} (hd : Dc bytes pc (.ldiv) 1 pc') (hy : y ≠ 0) (hr : Wp b l Z own nm bytes maxL ret R H k j pc' Ls (.long (x / y) :: st) Q) : Wp b l Z own nm bytes maxL ret R H k j pc Ls (.long y :: .long x :: st) Q := by
  obtain ⟨hd, rfl⟩ := hd
  exact Wp.step (fun p e s m args below meth c T L hx hZ hby hown X hH target ht => XT.ldiv X.here hx rfl (hb hby hd) rfl hy ht) hr
theorem wp_lrem {x y : Int64} (hd : Dc bytes pc (.lrem) 1 pc') (hy : y ≠ 0) (hr : Wp b l Z own nm bytes maxL ret R H k j pc' Ls (.long (x - (x / y) * y) :: st) Q) : Wp b l Z own nm bytes maxL ret R H k j pc Ls (.long y :: .long x :: st) Q := by
  obtain ⟨hd, rfl⟩ := hd
  exact Wp.step (fun p e s m args below meth c T L hx hZ hby hown X hH target ht => XT.lrem X.here hx rfl (hb hby hd) rfl hy ht) hr
theorem wp_lneg {x : Int64} (hd : Dc bytes pc (.lneg) 1 pc')  (hr : Wp b l Z own nm bytes maxL ret R H k j pc' Ls (.long (-x) :: st) Q) : Wp b l Z own nm bytes maxL ret R H k j pc Ls (.long x :: st) Q := by
  obtain ⟨hd, rfl⟩ := hd
  exact Wp.step (fun p e s m args below meth c T L hx hZ hby hown X hH target ht => XT.lneg X.here hx rfl (hb hby hd) rfl ht) hr
theorem wp_i2l {x : Int32} (hd : Dc bytes pc (.i2l) 1 pc')  (hr : Wp b l Z own nm bytes maxL ret R H k j pc' Ls (.long x.toInt64 :: st) Q) : Wp b l Z own nm bytes maxL ret R H k j pc Ls (.int x :: st) Q := by
  obtain ⟨hd, rfl⟩ := hd
  exact Wp.step (fun p e s m args below meth c T L hx hZ hby hown X hH target ht => XT.i2l X.here hx rfl (hb hby hd) rfl ht) hr
theorem wp_l2i {x : Int64} (hd : Dc bytes pc (.l2i) 1 pc')  (hr : Wp b l Z own nm bytes maxL ret R H k j pc' Ls (.int x.toInt32 :: st) Q) : Wp b l Z own nm bytes maxL ret R H k j pc Ls (.long x :: st) Q := by
  obtain ⟨hd, rfl⟩ := hd
  exact Wp.step (fun p e s m args below meth c T L hx hZ hby hown X hH target ht => XT.l2i X.here hx rfl (hb hby hd) rfl ht) hr
theorem wp_i2b {x : Int32} (hd : Dc bytes pc (.i2b) 1 pc')  (hr : Wp b l Z own nm bytes maxL ret R H k j pc' Ls (.int x.toInt8.toInt32 :: st) Q) : Wp b l Z own nm bytes maxL ret R H k j pc Ls (.int x :: st) Q := by
  obtain ⟨hd, rfl⟩ := hd
  exact Wp.step (fun p e s m args below meth c T L hx hZ hby hown X hH target ht => XT.i2b X.here hx rfl (hb hby hd) rfl ht) hr
theorem wp_i2c {x : Int32} (hd : Dc bytes pc (.i2c) 1 pc')  (hr : Wp b l Z own nm bytes maxL ret R H k j pc' Ls (.int x.toUInt32.toUInt16.toUInt32.toInt32 :: st) Q) : Wp b l Z own nm bytes maxL ret R H k j pc Ls (.int x :: st) Q := by
  obtain ⟨hd, rfl⟩ := hd
  exact Wp.step (fun p e s m args below meth c T L hx hZ hby hown X hH target ht => XT.i2c X.here hx rfl (hb hby hd) rfl ht) hr
theorem wp_i2s {x : Int32} (hd : Dc bytes pc (.i2s) 1 pc')  (hr : Wp b l Z own nm bytes maxL ret R H k j pc' Ls (.int x.toInt16.toInt32 :: st) Q) : Wp b l Z own nm bytes maxL ret R H k j pc Ls (.int x :: st) Q := by
  obtain ⟨hd, rfl⟩ := hd
  exact Wp.step (fun p e s m args below meth c T L hx hZ hby hown X hH target ht => XT.i2s X.here hx rfl (hb hby hd) rfl ht) hr
theorem wp_lcmp {x y : Int64} (hd : Dc bytes pc (.lcmp) 1 pc')  (hr : Wp b l Z own nm bytes maxL ret R H k j pc' Ls (.int (XT.cmpL x y) :: st) Q) : Wp b l Z own nm bytes maxL ret R H k j pc Ls (.long y :: .long x :: st) Q := by
  obtain ⟨hd, rfl⟩ := hd
  exact Wp.step (fun p e s m args below meth c T L hx hZ hby hown X hH target ht => XT.lcmp X.here hx rfl (hb hby hd) rfl ht) hr
theorem wp_iload_n {n : Fin 4} {v : Int32} (hd : Dc bytes pc (.iload_n n) 1 pc') (hl : Ls[n.val]? = some (.val (.int v))) (hr : Wp b l Z own nm bytes maxL ret R H k j pc' Ls (.int v :: st) Q) : Wp b l Z own nm bytes maxL ret R H k j pc Ls st Q := by
  obtain ⟨hd, rfl⟩ := hd
  exact Wp.step (fun p e s m args below meth c T L hx hZ hby hown X hH target ht => XS.iloadN X.here hx rfl (hb hby hd) hl ht) hr
theorem wp_iload {n : Nat} {v : Int32} (hd : Dc bytes pc (.iload n) 2 pc') (hl : Ls[n]? = some (.val (.int v))) (hr : Wp b l Z own nm bytes maxL ret R H k j pc' Ls (.int v :: st) Q) : Wp b l Z own nm bytes maxL ret R H k j pc Ls st Q := by
  obtain ⟨hd, rfl⟩ := hd
  exact Wp.step (fun p e s m args below meth c T L hx hZ hby hown X hH target ht => XS.iload X.here hx rfl (hb hby hd) hl ht) hr
theorem wp_lload_n {n : Fin 4} {v : Int64} (hd : Dc bytes pc (.lload_n n) 1 pc') (hl : Ls[n.val]? = some (.val (.long v))) (hr : Wp b l Z own nm bytes maxL ret R H k j pc' Ls (.long v :: st) Q) : Wp b l Z own nm bytes maxL ret R H k j pc Ls st Q := by
  obtain ⟨hd, rfl⟩ := hd
  exact Wp.step (fun p e s m args below meth c T L hx hZ hby hown X hH target ht => XT.lloadN X.here hx rfl (hb hby hd) hl ht) hr
theorem wp_lload {n : Nat} {v : Int64} (hd : Dc bytes pc (.lload n) 2 pc') (hl : Ls[n]? = some (.val (.long v))) (hr : Wp b l Z own nm bytes maxL ret R H k j pc' Ls (.long v :: st) Q) : Wp b l Z own nm bytes maxL ret R H k j pc Ls st Q := by
  obtain ⟨hd, rfl⟩ := hd
  exact Wp.step (fun p e s m args below meth c T L hx hZ hby hown X hH target ht => XT.lload X.here hx rfl (hb hby hd) hl ht) hr
theorem wp_aload_n {n : Fin 4} {v : Value} (hd : Dc bytes pc (.aload_n n) 1 pc') (hl : Ls[n.val]? = some (.val v)) (hv : v.isRef = true) (hr : Wp b l Z own nm bytes maxL ret R H k j pc' Ls (v :: st) Q) : Wp b l Z own nm bytes maxL ret R H k j pc Ls st Q := by
  obtain ⟨hd, rfl⟩ := hd
  exact Wp.step (fun p e s m args below meth c T L hx hZ hby hown X hH target ht => XS.aloadN X.here hx rfl (hb hby hd) hl hv ht) hr
theorem wp_aload {n : Nat} {v : Value} (hd : Dc bytes pc (.aload n) 2 pc') (hl : Ls[n]? = some (.val v)) (hv : v.isRef = true) (hr : Wp b l Z own nm bytes maxL ret R H k j pc' Ls (v :: st) Q) : Wp b l Z own nm bytes maxL ret R H k j pc Ls st Q := by
  obtain ⟨hd, rfl⟩ := hd
  exact Wp.step (fun p e s m args below meth c T L hx hZ hby hown X hH target ht => XS.aload X.here hx rfl (hb hby hd) hl hv ht) hr
theorem wp_istore_n {n : Fin 4} {x : Int32} (Ls' : Array Slot) (hd : Dc bytes pc (.istore_n n) 1 pc') (hl : storeLocals Ls n.val (.int x) = some Ls') (hr : Wp b l Z own nm bytes maxL ret R H k j pc' Ls' st Q) : Wp b l Z own nm bytes maxL ret R H k j pc Ls (.int x :: st) Q := by
  obtain ⟨hd, rfl⟩ := hd
  exact Wp.step (fun p e s m args below meth c T L hx hZ hby hown X hH target ht => XS.istoreN X.here hx rfl (hb hby hd) rfl hl ht) hr
theorem wp_istore {n : Nat} {x : Int32} (Ls' : Array Slot) (hd : Dc bytes pc (.istore n) 2 pc') (hl : storeLocals Ls n (.int x) = some Ls') (hr : Wp b l Z own nm bytes maxL ret R H k j pc' Ls' st Q) : Wp b l Z own nm bytes maxL ret R H k j pc Ls (.int x :: st) Q := by
  obtain ⟨hd, rfl⟩ := hd
  exact Wp.step (fun p e s m args below meth c T L hx hZ hby hown X hH target ht => XS.istore X.here hx rfl (hb hby hd) rfl hl ht) hr
theorem wp_lstore_n {n : Fin 4} {x : Int64} (Ls' : Array Slot) (hd : Dc bytes pc (.lstore_n n) 1 pc') (hl : storeLocals Ls n.val (.long x) = some Ls') (hr : Wp b l Z own nm bytes maxL ret R H k j pc' Ls' st Q) : Wp b l Z own nm bytes maxL ret R H k j pc Ls (.long x :: st) Q := by
  obtain ⟨hd, rfl⟩ := hd
  exact Wp.step (fun p e s m args below meth c T L hx hZ hby hown X hH target ht => XT.lstoreN X.here hx rfl (hb hby hd) rfl hl ht) hr
theorem wp_lstore {n : Nat} {x : Int64} (Ls' : Array Slot) (hd : Dc bytes pc (.lstore n) 2 pc') (hl : storeLocals Ls n (.long x) = some Ls') (hr : Wp b l Z own nm bytes maxL ret R H k j pc' Ls' st Q) : Wp b l Z own nm bytes maxL ret R H k j pc Ls (.long x :: st) Q := by
  obtain ⟨hd, rfl⟩ := hd
  exact Wp.step (fun p e s m args below meth c T L hx hZ hby hown X hH target ht => XT.lstore X.here hx rfl (hb hby hd) rfl hl ht) hr
theorem wp_astore_n {n : Fin 4} {x : Value} (Ls' : Array Slot) (hd : Dc bytes pc (.astore_n n) 1 pc') (hv : x.isRef = true) (hl : storeLocals Ls n.val x = some Ls') (hr : Wp b l Z own nm bytes maxL ret R H k j pc' Ls' st Q) : Wp b l Z own nm bytes maxL ret R H k j pc Ls (x :: st) Q := by
  obtain ⟨hd, rfl⟩ := hd
  exact Wp.step (fun p e s m args below meth c T L hx hZ hby hown X hH target ht => XS.astoreN X.here hx rfl (hb hby hd) rfl hv hl ht) hr
theorem wp_astore {n : Nat} {x : Value} (Ls' : Array Slot) (hd : Dc bytes pc (.astore n) 2 pc') (hv : x.isRef = true) (hl : storeLocals Ls n x = some Ls') (hr : Wp b l Z own nm bytes maxL ret R H k j pc' Ls' st Q) : Wp b l Z own nm bytes maxL ret R H k j pc Ls (x :: st) Q := by
  obtain ⟨hd, rfl⟩ := hd
  exact Wp.step (fun p e s m args below meth c T L hx hZ hby hown X hH target ht => XS.astore X.here hx rfl (hb hby hd) rfl hv hl ht) hr
theorem wp_iinc {n : Nat} {c : Int} {x : Int32} (v : Int32) (Ls' : Array Slot) (hd : Dc bytes pc (.iinc n c) 3 pc') (hv : Int32.ofInt c = v) (hl : Ls[n]? = some (.val (.int x))) (hl' : storeLocals Ls n (.int (x + v)) = some Ls') (hr : Wp b l Z own nm bytes maxL ret R H k j pc' Ls' st Q) : Wp b l Z own nm bytes maxL ret R H k j pc Ls st Q := by
  obtain ⟨hd, rfl⟩ := hd
  exact Wp.step (fun p e s m args below meth c T L hx hZ hby hown X hH target ht => XT.iincV X.here hx rfl v (hb hby hd) hv hl hl' ht) hr
theorem wp_iconst {i : Int} (v : Int32) (hd : Dc bytes pc (.iconst i) 1 pc') (hv : Int32.ofInt i = v) (hr : Wp b l Z own nm bytes maxL ret R H k j pc' Ls (.int v :: st) Q) : Wp b l Z own nm bytes maxL ret R H k j pc Ls st Q := by
  obtain ⟨hd, rfl⟩ := hd
  exact Wp.step (fun p e s m args below meth c T L hx hZ hby hown X hH target ht => XT.iconstV X.here hx rfl v (hb hby hd) hv ht) hr
theorem wp_bipush {i : Int} (v : Int32) (hd : Dc bytes pc (.bipush i) 2 pc') (hv : (Int8.ofInt i).toInt32 = v) (hr : Wp b l Z own nm bytes maxL ret R H k j pc' Ls (.int v :: st) Q) : Wp b l Z own nm bytes maxL ret R H k j pc Ls st Q := by
  obtain ⟨hd, rfl⟩ := hd
  exact Wp.step (fun p e s m args below meth c T L hx hZ hby hown X hH target ht => XT.bipushV X.here hx rfl v (hb hby hd) hv ht) hr
theorem wp_sipush {i : Int} (v : Int32) (hd : Dc bytes pc (.sipush i) 3 pc') (hv : (Int16.ofInt i).toInt32 = v) (hr : Wp b l Z own nm bytes maxL ret R H k j pc' Ls (.int v :: st) Q) : Wp b l Z own nm bytes maxL ret R H k j pc Ls st Q := by
  obtain ⟨hd, rfl⟩ := hd
  exact Wp.step (fun p e s m args below meth c T L hx hZ hby hown X hH target ht => XT.sipushV X.here hx rfl v (hb hby hd) hv ht) hr
theorem wp_lconst {i : Fin 2} (v : Int64) (hd : Dc bytes pc (.lconst i) 1 pc') (hv : Int64.ofNat i = v) (hr : Wp b l Z own nm bytes maxL ret R H k j pc' Ls (.long v :: st) Q) : Wp b l Z own nm bytes maxL ret R H k j pc Ls st Q := by
  obtain ⟨hd, rfl⟩ := hd
  exact Wp.step (fun p e s m args below meth c T L hx hZ hby hown X hH target ht => XT.lconstV X.here hx rfl v (hb hby hd) hv ht) hr
theorem wp_aconst_null  (hd : Dc bytes pc (.aconst_null) 1 pc')  (hr : Wp b l Z own nm bytes maxL ret R H k j pc' Ls (.null :: st) Q) : Wp b l Z own nm bytes maxL ret R H k j pc Ls st Q := by
  obtain ⟨hd, rfl⟩ := hd
  exact Wp.step (fun p e s m args below meth c T L hx hZ hby hown X hH target ht => XS.aconstNull X.here hx rfl (hb hby hd)  ht) hr
theorem wp_dup {x : Value} (hd : Dc bytes pc (.dup) 1 pc') (hc : x.category = 1) (hr : Wp b l Z own nm bytes maxL ret R H k j pc' Ls (x :: x :: st) Q) : Wp b l Z own nm bytes maxL ret R H k j pc Ls (x :: st) Q := by
  obtain ⟨hd, rfl⟩ := hd
  exact Wp.step (fun p e s m args below meth c T L hx hZ hby hown X hH target ht => XS.dup X.here hx rfl (hb hby hd) rfl hc ht) hr
theorem wp_pop {x : Value} (hd : Dc bytes pc (.pop) 1 pc') (hc : x.category = 1) (hr : Wp b l Z own nm bytes maxL ret R H k j pc' Ls st Q) : Wp b l Z own nm bytes maxL ret R H k j pc Ls (x :: st) Q := by
  obtain ⟨hd, rfl⟩ := hd
  exact Wp.step (fun p e s m args below meth c T L hx hZ hby hown X hH target ht => XT.pop X.here hx rfl (hb hby hd) rfl hc ht) hr
theorem wp_dup_x1 {x y : Value} (hd : Dc bytes pc (.dup_x1) 1 pc') (hc : x.category = 1) (hc' : y.category = 1) (hr : Wp b l Z own nm bytes maxL ret R H k j pc' Ls (x :: y :: x :: st) Q) : Wp b l Z own nm bytes maxL ret R H k j pc Ls (x :: y :: st) Q := by
  obtain ⟨hd, rfl⟩ := hd
  exact Wp.step (fun p e s m args below meth c T L hx hZ hby hown X hH target ht => XT.dupX1 X.here hx rfl (hb hby hd) rfl hc hc' ht) hr
theorem wp_dup2 {x y : Value} (hd : Dc bytes pc (.dup2) 1 pc') (hc : x.category = 1) (hc' : y.category = 1) (hr : Wp b l Z own nm bytes maxL ret R H k j pc' Ls (x :: y :: x :: y :: st) Q) : Wp b l Z own nm bytes maxL ret R H k j pc Ls (x :: y :: st) Q := by
  obtain ⟨hd, rfl⟩ := hd
  exact Wp.step (fun p e s m args below meth c T L hx hZ hby hown X hH target ht => XT.dup2 X.here hx rfl (hb hby hd) rfl hc hc' ht) hr
theorem wp_dup2L {x : Int64} (hd : Dc bytes pc (.dup2) 1 pc')  (hr : Wp b l Z own nm bytes maxL ret R H k j pc' Ls (.long x :: .long x :: st) Q) : Wp b l Z own nm bytes maxL ret R H k j pc Ls (.long x :: st) Q := by
  obtain ⟨hd, rfl⟩ := hd
  exact Wp.step (fun p e s m args below meth c T L hx hZ hby hown X hH target ht => XT.dup2L X.here hx rfl (hb hby hd) rfl ht) hr
theorem wp_ldcI {i : Nat} {v : Int32} (hd : Dc bytes pc (.ldc i) 2 pc') (w : (Cond.constant own i v).before a0 Z = true) (hr : Wp b l Z own nm bytes maxL ret R H k j pc' Ls (.int v :: st) Q) : Wp b l Z own nm bytes maxL ret R H k j pc Ls st Q := by
  obtain ⟨hd, rfl⟩ := hd
  exact Wp.step (fun p e s m args below meth c T L hx hZ hby hown X hH target ht => Jvm.Stand.ldcI X hx hown (mvT hZ w) rfl (hb hby hd) ht) hr
theorem wp_ldcWI {i : Nat} {v : Int32} (hd : Dc bytes pc (.ldc_w i) 3 pc') (w : (Cond.constant own i v).before a0 Z = true) (hr : Wp b l Z own nm bytes maxL ret R H k j pc' Ls (.int v :: st) Q) : Wp b l Z own nm bytes maxL ret R H k j pc Ls st Q := by
  obtain ⟨hd, rfl⟩ := hd
  exact Wp.step (fun p e s m args below meth c T L hx hZ hby hown X hH target ht => Jvm.Stand.ldcWI X hx hown (mvT hZ w) rfl (hb hby hd) ht) hr
theorem wp_ldc2J {i : Nat} {v : Int64} (hd : Dc bytes pc (.ldc2_w i) 3 pc') (w : (Cond.constantLong own i v).before a0 Z = true) (hr : Wp b l Z own nm bytes maxL ret R H k j pc' Ls (.long v :: st) Q) : Wp b l Z own nm bytes maxL ret R H k j pc Ls st Q := by
  obtain ⟨hd, rfl⟩ := hd
  exact Wp.step (fun p e s m args below meth c T L hx hZ hby hown X hH target ht => Jvm.Stand.ldc2J X hx hown (mvT hZ w) rfl (hb hby hd) ht) hr
theorem wp_instNull {i : Nat} (hd : Dc bytes pc (.instanceof i) 3 pc')  (hr : Wp b l Z own nm bytes maxL ret R H k j pc' Ls (.int 0 :: st) Q) : Wp b l Z own nm bytes maxL ret R H k j pc Ls (.null :: st) Q := by
  obtain ⟨hd, rfl⟩ := hd
  exact Wp.step (fun p e s m args below meth c T L hx hZ hby hown X hH target ht => X.instanceofNull hx (g := mkF m pc Ls (.null :: st)) rfl rfl (hb hby hd) _ ht) hr
theorem wp_castNull {i : Nat} (hd : Dc bytes pc (.checkcast i) 3 pc')  (hr : Wp b l Z own nm bytes maxL ret R H k j pc' Ls (.null :: st) Q) : Wp b l Z own nm bytes maxL ret R H k j pc Ls (.null :: st) Q := by
  obtain ⟨hd, rfl⟩ := hd
  exact Wp.step (fun p e s m args below meth c T L hx hZ hby hown X hH target ht => X.checkcastNull hx (g := mkF m pc Ls (.null :: st)) rfl rfl (hb hby hd) _ ht) hr
theorem wp_goto {o : Int} {n pc'' : Nat} (hd : Dc bytes pc (.goto o) 3 n) (ht : Tg pc o pc'') (hr : Wp b l Z own nm bytes maxL ret R H k j pc'' Ls st Q) : Wp b l Z own nm bytes maxL ret R H k j pc Ls st Q :=
  Wp.step (fun p e s m args below meth c T L hx hZ hby hown X hH target h => XS.goto X.here hx rfl rfl (hb hby hd.1) ht.1 ht.2 h) hr
theorem wp_icmp {cd : ClassFile.Cond} {o : Int} {x y : Int32} {pc'' : Nat} (hd : Dc bytes pc (.if_icmp cd o) 3 pc') (ht : Tg pc o pc'') (hy : if_icmp.holds cd x y = true → Wp b l Z own nm bytes maxL ret R H k j pc'' Ls st Q) (hn : if_icmp.holds cd x y = false → Wp b l Z own nm bytes maxL ret R H k j pc' Ls st Q) : Wp b l Z own nm bytes maxL ret R H k j pc Ls (.int y :: .int x :: st) Q := by
  obtain ⟨hd, rfl⟩ := hd
  cases hc : if_icmp.holds cd x y with
  | true => exact Wp.step (fun p e s m args below meth c T L hx hZ hby hown X hH target h => XS.icmpYes X.here hx rfl rfl (hb hby hd) rfl hc ht.1 ht.2 h) (hy hc)
  | false => exact Wp.step (fun p e s m args below meth c T L hx hZ hby hown X hH target h => XS.icmpNo X.here hx rfl (hb hby hd) rfl hc h) (hn hc)
theorem wp_if {cd : ClassFile.Cond} {o : Int} {x : Int32} {pc'' : Nat} (hd : Dc bytes pc (.ifCond cd o) 3 pc') (ht : Tg pc o pc'') (hy : ifCond.holds cd x = true → Wp b l Z own nm bytes maxL ret R H k j pc'' Ls st Q) (hn : ifCond.holds cd x = false → Wp b l Z own nm bytes maxL ret R H k j pc' Ls st Q) : Wp b l Z own nm bytes maxL ret R H k j pc Ls (.int x :: st) Q := by
  obtain ⟨hd, rfl⟩ := hd
  cases hc : ifCond.holds cd x with
  | true => exact Wp.step (fun p e s m args below meth c T L hx hZ hby hown X hH target h => XS.ifYes X.here hx rfl rfl (hb hby hd) rfl hc ht.1 ht.2 h) (hy hc)
  | false => exact Wp.step (fun p e s m args below meth c T L hx hZ hby hown X hH target h => XS.ifNo X.here hx rfl (hb hby hd) rfl hc h) (hn hc)
theorem icmp_holds (cd : ClassFile.Cond) (x y : Int32) : (if_icmp.holds .eq x y = decide (x = y)) ∧ (if_icmp.holds .ne x y = !decide (x = y)) ∧ (if_icmp.holds .lt x y = decide (x < y)) ∧ (if_icmp.holds .ge x y = !decide (x < y)) ∧ (if_icmp.holds .gt x y = decide (y < x)) ∧ (if_icmp.holds .le x y = !decide (y < x)) := by
  refine ⟨?_, ?_, ?_, ?_, ?_, ?_⟩
  · by_cases h : x = y <;> simp [h, if_icmp.holds]
  · by_cases h : x = y <;> simp [h, if_icmp.holds]
  · by_cases h : x < y <;> simp [h, if_icmp.holds]
  · by_cases h : x < y
    · simp [h, (tlt h).2.1]
    · simp [h, (flt h).2.1]
  · by_cases h : y < x
    · simp [h, (tlt h).2.2.1]
    · simp [h, (flt h).2.2.1]
  · by_cases h : y < x
    · simp [h, (tlt h).2.2.2]
    · simp [h, (flt h).2.2.2]
theorem wp_icmp_eq {o : Int} {x y : Int32} {pc'' : Nat} (hd : Dc bytes pc (.if_icmp .eq o) 3 pc') (ht : Tg pc o pc'') (hy : x = y → Wp b l Z own nm bytes maxL ret R H k j pc'' Ls st Q) (hn : ¬ x = y → Wp b l Z own nm bytes maxL ret R H k j pc' Ls st Q) : Wp b l Z own nm bytes maxL ret R H k j pc Ls (.int y :: .int x :: st) Q :=
  wp_icmp hd ht (fun h => hy (by rw [(icmp_holds .eq x y).1] at h; simpa using h)) (fun h => hn (by rw [(icmp_holds .eq x y).1] at h; simpa using h))
theorem wp_if_eq {o : Int} {x : Int32} {pc'' : Nat} (hd : Dc bytes pc (.ifCond .eq o) 3 pc') (ht : Tg pc o pc'') (hy : x = 0 → Wp b l Z own nm bytes maxL ret R H k j pc'' Ls st Q) (hn : ¬ x = 0 → Wp b l Z own nm bytes maxL ret R H k j pc' Ls st Q) : Wp b l Z own nm bytes maxL ret R H k j pc Ls (.int x :: st) Q :=
  wp_if hd ht (fun h => hy (by rw [if0, (icmp_holds .eq x 0).1] at h; simpa using h)) (fun h => hn (by rw [if0, (icmp_holds .eq x 0).1] at h; simpa using h))
theorem wp_icmp_ne {o : Int} {x y : Int32} {pc'' : Nat} (hd : Dc bytes pc (.if_icmp .ne o) 3 pc') (ht : Tg pc o pc'') (hy : ¬ x = y → Wp b l Z own nm bytes maxL ret R H k j pc'' Ls st Q) (hn : x = y → Wp b l Z own nm bytes maxL ret R H k j pc' Ls st Q) : Wp b l Z own nm bytes maxL ret R H k j pc Ls (.int y :: .int x :: st) Q :=
  wp_icmp hd ht (fun h => hy (by rw [(icmp_holds .eq x y).2.1] at h; simpa using h)) (fun h => hn (by rw [(icmp_holds .eq x y).2.1] at h; simpa using h))
theorem wp_if_ne {o : Int} {x : Int32} {pc'' : Nat} (hd : Dc bytes pc (.ifCond .ne o) 3 pc') (ht : Tg pc o pc'') (hy : ¬ x = 0 → Wp b l Z own nm bytes maxL ret R H k j pc'' Ls st Q) (hn : x = 0 → Wp b l Z own nm bytes maxL ret R H k j pc' Ls st Q) : Wp b l Z own nm bytes maxL ret R H k j pc Ls (.int x :: st) Q :=
  wp_if hd ht (fun h => hy (by rw [if0, (icmp_holds .eq x 0).2.1] at h; simpa using h)) (fun h => hn (by rw [if0, (icmp_holds .eq x 0).2.1] at h; simpa using h))
theorem wp_icmp_lt {o : Int} {x y : Int32} {pc'' : Nat} (hd : Dc bytes pc (.if_icmp .lt o) 3 pc') (ht : Tg pc o pc'') (hy : x < y → Wp b l Z own nm bytes maxL ret R H k j pc'' Ls st Q) (hn : ¬ x < y → Wp b l Z own nm bytes maxL ret R H k j pc' Ls st Q) : Wp b l Z own nm bytes maxL ret R H k j pc Ls (.int y :: .int x :: st) Q :=
  wp_icmp hd ht (fun h => hy (by rw [(icmp_holds .eq x y).2.2.1] at h; simpa using h)) (fun h => hn (by rw [(icmp_holds .eq x y).2.2.1] at h; simpa using h))
theorem wp_if_lt {o : Int} {x : Int32} {pc'' : Nat} (hd : Dc bytes pc (.ifCond .lt o) 3 pc') (ht : Tg pc o pc'') (hy : x < 0 → Wp b l Z own nm bytes maxL ret R H k j pc'' Ls st Q) (hn : ¬ x < 0 → Wp b l Z own nm bytes maxL ret R H k j pc' Ls st Q) : Wp b l Z own nm bytes maxL ret R H k j pc Ls (.int x :: st) Q :=
  wp_if hd ht (fun h => hy (by rw [if0, (icmp_holds .eq x 0).2.2.1] at h; simpa using h)) (fun h => hn (by rw [if0, (icmp_holds .eq x 0).2.2.1] at h; simpa using h))
theorem wp_icmp_ge {o : Int} {x y : Int32} {pc'' : Nat} (hd : Dc bytes pc (.if_icmp .ge o) 3 pc') (ht : Tg pc o pc'') (hy : ¬ x < y → Wp b l Z own nm bytes maxL ret R H k j pc'' Ls st Q) (hn : x < y → Wp b l Z own nm bytes maxL ret R H k j pc' Ls st Q) : Wp b l Z own nm bytes maxL ret R H k j pc Ls (.int y :: .int x :: st) Q :=
  wp_icmp hd ht (fun h => hy (by rw [(icmp_holds .eq x y).2.2.2.1] at h; simpa using h)) (fun h => hn (by rw [(icmp_holds .eq x y).2.2.2.1] at h; simpa using h))
theorem wp_if_ge {o : Int} {x : Int32} {pc'' : Nat} (hd : Dc bytes pc (.ifCond .ge o) 3 pc') (ht : Tg pc o pc'') (hy : ¬ x < 0 → Wp b l Z own nm bytes maxL ret R H k j pc'' Ls st Q) (hn : x < 0 → Wp b l Z own nm bytes maxL ret R H k j pc' Ls st Q) : Wp b l Z own nm bytes maxL ret R H k j pc Ls (.int x :: st) Q :=
  wp_if hd ht (fun h => hy (by rw [if0, (icmp_holds .eq x 0).2.2.2.1] at h; simpa using h)) (fun h => hn (by rw [if0, (icmp_holds .eq x 0).2.2.2.1] at h; simpa using h))
theorem wp_icmp_gt {o : Int} {x y : Int32} {pc'' : Nat} (hd : Dc bytes pc (.if_icmp .gt o) 3 pc') (ht : Tg pc o pc'') (hy : y < x → Wp b l Z own nm bytes maxL ret R H k j pc'' Ls st Q) (hn : ¬ y < x → Wp b l Z own nm bytes maxL ret R H k j pc' Ls st Q) : Wp b l Z own nm bytes maxL ret R H k j pc Ls (.int y :: .int x :: st) Q :=
  wp_icmp hd ht (fun h => hy (by rw [(icmp_holds .eq x y).2.2.2.2.1] at h; simpa using h)) (fun h => hn (by rw [(icmp_holds .eq x y).2.2.2.2.1] at h; simpa using h))
theorem wp_if_gt {o : Int} {x : Int32} {pc'' : Nat} (hd : Dc bytes pc (.ifCond .gt o) 3 pc') (ht : Tg pc o pc'') (hy : 0 < x → Wp b l Z own nm bytes maxL ret R H k j pc'' Ls st Q) (hn : ¬ 0 < x → Wp b l Z own nm bytes maxL ret R H k j pc' Ls st Q) : Wp b l Z own nm bytes maxL ret R H k j pc Ls (.int x :: st) Q :=
  wp_if hd ht (fun h => hy (by rw [if0, (icmp_holds .eq x 0).2.2.2.2.1] at h; simpa using h)) (fun h => hn (by rw [if0, (icmp_holds .eq x 0).2.2.2.2.1] at h; simpa using h))
theorem wp_icmp_le {o : Int} {x y : Int32} {pc'' : Nat} (hd : Dc bytes pc (.if_icmp .le o) 3 pc') (ht : Tg pc o pc'') (hy : ¬ y < x → Wp b l Z own nm bytes maxL ret R H k j pc'' Ls st Q) (hn : y < x → Wp b l Z own nm bytes maxL ret R H k j pc' Ls st Q) : Wp b l Z own nm bytes maxL ret R H k j pc Ls (.int y :: .int x :: st) Q :=
  wp_icmp hd ht (fun h => hy (by rw [(icmp_holds .eq x y).2.2.2.2.2] at h; simpa using h)) (fun h => hn (by rw [(icmp_holds .eq x y).2.2.2.2.2] at h; simpa using h))
theorem wp_if_le {o : Int} {x : Int32} {pc'' : Nat} (hd : Dc bytes pc (.ifCond .le o) 3 pc') (ht : Tg pc o pc'') (hy : ¬ 0 < x → Wp b l Z own nm bytes maxL ret R H k j pc'' Ls st Q) (hn : 0 < x → Wp b l Z own nm bytes maxL ret R H k j pc' Ls st Q) : Wp b l Z own nm bytes maxL ret R H k j pc Ls (.int x :: st) Q :=
  wp_if hd ht (fun h => hy (by rw [if0, (icmp_holds .eq x 0).2.2.2.2.2] at h; simpa using h)) (fun h => hn (by rw [if0, (icmp_holds .eq x 0).2.2.2.2.2] at h; simpa using h))
theorem cmpL_0 (x y : Int64) : (XT.cmpL x y = 0 ↔ x = y) ∧ (XT.cmpL x y < 0 ↔ x < y) ∧ (0 < XT.cmpL x y ↔ y < x) := by
  unfold XT.cmpL
  by_cases h1 : y < x
  · have h2 : ¬ x = y := by rintro rfl; exact absurd h1 (by simp [Int64.lt_iff_toInt_lt])
    have h3 : ¬ x < y := by rw [Int64.lt_iff_toInt_lt] at h1 ⊢; omega
    simp [h1, h2, h3]
  · by_cases h2 : x = y
    · subst h2; simp [Int64.lt_iff_toInt_lt]
    · have h3 : x < y := by rw [Int64.lt_iff_toInt_lt] at h1 ⊢; have := mt Int64.toInt_inj.mp h2; omega
      simp [h1, h2, h3]
theorem wp_lcmp_eq {o : Int} {x y : Int64} {pc1 pc'' : Nat} (hd0 : Dc bytes pc .lcmp 1 pc1) (hd : Dc bytes pc1 (.ifCond .eq o) 3 pc') (ht : Tg pc1 o pc'') (hy : x = y → Wp b l Z own nm bytes maxL ret R H k j pc'' Ls st Q) (hn : ¬ x = y → Wp b l Z own nm bytes maxL ret R H k j pc' Ls st Q) : Wp b l Z own nm bytes maxL ret R H k j pc Ls (.long y :: .long x :: st) Q :=
  wp_lcmp hd0 (wp_if_eq hd ht (fun h => hy (by rw [(cmpL_0 x y).1] at h; exact h)) (fun h => hn (by rw [(cmpL_0 x y).1] at h; exact h)))
theorem wp_lcmp_ne {o : Int} {x y : Int64} {pc1 pc'' : Nat} (hd0 : Dc bytes pc .lcmp 1 pc1) (hd : Dc bytes pc1 (.ifCond .ne o) 3 pc') (ht : Tg pc1 o pc'') (hy : ¬ x = y → Wp b l Z own nm bytes maxL ret R H k j pc'' Ls st Q) (hn : x = y → Wp b l Z own nm bytes maxL ret R H k j pc' Ls st Q) : Wp b l Z own nm bytes maxL ret R H k j pc Ls (.long y :: .long x :: st) Q :=
  wp_lcmp hd0 (wp_if_ne hd ht (fun h => hy (by rw [(cmpL_0 x y).1] at h; exact h)) (fun h => hn (by rw [(cmpL_0 x y).1] at h; exact h)))
theorem wp_lcmp_lt {o : Int} {x y : Int64} {pc1 pc'' : Nat} (hd0 : Dc bytes pc .lcmp 1 pc1) (hd : Dc bytes pc1 (.ifCond .lt o) 3 pc') (ht : Tg pc1 o pc'') (hy : x < y → Wp b l Z own nm bytes maxL ret R H k j pc'' Ls st Q) (hn : ¬ x < y → Wp b l Z own nm bytes maxL ret R H k j pc' Ls st Q) : Wp b l Z own nm bytes maxL ret R H k j pc Ls (.long y :: .long x :: st) Q :=
  wp_lcmp hd0 (wp_if_lt hd ht (fun h => hy (by rw [(cmpL_0 x y).2.1] at h; exact h)) (fun h => hn (by rw [(cmpL_0 x y).2.1] at h; exact h)))
theorem wp_lcmp_ge {o : Int} {x y : Int64} {pc1 pc'' : Nat} (hd0 : Dc bytes pc .lcmp 1 pc1) (hd : Dc bytes pc1 (.ifCond .ge o) 3 pc') (ht : Tg pc1 o pc'') (hy : ¬ x < y → Wp b l Z own nm bytes maxL ret R H k j pc'' Ls st Q) (hn : x < y → Wp b l Z own nm bytes maxL ret R H k j pc' Ls st Q) : Wp b l Z own nm bytes maxL ret R H k j pc Ls (.long y :: .long x :: st) Q :=
  wp_lcmp hd0 (wp_if_ge hd ht (fun h => hy (by rw [(cmpL_0 x y).2.1] at h; exact h)) (fun h => hn (by rw [(cmpL_0 x y).2.1] at h; exact h)))
theorem wp_lcmp_gt {o : Int} {x y : Int64} {pc1 pc'' : Nat} (hd0 : Dc bytes pc .lcmp 1 pc1) (hd : Dc bytes pc1 (.ifCond .gt o) 3 pc') (ht : Tg pc1 o pc'') (hy : y < x → Wp b l Z own nm bytes maxL ret R H k j pc'' Ls st Q) (hn : ¬ y < x → Wp b l Z own nm bytes maxL ret R H k j pc' Ls st Q) : Wp b l Z own nm bytes maxL ret R H k j pc Ls (.long y :: .long x :: st) Q :=
  wp_lcmp hd0 (wp_if_gt hd ht (fun h => hy (by rw [(cmpL_0 x y).2.2] at h; exact h)) (fun h => hn (by rw [(cmpL_0 x y).2.2] at h; exact h)))
theorem wp_lcmp_le {o : Int} {x y : Int64} {pc1 pc'' : Nat} (hd0 : Dc bytes pc .lcmp 1 pc1) (hd : Dc bytes pc1 (.ifCond .le o) 3 pc') (ht : Tg pc1 o pc'') (hy : ¬ y < x → Wp b l Z own nm bytes maxL ret R H k j pc'' Ls st Q) (hn : y < x → Wp b l Z own nm bytes maxL ret R H k j pc' Ls st Q) : Wp b l Z own nm bytes maxL ret R H k j pc Ls (.long y :: .long x :: st) Q :=
  wp_lcmp hd0 (wp_if_le hd ht (fun h => hy (by rw [(cmpL_0 x y).2.2] at h; exact h)) (fun h => hn (by rw [(cmpL_0 x y).2.2] at h; exact h)))
theorem wp_ifnull_y {o : Int} {n pc'' : Nat} (hd : Dc bytes pc (.ifnull o) 3 n) (ht : Tg pc o pc'') (hr : Wp b l Z own nm bytes maxL ret R H k j pc'' Ls st Q) : Wp b l Z own nm bytes maxL ret R H k j pc Ls (.null :: st) Q :=
  Wp.step (fun p e s m args below meth c T L hx hZ hby hown X hH target h => XS.ifnullYes X.here hx rfl rfl (hb hby hd.1) rfl ht.1 ht.2 h) hr
theorem wp_ifnull_n {o : Int} {x : Addr} (hd : Dc bytes pc (.ifnull o) 3 pc') (hr : Wp b l Z own nm bytes maxL ret R H k j pc' Ls st Q) : Wp b l Z own nm bytes maxL ret R H k j pc Ls (.ref x :: st) Q := by
  obtain ⟨hd, rfl⟩ := hd
  exact Wp.step (fun p e s m args below meth c T L hx hZ hby hown X hH target h => XS.ifnullNo X.here hx rfl (hb hby hd) rfl h) hr
theorem wp_ifnonnull_y {o : Int} {x : Addr} {n pc'' : Nat} (hd : Dc bytes pc (.ifnonnull o) 3 n) (ht : Tg pc o pc'') (hr : Wp b l Z own nm bytes maxL ret R H k j pc'' Ls st Q) : Wp b l Z own nm bytes maxL ret R H k j pc Ls (.ref x :: st) Q :=
  Wp.step (fun p e s m args below meth c T L hx hZ hby hown X hH target h => XT.ifnonnullYes X.here hx rfl rfl (hb hby hd.1) rfl ht.1 ht.2 h) hr
theorem wp_ifnonnull_n {o : Int} (hd : Dc bytes pc (.ifnonnull o) 3 pc') (hr : Wp b l Z own nm bytes maxL ret R H k j pc' Ls st Q) : Wp b l Z own nm bytes maxL ret R H k j pc Ls (.null :: st) Q := by
  obtain ⟨hd, rfl⟩ := hd
  exact Wp.step (fun p e s m args below meth c T L hx hZ hby hown X hH target h => XT.ifnonnullNo X.here hx rfl (hb hby hd) rfl h) hr
theorem wp_acmp {cd : ClassFile.ACond} {o : Int} {x y : Value} {pc'' : Nat} (hd : Dc bytes pc (.if_acmp cd o) 3 pc') (ht : Tg pc o pc'') (h1 : x.isRef = true) (h2 : y.isRef = true) (hy : acV cd (decide (x = y)) = true → Wp b l Z own nm bytes maxL ret R H k j pc'' Ls st Q) (hn : acV cd (decide (x = y)) = false → Wp b l Z own nm bytes maxL ret R H k j pc' Ls st Q) : Wp b l Z own nm bytes maxL ret R H k j pc Ls (y :: x :: st) Q := by
  obtain ⟨hd, rfl⟩ := hd
  cases hc : acV cd (decide (x = y)) with
  | true => exact Wp.step (fun p e s m args below meth c T L hx hZ hby hown X hH target h => acmp X hx rfl h1 h2 (pc0 := pc) rfl (hb hby hd) rfl rfl ht.1 (by rw [if_pos hc]; exact ht.2.symm) h) (hy hc)
  | false => exact Wp.step (fun p e s m args below meth c T L hx hZ hby hown X hH target h => acmp X hx rfl h1 h2 (pc0 := pc) rfl (hb hby hd) rfl rfl ht.1 (by rw [hc]; rfl) h) (hn hc)
theorem wp_acmp_eq {o : Int} {x y : Value} {pc'' : Nat} (hd : Dc bytes pc (.if_acmp .eq o) 3 pc') (ht : Tg pc o pc'') (h1 : x.isRef = true) (h2 : y.isRef = true) (hy : x = y → Wp b l Z own nm bytes maxL ret R H k j pc'' Ls st Q) (hn : ¬ x = y → Wp b l Z own nm bytes maxL ret R H k j pc' Ls st Q) : Wp b l Z own nm bytes maxL ret R H k j pc Ls (y :: x :: st) Q :=
  wp_acmp hd ht h1 h2 (fun h => hy (by simpa [acV] using h)) (fun h => hn (by simpa [acV] using h))
theorem wp_acmp_ne {o : Int} {x y : Value} {pc'' : Nat} (hd : Dc bytes pc (.if_acmp .ne o) 3 pc') (ht : Tg pc o pc'') (h1 : x.isRef = true) (h2 : y.isRef = true) (hy : ¬ x = y → Wp b l Z own nm bytes maxL ret R H k j pc'' Ls st Q) (hn : x = y → Wp b l Z own nm bytes maxL ret R H k j pc' Ls st Q) : Wp b l Z own nm bytes maxL ret R H k j pc Ls (y :: x :: st) Q :=
  wp_acmp hd ht h1 h2 (fun h => hy (by simpa [acV] using h)) (fun h => hn (by simpa [acV] using h))
theorem wp_return  (hd : Dc bytes pc .return_ 1 pc') (hr : ret = none) (hk : k ≤ R.cells) (hj : j ≤ R.slots) (hQ : Q none H) : Wp b l Z own nm bytes maxL ret R H k j pc Ls [] Q :=
  fun p e s vm0 k0 m args below meth c T L hx hZ hS hkz hby hml hown hnm hret X N hH hB => ⟨T, none, L, k, j, vm0, k0, H, ⟨hS, hkz, fun _ => rfl⟩, X, ⟨hk, hj, Nat.le_refl _⟩, N, hH, fun h => by first | rfl | (rw [hr] at h; cases h), hQ, fun fs hl => X.returnOut hx (hret.trans hr) (hb hby hd.1) hl⟩
theorem wp_ireturn {x : Int32} (hd : Dc bytes pc .ireturn 1 pc') (hr : ret = some .int) (hk : k ≤ R.cells) (hj : j ≤ R.slots) (hQ : Q (some (.int x)) H) : Wp b l Z own nm bytes maxL ret R H k j pc Ls (.int x :: st) Q :=
  fun p e s vm0 k0 m args below meth c T L hx hZ hS hkz hby hml hown hnm hret X N hH hB => ⟨T, (some (.int x)), L, k, j, vm0, k0, H, ⟨hS, hkz, fun _ => rfl⟩, X, ⟨hk, hj, Nat.le_refl _⟩, N, hH, fun h => by first | rfl | (rw [hr] at h; cases h), hQ, fun fs hl => retOut X hx (hret.trans hr) rfl (Or.inl ⟨rfl, Or.inl rfl, x, rfl⟩) (hb hby hd.1) hl⟩
theorem wp_ireturnN {x : Int32} {t : FieldType} (hd : Dc bytes pc .ireturn 1 pc') (hr : ret = some t) (ht : t = .boolean ∨ t = .byte ∨ t = .char ∨ t = .short) (hk : k ≤ R.cells) (hj : j ≤ R.slots) (hQ : Q (some (.int (nar t x))) H) : Wp b l Z own nm bytes maxL ret R H k j pc Ls (.int x :: st) Q :=
  fun p e s vm0 k0 m args below meth c T L hx hZ hS hkz hby hml hown hnm hret X N hH hB => ⟨T, (some (.int (nar t x))), L, k, j, vm0, k0, H, ⟨hS, hkz, fun _ => rfl⟩, X, ⟨hk, hj, Nat.le_refl _⟩, N, hH, fun h => by first | rfl | (rw [hr] at h; cases h), hQ, fun fs hl => retN X hx (hret.trans hr) ht (hb hby hd.1) hl⟩
theorem wp_lreturn {x : Int64} (hd : Dc bytes pc .lreturn 1 pc') (hr : ret = some .long) (hk : k ≤ R.cells) (hj : j ≤ R.slots) (hQ : Q (some (.long x)) H) : Wp b l Z own nm bytes maxL ret R H k j pc Ls (.long x :: st) Q :=
  fun p e s vm0 k0 m args below meth c T L hx hZ hS hkz hby hml hown hnm hret X N hH hB => ⟨T, (some (.long x)), L, k, j, vm0, k0, H, ⟨hS, hkz, fun _ => rfl⟩, X, ⟨hk, hj, Nat.le_refl _⟩, N, hH, fun h => by first | rfl | (rw [hr] at h; cases h), hQ, fun fs hl => retOut X hx (hret.trans hr) rfl (Or.inr (Or.inl ⟨rfl, rfl, x, rfl⟩)) (hb hby hd.1) hl⟩
theorem wp_areturn {x : Value} {t : FieldType} (hd : Dc bytes pc .areturn 1 pc') (hr : ret = some t) (ht : t.isReference = true) (hn : narrow t x = x) (hv : x.isRef = true) (hk : k ≤ R.cells) (hj : j ≤ R.slots) (hQ : Q (some x) H) : Wp b l Z own nm bytes maxL ret R H k j pc Ls (x :: st) Q :=
  fun p e s vm0 k0 m args below meth c T L hx hZ hS hkz hby hml hown hnm hret X N hH hB => ⟨T, (some x), L, k, j, vm0, k0, H, ⟨hS, hkz, fun _ => rfl⟩, X, ⟨hk, hj, Nat.le_refl _⟩, N, hH, fun h => by first | rfl | (rw [hr] at h; cases h), hQ, fun fs hl => retOut X hx (hret.trans hr) hn (Or.inr (Or.inr (Or.inr (Or.inr ⟨rfl, ht, hv⟩)))) (hb hby hd.1) hl⟩
def FldAt (Z : State) (H : OH) (a : Addr) (O n d : String) (v : Value) : Prop := ∀ h, Hp Z h H → Fld Z h a O n d v
def ExaAt (Z : State) (H : OH) (a : Addr) (C : String) : Prop := ∀ h, Hp Z h H → Exa Z h a C
theorem fld_new {i fi : Nat} {a : Addr} {fl : Bool} {C O n d : String} {sg : OSig} {vs : List Value} {v : Value} (hi : H[i]? = some (a, (fl, .inl (C, sg, vs)))) (hf : sg[fi]? = some (O, n, d)) (hv : vs[fi]? = some v) : FldAt Z H a O n d v := fun h P => (P.at hi).2.2.2 fi _ v hf hv
theorem fld_old {a : Addr} {O n d : String} {v : Value} (F : Fld Z Z.heap a O n d v) : FldAt Z H a O n d v := fun h P => F.ext P.1
theorem exa_new {i : Nat} {a : Addr} {fl : Bool} {C : String} {sg : OSig} {vs : List Value} (hi : H[i]? = some (a, (fl, .inl (C, sg, vs)))) : ExaAt Z H a C := fun h P => (P.at hi).2.1
theorem exa_old {a : Addr} {C : String} (F : Exa Z Z.heap a C) : ExaAt Z H a C := fun h P => F.ext P.1
theorem wp_getfield {a : Addr} {O n d : String} {v : Value} {idx : Nat} (hd : Dc bytes pc (.getfield idx) 3 pc') (w : (Cond.fieldLink own idx O n d).before a0 Z = true) (F : FldAt Z H a O n d v) (hr : Wp b l Z own nm bytes maxL ret R H k j pc' Ls (v :: st) Q) : Wp b l Z own nm bytes maxL ret R H k j pc Ls (.ref a :: st) Q := by
  obtain ⟨hd, rfl⟩ := hd
  refine Wp.stepH fun p e s m args below meth c T L hx hZ hby hml hown hnm hret X N hH => ?_
  obtain ⟨T', X', e', stp⟩ := getF X hx hZ hown (host := "") (Or.inl w) Via.refl rfl (F _ hH) (g := mkF m pc Ls (.ref a :: st)) rfl rfl (hb hby hd)
  exact ⟨T', L, k, j, H, _, Ls, v :: st, X', by rw [e']; exact Nat.le_refl _, N, by rw [e']; exact hH, hr, stp⟩
theorem wp_getfieldVia {a : Addr} {R0 O n d : String} {v : Value} {idx : Nat} (hd : Dc bytes pc (.getfield idx) 3 pc') (w : (Cond.fieldLink own idx R0 n d).before a0 Z = true) (via : Via Z R0 O n d) (F : FldAt Z H a O n d v) (hr : Wp b l Z own nm bytes maxL ret R H k j pc' Ls (v :: st) Q) : Wp b l Z own nm bytes maxL ret R H k j pc Ls (.ref a :: st) Q := by
  obtain ⟨hd, rfl⟩ := hd
  refine Wp.stepH fun p e s m args below meth c T L hx hZ hby hml hown hnm hret X N hH => ?_
  obtain ⟨T', X', e', stp⟩ := getF X hx hZ hown (host := "") (Or.inl w) via rfl (F _ hH) (g := mkF m pc Ls (.ref a :: st)) rfl rfl (hb hby hd)
  exact ⟨T', L, k, j, H, _, Ls, v :: st, X', by rw [e']; exact Nat.le_refl _, N, by rw [e']; exact hH, hr, stp⟩
theorem wp_getstatic {O n d : String} {v : Value} {idx : Nat} (hd : Dc bytes pc (.getstatic idx) 3 pc') (w : (Cond.fieldLink own idx O n d).before a0 Z = true) (F : Sta Z Z.heap O n d v) (hr : Wp b l Z own nm bytes maxL ret R H k j pc' Ls (v :: st) Q) : Wp b l Z own nm bytes maxL ret R H k j pc Ls st Q := by
  obtain ⟨hd, rfl⟩ := hd
  refine Wp.stepH fun p e s m args below meth c T L hx hZ hby hml hown hnm hret X N hH => ?_
  obtain ⟨T', X', e', stp⟩ := getS (host := "") X hx hZ hown w Via.refl rfl (F.ext hH.1) (g := mkF m pc Ls st) rfl (hb hby hd)
  exact ⟨T', L, k, j, H, _, Ls, v :: st, X', by rw [e']; exact Nat.le_refl _, N, by rw [e']; exact hH, hr, stp⟩
theorem Sat.put {h h' : Heap} {a : Addr} {C O n d : String} {sg : OSig} {vs : List Value} {fi : Nat} {v : Value} (S : Sat Z h a (.inl (C, sg, vs))) (hf : sg[fi]? = some (O, n, d)) (W : Wr h h' a (Jvm.RoadKit.slotOf Z O n d) v) : Sat Z h' a (.inl (C, sg, vs.set fi v)) := by
  obtain ⟨S1, S2, S3⟩ := S
  refine ⟨S1.wr W, S2, fun i f u q r => ?_⟩
  rw [List.getElem?_set] at r
  split at r
  · rename_i e; subst e
    split at r
    · rename_i hlt
      cases r
      cases hf.symm.trans q
      exact (S3 fi _ _ hf (List.getElem?_eq_getElem hlt)).same W
    · cases r
  · rename_i ne
    refine (S3 i f u q r).other W (Or.inr ?_)
    have hP := List.pairwise_iff_getElem.mp S2
    obtain ⟨h1, e1⟩ := List.getElem?_eq_some_iff.mp q
    obtain ⟨h2, e2⟩ := List.getElem?_eq_some_iff.mp hf
    rcases Nat.lt_or_gt_of_ne ne with u | u
    · have := hP fi i h2 h1 u; rw [e1, e2] at this; exact Ne.symm this
    · have := hP i fi h1 h2 u; rw [e1, e2] at this; exact this
theorem wp_putfield {i fi kk : Nat} {a : Addr} {C O n d : String} {sg : OSig} {vs : List Value} {v old : Value} {ty : FieldType} {idx : Nat} (hd : Dc bytes pc (.putfield idx) 3 pc') (w : (Cond.fieldLink own idx O n d).before a0 Z = true) (hi : H[i]? = some (a, oI C sg vs)) (hf : sg[fi]? = some (O, n, d)) (ho : vs[fi]? = some old) (L0 : (Cond.lays C O n d).before a0 Z = true ∨ ((Cond.laysFinal C O n d).before a0 Z = true ∧ own = O ∧ nm = "<init>")) (wi : (Cond.instantiable C kk).before a0 Z = true) (hty : parseFieldDescriptor d = some ty) (hn : narrow ty v = v) (hfit : fits ty v = true) (hr : Wp b l Z own nm bytes maxL ret R (H.set i (a, oI C sg (vs.set fi v))) k j pc' Ls st Q) : Wp b l Z own nm bytes maxL ret R H k j pc Ls (v :: .ref a :: st) Q := by
  obtain ⟨hd, rfl⟩ := hd
  refine Wp.stepH fun p e s m args below meth c T L hx hZ hby hml hown hnm hret X N hH => ?_
  have S := (hH.at hi).2
  obtain ⟨T', h', X', e', W', stp⟩ := putF X hx hZ hown (host := "") (Or.inl w) Via.refl rfl (S.2.2 fi _ _ hf ho) S.1 (L0.imp id fun q => ⟨q.1, q.2.1, hnm.trans q.2.2⟩) wi hty hn hfit (g := mkF m pc Ls (v :: .ref a :: st)) rfl rfl (hb hby hd)
  subst e'
  exact ⟨T', _, k, j, _, _, Ls, st, X', by rw [W'.size]; exact Nat.le_refl _, Fr.snoc X' N ((hH.at hi).1 rfl), hH.set hi W' (S.put hf W'), hr, stp⟩
def Dfl : OSig → List Value → Prop
  | [], [] => True
  | f :: sg, v :: vs => (∃ ty, parseFieldDescriptor f.2.2 = some ty ∧ defaultValue ty = v) ∧ Dfl sg vs
  | _, _ => False
theorem Dfl.at : ∀ {sg : OSig} {vs : List Value}, Dfl sg vs → ∀ (i : Nat) (f : String × String × String) (v : Value), sg[i]? = some f → vs[i]? = some v → ∃ ty, parseFieldDescriptor f.2.2 = some ty ∧ defaultValue ty = v
  | [], [], _, i, f, v, q, _ => by simp at q
  | f :: sg, v :: vs, D, 0, f', v', q, r => by simp at q r; subst q r; exact D.1
  | f :: sg, v :: vs, D, i + 1, f', v', q, r => D.2.at i f' v' (by simpa using q) (by simpa using r)
  | [], _ :: _, D, _, _, _, _, _ => D.elim
  | _ :: _, [], D, _, _, _, _, _ => D.elim
theorem Dfl.parse : ∀ {sg : OSig} {vs : List Value}, Dfl sg vs → ∀ f ∈ sg, ∃ ty, parseFieldDescriptor f.2.2 = some ty
  | [], [], _, f, q => by simp at q
  | g :: sg, v :: vs, D, f, q => (List.mem_cons.mp q).elim (fun e => by subst e; exact ⟨D.1.choose, D.1.choose_spec.1⟩) (D.2.parse f)
  | [], _ :: _, D, _, _ => D.elim
  | _ :: _, [], D, _, _ => D.elim
theorem slo_of {C : String} {sg : OSig} {vs : List Value} (D : Dfl sg vs) (hL : ∀ f ∈ sg, Laid Z a0 C f.1 f.2.1 f.2.2) (hn : (sg.map fun f => f.2.1).Nodup) : Slo Z sg := by
  have h1 : sg.Pairwise fun f g => f.2.1 ≠ g.2.1 := List.pairwise_map.mp hn
  refine List.Pairwise.imp_of_mem (fun {f g} hf hg ne => ?_) h1
  obtain ⟨t, ht⟩ := D.parse f hf
  obtain ⟨t', ht'⟩ := D.parse g hg
  exact slot_ne (hL f hf) (hL g hg) ne ht ht'
theorem all_nil {α : Type} {P : α → Prop} : ∀ x ∈ ([] : List α), P x := fun _ q => nomatch q
theorem all_cons {α : Type} {P : α → Prop} {y : α} {L : List α} (q : P y) (r : ∀ x ∈ L, P x) : ∀ x ∈ y :: L, P x := fun x z => (List.mem_cons.mp z).elim (fun u => u ▸ q) (r x)
theorem wp_new {C : String} {idx n : Nat} (sg : OSig) (vs : List Value) (hd : Dc bytes pc (.new idx) 3 pc') (w : (Cond.classLink own idx C).before a0 Z = true) (wi : (Cond.instantiable C n).before a0 Z = true) (wz : (Cond.initialized C).before a0 Z = true) (hL : ∀ f ∈ sg, Laid Z a0 C f.1 f.2.1 f.2.2) (hn : (sg.map fun f => f.2.1).Nodup) (D : Dfl sg vs) (hc : k + 1 ≤ R.cells) (hl : j + n ≤ R.slots) (hr : ∀ a, Wp b l Z own nm bytes maxL ret R ((a, oI C sg vs) :: H) (k + 1) (j + n) pc' Ls (.ref a :: st) Q) : Wp b l Z own nm bytes maxL ret R H k j pc Ls st Q := by
  obtain ⟨hd, rfl⟩ := hd
  refine Wp.stepH fun p e s m args below meth c T L hx hZ hby hml hown hnm hret X N hH => ?_
  obtain ⟨T', h', X', e', E', A', D', -, stp⟩ := newO X hx hZ hown w wi wz rfl (g := mkF m pc Ls st) rfl (hb hby hd) hc hl
  subst e'
  refine ⟨T', L, _, _, _, _, Ls, _, X', E'.1, N, hH.cons E' (o := .inl (C, sg, vs)) ⟨A', slo_of D hL hn, fun i f v q r => ?_⟩, hr _, stp⟩
  obtain ⟨ty, t1, t2⟩ := D.at i f v q r
  rw [← t2]
  exact D' (hL f (List.mem_of_getElem? q)) t1
theorem wp_initO {a : Addr} {idx : Nat} (hd : Dc bytes pc (.invokespecial idx) 3 pc') (w1 : (Cond.methodLink own idx Lib.objectInit).before a0 Z = true) (w2 : (Cond.instanceMethod Lib.objectInit).before a0 Z = true) (w3 : (Cond.code Lib.objectInit ⟨#[0xb1]⟩ 1 none).before a0 Z = true) (hsz : Ls.size = maxL) (hf : 1 ≤ R.frames) (hl : (st.map fun v => v.category).sum + 12 ≤ R.locals) (hr : Wp b l Z own nm bytes maxL ret R H k j pc' Ls st Q) : Wp b l Z own nm bytes maxL ret R H k j pc Ls (.ref a :: st) Q := by
  obtain ⟨hd, rfl⟩ := hd
  refine Wp.stepH fun p e s m args below meth c T L hx hZ hby hml hown hnm hret X N hH => ?_
  obtain ⟨T', X', e', stp⟩ := initO X hx hZ hown w1 w2 w3 rfl (g := mkF m pc Ls (.ref a :: st)) rfl (by rw [hml]; exact hsz) rfl (hb hby hd) hf (W := (st.map fun v => v.category).sum) (by show 2 * 0 + _ ≤ _; omega) hl
  exact ⟨T', L, k, j, H, _, Ls, st, X', by rw [e']; exact Nat.le_refl _, N, by rw [e']; exact hH, hr, stp⟩
theorem wp_newarrayI {aty : ArrayType} {ty : FieldType} {n : Int32} (cnt cap : Nat) (hd : Dc bytes pc (.newarray aty) 2 pc') (hty : newarray.typeOf aty = ty) (hdef : defaultValue ty = .int 0) (hfz : fits ty (.int 0) = true) (w : (Cond.arrayClass ty).before a0 Z = true) (hn : ¬ n < 0) (hcnt : n.toNatClampNeg = cnt) (hcap : cnt ≤ cap) (hb8 : cap * 8 ≤ 536870912) (hc : k + 1 ≤ R.cells) (hl : j + cap ≤ R.slots) (hr : ∀ a, Wp b l Z own nm bytes maxL ret R ((a, oA ty (List.replicate cnt 0)) :: H) (k + 1) (j + cap) pc' Ls (.ref a :: st) Q) : Wp b l Z own nm bytes maxL ret R H k j pc Ls (.int n :: st) Q := by
  obtain ⟨hd, rfl⟩ := hd
  subst hty
  refine Wp.stepH fun p e s m args below meth c T L hx hZ hby hml hown hnm hret X N hH => ?_
  obtain ⟨T', h', cA, X', e', E', A', B', stp⟩ := newPE X hx hZ w rfl (g := mkF m pc Ls (.int n :: st)) rfl (hb hby hd) rfl hn (cap := cap) (by rw [hcnt]; exact hcap) hb8 hc hl rfl
  subst e'
  refine ⟨T', L, _, _, _, _, Ls, _, X', E'.1, N, hH.cons E' (o := .inr (.inl (_, List.replicate cnt 0))) ⟨Or.inr B', _, A', ?_, fun x hx => ?_⟩, hr _, stp⟩
  · simp [newA, hcnt, hdef]
  · rw [(List.mem_replicate.mp hx).2]; exact hfz
set_option maxHeartbeats 1000000 in
theorem wp_newarrayJ {n : Int32} (cnt cap : Nat) (hd : Dc bytes pc (.newarray .long) 2 pc') (w : (Cond.arrayClass .long).before a0 Z = true) (hn : ¬ n < 0) (hcnt : n.toNatClampNeg = cnt) (hcap : cnt ≤ cap) (hb8 : cap * 8 ≤ 536870912) (hc : k + 1 ≤ R.cells) (hl : j + cap ≤ R.slots) (hr : ∀ a, Wp b l Z own nm bytes maxL ret R ((a, oJ (List.replicate cnt 0)) :: H) (k + 1) (j + cap) pc' Ls (.ref a :: st) Q) : Wp b l Z own nm bytes maxL ret R H k j pc Ls (.int n :: st) Q := by
  obtain ⟨hd, rfl⟩ := hd
  refine Wp.stepH fun p e s m args below meth c T L hx hZ hby hml hown hnm hret X N hH => ?_
  obtain ⟨T', h', cA, X', e', E', A', B', stp⟩ := newPE (aty := .long) (ad := "[J") X hx hZ w rfl (g := mkF m pc Ls (.int n :: st)) rfl (hb hby hd) rfl hn (cap := cap) (by rw [hcnt]; exact hcap) hb8 hc hl rfl
  subst e'
  refine ⟨T', L, _, _, _, _, Ls, _, X', E'.1, N, hH.cons E' (o := .inr (.inr (.inl (List.replicate cnt 0)))) ⟨B', _, A', ?_⟩, hr _, stp⟩
  simp [newA, hcnt, defaultValue, newarray.typeOf]
theorem in_of {j : Int32} {xs : List Value} {c : Cell} {v : Value} (hs : c.slots = xs.toArray) (hj : ¬ j < 0) (hv : xs[j.toNatClampNeg]? = some v) : ¬ (j < 0 ∨ c.slots.size ≤ j.toNatClampNeg) ∧ c.slots[j.toNatClampNeg]? = some v := by
  have h1 := (List.getElem?_eq_some_iff.mp hv).1
  refine ⟨fun q => q.elim hj fun r => ?_, by rw [hs]; simpa using hv⟩
  rw [hs] at r; simp at r; omega
theorem setSlot_list {c : Cell} {xs : List Value} {n : Nat} {v : Value} (hs : c.slots = xs.toArray) : (c.setSlot n v).slots = (xs.set n v).toArray := by simp [Cell.setSlot, hs]
theorem wp_iaload {i : Nat} {a : Addr} {fl : Bool} {xs : List Int32} {n x : Int32} (m : Nat) (hd : Dc bytes pc .iaload 1 pc') (hi : H[i]? = some (a, (fl, .inr (.inl (.int, xs))))) (hn : ¬ n < 0) (hm : n.toNatClampNeg = m) (hv : xs[m]? = some x) (hr : Wp b l Z own nm bytes maxL ret R H k j pc' Ls (.int x :: st) Q) : Wp b l Z own nm bytes maxL ret R H k j pc Ls (.int n :: .ref a :: st) Q := by
  obtain ⟨hd, rfl⟩ := hd
  refine Wp.step (fun p e s m args below meth c T L hx hZ hby hown X hH target h => ?_) hr
  obtain ⟨-, cl, A, hs, -⟩ := (hH.at hi).2
  obtain ⟨h1, h2⟩ := in_of hs hn (v := .int x) (by rw [hm]; simpa using hv)
  exact X.iaload hx A.1 (State.isArrayOf_alike hZ.alike A.2.1) A.2.2 h1 h2 (g := mkF m pc Ls (.int n :: .ref a :: st)) rfl rfl (hb hby hd) _ h
theorem wp_caload {i : Nat} {a : Addr} {fl : Bool} {xs : List Int32} {n x : Int32} (m : Nat) (hd : Dc bytes pc .caload 1 pc') (hi : H[i]? = some (a, (fl, .inr (.inl (.char, xs))))) (hn : ¬ n < 0) (hm : n.toNatClampNeg = m) (hv : xs[m]? = some x) (hr : Wp b l Z own nm bytes maxL ret R H k j pc' Ls (.int x :: st) Q) : Wp b l Z own nm bytes maxL ret R H k j pc Ls (.int n :: .ref a :: st) Q := by
  obtain ⟨hd, rfl⟩ := hd
  refine Wp.step (fun p e s m args below meth c T L hx hZ hby hown X hH target h => ?_) hr
  obtain ⟨-, cl, A, hs, -⟩ := (hH.at hi).2
  obtain ⟨h1, h2⟩ := in_of hs hn (v := .int x) (by rw [hm]; simpa using hv)
  exact X.caload hx A.1 (State.isArrayOf_alike hZ.alike A.2.1) A.2.2 h1 h2 (g := mkF m pc Ls (.int n :: .ref a :: st)) rfl rfl (hb hby hd) _ h
theorem wp_saload {i : Nat} {a : Addr} {fl : Bool} {xs : List Int32} {n x : Int32} (m : Nat) (hd : Dc bytes pc .saload 1 pc') (hi : H[i]? = some (a, (fl, .inr (.inl (.short, xs))))) (hn : ¬ n < 0) (hm : n.toNatClampNeg = m) (hv : xs[m]? = some x) (hr : Wp b l Z own nm bytes maxL ret R H k j pc' Ls (.int x :: st) Q) : Wp b l Z own nm bytes maxL ret R H k j pc Ls (.int n :: .ref a :: st) Q := by
  obtain ⟨hd, rfl⟩ := hd
  refine Wp.step (fun p e s m args below meth c T L hx hZ hby hown X hH target h => ?_) hr
  obtain ⟨-, cl, A, hs, -⟩ := (hH.at hi).2
  obtain ⟨h1, h2⟩ := in_of hs hn (v := .int x) (by rw [hm]; simpa using hv)
  exact X.saload hx A.1 (State.isArrayOf_alike hZ.alike A.2.1) A.2.2 h1 h2 (g := mkF m pc Ls (.int n :: .ref a :: st)) rfl rfl (hb hby hd) _ h
theorem wp_baload {i : Nat} {a : Addr} {fl : Bool} {xs : List Int32} {n x : Int32} (m : Nat) (hd : Dc bytes pc .baload 1 pc') (hi : H[i]? = some (a, (fl, .inr (.inl (.byte, xs))))) (hn : ¬ n < 0) (hm : n.toNatClampNeg = m) (hv : xs[m]? = some x) (hr : Wp b l Z own nm bytes maxL ret R H k j pc' Ls (.int x :: st) Q) : Wp b l Z own nm bytes maxL ret R H k j pc Ls (.int n :: .ref a :: st) Q := by
  obtain ⟨hd, rfl⟩ := hd
  refine Wp.step (fun p e s m args below meth c T L hx hZ hby hown X hH target h => ?_) hr
  obtain ⟨-, cl, A, hs, -⟩ := (hH.at hi).2
  obtain ⟨h1, h2⟩ := in_of hs hn (v := .int x) (by rw [hm]; simpa using hv)
  exact X.baloadBytes hx A.1 (State.isArrayOf_alike hZ.alike A.2.1) A.2.2 h1 h2 (g := mkF m pc Ls (.int n :: .ref a :: st)) rfl rfl (hb hby hd) _ h
theorem wp_zaload {i : Nat} {a : Addr} {fl : Bool} {xs : List Int32} {n x : Int32} (m : Nat) (hd : Dc bytes pc .baload 1 pc') (hi : H[i]? = some (a, (fl, .inr (.inl (.boolean, xs))))) (hn : ¬ n < 0) (hm : n.toNatClampNeg = m) (hv : xs[m]? = some x) (hr : Wp b l Z own nm bytes maxL ret R H k j pc' Ls (.int x :: st) Q) : Wp b l Z own nm bytes maxL ret R H k j pc Ls (.int n :: .ref a :: st) Q := by
  obtain ⟨hd, rfl⟩ := hd
  refine Wp.step (fun p e s m args below meth c T L hx hZ hby hown X hH target h => ?_) hr
  obtain ⟨-, cl, A, hs, -⟩ := (hH.at hi).2
  obtain ⟨h1, h2⟩ := in_of hs hn (v := .int x) (by rw [hm]; simpa using hv)
  exact X.baloadBooleans hx A.1 (State.isArrayOf_alike hZ.alike A.2.1) A.2.2 h1 h2 (g := mkF m pc Ls (.int n :: .ref a :: st)) rfl rfl (hb hby hd) _ h
theorem wp_laload {i : Nat} {a : Addr} {xs : List Int64} {n : Int32} {x : Int64} (m : Nat) (hd : Dc bytes pc .laload 1 pc') (hi : H[i]? = some (a, oJ xs)) (hn : ¬ n < 0) (hm : n.toNatClampNeg = m) (hv : xs[m]? = some x) (hr : Wp b l Z own nm bytes maxL ret R H k j pc' Ls (.long x :: st) Q) : Wp b l Z own nm bytes maxL ret R H k j pc Ls (.int n :: .ref a :: st) Q := by
  obtain ⟨hd, rfl⟩ := hd
  refine Wp.step (fun p e s m args below meth c T L hx hZ hby hown X hH target h => ?_) hr
  obtain ⟨Eq, cl, A, hs⟩ := (hH.at hi).2
  obtain ⟨h1, h2⟩ := in_of hs hn (v := .long x) (by rw [hm]; simpa using hv)
  exact X.laload hx A.1 (State.isArrayOf_alike hZ.alike A.2.1) A.2.2 h1 h2 (g := mkF m pc Ls (.int n :: .ref a :: st)) rfl rfl (hb hby hd) _ h
theorem wp_aaload {i : Nat} {a : Addr} {C : String} {ty : FieldType} {xs : List Value} {n : Int32} {x : Value} (m : Nat) (hd : Dc bytes pc .aaload 1 pc') (hi : H[i]? = some (a, oR C ty xs)) (hty : ty.isReference = true) (hn : ¬ n < 0) (hm : n.toNatClampNeg = m) (hv : xs[m]? = some x) (hr : Wp b l Z own nm bytes maxL ret R H k j pc' Ls (x :: st) Q) : Wp b l Z own nm bytes maxL ret R H k j pc Ls (.int n :: .ref a :: st) Q := by
  obtain ⟨hd, rfl⟩ := hd
  refine Wp.step (fun p e s m args below meth c T L hx hZ hby hown X hH target h => ?_) hr
  obtain ⟨-, cl, A, -, hs, -⟩ := (hH.at hi).2
  obtain ⟨h1, h2⟩ := in_of hs hn (hm.symm ▸ hv)
  exact X.aaload hx A.1 (State.isArrayOf_alike hZ.alike A.2.1) hty A.2.2 h1 h2 (g := mkF m pc Ls (.int n :: .ref a :: st)) rfl rfl (hb hby hd) _ h
theorem wp_lengthI {i : Nat} {a : Addr} {fl : Bool} {ty : FieldType} {xs : List Int32} (n : Int32) (hd : Dc bytes pc .arraylength 1 pc') (hi : H[i]? = some (a, (fl, .inr (.inl (ty, xs))))) (hn : xs.length.toInt32 = n) (hr : Wp b l Z own nm bytes maxL ret R H k j pc' Ls (.int n :: st) Q) : Wp b l Z own nm bytes maxL ret R H k j pc Ls (.ref a :: st) Q := by
  obtain ⟨hd, rfl⟩ := hd
  refine Wp.step (fun p e s m args below meth c T L hx hZ hby hown X hH target h => ?_) hr
  obtain ⟨-, cl, A, hs, -⟩ := (hH.at hi).2
  refine X.arraylength hx A.1 (State.isArrayOf_alike hZ.alike A.2.1) (g := mkF m pc Ls (.ref a :: st)) rfl rfl (hb hby hd) _ ?_
  have e1 : cl.slots.size.toInt32 = n := by rw [hs]; simpa using hn
  rw [e1]; exact h
theorem wp_lengthJ {i : Nat} {a : Addr} {xs : List Int64} (n : Int32) (hd : Dc bytes pc .arraylength 1 pc') (hi : H[i]? = some (a, oJ xs)) (hn : xs.length.toInt32 = n) (hr : Wp b l Z own nm bytes maxL ret R H k j pc' Ls (.int n :: st) Q) : Wp b l Z own nm bytes maxL ret R H k j pc Ls (.ref a :: st) Q := by
  obtain ⟨hd, rfl⟩ := hd
  refine Wp.step (fun p e s m args below meth c T L hx hZ hby hown X hH target h => ?_) hr
  obtain ⟨-, cl, A, hs⟩ := (hH.at hi).2
  refine X.arraylength hx A.1 (State.isArrayOf_alike hZ.alike A.2.1) (g := mkF m pc Ls (.ref a :: st)) rfl rfl (hb hby hd) _ ?_
  have e1 : cl.slots.size.toInt32 = n := by rw [hs]; simpa using hn
  rw [e1]; exact h
theorem wp_lengthR {i : Nat} {a : Addr} {C : String} {ty : FieldType} {xs : List Value} (n : Int32) (hd : Dc bytes pc .arraylength 1 pc') (hi : H[i]? = some (a, oR C ty xs)) (hn : xs.length.toInt32 = n) (hr : Wp b l Z own nm bytes maxL ret R H k j pc' Ls (.int n :: st) Q) : Wp b l Z own nm bytes maxL ret R H k j pc Ls (.ref a :: st) Q := by
  obtain ⟨hd, rfl⟩ := hd
  refine Wp.step (fun p e s m args below meth c T L hx hZ hby hown X hH target h => ?_) hr
  obtain ⟨-, cl, A, -, hs, -⟩ := (hH.at hi).2
  refine X.arraylength hx A.1 (State.isArrayOf_alike hZ.alike A.2.1) (g := mkF m pc Ls (.ref a :: st)) rfl rfl (hb hby hd) _ ?_
  have e1 : cl.slots.size.toInt32 = n := by rw [hs]; simpa using hn
  rw [e1]; exact h
theorem wp_iastore {i : Nat} {a : Addr} {xs : List Int32} {n x : Int32} (m : Nat) (hd : Dc bytes pc .iastore 1 pc') (hi : H[i]? = some (a, oA .int xs)) (hn : ¬ n < 0) (hm : n.toNatClampNeg = m) (hin : m < xs.length) (hr : Wp b l Z own nm bytes maxL ret R (H.set i (a, oA .int (xs.set m x))) k j pc' Ls st Q) : Wp b l Z own nm bytes maxL ret R H k j pc Ls (.int x :: .int n :: .ref a :: st) Q := by
  obtain ⟨hd, rfl⟩ := hd
  refine Wp.stepH fun p e s mm args below meth c T L hx hZ hby hml hown hnm hret X N hH => ?_
  subst hm
  obtain ⟨Eq, cl, A, hs, G⟩ := (hH.at hi).2
  obtain ⟨h1, -⟩ := in_of hs hn (v := .int xs[n.toNatClampNeg]) (by simp [hin])
  obtain ⟨T', h', X', e', W', stp⟩ := stI X hx hZ rfl A h1 (g := mkF mm pc Ls (.int x :: .int n :: .ref a :: st)) rfl rfl (hb hby hd)
  subst e'
  exact ⟨T', _, k, j, _, _, Ls, st, X', by rw [W'.size]; exact Nat.le_refl _, Fr.snoc X' N ((hH.at hi).1 rfl), hH.set hi W' (o' := .inr (.inl (_, xs.set n.toNatClampNeg _))) ⟨Eq.imp id (·.wr W'), _, A.same W', by rw [setSlot_list hs, List.map_set], fun y hy => (List.mem_or_eq_of_mem_set hy).elim (G y) fun q => by rw [q]; exact rfl⟩, hr, stp⟩
theorem wp_castore {i : Nat} {a : Addr} {xs : List Int32} {n x : Int32} (m : Nat) (hd : Dc bytes pc .castore 1 pc') (hi : H[i]? = some (a, oA .char xs)) (hn : ¬ n < 0) (hm : n.toNatClampNeg = m) (hin : m < xs.length) (hr : Wp b l Z own nm bytes maxL ret R (H.set i (a, oA .char (xs.set m (nar .char x)))) k j pc' Ls st Q) : Wp b l Z own nm bytes maxL ret R H k j pc Ls (.int x :: .int n :: .ref a :: st) Q := by
  obtain ⟨hd, rfl⟩ := hd
  refine Wp.stepH fun p e s mm args below meth c T L hx hZ hby hml hown hnm hret X N hH => ?_
  subst hm
  obtain ⟨Eq, cl, A, hs, G⟩ := (hH.at hi).2
  obtain ⟨h1, -⟩ := in_of hs hn (v := .int xs[n.toNatClampNeg]) (by simp [hin])
  obtain ⟨T', h', X', e', W', stp⟩ := stC X hx hZ rfl A h1 (g := mkF mm pc Ls (.int x :: .int n :: .ref a :: st)) rfl rfl (hb hby hd)
  subst e'
  exact ⟨T', _, k, j, _, _, Ls, st, X', by rw [W'.size]; exact Nat.le_refl _, Fr.snoc X' N ((hH.at hi).1 rfl), hH.set hi W' (o' := .inr (.inl (_, xs.set n.toNatClampNeg _))) ⟨Eq.imp id (·.wr W'), _, A.same W', by rw [setSlot_list hs, List.map_set], fun y hy => (List.mem_or_eq_of_mem_set hy).elim (G y) fun q => by rw [q]; exact fits_nar_char x⟩, hr, stp⟩
theorem wp_sastore {i : Nat} {a : Addr} {xs : List Int32} {n x : Int32} (m : Nat) (hd : Dc bytes pc .sastore 1 pc') (hi : H[i]? = some (a, oA .short xs)) (hn : ¬ n < 0) (hm : n.toNatClampNeg = m) (hin : m < xs.length) (hr : Wp b l Z own nm bytes maxL ret R (H.set i (a, oA .short (xs.set m (nar .short x)))) k j pc' Ls st Q) : Wp b l Z own nm bytes maxL ret R H k j pc Ls (.int x :: .int n :: .ref a :: st) Q := by
  obtain ⟨hd, rfl⟩ := hd
  refine Wp.stepH fun p e s mm args below meth c T L hx hZ hby hml hown hnm hret X N hH => ?_
  subst hm
  obtain ⟨Eq, cl, A, hs, G⟩ := (hH.at hi).2
  obtain ⟨h1, -⟩ := in_of hs hn (v := .int xs[n.toNatClampNeg]) (by simp [hin])
  obtain ⟨T', h', X', e', W', stp⟩ := stS X hx hZ rfl A h1 (g := mkF mm pc Ls (.int x :: .int n :: .ref a :: st)) rfl rfl (hb hby hd)
  subst e'
  exact ⟨T', _, k, j, _, _, Ls, st, X', by rw [W'.size]; exact Nat.le_refl _, Fr.snoc X' N ((hH.at hi).1 rfl), hH.set hi W' (o' := .inr (.inl (_, xs.set n.toNatClampNeg _))) ⟨Eq.imp id (·.wr W'), _, A.same W', by rw [setSlot_list hs, List.map_set], fun y hy => (List.mem_or_eq_of_mem_set hy).elim (G y) fun q => by rw [q]; exact fits_nar_short x⟩, hr, stp⟩
theorem wp_bastore {i : Nat} {a : Addr} {xs : List Int32} {n x : Int32} (m : Nat) (hd : Dc bytes pc .bastore 1 pc') (hi : H[i]? = some (a, oA .byte xs)) (hn : ¬ n < 0) (hm : n.toNatClampNeg = m) (hin : m < xs.length) (hr : Wp b l Z own nm bytes maxL ret R (H.set i (a, oA .byte (xs.set m (nar .byte x)))) k j pc' Ls st Q) : Wp b l Z own nm bytes maxL ret R H k j pc Ls (.int x :: .int n :: .ref a :: st) Q := by
  obtain ⟨hd, rfl⟩ := hd
  refine Wp.stepH fun p e s mm args below meth c T L hx hZ hby hml hown hnm hret X N hH => ?_
  subst hm
  obtain ⟨Eq, cl, A, hs, G⟩ := (hH.at hi).2
  obtain ⟨h1, -⟩ := in_of hs hn (v := .int xs[n.toNatClampNeg]) (by simp [hin])
  obtain ⟨T', h', X', e', W', stp⟩ := stB X hx hZ rfl A h1 (g := mkF mm pc Ls (.int x :: .int n :: .ref a :: st)) rfl rfl (hb hby hd)
  subst e'
  exact ⟨T', _, k, j, _, _, Ls, st, X', by rw [W'.size]; exact Nat.le_refl _, Fr.snoc X' N ((hH.at hi).1 rfl), hH.set hi W' (o' := .inr (.inl (_, xs.set n.toNatClampNeg _))) ⟨Eq.imp id (·.wr W'), _, A.same W', by rw [setSlot_list hs, List.map_set], fun y hy => (List.mem_or_eq_of_mem_set hy).elim (G y) fun q => by rw [q]; exact fits_nar_byte x⟩, hr, stp⟩
theorem wp_zastore {i : Nat} {a : Addr} {xs : List Int32} {n x : Int32} (m : Nat) (hd : Dc bytes pc .bastore 1 pc') (hi : H[i]? = some (a, oA .boolean xs)) (hn : ¬ n < 0) (hm : n.toNatClampNeg = m) (hin : m < xs.length) (hr : Wp b l Z own nm bytes maxL ret R (H.set i (a, oA .boolean (xs.set m (nar .boolean x)))) k j pc' Ls st Q) : Wp b l Z own nm bytes maxL ret R H k j pc Ls (.int x :: .int n :: .ref a :: st) Q := by
  obtain ⟨hd, rfl⟩ := hd
  refine Wp.stepH fun p e s mm args below meth c T L hx hZ hby hml hown hnm hret X N hH => ?_
  subst hm
  obtain ⟨Eq, cl, A, hs, G⟩ := (hH.at hi).2
  obtain ⟨h1, -⟩ := in_of hs hn (v := .int xs[n.toNatClampNeg]) (by simp [hin])
  obtain ⟨T', h', X', e', W', stp⟩ := stZ X hx hZ rfl A h1 (g := mkF mm pc Ls (.int x :: .int n :: .ref a :: st)) rfl rfl (hb hby hd)
  subst e'
  exact ⟨T', _, k, j, _, _, Ls, st, X', by rw [W'.size]; exact Nat.le_refl _, Fr.snoc X' N ((hH.at hi).1 rfl), hH.set hi W' (o' := .inr (.inl (_, xs.set n.toNatClampNeg _))) ⟨Eq.imp id (·.wr W'), _, A.same W', by rw [setSlot_list hs, List.map_set], fun y hy => (List.mem_or_eq_of_mem_set hy).elim (G y) fun q => by rw [q]; exact fits_nar_bool x⟩, hr, stp⟩
theorem wp_lastore {i : Nat} {a : Addr} {xs : List Int64} {n : Int32} {x : Int64} (m : Nat) (hd : Dc bytes pc .lastore 1 pc') (hi : H[i]? = some (a, oJ xs)) (hn : ¬ n < 0) (hm : n.toNatClampNeg = m) (hin : m < xs.length) (hr : Wp b l Z own nm bytes maxL ret R (H.set i (a, oJ (xs.set m x))) k j pc' Ls st Q) : Wp b l Z own nm bytes maxL ret R H k j pc Ls (.long x :: .int n :: .ref a :: st) Q := by
  obtain ⟨hd, rfl⟩ := hd
  refine Wp.stepH fun p e s mm args below meth c T L hx hZ hby hml hown hnm hret X N hH => ?_
  subst hm
  obtain ⟨Eq, cl, A, hs⟩ := (hH.at hi).2
  obtain ⟨h1, -⟩ := in_of hs hn (v := .long xs[n.toNatClampNeg]) (by simp [hin])
  obtain ⟨T', h', X', e', W', stp⟩ := stJ X hx hZ rfl A h1 (g := mkF mm pc Ls (.long x :: .int n :: .ref a :: st)) rfl rfl (hb hby hd)
  subst e'
  exact ⟨T', _, k, j, _, _, Ls, st, X', by rw [W'.size]; exact Nat.le_refl _, Fr.snoc X' N ((hH.at hi).1 rfl), hH.set hi W' (o' := .inr (.inr (.inl (xs.set n.toNatClampNeg x)))) ⟨Eq.wr W', _, A.same W', by rw [setSlot_list hs, List.map_set]⟩, hr, stp⟩
/-- a body's contract: handed these arguments among these new objects it returns and Q holds -/
def Met (l : Launch) (Z : State) (y : MethodName) (bytes : ByteArray) (maxL : Nat) (ret : Option FieldType) (rm : Room) (as' : List Value) (H : OH) (Q : Option Value → OH → Prop) : Prop :=
  ∀ (ws : List Jvm.Cond) (h : Heap), Hp Z h H → MetFree l y (head1 (Jvm.Cond.code y bytes maxL ret :: ws) rm) (fun a U => a = as'.toArray ∧ Z.Warmed39 U.vm ∧ U.heap = h) (fun _ _ _ _ _ => True)
    (fun _ U o U' => ∃ v L, o = .returned v ∧ (Fr Z.heap.size L ∧ h.size ≤ U'.heap.size ∧ ∃ H', Hp Z U'.heap H' ∧ Q v H') ∧ FrameEnd U o U' L rm.cells rm.slots)
theorem Met.of_wp {y : MethodName} {rm : Room} {as' : List Value} (hx : plainFor y = true) (hef : ∀ m, entryFrame m as'.toArray maxL = mkF m 0 Ls []) (hw : Wp none l Z y.cls y.name bytes maxL ret rm H 0 0 0 Ls [] Q) : Met l Z y bytes maxL ret rm as' H Q := by
  intro ws h hH
  refine MetFree.of_bodySF hx hisR ?_
  intro p e s m args below meth c s₁ Bd hml0 hP hK
  obtain ⟨rfl, hZ, hh⟩ := hP
  have X0 : Stand p l e rm s m as'.toArray below meth c s₁ [] 0 0 := Stand.of_body Bd
  have e0 : s₁.heap = h := by rw [← hh, Bd.state]; rfl
  obtain ⟨T', v, L', k', j', vm1, k1, H', ⟨hS, hk1, hvm⟩, X', ⟨hc, hj, hsz⟩, N', hH', hv, hQ, stp⟩ := hw p e s s.vm 0 m as'.toArray below meth c s₁ [] Bd.exec hZ ((State.WarmedH.refl s).since 0) (Nat.zero_le _) Bd.bytes hml0 (findClass_of_methodNamed Bd.named) (name_of_methodNamed Bd.named Bd.method).1 Bd.returns X0 (Fr.nil _) (by rw [e0]; exact hH) (fun _ q => nomatch q)
  obtain rfl := hvm rfl
  have X'' : Stand p l e rm s m as'.toArray below meth c T' L' k' j' := X'
  obtain ⟨fs, hr, hrun, hended, hW, hsame⟩ := X''.leave (v := v) (fun h => hv (Bd.returns.symm.trans h))
  refine ⟨_, _, castTop (hef m) (stp fs hr), hrun, hended, v, L', rfl, ⟨N', ?_, H', hH', hQ⟩, ⟨_, rfl⟩, hW, hsame.mono hc hj⟩
  rw [e0] at hsz; exact hsz
/-- the same for a body that may intern (a String constant loaded cold) -/
theorem MetW.of_wp {y : MethodName} {rm : Room} {as' : List Value} (hx : plainFor y = true) (hef : ∀ m, entryFrame m as'.toArray maxL = mkF m 0 Ls []) (hw : Wp b l Z y.cls y.name bytes maxL ret rm H 0 0 0 Ls [] Q) (ws : List Jvm.Cond) (h : Heap) (hH : Hp Z h H) :
    MetFree l y (head1 (Jvm.Cond.code y bytes maxL ret :: ws) rm) (fun a U => a = as'.toArray ∧ Z.Warmed39 U.vm ∧ U.heap = h ∧ MdOk b Z U U.vm) (fun _ _ _ _ _ => True)
      (fun _ U o U' => ∃ v L, o = .returned v ∧ (Fr Z.heap.size L ∧ ∃ H', Hp Z U'.heap H' ∧ Q v H') ∧ ReturnedEndW U o U' L rm.cells rm.slots) := by
  refine MetFree.of_bodySF hx hisR ?_
  intro p e s m args below meth c s₁ Bd hml0 hP hK
  obtain ⟨rfl, hZ, hh, hB⟩ := hP
  have X0 : Stand p l e rm s m as'.toArray below meth c s₁ [] 0 0 := Stand.of_body Bd
  have e0 : s₁.heap = h := by rw [← hh, Bd.state]; rfl
  obtain ⟨T', v, L', k', j', vm1, k1, H', ⟨hS, hk1, -⟩, X', ⟨hc, hj, hsz⟩, N', hH', hv, hQ, stp⟩ := hw p e s s.vm 0 m as'.toArray below meth c s₁ [] Bd.exec hZ ((State.WarmedH.refl s).since 0) (Nat.zero_le _) Bd.bytes hml0 (findClass_of_methodNamed Bd.named) (name_of_methodNamed Bd.named Bd.method).1 Bd.returns X0 (Fr.nil _) (by rw [e0]; exact hH) hB
  obtain ⟨fs, hr, hrun, hended, q1, q2, q3, q4⟩ := X'.leaveW hS hk1 (v := v) (fun h => hv (Bd.returns.symm.trans h))
  exact ⟨_, _, castTop (hef m) (stp fs hr), hrun, hended, v, L', rfl, ⟨N', H', hH', hQ⟩, q1, q2, q3, q4.mono hc hj⟩
theorem Met.mono {y : MethodName} {rm : Room} {as' : List Value} {Q' : Option Value → OH → Prop} (M : Met l Z y bytes maxL ret rm as' H Q') (hq : ∀ v H', Q' v H' → Q v H') : Met l Z y bytes maxL ret rm as' H Q := fun ws h hH p e ha hc hk s m args below hf happ hP hK => by
  obtain ⟨n, o, h1, h2, h3, v, L, rfl, ⟨q1, q2, H', q3, q4⟩, h5⟩ := M ws h hH p e ha hc hk s m args below hf happ hP hK
  exact ⟨n, _, h1, h2, h3, v, L, rfl, ⟨q1, q2, H', q3, hq _ _ q4⟩, h5⟩
theorem wp_callS {y : MethodName} {bytes' : ByteArray} {maxL' : Nat} {ret' : Option FieldType} {rm : Room} {rest : List Value} {Q' : Option Value → OH → Prop} {idx : Nat} {ps : List FieldType} {rt : Option FieldType} {as' : List Value} (M : Met l Z y bytes' maxL' ret' rm as' H Q') (hd : Dc bytes pc (.invokestatic idx) 3 pc') (w1 : (Cond.methodLink own idx y).before a0 Z = true) (w2 : (Cond.static y).before a0 Z = true) (w3 : (Cond.initialized y.cls).before a0 Z = true) (w4 : (Cond.code y bytes' maxL' ret').before a0 Z = true) (hy : y.cls ≠ "java/lang/invoke/MethodHandle" ∧ y.cls ≠ "java/lang/invoke/VarHandle") (hpd : parseMethodDescriptor y.desc = some ⟨ps, rt⟩) (hlen : as'.length = ps.length) (hst : st = as'.reverse ++ rest) (hsz : Ls.size = maxL) (hf : rm.frames + 1 ≤ R.frames) (hl : (rest.map fun v => v.category).sum + (maxL' + 11) + rm.locals ≤ R.locals) (hc : k + rm.cells ≤ R.cells) (hj : j + rm.slots ≤ R.slots) (hr : ∀ v H', Q' v H' → Wp b l Z own nm bytes maxL ret R H' (k + rm.cells) (j + rm.slots) pc' Ls (v.toList ++ rest) Q) : Wp b l Z own nm bytes maxL ret R H k j pc Ls st Q := by
  obtain ⟨hd, rfl⟩ := hd
  refine Wp.stepH fun p e s m args below meth c T L hx hZ hby hml hown hnm hret X N hH => ?_
  obtain ⟨v, _, ⟨T', L', k', n'⟩, -, X', ⟨Lc, ⟨N', hsz', H', hH', hQ⟩, l1, y1, z1⟩, stp⟩ := Jvm.LawKit.callS X hx (y := y) hown (mvT hZ w1) (mvT hZ w2) (mvT hZ w3) (mvT hZ w4) hy (backOf (W := (rest.map fun v => v.category).sum) (Q := fun v h L => Fr Z.heap.size L ∧ T.heap.size ≤ h.size ∧ ∃ H', Hp Z h H' ∧ Q' v H') (M [] T.heap hH) hZ w4 w3 hf hl) (g := mkF m pc Ls st) rfl (by rw [hml]; exact hsz) (argsL := as') (rest := rest) (lenOf hpd hlen) hst (by show 2 * 0 + _ ≤ _; omega) (hb hby hd) (fun _ _ => ⟨rfl, rfl, hc, hj⟩)
  dsimp only [Pt.U, Pt.locs, Pt.cells, Pt.slots] at X' l1 y1 z1 stp hH' hsz'
  subst l1 y1 z1
  exact ⟨T', _, _, _, H', _, Ls, v.toList ++ rest, X', hsz', N.app N', hH', hr v H' hQ, stp⟩
theorem wp_init {y : MethodName} {bytes' : ByteArray} {maxL' : Nat} {rm : Room} {rest : List Value} {Q' : Option Value → OH → Prop} {idx : Nat} {ps : List FieldType} {rt : Option FieldType} {a : Addr} {as' : List Value} (M : Met l Z y bytes' maxL' none rm (.ref a :: as') H Q') (hd : Dc bytes pc (.invokespecial idx) 3 pc') (hin : y.name = "<init>") (w1 : (Cond.methodLink own idx y).before a0 Z = true) (w2 : (Cond.instanceMethod y).before a0 Z = true) (w3 : (Cond.initialized y.cls).before a0 Z = true) (w4 : (Cond.code y bytes' maxL' none).before a0 Z = true) (hy : y.cls ≠ "java/lang/invoke/MethodHandle" ∧ y.cls ≠ "java/lang/invoke/VarHandle") (hpd : parseMethodDescriptor y.desc = some ⟨ps, rt⟩) (hlen : as'.length = ps.length) (hst : st = as'.reverse ++ .ref a :: rest) (hsz : Ls.size = maxL) (hf : rm.frames + 1 ≤ R.frames) (hl : (rest.map fun v => v.category).sum + (maxL' + 11) + rm.locals ≤ R.locals) (hc : k + rm.cells ≤ R.cells) (hj : j + rm.slots ≤ R.slots) (hr : ∀ v H', Q' v H' → Wp b l Z own nm bytes maxL ret R H' (k + rm.cells) (j + rm.slots) pc' Ls (v.toList ++ rest) Q) : Wp b l Z own nm bytes maxL ret R H k j pc Ls st Q := by
  obtain ⟨hd, rfl⟩ := hd
  refine Wp.stepH fun p e s m args below meth c T L hx hZ hby hml hown hnm hret X N hH => ?_
  obtain ⟨v, _, ⟨T', L', k', n'⟩, -, X', ⟨Lc, ⟨N', hsz', H', hH', hQ⟩, l1, y1, z1⟩, stp⟩ := X.specialBack hx (y := y) hin hown (mvT hZ w1) (mvT hZ w2) (mvT hZ w4) hy (backOf (W := (rest.map fun v => v.category).sum) (Q := fun v h L => Fr Z.heap.size L ∧ T.heap.size ≤ h.size ∧ ∃ H', Hp Z h H' ∧ Q' v H') (M [] T.heap hH) hZ w4 w3 hf hl) (g := mkF m pc Ls st) rfl (by rw [hml]; exact hsz) (Steps.refl _) (a := a) (argsL := as') (rest := rest) (lenOf hpd hlen) hst (by show 2 * 0 + _ ≤ _; omega) (hb hby hd) (fun _ _ => ⟨rfl, rfl, hc, hj⟩)
  dsimp only [Pt.U, Pt.locs, Pt.cells, Pt.slots] at X' l1 y1 z1 stp hH' hsz'
  subst l1 y1 z1
  exact ⟨T', _, _, _, H', _, Ls, v.toList ++ rest, X', hsz', N.app N', hH', hr v H' hQ, fun _ q => stp.trans q⟩
theorem wp_virtual {y : MethodName} {bytes' : ByteArray} {maxL' : Nat} {ret' : Option FieldType} {rm : Room} {rest : List Value} {Q' : Option Value → OH → Prop} {idx : Nat} {ps : List FieldType} {rt : Option FieldType} {x : MethodName} {C : String} {a : Addr} {as' : List Value} (M : Met l Z y bytes' maxL' ret' rm (.ref a :: as') H Q') (E : ExaAt Z H a C) (hd : Dc bytes pc (.invokevirtual idx) 3 pc') (w1 : (Cond.methodLink own idx x).before a0 Z = true) (w2 : (Cond.declares x).before a0 Z = true) (wn : (Cond.selects x.cls x x).before a0 Z = true) (ws : (Cond.selects C x y).before a0 Z = true) (wi : (Cond.instanceMethod y).before a0 Z = true) (w3 : (Cond.initialized y.cls).before a0 Z = true) (w4 : (Cond.code y bytes' maxL' ret').before a0 Z = true) (hy : x.cls ≠ "java/lang/invoke/MethodHandle" ∧ x.cls ≠ "java/lang/invoke/VarHandle") (hpd : parseMethodDescriptor x.desc = some ⟨ps, rt⟩) (hlen : as'.length = ps.length) (hst : st = as'.reverse ++ .ref a :: rest) (hsz : Ls.size = maxL) (hf : rm.frames + 1 ≤ R.frames) (hl : (rest.map fun v => v.category).sum + (maxL' + 11) + rm.locals ≤ R.locals) (hc : k + rm.cells ≤ R.cells) (hj : j + rm.slots ≤ R.slots) (hr : ∀ v H', Q' v H' → Wp b l Z own nm bytes maxL ret R H' (k + rm.cells) (j + rm.slots) pc' Ls (v.toList ++ rest) Q) : Wp b l Z own nm bytes maxL ret R H k j pc Ls st Q := by
  obtain ⟨hd, rfl⟩ := hd
  refine Wp.stepH fun p e s m args below meth c T L hx hZ hby hml hown hnm hret X N hH => ?_
  obtain ⟨cq, kq, q1, q2, q3⟩ := isOf hZ rfl (E _ hH)
  obtain ⟨v, _, ⟨T', L', k', n'⟩, -, X', ⟨Lc, ⟨N', hsz', H', hH', hQ⟩, l1, y1, z1⟩, stp⟩ := X.virtualBack hx (y := x) (z := y) hown (mvT hZ w1) (mvT hZ w2) (notFace_of_selects (args := #[]) (mvT hZ wn)) (mvT hZ ws) (mvT hZ wi) hy (backOf (W := (rest.map fun v => v.category).sum) (Q := fun v h L => Fr Z.heap.size L ∧ T.heap.size ≤ h.size ∧ ∃ H', Hp Z h H' ∧ Q' v H') (M [] T.heap hH) hZ w4 w3 hf hl) q1 q3 (g := mkF m pc Ls st) rfl (by rw [hml]; exact hsz) (Steps.refl _) (argsL := as') (rest := rest) (lenOf hpd hlen) hst (by show 2 * 0 + _ ≤ _; omega) (hb hby hd) (fun _ _ => ⟨rfl, rfl, hc, hj⟩)
  dsimp only [Pt.U, Pt.locs, Pt.cells, Pt.slots] at X' l1 y1 z1 stp hH' hsz'
  subst l1 y1 z1
  exact ⟨T', _, _, _, H', _, Ls, v.toList ++ rest, X', hsz', N.app N', hH', hr v H' hQ, fun _ q => stp.trans q⟩
theorem xs_pop2L {tb : Tables} [Ours tb] {e : Env} {below : List Frame} {T target : State} {m : MethodId} {c : Code} {g : JFrame} (h : At T m c below) (hx : tb.exec = Jvm.exec) (hg : g.method = m) {x : Int64} {rest : List Value} (hd : decode c.code g.pc = .ok (.pop2, 1)) (hs : g.stack = .long x :: rest)
    (hr : Steps tb e below (T.setTop { g with pc := g.pc + 1, stack := rest }) target) : Steps tb e below (T.setTop g) target := by
  subst hg
  jvm_step h [h.top, hx, hd, hs, Value.category]
  exact hr
theorem xs_dup_x2 {tb : Tables} [Ours tb] {e : Env} {below : List Frame} {T target : State} {m : MethodId} {c : Code} {g : JFrame} (h : At T m c below) (hx : tb.exec = Jvm.exec) (hg : g.method = m) {x y z : Value} {rest : List Value} (hd : decode c.code g.pc = .ok (.dup_x2, 1)) (hs : g.stack = x :: y :: z :: rest) (hc1 : x.category = 1) (hc2 : y.category = 1) (hc3 : z.category = 1)
    (hr : Steps tb e below (T.setTop { g with pc := g.pc + 1, stack := x :: y :: z :: x :: rest }) target) : Steps tb e below (T.setTop g) target := by
  subst hg
  jvm_step h [h.top, hx, hd, hs, hc1, hc2, hc3]
  exact hr
theorem wp_pop2L {x : Int64} (hd : Dc bytes pc (.pop2) 1 pc')  (hr : Wp b l Z own nm bytes maxL ret R H k j pc' Ls st Q) : Wp b l Z own nm bytes maxL ret R H k j pc Ls (.long x :: st) Q := by
  obtain ⟨hd, rfl⟩ := hd
  exact Wp.step (fun p e s m args below meth c T L hx hZ hby hown X hH target ht => xs_pop2L X.here hx rfl (hb hby hd) rfl ht) hr
theorem wp_dup_x2 {x y z : Value} (hd : Dc bytes pc (.dup_x2) 1 pc') (hc1 : x.category = 1) (hc2 : y.category = 1) (hc3 : z.category = 1) (hr : Wp b l Z own nm bytes maxL ret R H k j pc' Ls (x :: y :: z :: x :: st) Q) : Wp b l Z own nm bytes maxL ret R H k j pc Ls (x :: y :: z :: st) Q := by
  obtain ⟨hd, rfl⟩ := hd
  exact Wp.step (fun p e s m args below meth c T L hx hZ hby hown X hH target ht => xs_dup_x2 X.here hx rfl (hb hby hd) rfl hc1 hc2 hc3 ht) hr
theorem wp_private {y : MethodName} {bytes' : ByteArray} {maxL' : Nat} {ret' : Option FieldType} {rm : Room} {rest : List Value} {Q' : Option Value → OH → Prop} {idx : Nat} {ps : List FieldType} {rt : Option FieldType} {a : Addr} {C : String} {kk : Nat} {as' : List Value} (M : Met l Z y bytes' maxL' ret' rm (.ref a :: as') H Q') (E : ExaAt Z H a C) (hd : Dc bytes pc (.invokevirtual idx) 3 pc') (w1 : (Cond.methodLink own idx y).before a0 Z = true) (wi : (Cond.instanceMethod y).before a0 Z = true) (wn : (Cond.instantiable y.cls kk).before a0 Z = true) (wp : (Cond.privateMethod y).before a0 Z = true) (w3 : (Cond.initialized y.cls).before a0 Z = true) (w4 : (Cond.code y bytes' maxL' ret').before a0 Z = true) (hy : y.cls ≠ "java/lang/invoke/MethodHandle" ∧ y.cls ≠ "java/lang/invoke/VarHandle") (hpd : parseMethodDescriptor y.desc = some ⟨ps, rt⟩) (hlen : as'.length = ps.length) (hst : st = as'.reverse ++ .ref a :: rest) (hsz : Ls.size = maxL) (hf : rm.frames + 1 ≤ R.frames) (hl : (rest.map fun v => v.category).sum + (maxL' + 11) + rm.locals ≤ R.locals) (hc : k + rm.cells ≤ R.cells) (hj : j + rm.slots ≤ R.slots) (hr : ∀ v H', Q' v H' → Wp b l Z own nm bytes maxL ret R H' (k + rm.cells) (j + rm.slots) pc' Ls (v.toList ++ rest) Q) : Wp b l Z own nm bytes maxL ret R H k j pc Ls st Q := by
  obtain ⟨hd, rfl⟩ := hd
  refine Wp.stepH fun p e s m args below meth c T L hx hZ hby hml hown hnm hret X N hH => ?_
  obtain ⟨cl, q1, q2⟩ := (E _ hH).cell
  obtain ⟨mk, mt, n1, n2, n3, n4⟩ := Cond.instanceMethod_spec (mvT (args := args) hZ wi)
  obtain ⟨mt', cM, n2', -, -, -, -, -, -, n5⟩ := Cond.code_spec n1 (mvT (args := args) hZ w4)
  cases n2.symm.trans n2'
  obtain ⟨c2, k2, i1, i2, -, i4, -⟩ := Cond.instantiable_spec (mvT (args := args) hZ wn)
  cases (findClass_of_methodNamed n1).symm.trans i1
  have i5 : k2.isInterface = false := by cases q : k2.isInterface with | false => rfl | true => rw [q] at i4; cases i4
  have hsel : selectMethod e.platform s.vm cl.cls mk = .method mk := selectMethod_private n2 (Cond.privateMethod_at (mvP (args := args) hZ wp) mk mt n1 n2)
  obtain ⟨vm1, X1, st1⟩ := X.invokevirtual hx hown (mvT hZ w1) n1 n2 n3 i2 i5 hy (a := a) (cell := cl) q1 q2 hsel n2 n4 i2 i5 (g := mkF m pc Ls st) rfl (argsL := as') (rest := rest) (lenOf hpd hlen _ n5) hst (hb hby hd)
  obtain ⟨v, ⟨T', L', k', n'⟩, X', ⟨Lc, ⟨N', hsz', H', hH', hQ⟩, l1, y1, z1⟩, st2⟩ := backOf (p := p) (e := e) (below := below) (args := args) (len := 3) (W := (rest.map fun v => v.category).sum) (Q := fun v h L => Fr Z.heap.size L ∧ T.heap.size ≤ h.size ∧ ∃ H', Hp Z h H' ∧ Q' v H') (M [] T.heap hH) hZ w4 w3 hf hl m meth c ⟨T.setVm vm1, L, k, j⟩ { mkF m pc Ls st with stack := rest } (.invokevirtual idx) mk (.ref a :: as').toArray X1 rfl (by show Ls.size = _; rw [hml]; exact hsz) (hb hby hd) (by show 2 * 0 + (rest.map fun v => v.category).sum ≤ _; omega) (X1.named n1) ⟨rfl, rfl, hc, hj⟩
  dsimp only [Pt.U, Pt.locs, Pt.cells, Pt.slots] at X' l1 y1 z1 st2 hH' hsz'
  subst l1 y1 z1
  exact ⟨T', _, _, _, H', _, Ls, v.toList ++ rest, X', hsz', N.app N', hH', hr v H' hQ, fun t q => st1 _ fun acts => by rw [doInvoke_state]; exact st2.trans q⟩
theorem wp_interface {y : MethodName} {bytes' : ByteArray} {maxL' : Nat} {ret' : Option FieldType} {rm : Room} {rest : List Value} {Q' : Option Value → OH → Prop} {idx : Nat} {ps : List FieldType} {rt : Option FieldType} {x : MethodName} {C : String} {cnt : Nat} {a : Addr} {as' : List Value} (M : Met l Z y bytes' maxL' ret' rm (.ref a :: as') H Q') (E : ExaAt Z H a C) (hd : Dc bytes pc (.invokeinterface idx cnt) 5 pc') (w1 : (Cond.methodLink own idx x).before a0 Z = true) (w2 : (Cond.declares x).before a0 Z = true) (wf : (Cond.interfaceMethod x.cls x.cls x.name x.desc).before a0 Z = true) (hfa : ((Cond.interfaceMethod x.cls x.cls x.name x.desc).onTables && (Cond.interfaceMethod x.cls x.cls x.name x.desc).keepsFace) = true) (ws : (Cond.selects C x y).before a0 Z = true) (wi : (Cond.instanceMethod y).before a0 Z = true) (wpu : (Cond.publicMethod y).before a0 Z = true) (wu : (Cond.unhidden C x.name x.desc).before a0 Z = true) (wc : (Cond.castable C x.cls).before a0 Z = true) (w3 : (Cond.initialized y.cls).before a0 Z = true) (w4 : (Cond.code y bytes' maxL' ret').before a0 Z = true) (hy : x.cls ≠ "java/lang/invoke/MethodHandle" ∧ x.cls ≠ "java/lang/invoke/VarHandle") (hpd : parseMethodDescriptor x.desc = some ⟨ps, rt⟩) (hlen : as'.length = ps.length) (hst : st = as'.reverse ++ .ref a :: rest) (hsz : Ls.size = maxL) (hf : rm.frames + 1 ≤ R.frames) (hl : (rest.map fun v => v.category).sum + (maxL' + 11) + rm.locals ≤ R.locals) (hc : k + rm.cells ≤ R.cells) (hj : j + rm.slots ≤ R.slots) (hr : ∀ v H', Q' v H' → Wp b l Z own nm bytes maxL ret R H' (k + rm.cells) (j + rm.slots) pc' Ls (v.toList ++ rest) Q) : Wp b l Z own nm bytes maxL ret R H k j pc Ls st Q := by
  obtain ⟨hd, rfl⟩ := hd
  refine Wp.stepH fun p e s m args below meth c T L hx hZ hby hml hown hnm hret X N hH => ?_
  obtain ⟨cq, kq, q1, q2, q3⟩ := isOf hZ rfl (E _ hH)
  obtain ⟨v, _, ⟨T', L', k', n'⟩, -, X', ⟨Lc, ⟨N', hsz', H', hH', hQ⟩, l1, y1, z1⟩, stp⟩ := X.interfaceBack hx (xi := x) (y := y) hown (mvT hZ w1) (mvT hZ w2) (mvT hZ wf hfa) (mvT hZ ws) (mvT hZ wi) (mvT hZ wpu) (mvT hZ wu) (mvT hZ wc) hy (backOf (len := 5) (W := (rest.map fun v => v.category).sum) (Q := fun v h L => Fr Z.heap.size L ∧ T.heap.size ≤ h.size ∧ ∃ H', Hp Z h H' ∧ Q' v H') (M [] T.heap hH) hZ w4 w3 hf hl) q1 q2 q3 (g := mkF m pc Ls st) rfl (by rw [hml]; exact hsz) (Steps.refl _) (argsL := as') (rest := rest) (lenOf hpd hlen) hst (by show 2 * 0 + _ ≤ _; omega) (hb hby hd) (fun _ _ => ⟨rfl, rfl, hc, hj⟩)
  dsimp only [Pt.U, Pt.locs, Pt.cells, Pt.slots] at X' l1 y1 z1 stp hH' hsz'
  subst l1 y1 z1
  exact ⟨T', _, _, _, H', _, Ls, v.toList ++ rest, X', hsz', N.app N', hH', hr v H' hQ, fun _ q => stp.trans q⟩
theorem wp_ldcS {text : String} {idx n : Nat} (hd : Dc bytes pc (.ldc idx) 2 pc') (hbt : b = some none) (w : (Cond.stringLink own idx text).before a0 Z = true) (wS : ∀ a ∈ Bundle.stringAtoms, a.before a0 Z = true) (hn : 4 * text.toList.length ≤ n) (hbig : n ≤ 536870912) (hc : k + 2 ≤ R.cells) (hl : j + (n + 4) ≤ R.slots) (hr : ∀ a, Wp b l Z own nm bytes maxL ret R H (k + 2) (j + (n + 4)) pc' Ls (.ref a :: st) Q) : Wp b l Z own nm bytes maxL ret R H k j pc Ls st Q := by
  obtain ⟨hd, rfl⟩ := hd
  intro p e s vm0 k0 m args below meth c T L hx hZ hS hk hby hml hown hnm hret X N hH hB
  obtain ⟨a, T', h', k1, X', e', E', hS', hk1, hZ', hown', stp⟩ := ldcS X hx hZ hown w wS rfl hS hk (g := mkF m pc Ls st) rfl (hb hby hd) hn hbig hc hl
  subst e'
  obtain ⟨T2, v, L2, k2, j2, vm1, k3, H2, ⟨r0, r1, r2⟩, r3, ⟨r4, r5, r6⟩, r7, r8, r9, r10, r11⟩ := hr a p e s T'.vm k1 m args below meth c T' L hx hZ' hS' hk1 hby hml hown' hnm hret X' N (hH.ext E') (fun _ q => by rw [hbt] at q; cases q)
  exact ⟨T2, v, L2, k2, j2, vm1, k3, H2, ⟨r0, r1, fun q => by rw [hbt] at q; cases q⟩, r3, ⟨r4, r5, Nat.le_trans E'.1 r6⟩, r7, r8, r9, r10, fun fs hl => stp _ (r11 fs hl)⟩
theorem wp_cast {a : Addr} {K : String} {idx : Nat} (hd : Dc bytes pc (.checkcast idx) 3 pc') (w : (Cond.classLink own idx K).before a0 Z = true) (F : ∀ h, Hp Z h H → Ins Z h a K true) (hr : Wp b l Z own nm bytes maxL ret R H k j pc' Ls (.ref a :: st) Q) : Wp b l Z own nm bytes maxL ret R H k j pc Ls (.ref a :: st) Q := by
  obtain ⟨hd, rfl⟩ := hd
  refine Wp.stepH fun p e s m args below meth c T L hx hZ hby hml hown hnm hret X N hH => ?_
  obtain ⟨T', X', e', stp⟩ := castY X hx hZ hown w rfl (F _ hH) (g := mkF m pc Ls (.ref a :: st)) rfl rfl (hb hby hd)
  exact ⟨T', L, k, j, H, _, Ls, .ref a :: st, X', by rw [e']; exact Nat.le_refl _, N, by rw [e']; exact hH, hr, stp⟩
theorem wp_instY {a : Addr} {K : String} {idx : Nat} (hd : Dc bytes pc (.instanceof idx) 3 pc') (w : (Cond.classLink own idx K).before a0 Z = true) (F : ∀ h, Hp Z h H → Ins Z h a K true) (hr : Wp b l Z own nm bytes maxL ret R H k j pc' Ls (.int 1 :: st) Q) : Wp b l Z own nm bytes maxL ret R H k j pc Ls (.ref a :: st) Q := by
  obtain ⟨hd, rfl⟩ := hd
  refine Wp.stepH fun p e s m args below meth c T L hx hZ hby hml hown hnm hret X N hH => ?_
  obtain ⟨T', X', e', stp⟩ := instY X hx hZ hown w rfl (F _ hH) (g := mkF m pc Ls (.ref a :: st)) rfl rfl (hb hby hd)
  exact ⟨T', L, k, j, H, _, Ls, .int 1 :: st, X', by rw [e']; exact Nat.le_refl _, N, by rw [e']; exact hH, hr, stp⟩
theorem wp_instN {a : Addr} {C K : String} {idx : Nat} (hd : Dc bytes pc (.instanceof idx) 3 pc') (w : (Cond.classLink own idx K).before a0 Z = true) (E : ExaAt Z H a C) (F : ∃ c t, Z.vm.findClass C = some c ∧ Z.vm.findClass K = some t ∧ Z.vm.assignable c t = false) (hr : Wp b l Z own nm bytes maxL ret R H k j pc' Ls (.int 0 :: st) Q) : Wp b l Z own nm bytes maxL ret R H k j pc Ls (.ref a :: st) Q := by
  obtain ⟨hd, rfl⟩ := hd
  refine Wp.stepH fun p e s m args below meth c T L hx hZ hby hml hown hnm hret X N hH => ?_
  obtain ⟨T', X', e', stp⟩ := instNo X hx hZ hown w rfl (E _ hH) F (g := mkF m pc Ls (.ref a :: st)) rfl rfl (hb hby hd)
  exact ⟨T', L, k, j, H, _, Ls, .int 0 :: st, X', by rw [e']; exact Nat.le_refl _, N, by rw [e']; exact hH, hr, stp⟩
theorem wp_anewarray {C : String} {idx : Nat} {n : Int32} (cnt cap : Nat) (hd : Dc bytes pc (.anewarray idx) 3 pc') (w1 : (Cond.classLink own idx C).before a0 Z = true) (w2 : (Cond.arrayOver (.object C)).before a0 Z = true) (hn : ¬ n < 0) (hcnt : n.toNatClampNeg = cnt) (hcap : cnt ≤ cap) (hb8 : cap * 8 ≤ 536870912) (hc : k + 1 ≤ R.cells) (hl : j + cap ≤ R.slots) (hr : ∀ a, Wp b l Z own nm bytes maxL ret R ((a, oR C (.object C) (List.replicate cnt .null)) :: H) (k + 1) (j + cap) pc' Ls (.ref a :: st) Q) : Wp b l Z own nm bytes maxL ret R H k j pc Ls (.int n :: st) Q := by
  obtain ⟨hd, rfl⟩ := hd
  refine Wp.stepH fun p e s m args below meth c T L hx hZ hby hml hown hnm hret X N hH => ?_
  obtain ⟨T', h', cA, X', e', E', A', B', O', stp⟩ := newRE X hx hZ hown w1 w2 rfl (g := mkF m pc Ls (.int n :: st)) rfl (hb hby hd) rfl hn (cap := cap) (by rw [hcnt]; exact hcap) hb8 hc hl rfl
  subst e'
  refine ⟨T', L, _, _, _, _, Ls, _, X', E'.1, N, hH.cons E' (o := .inr (.inr (.inr (_, _, List.replicate cnt .null)))) ⟨B', _, A', O', ?_, fun v hv => ?_⟩, hr _, stp⟩
  · simp [newA, hcnt, defaultValue]
  · rw [(List.mem_replicate.mp hv).2]; rfl
theorem Sto.ofT {h : Heap} {a y : Addr} {cl : Cell} {ty ty' : FieldType} {C : String} (A : Arr Z h a cl ty') (O : OvrT Z cl.cls C ty) (I : Ins Z h y C true) : Sto Z h a (.ref y) := by
  obtain ⟨k, comp, o1, o2, o3⟩ := O
  obtain ⟨cv, cT, i1, i2, i3⟩ := I
  cases o3.symm.trans i2
  simp only [Bool.and_eq_true, Bool.not_eq_true'] at i3
  obtain ⟨kc, q⟩ := Vm.classAt_of_findClass o3
  obtain ⟨kv, q2⟩ := Vm.classAt_of_assignable i3.2 ⟨kc, q⟩
  exact Or.inr ⟨cl, cv, k, kv, kc, _, _, y, A.1, o1, o2, q, rfl, i1, i3.1, q2, i3.2⟩
theorem wp_aastore {i : Nat} {a : Addr} {C : String} {ty : FieldType} {xs : List Value} {n : Int32} {x : Value} (m : Nat) (hd : Dc bytes pc .aastore 1 pc') (hi : H[i]? = some (a, oR C ty xs)) (hty : ty.isReference = true) (hn : ¬ n < 0) (hm : n.toNatClampNeg = m) (hin : m < xs.length) (F : x = .null ∨ ∃ y, x = .ref y ∧ ∀ h, Hp Z h H → Ins Z h y C true) (hr : Wp b l Z own nm bytes maxL ret R (H.set i (a, oR C ty (xs.set m x))) k j pc' Ls st Q) : Wp b l Z own nm bytes maxL ret R H k j pc Ls (x :: .int n :: .ref a :: st) Q := by
  obtain ⟨hd, rfl⟩ := hd
  refine Wp.stepH fun p e s mm args below meth c T L hx hZ hby hml hown hnm hret X N hH => ?_
  subst hm
  obtain ⟨Eq, cl, A, O, hs, G⟩ := (hH.at hi).2
  obtain ⟨h1, -⟩ := in_of hs hn (v := xs[n.toNatClampNeg]) (by simp [hin])
  have S : Sto Z T.heap a x := by
    rcases F with rfl | ⟨y, rfl, F⟩
    · exact Or.inl rfl
    · exact Sto.ofT A O (F _ hH)
  obtain ⟨T', h', X', e', W', stp⟩ := stR X hx hZ rfl A h1 hty S (g := mkF mm pc Ls (x :: .int n :: .ref a :: st)) rfl rfl (hb hby hd)
  subst e'
  exact ⟨T', _, k, j, _, _, Ls, st, X', by rw [W'.size]; exact Nat.le_refl _, Fr.snoc X' N ((hH.at hi).1 rfl), hH.set hi W' (o' := .inr (.inr (.inr (C, ty, xs.set n.toNatClampNeg x)))) ⟨Eq.wr W', _, A.same W', O, setSlot_list hs, fun y hy => (List.mem_or_eq_of_mem_set hy).elim (G y) fun q => by rw [q]; rcases F with rfl | ⟨y, rfl, F⟩ <;> rfl⟩, hr, stp⟩
theorem sta_of {args : Array Value} {s : State} {C n d K : String} (h : (Cond.exactly (Term.static C n d) K).value args s none s [] = some true) (wi : (Cond.initialized C).before args s = true) (wl : (Cond.laysStatic C n d).before args s = true) : ∃ a, Sta s s.heap C n d (.ref a) ∧ Exa s s.heap a K ∧ (Term.static C n d).eval args s none [] s = some (.ref a) := by
  obtain ⟨a, e⟩ := exa_v h
  exact ⟨a, Sta.start e (Or.inr ⟨wi, wl⟩), Exa.start e h, e⟩
theorem fld_of {args : Array Value} {s : State} {t : Term} {a : Addr} {C n d : String} {v : Int32} (e : t.eval args s none [] s = some (.ref a)) (h : (Cond.eq (Term.field t C n d) (Term.int v)).value args s none s [] = some true) : Fld s s.heap a C n d (.int v) :=
  Fld.start ((fld_at e).symm.trans (Cond.eq_int (Cond.before_iff.mpr h) rfl))
theorem Sat.keep {h h' : Heap} {b : Addr} {ws : List Addr} (K : Keep h h' ws) (q : b ∉ ws) : ∀ {o : ObjB}, Sat Z h b o → Sat Z h' b o
  | .inl (C, sg, vs), ⟨h1, h2, h3⟩ => ⟨h1.keep K, h2, fun i f v r t => (h3 i f v r t).keep K q⟩
  | .inr (.inl (ty, xs)), ⟨r, c, h1, h2⟩ => ⟨r.imp id (·.keep K), c, ⟨K.2.1 _ _ h1.1 q, h1.2⟩, h2⟩
  | .inr (.inr (.inl xs)), ⟨r, c, h1, h2⟩ => ⟨r.keep K, c, ⟨K.2.1 _ _ h1.1 q, h1.2⟩, h2⟩
  | .inr (.inr (.inr (C, ty, vs))), ⟨r, c, h1, h2⟩ => ⟨r.keep K, c, ⟨K.2.1 _ _ h1.1 q, h1.2⟩, h2⟩
theorem Hp.setK {h h' : Heap} (P : Hp Z h H) {i : Nat} {a : Addr} {o o' : ObjB} (q : H[i]? = some (a, (true, o))) (K : Keep h h' [a]) (S : Sat Z h' a o') : Hp Z h' (H.set i (a, (true, o'))) := by
  have g : Z.heap.size ≤ a := (P.at q).1 rfl
  obtain ⟨hi, hq⟩ := List.getElem?_eq_some_iff.mp q
  refine ⟨⟨Nat.le_trans P.1.1 K.1, fun b c r => ?_⟩, fun x hx => ?_, ?_⟩
  · have : b < Z.heap.size := (Array.getElem?_eq_some_iff.mp r).1
    exact K.2.1 _ _ (P.1.2 b c r) (ninS (by rintro rfl; exact absurd this (Nat.not_lt.mpr g)) nin0)
  · obtain ⟨n, hn⟩ := List.getElem?_of_mem hx
    rw [List.getElem?_set] at hn
    split at hn
    · have e0 : (a, (true, o')) = x := by simpa [hi] using hn
      subst e0; exact ⟨fun _ => g, S⟩
    · rename_i ne
      exact ⟨(P.at hn).1, (P.at hn).2.keep K (ninS (P.ne hn q (Or.inr rfl) (Ne.symm ne)) nin0)⟩
  · have e : (H.set i (a, (true, o'))).map (fun x => (x.1, x.2.1)) = H.map (fun x => (x.1, x.2.1)) := by
      rw [List.map_set]
      refine List.ext_getElem? fun n => ?_
      rw [List.getElem?_set]
      split
      · rename_i e; subst e
        simp [hi, hq]
      · rfl
    have h1 : (H.map (fun x => (x.1, x.2.1))).Pairwise (fun u v => (u.2 = true ∨ v.2 = true) → u.1 ≠ v.1) := List.pairwise_map.mpr P.2.2
    rw [← e] at h1
    exact List.pairwise_map.mp h1
theorem nat_i32 {n : Nat} (h : n < 2 ^ 31) : (Int32.ofNat n).toNatClampNeg = n ∧ ¬ Int32.ofNat n < 0 := by
  have e : (Int32.ofNat n).toInt = n := Int32.toInt_ofNat_of_lt h
  refine ⟨by simp only [Int32.toNatClampNeg, e]; omega, ?_⟩
  rw [Int32.lt_iff_toInt_lt, e]; simp only [Int32.reduceToInt]; omega
theorem Sat.arv {h : Heap} {a : Addr} {ty : FieldType} {xs : List Int32} (S : Sat Z h a (.inr (.inl (ty, xs)))) (hl : xs.length < 2 ^ 31) : ∃ kc, Arv Z h a kc ty (Int32.ofNat xs.length) (xs.map Value.int) (.int 0) := by
  obtain ⟨-, c, A, hs, G⟩ := S
  refine ⟨c.cls, c, A, rfl, by rw [hs, (nat_i32 hl).1]; simp, (nat_i32 hl).2, fun i hi => ?_, fun i hi => ?_⟩
  · rw [hs] at hi ⊢; simp at hi; simp [hi]
  · rw [hs] at hi; simp at hi; simp [hi, G _ (List.getElem_mem hi)]
theorem Arv.sat {h : Heap} {a : Addr} {kc : ClassId} {ty : FieldType} {xs : List Int32} (V : Arv Z h a kc ty (Int32.ofNat xs.length) (xs.map Value.int) (.int 0)) (hl : xs.length < 2 ^ 31) (Eq : ty = .byte ∨ Exa Z h a ("[" ++ ty.toString)) : Sat Z h a (.inr (.inl (ty, xs))) := by
  obtain ⟨c, A, -, S, -, Hs, G⟩ := V
  rw [(nat_i32 hl).1] at S
  refine ⟨Eq, c, A, ?_, fun x hx => ?_⟩
  · refine Array.ext_getElem? fun i => ?_
    by_cases hi : i < c.slots.size
    · rw [Hs i hi]; rw [S] at hi; simp [hi]
    · rw [Array.getElem?_eq_none (Nat.le_of_not_lt hi)]; rw [S] at hi; symm; simp; omega
  · obtain ⟨i, hi, rfl⟩ := List.getElem_of_mem hx
    have := G i (by rw [S]; exact hi)
    simpa [hi] using this
theorem wp_arraycopyI {i i' : Nat} {a c' : Addr} {fl : Bool} {ty : FieldType} {xs ys : List Int32} {sp dp nn : Int32} {idx : Nat} (m1 m2 m3 : Nat) (hd : Dc bytes pc (.invokestatic idx) 3 pc') (w1 : (Cond.methodLink own idx Jvm.Stand.acN).before a0 Z = true) (w2 : (Cond.native Jvm.Stand.acN).before a0 Z = true) (w3 : (Cond.static Jvm.Stand.acN).before a0 Z = true) (w4 : (Cond.initialized "java/lang/System").before a0 Z = true) (hi : H[i]? = some (a, (fl, .inr (.inl (ty, xs))))) (hi' : H[i']? = some (c', oA ty ys)) (hp : refKind ty = false) (h1 : ¬ sp < 0) (h2 : ¬ dp < 0) (h3 : ¬ nn < 0) (e1 : sp.toNatClampNeg = m1) (e2 : dp.toNatClampNeg = m2) (e3 : nn.toNatClampNeg = m3) (h4 : m1 + m3 ≤ xs.length) (h5 : m2 + m3 ≤ ys.length) (hx31 : xs.length < 2 ^ 31) (hy31 : ys.length < 2 ^ 31) (hsz : Ls.size = maxL) (hf : 1 ≤ R.frames) (hl : (st.map fun v => v.category).sum + (nativeFrameWords "java/lang/System" "arraycopy" 5 + 11) ≤ R.locals) (hr : Wp b l Z own nm bytes maxL ret R (H.set i' (c', oA ty (ys.take m2 ++ (xs.drop m1).take m3 ++ ys.drop (m2 + m3)))) k j pc' Ls st Q) : Wp b l Z own nm bytes maxL ret R H k j pc Ls (.int nn :: .int dp :: .ref c' :: .int sp :: .ref a :: st) Q := by
  obtain ⟨hd, rfl⟩ := hd
  subst e1 e2 e3
  refine Wp.stepH fun p e s m args below meth c T L hx hZ hby hml hown hnm hret X N hH => ?_
  obtain ⟨kc, V1⟩ := (hH.at hi).2.arv hx31
  obtain ⟨kd, V2⟩ := (hH.at hi').2.arv hy31
  obtain ⟨T', h', L', X', e', N', K', V', stp⟩ := cpA X hx hZ hown w1 w2 w3 w4 rfl V1 V2 (Or.inl ⟨rfl, hp⟩) h1 h2 h3 (by rw [(nat_i32 hx31).1]; exact h4) (by rw [(nat_i32 hy31).1]; exact h5) (us := ((xs.drop sp.toNatClampNeg).take nn.toNatClampNeg).map Value.int) (by
    refine List.ext_getElem? fun n => ?_
    simp only [List.getElem?_map, List.getElem?_range]
    by_cases hn : n < nn.toNatClampNeg
    · simp [hn, show sp.toNatClampNeg + n < xs.length by omega]
    · simp [hn]; omega) (by simpa using h5) N ((hH.at hi').1 rfl) (g := mkF m pc Ls (.int nn :: .int dp :: .ref c' :: .int sp :: .ref a :: st)) rfl (by rw [hml]; exact hsz) rfl (hb hby hd) hf (W := (st.map fun v => v.category).sum) (by show 2 * 0 + _ ≤ _; omega) hl
  subst e'
  have hlen : (ys.take dp.toNatClampNeg ++ (xs.drop sp.toNatClampNeg).take nn.toNatClampNeg ++ ys.drop (dp.toNatClampNeg + nn.toNatClampNeg)).length = ys.length := by
    simp only [List.length_append, List.length_take, List.length_drop]; omega
  refine ⟨T', L', k, j, _, _, Ls, st, X', K'.1, N', hH.setK hi' K' (Arv.sat (kc := kd) ?_ (by rw [hlen]; exact hy31) ((hH.at hi').2.1.imp id (·.keep K'))), hr, stp⟩
  rw [hlen]
  simpa [List.map_append, List.map_take, List.map_drop] using V'
theorem wp_anewarrayA {C : String} {ty : FieldType} {idx : Nat} {n : Int32} (cnt cap : Nat) (hd : Dc bytes pc (.anewarray idx) 3 pc') (hC : (FieldType.array ty).toString = C) (w1 : (Cond.classLink own idx C).before a0 Z = true) (w2 : (Cond.arrayOver (.array ty)).before a0 Z = true) (hn : ¬ n < 0) (hcnt : n.toNatClampNeg = cnt) (hcap : cnt ≤ cap) (hb8 : cap * 8 ≤ 536870912) (hc : k + 1 ≤ R.cells) (hl : j + cap ≤ R.slots) (hr : ∀ a, Wp b l Z own nm bytes maxL ret R ((a, oR C (.array ty) (List.replicate cnt .null)) :: H) (k + 1) (j + cap) pc' Ls (.ref a :: st) Q) : Wp b l Z own nm bytes maxL ret R H k j pc Ls (.int n :: st) Q := by
  obtain ⟨hd, rfl⟩ := hd
  refine Wp.stepH fun p e s m args below meth c T L hx hZ hby hml hown hnm hret X N hH => ?_
  obtain ⟨T', h', cA, X', e', E', A', B', O', stp⟩ := newRA X hx hZ hown hC w1 w2 rfl (g := mkF m pc Ls (.int n :: st)) rfl (hb hby hd) rfl hn (cap := cap) (by rw [hcnt]; exact hcap) hb8 hc hl rfl
  subst e'
  refine ⟨T', L, _, _, _, _, Ls, _, X', E'.1, N, hH.cons E' (o := .inr (.inr (.inr (C, .array ty, List.replicate cnt .null)))) ⟨by rw [hC]; exact B', _, A', O', ?_, fun v hv => ?_⟩, hr _, stp⟩
  · simp [newA, hcnt, defaultValue]
  · rw [(List.mem_replicate.mp hv).2]; rfl
theorem ins_arr {i : Nat} {a : Addr} {fl : Bool} {ty : FieldType} {xs : List Int32} {K : String} (hi : H[i]? = some (a, (fl, .inr (.inl (ty, xs))))) (hty : ty ≠ .byte) (wc : (Cond.castable ("[" ++ ty.toString) K).before a0 Z = true) : ∀ h, Hp Z h H → Ins Z h a K true := fun h P => Ins.of_exa ((P.at hi).2.1.resolve_left hty) wc
theorem ins_new {i : Nat} {a : Addr} {fl : Bool} {C K : String} {sg : OSig} {vs : List Value} (hi : H[i]? = some (a, (fl, .inl (C, sg, vs)))) (wc : (Cond.castable C K).before a0 Z = true) : ∀ h, Hp Z h H → Ins Z h a K true := fun h P => Ins.of_exa (P.at hi).2.1 wc
theorem ns_root {O K : String} {kk : Nat} (w : (Cond.noSuperclass O).before a0 Z = true) (wk : (Cond.instantiable K kk).before a0 Z = true) (hn : O ≠ K) : NS Z O K := by
  obtain ⟨c, k, h1, h2, h3, -, -⟩ := Cond.noSuperclass_spec w
  obtain ⟨t, kt, g1, -⟩ := Cond.instantiable_spec wk
  have ne := ids_ne h1 g1 hn
  refine ⟨c, t, h1, g1, fun fuel => ?_⟩
  cases fuel with
  | zero => rfl
  | succ f => simp [Vm.isSubclassAux, ne, h2, h3]
theorem ns_no {C S K : String} {kk : Nat} (w : (Cond.superclass C S).before a0 Z = true) (wk : (Cond.instantiable K kk).before a0 Z = true) (n : NS Z C K) (hn : C ≠ K) : ∃ c t, Z.vm.findClass C = some c ∧ Z.vm.findClass K = some t ∧ Z.vm.assignable c t = false := by
  obtain ⟨c, t, h0, g0, n3⟩ := n
  obtain ⟨p, k, kp, h1, h2, h3, h4, h5, -, h7⟩ := Cond.superclass_spec h0 w
  obtain ⟨t', kt, g1, g2, g5, g6, -⟩ := Cond.instantiable_spec wk
  cases g0.symm.trans g1
  have g7 : kt.isInterface = false := by cases q : kt.isInterface with | false => rfl | true => rw [q] at g6; cases g6
  have ne := ids_ne h0 g0 hn
  refine ⟨c, t, h0, g0, ?_⟩
  show Z.vm.assignableAux (255 + 1) c t = false
  simp [Vm.assignableAux, ne, h2, g2, h5, g5, g7, Vm.isSubclass, n3]
theorem wp_aaload_old {a : Addr} {cl : Cell} {ty : FieldType} {n : Int32} {x : Value} (hd : Dc bytes pc .aaload 1 pc') (A : Arr Z Z.heap a cl ty) (hty : ty.isReference = true) (hin : ¬ (n < 0 ∨ cl.slots.size ≤ n.toNatClampNeg)) (hv : cl.slots[n.toNatClampNeg]? = some x) (hr : Wp b l Z own nm bytes maxL ret R H k j pc' Ls (x :: st) Q) : Wp b l Z own nm bytes maxL ret R H k j pc Ls (.int n :: .ref a :: st) Q := by
  obtain ⟨hd, rfl⟩ := hd
  refine Wp.step (fun p e s m args below meth c T L hx hZ hby hown X hH target h => ?_) hr
  exact X.aaload hx (hH.1.2 _ _ A.1) (State.isArrayOf_alike hZ.alike A.2.1) hty A.2.2 hin hv (g := mkF m pc Ls (.int n :: .ref a :: st)) rfl rfl (hb hby hd) _ h
theorem Hp.old {h : Heap} (P : Hp Z h H) {a : Addr} {o : ObjB} (S : Sat Z Z.heap a o) : Hp Z h ((a, (false, o)) :: H) :=
  ⟨P.1, fun x q => (List.mem_cons.mp q).elim (fun e => by subst e; exact ⟨(fun e => nomatch e), S.ext P.1⟩) fun q => P.2.1 x q,
    List.Pairwise.cons (fun y q t e => absurd ((P.2.1 y q).1 (t.elim (fun e => nomatch e) id)) (by rw [← e]; exact Nat.not_le.mpr S.lt)) P.2.2⟩
/-- an object of the start is laid to the list, only to be read -/
theorem Wp.old {a : Addr} {o : ObjB} (S : Sat Z Z.heap a o) (hr : Wp b l Z own nm bytes maxL ret R ((a, (false, o)) :: H) k j pc Ls st Q) : Wp b l Z own nm bytes maxL ret R H k j pc Ls st Q :=
  Wp.stepH fun p e s m args below meth c T L hx hZ hby hml hown hnm hret X N hH => ⟨T, L, k, j, _, pc, Ls, st, X, Nat.le_refl _, N, hH.old S, hr, fun _ q => q⟩
abbrev sgStr : OSig := [("java/lang/String", "value", "[B"), ("java/lang/String", "coder", "B")]
abbrev strO (v : Addr) : Obj := fI "java/lang/String" sgStr [.ref v, .int 0]
theorem wp_ldcV {text : String} {Ts : List String} {idx n : Nat} (xs : List Int32) (hd : Dc bytes pc (.ldc idx) 2 pc') (w : (Cond.stringLink own idx text).before a0 Z = true) (wS : ∀ a ∈ Bundle.stringAtoms, a.before a0 Z = true) (slo : Slo Z sgStr) (hh : Jvm.Lit.constHeld Z own idx) (hcw : Jvm.Lit.compactW.before a0 Z = true) (hnot : text ∉ Ts) (ht : (∀ c ∈ text.toList, c.toNat < 256) ∧ text.toList.map (fun c => Value.int (Jvm.Lit.byteI c.toNat.toUInt16)) = xs.map Value.int) (h31 : xs.length < 2 ^ 31) (hn : 4 * text.toList.length ≤ n) (hbig : n ≤ 536870912) (hc : k + 2 ≤ R.cells) (hl : j + (n + 4) ≤ R.slots) (hr : ∀ a v, Wp (some (some (text :: Ts))) l Z own nm bytes maxL ret R ((a, strO v) :: (v, fA .byte xs) :: H) (k + 2) (j + (n + 4)) pc' Ls (.ref a :: st) Q) : Wp (some (some Ts)) l Z own nm bytes maxL ret R H k j pc Ls st Q := by
  obtain ⟨hd, rfl⟩ := hd
  intro p e s vm0 k0 m args below meth c T L hx hZ hS hk hby hml hown hnm hret X N hH hB
  obtain ⟨eZ, I⟩ := hB Ts rfl
  obtain ⟨a, T', h', k1, v, kc, X', e', E', hS', hk1, hZ', hown', A1, A2, A3, A4, l1, l2, I', -, wh, stp⟩ := ldcSVd X hx hZ hown w wS rfl hS hk (by rw [eZ]; exact N) (fun b cl q => by rw [eZ]; exact q) I hnot hh hcw (z := Int32.ofNat xs.length) ht (nat_i32 h31).2 (by rw [(nat_i32 h31).1]; simp) (g := mkF m pc Ls st) rfl (hb hby hd) hn hbig hc hl
  subst e'
  have far : ∀ y ∈ H, y.2.1 = true → a ≠ y.1 ∧ v ≠ y.1 := by
    intro y q t
    have g1 := (hH.2.1 y q).1 t
    have g2 := (hH.2.1 y q).2.lt
    rw [eZ] at wh
    constructor
    · intro e0; rw [← e0] at g1 g2
      rcases wh with w1 | w1
      · exact absurd w1.1 (Nat.not_lt.mpr g1)
      · exact absurd g2 (Nat.not_lt.mpr w1.1)
    · intro e0; rw [← e0] at g1 g2
      rcases wh with w1 | w1
      · exact absurd w1.2 (Nat.not_lt.mpr g1)
      · exact absurd g2 (Nat.not_lt.mpr w1.2)
  have Sa : Sat Z T'.heap a (.inl ("java/lang/String", sgStr, [.ref v, .int 0])) := by
    refine ⟨A1, slo, fun i f u q r => ?_⟩
    rcases i with _ | _ | i
    · cases q; cases r; exact A3
    · cases q; cases r; exact A2
    · simp at q
  have Sv : Sat Z T'.heap v (.inr (.inl (.byte, xs))) := Arv.sat A4 h31 (Or.inl rfl)
  have H2 : Hp Z T'.heap ((a, strO v) :: (v, fA .byte xs) :: H) := by
    have h0 := hH.ext E'
    refine ⟨h0.1, fun x q => ?_, List.Pairwise.cons (fun y q t => ?_) (List.Pairwise.cons (fun y q t => ?_) h0.2.2)⟩
    · rcases List.mem_cons.mp q with rfl | q
      · exact ⟨(fun e => nomatch e), Sa⟩
      · rcases List.mem_cons.mp q with rfl | q
        · exact ⟨(fun e => nomatch e), Sv⟩
        · exact h0.2.1 x q
    · rcases List.mem_cons.mp q with rfl | q
      · rcases t with t | t <;> cases t
      · exact (far y q (t.elim (fun e => nomatch e) id)).1
    · exact (far y q (t.elim (fun e => nomatch e) id)).2
  obtain ⟨T2, u, L2, k2, j2, vm1, k3, H3, ⟨r0, r1, r2⟩, r3, ⟨r4, r5, r6⟩, r7, r8, r9, r10, r11⟩ := hr a v p e s T'.vm k1 m args below meth c T' L hx hZ' hS' hk1 hby hml hown' hnm hret X' N H2 (fun Ts' q => by cases q; exact ⟨eZ, I'⟩)
  exact ⟨T2, u, L2, k2, j2, vm1, k3, H3, ⟨r0, r1, fun q => nomatch q⟩, r3, ⟨r4, r5, Nat.le_trans E'.1 r6⟩, r7, r8, r9, r10, fun fs hl => stp _ (r11 fs hl)⟩
theorem Fld.fun {h : Heap} {a : Addr} {C n d : String} {u v : Value} (F : Fld Z h a C n d u) (G : Fld Z h a C n d v) : u = v := by
  obtain ⟨c, cf, k, i, f, h1, h2, -, -, -, -, h7⟩ := F
  obtain ⟨c', cf', k', i', f', g1, g2, -, -, -, -, g7⟩ := G
  cases h1.symm.trans g1
  cases h2.symm.trans g2
  exact Option.some.inj (h7.symm.trans g7)
/-- two Strings of unlike contents are two -/
theorem str_ne {h : Heap} {i i' k k' : Nat} {s s' v v' : Addr} {xs ys : List Int32} (P : Hp Z h H) (h1 : H[i]? = some (s, strO v)) (h2 : H[k]? = some (v, fA .byte xs)) (h3 : H[i']? = some (s', strO v')) (h4 : H[k']? = some (v', fA .byte ys)) (ne : xs ≠ ys) : ¬ Value.ref s = Value.ref s' := by
  intro e
  cases e
  have f1 := (P.at h1).2.2.2 0 _ _ rfl rfl
  have f2 := (P.at h3).2.2.2 0 _ _ rfl rfl
  cases Fld.fun f1 f2
  obtain ⟨-, c, A, hs, -⟩ := (P.at h2).2
  obtain ⟨-, c', A', hs', -⟩ := (P.at h4).2
  cases A.1.symm.trans A'.1
  have e0 : xs.map Value.int = ys.map Value.int := congrArg Array.toList (hs.symm.trans hs')
  exact ne (List.map_inj_right (fun a b q => by cases q; rfl) |>.mp e0)
theorem bytes_old {t : Term} {a : Addr} {xs : List Int32} {cl : Cell} (A : Arr Z Z.heap a cl .byte) (hs : cl.slots = (xs.map Value.int).toArray) (hf : ∀ x ∈ xs, fits .byte (.int x) = true) : Sat Z Z.heap a (.inr (.inl (.byte, xs))) := ⟨Or.inl rfl, cl, A, hs, hf⟩
theorem str_old {a v : Addr} (slo : Slo Z sgStr) (E : Exa Z Z.heap a "java/lang/String") (F : Fld Z Z.heap a "java/lang/String" "value" "[B" (.ref v)) (G : Fld Z Z.heap a "java/lang/String" "coder" "B" (.int 0)) : Sat Z Z.heap a (.inl ("java/lang/String", sgStr, [.ref v, .int 0])) := by
  refine ⟨E, slo, fun i f u q r => ?_⟩
  rcases i with _ | _ | i
  · cases q; cases r; exact F
  · cases q; cases r; exact G
  · simp at q
/-- the contract of a body with an exception table (the walk throws nothing) -/
def MetX (l : Launch) (Z : State) (y : MethodName) (bytes : ByteArray) (maxL : Nat) (ret : Option FieldType) (hs : List (Nat × Nat × Nat × Nat)) (rm : Room) (as' : List Value) (H : OH) (Q : Option Value → OH → Prop) : Prop :=
  ∀ (ws : List Jvm.Cond) (h : Heap), Hp Z h H → MetFree l y (head1 (Jvm.Cond.codeWith y bytes maxL ret hs :: ws) rm) (fun a U => a = as'.toArray ∧ Z.Warmed39 U.vm ∧ U.heap = h) (fun _ _ _ _ _ => True)
    (fun _ U o U' => ∃ v L, o = .returned v ∧ (Fr Z.heap.size L ∧ h.size ≤ U'.heap.size ∧ ∃ H', Hp Z U'.heap H' ∧ Q v H') ∧ FrameEnd U o U' L rm.cells rm.slots)
theorem MetX.of_wp {y : MethodName} {hs : List (Nat × Nat × Nat × Nat)} {rm : Room} {as' : List Value} (hx : plainFor y = true) (hef : ∀ m, entryFrame m as'.toArray maxL = mkF m 0 Ls []) (hw : Wp none l Z y.cls y.name bytes maxL ret rm H 0 0 0 Ls [] Q) : MetX l Z y bytes maxL ret hs rm as' H Q := by
  intro ws h hH
  refine MetFree.of_bodySF hx hisWith ?_
  intro p e s m args below meth c s₁ Bd hml0 hP hK
  obtain ⟨rfl, hZ, hh⟩ := hP
  have X0 : Stand p l e rm s m as'.toArray below meth c s₁ [] 0 0 := Stand.of_body Bd
  have e0 : s₁.heap = h := by rw [← hh, Bd.state]; rfl
  obtain ⟨T', v, L', k', j', vm1, k1, H', ⟨hS, hk1, hvm⟩, X', ⟨hc, hj, hsz⟩, N', hH', hv, hQ, stp⟩ := hw p e s s.vm 0 m as'.toArray below meth c s₁ [] Bd.exec hZ ((State.WarmedH.refl s).since 0) (Nat.zero_le _) Bd.bytes hml0 (findClass_of_methodNamed Bd.named) (name_of_methodNamed Bd.named Bd.method).1 Bd.returns X0 (Fr.nil _) (by rw [e0]; exact hH) (fun _ q => nomatch q)
  obtain rfl := hvm rfl
  have X'' : Stand p l e rm s m as'.toArray below meth c T' L' k' j' := X'
  obtain ⟨fs, hr, hrun, hended, hW, hsame⟩ := X''.leave (v := v) (fun h => hv (Bd.returns.symm.trans h))
  refine ⟨_, _, castTop (hef m) (stp fs hr), hrun, hended, v, L', rfl, ⟨N', ?_, H', hH', hQ⟩, ⟨_, rfl⟩, hW, hsame.mono hc hj⟩
  rw [e0] at hsz; exact hsz
theorem wp_virtualX {hs : List (Nat × Nat × Nat × Nat)} {y : MethodName} {bytes' : ByteArray} {maxL' : Nat} {ret' : Option FieldType} {rm : Room} {rest : List Value} {Q' : Option Value → OH → Prop} {idx : Nat} {ps : List FieldType} {rt : Option FieldType} {x : MethodName} {C : String} {a : Addr} {as' : List Value} (M : MetX l Z y bytes' maxL' ret' hs rm (.ref a :: as') H Q') (E : ExaAt Z H a C) (hd : Dc bytes pc (.invokevirtual idx) 3 pc') (w1 : (Cond.methodLink own idx x).before a0 Z = true) (w2 : (Cond.declares x).before a0 Z = true) (wn : (Cond.selects x.cls x x).before a0 Z = true) (ws : (Cond.selects C x y).before a0 Z = true) (wi : (Cond.instanceMethod y).before a0 Z = true) (w3 : (Cond.initialized y.cls).before a0 Z = true) (w4 : (Cond.codeWith y bytes' maxL' ret' hs).before a0 Z = true) (hy : x.cls ≠ "java/lang/invoke/MethodHandle" ∧ x.cls ≠ "java/lang/invoke/VarHandle") (hpd : parseMethodDescriptor x.desc = some ⟨ps, rt⟩) (hlen : as'.length = ps.length) (hst : st = as'.reverse ++ .ref a :: rest) (hsz : Ls.size = maxL) (hf : rm.frames + 1 ≤ R.frames) (hl : (rest.map fun v => v.category).sum + (maxL' + 11) + rm.locals ≤ R.locals) (hc : k + rm.cells ≤ R.cells) (hj : j + rm.slots ≤ R.slots) (hr : ∀ v H', Q' v H' → Wp b l Z own nm bytes maxL ret R H' (k + rm.cells) (j + rm.slots) pc' Ls (v.toList ++ rest) Q) : Wp b l Z own nm bytes maxL ret R H k j pc Ls st Q := by
  obtain ⟨hd, rfl⟩ := hd
  refine Wp.stepH fun p e s m args below meth c T L hx hZ hby hml hown hnm hret X N hH => ?_
  obtain ⟨cq, kq, q1, q2, q3⟩ := isOf hZ rfl (E _ hH)
  obtain ⟨v, _, ⟨T', L', k', n'⟩, -, X', ⟨Lc, ⟨N', hsz', H', hH', hQ⟩, l1, y1, z1⟩, stp⟩ := X.virtualBack hx (y := x) (z := y) hown (mvT hZ w1) (mvT hZ w2) (notFace_of_selects (args := #[]) (mvT hZ wn)) (mvT hZ ws) (mvT hZ wi) hy (backOfWith (W := (rest.map fun v => v.category).sum) (Q := fun v h L => Fr Z.heap.size L ∧ T.heap.size ≤ h.size ∧ ∃ H', Hp Z h H' ∧ Q' v H') (M [] T.heap hH) hZ w4 w3 hf hl) q1 q3 (g := mkF m pc Ls st) rfl (by rw [hml]; exact hsz) (Steps.refl _) (argsL := as') (rest := rest) (lenOf hpd hlen) hst (by show 2 * 0 + _ ≤ _; omega) (hb hby hd) (fun _ _ => ⟨rfl, rfl, hc, hj⟩)
  dsimp only [Pt.U, Pt.locs, Pt.cells, Pt.slots] at X' l1 y1 z1 stp hH' hsz'
  subst l1 y1 z1
  exact ⟨T', _, _, _, H', _, Ls, v.toList ++ rest, X', hsz', N.app N', hH', hr v H' hQ, fun _ q => stp.trans q⟩
theorem wp_callSX {hs : List (Nat × Nat × Nat × Nat)} {y : MethodName} {bytes' : ByteArray} {maxL' : Nat} {ret' : Option FieldType} {rm : Room} {rest : List Value} {Q' : Option Value → OH → Prop} {idx : Nat} {ps : List FieldType} {rt : Option FieldType} {as' : List Value} (M : MetX l Z y bytes' maxL' ret' hs rm as' H Q') (hd : Dc bytes pc (.invokestatic idx) 3 pc') (w1 : (Cond.methodLink own idx y).before a0 Z = true) (w2 : (Cond.static y).before a0 Z = true) (w3 : (Cond.initialized y.cls).before a0 Z = true) (w4 : (Cond.codeWith y bytes' maxL' ret' hs).before a0 Z = true) (hy : y.cls ≠ "java/lang/invoke/MethodHandle" ∧ y.cls ≠ "java/lang/invoke/VarHandle") (hpd : parseMethodDescriptor y.desc = some ⟨ps, rt⟩) (hlen : as'.length = ps.length) (hst : st = as'.reverse ++ rest) (hsz : Ls.size = maxL) (hf : rm.frames + 1 ≤ R.frames) (hl : (rest.map fun v => v.category).sum + (maxL' + 11) + rm.locals ≤ R.locals) (hc : k + rm.cells ≤ R.cells) (hj : j + rm.slots ≤ R.slots) (hr : ∀ v H', Q' v H' → Wp b l Z own nm bytes maxL ret R H' (k + rm.cells) (j + rm.slots) pc' Ls (v.toList ++ rest) Q) : Wp b l Z own nm bytes maxL ret R H k j pc Ls st Q := by
  obtain ⟨hd, rfl⟩ := hd
  refine Wp.stepH fun p e s m args below meth c T L hx hZ hby hml hown hnm hret X N hH => ?_
  obtain ⟨v, _, ⟨T', L', k', n'⟩, -, X', ⟨Lc, ⟨N', hsz', H', hH', hQ⟩, l1, y1, z1⟩, stp⟩ := Jvm.RoadKit.callSH X hx (y := y) hown (mvT hZ w1) (mvT hZ w2) (mvT hZ w3) (mvT hZ w4) hy (backOfWith (W := (rest.map fun v => v.category).sum) (Q := fun v h L => Fr Z.heap.size L ∧ T.heap.size ≤ h.size ∧ ∃ H', Hp Z h H' ∧ Q' v H') (M [] T.heap hH) hZ w4 w3 hf hl) (g := mkF m pc Ls st) rfl (by rw [hml]; exact hsz) (argsL := as') (rest := rest) (lenOf hpd hlen) hst (by show 2 * 0 + _ ≤ _; omega) (hb hby hd) (fun _ _ => ⟨rfl, rfl, hc, hj⟩)
  dsimp only [Pt.U, Pt.locs, Pt.cells, Pt.slots] at X' l1 y1 z1 stp hH' hsz'
  subst l1 y1 z1
  exact ⟨T', _, _, _, H', _, Ls, v.toList ++ rest, X', hsz', N.app N', hH', hr v H' hQ, stp⟩
theorem wp_dload_n {n : Fin 4} {v : UInt64} (hd : Dc bytes pc (.dload_n n) 1 pc') (hl : Ls[n.val]? = some (.val (.double v))) (hr : Wp b l Z own nm bytes maxL ret R H k j pc' Ls (.double v :: st) Q) : Wp b l Z own nm bytes maxL ret R H k j pc Ls st Q := by
  obtain ⟨hd, rfl⟩ := hd
  exact Wp.step (fun p e s m args below meth c T L hx hZ hby hown X hH target ht => XS.dloadN X.here hx rfl (hb hby hd) hl ht) hr
theorem wp_dload {n : Nat} {v : UInt64} (hd : Dc bytes pc (.dload n) 2 pc') (hl : Ls[n]? = some (.val (.double v))) (hr : Wp b l Z own nm bytes maxL ret R H k j pc' Ls (.double v :: st) Q) : Wp b l Z own nm bytes maxL ret R H k j pc Ls st Q := by
  obtain ⟨hd, rfl⟩ := hd
  exact Wp.step (fun p e s m args below meth c T L hx hZ hby hown X hH target ht => XS.dload X.here hx rfl (hb hby hd) hl ht) hr
theorem wp_dstore_n {n : Fin 4} {x : UInt64} (Ls' : Array Slot) (hd : Dc bytes pc (.dstore_n n) 1 pc') (hl : storeLocals Ls n.val (.double x) = some Ls') (hr : Wp b l Z own nm bytes maxL ret R H k j pc' Ls' st Q) : Wp b l Z own nm bytes maxL ret R H k j pc Ls (.double x :: st) Q := by
  obtain ⟨hd, rfl⟩ := hd
  exact Wp.step (fun p e s m args below meth c T L hx hZ hby hown X hH target ht => XS.dstoreN X.here hx rfl (hb hby hd) rfl hl ht) hr
theorem wp_dstore {n : Nat} {x : UInt64} (Ls' : Array Slot) (hd : Dc bytes pc (.dstore n) 2 pc') (hl : storeLocals Ls n (.double x) = some Ls') (hr : Wp b l Z own nm bytes maxL ret R H k j pc' Ls' st Q) : Wp b l Z own nm bytes maxL ret R H k j pc Ls (.double x :: st) Q := by
  obtain ⟨hd, rfl⟩ := hd
  exact Wp.step (fun p e s m args below meth c T L hx hZ hby hown X hH target ht => XS.dstore X.here hx rfl (hb hby hd) rfl hl ht) hr
theorem wp_dconst0 (v : UInt64) (hd : Dc bytes pc (.dconst 0) 1 pc') (hv : FP.dconst0 = v) (hr : Wp b l Z own nm bytes maxL ret R H k j pc' Ls (.double v :: st) Q) : Wp b l Z own nm bytes maxL ret R H k j pc Ls st Q := by
  obtain ⟨hd, rfl⟩ := hd
  exact Wp.step (fun p e s m args below meth c T L hx hZ hby hown X hH target ht => XS.dconst0 X.here hx rfl (hb hby hd) hv ht) hr
theorem wp_dconst1 (v : UInt64) (hd : Dc bytes pc (.dconst 1) 1 pc') (hv : FP.dconst1 = v) (hr : Wp b l Z own nm bytes maxL ret R H k j pc' Ls (.double v :: st) Q) : Wp b l Z own nm bytes maxL ret R H k j pc Ls st Q := by
  obtain ⟨hd, rfl⟩ := hd
  exact Wp.step (fun p e s m args below meth c T L hx hZ hby hown X hH target ht => XS.dconst1 X.here hx rfl (hb hby hd) hv ht) hr
theorem wp_i2d {x : Int32} (v : UInt64) (hd : Dc bytes pc (.i2d) 1 pc') (hv : FP.i2d x = v) (hr : Wp b l Z own nm bytes maxL ret R H k j pc' Ls (.double v :: st) Q) : Wp b l Z own nm bytes maxL ret R H k j pc Ls (.int x :: st) Q := by
  obtain ⟨hd, rfl⟩ := hd
  exact Wp.step (fun p e s m args below meth c T L hx hZ hby hown X hH target ht => XS.i2dS X.here hx rfl (hb hby hd) rfl hv ht) hr
theorem wp_dadd {x y : UInt64} (v : UInt64) (hd : Dc bytes pc (.dadd) 1 pc') (hn : Jvm.Free.Fl.NoNaN64 (FP.dadd x y)) (hv : FP.dadd x y = v) (hr : Wp b l Z own nm bytes maxL ret R H k j pc' Ls (.double v :: st) Q) : Wp b l Z own nm bytes maxL ret R H k j pc Ls (.double y :: .double x :: st) Q := by
  obtain ⟨hd, rfl⟩ := hd
  exact Wp.step (fun p e s m args below meth c T L hx hZ hby hown X hH target ht => XS.daddS X.here hx rfl (hb hby hd) rfl hn hv ht) hr
theorem wp_ddiv {x y : UInt64} (v : UInt64) (hd : Dc bytes pc (.ddiv) 1 pc') (hn : Jvm.Free.Fl.NoNaN64 (FP.ddiv x y)) (hv : FP.ddiv x y = v) (hr : Wp b l Z own nm bytes maxL ret R H k j pc' Ls (.double v :: st) Q) : Wp b l Z own nm bytes maxL ret R H k j pc Ls (.double y :: .double x :: st) Q := by
  obtain ⟨hd, rfl⟩ := hd
  exact Wp.step (fun p e s m args below meth c T L hx hZ hby hown X hH target ht => XS.ddivS X.here hx rfl (hb hby hd) rfl hn hv ht) hr
theorem wp_dcmp {o : CmpOp} {x y : UInt64} (v : Int32) (hd : Dc bytes pc (.dcmp o) 1 pc') (hv : cmpValue (FP.dcmp x y) o = v) (hr : Wp b l Z own nm bytes maxL ret R H k j pc' Ls (.int v :: st) Q) : Wp b l Z own nm bytes maxL ret R H k j pc Ls (.double y :: .double x :: st) Q := by
  obtain ⟨hd, rfl⟩ := hd
  exact Wp.step (fun p e s m args below meth c T L hx hZ hby hown X hH target ht => XS.dcmpS X.here hx rfl (hb hby hd) rfl hv ht) hr
theorem wp_ldc2D {i : Nat} {v : UInt64} (hd : Dc bytes pc (.ldc2_w i) 3 pc') (w : (Cond.constantDouble own i v).before a0 Z = true) (hr : Wp b l Z own nm bytes maxL ret R H k j pc' Ls (.double v :: st) Q) : Wp b l Z own nm bytes maxL ret R H k j pc Ls st Q := by
  obtain ⟨hd, rfl⟩ := hd
  exact Wp.step (fun p e s m args below meth c T L hx hZ hby hown X hH target ht => X.ldc2DoubleC hx hown (mvT hZ w) (g := mkF m pc Ls st) rfl (hb hby hd) _ ht) hr
theorem wp_dreturn {x : UInt64} (hd : Dc bytes pc .dreturn 1 pc') (hr : ret = some .double) (hk : k ≤ R.cells) (hj : j ≤ R.slots) (hQ : Q (some (.double x)) H) : Wp b l Z own nm bytes maxL ret R H k j pc Ls (.double x :: st) Q :=
  fun p e s vm0 k0 m args below meth c T L hx hZ hS hkz hby hml hown hnm hret X N hH hB => ⟨T, (some (.double x)), L, k, j, vm0, k0, H, ⟨hS, hkz, fun _ => rfl⟩, X, ⟨hk, hj, Nat.le_refl _⟩, N, hH, fun h => by first | rfl | (rw [hr] at h; cases h), hQ, fun fs hl => retOut X hx (hret.trans hr) rfl (Or.inr (Or.inr (Or.inl ⟨rfl, rfl, x, rfl⟩))) (hb hby hd.1) hl⟩
end Own
def sg_1 : OSig := [("com/example/orthrus/orthrus/SignatureSet", "maxSlots", "J"), ("com/example/orthrus/orthrus/SignatureSet", "slots", "[J"), ("com/example/orthrus/orthrus/SignatureSet", "filled", "I"), ("com/example/orthrus/orthrus/SignatureSet", "hasZero", "Z")]
theorem laid_sg_1 (l : Launch) (Z : State) (a0 : Array Value) (hw : ∀ d ∈ tables_1, d.before a0 Z = true) : ∀ f ∈ sg_1, Laid Z a0 "com/example/orthrus/orthrus/SignatureSet" f.1 f.2.1 f.2.2 := all_cons (Or.inl (hw _ (List.mem_of_getElem? (i := 10) rfl))) (all_cons (Or.inl (hw _ (List.mem_of_getElem? (i := 13) rfl))) (all_cons (Or.inl (hw _ (List.mem_of_getElem? (i := 42) rfl))) (all_cons (Or.inl (hw _ (List.mem_of_getElem? (i := 44) rfl))) (all_nil))))
theorem dfl_sg_1 : Dfl sg_1 [(.long (0 : Int64)), (.null), (.int (0 : Int32)), (.int (0 : Int32))] := ⟨⟨.long, by decide +kernel, rfl⟩, ⟨(.array .long), by decide +kernel, rfl⟩, ⟨.int, by decide +kernel, rfl⟩, ⟨.boolean, by decide +kernel, rfl⟩, trivial⟩
def f_mix (z : Int64) : Int64 := ((((z ^^^ XT.ushrL z 30) * (-4658895280553007687 : Int64)) ^^^ XT.ushrL ((z ^^^ XT.ushrL z 30) * (-4658895280553007687 : Int64)) 27) * (-7723592293110705685 : Int64)) ^^^ XT.ushrL ((((z ^^^ XT.ushrL z 30) * (-4658895280553007687 : Int64)) ^^^ XT.ushrL ((z ^^^ XT.ushrL z 30) * (-4658895280553007687 : Int64)) 27) * (-7723592293110705685 : Int64)) 31
def gj (xs : List Int64) (m : Nat) : Int64 := xs.getD m 0
theorem own_gj (xs : List Int64) (m : Nat) (h : m < xs.length) : xs[m]? = some (gj xs m) := by simp [gj, h]
def nz (xs : List Int64) : Nat := xs.countP (fun y => decide (y ≠ 0))
theorem nz_rep (n : Nat) : nz (List.replicate n 0) = 0 := by simp [nz, List.countP_replicate]
theorem nz_set : ∀ (xs : List Int64) (m : Nat) (x : Int64), xs[m]? = some 0 → x ≠ 0 → nz (xs.set m x) = nz xs + 1
  | [], m, x, h, _ => by simp at h
  | y :: ys, 0, x, h, hx => by
    have e : y = 0 := by simpa using h
    subst e
    simp [nz, List.countP_cons, hx]
  | y :: ys, m + 1, x, h, hx => by
    have ih := nz_set ys m x (by simpa using h) hx
    simp only [List.set_cons_succ, nz, List.countP_cons] at ih ⊢
    omega
theorem nz_zero : ∀ (xs : List Int64), nz xs < xs.length → ∃ z : Nat, z < xs.length ∧ xs[z]? = some 0
  | [], h => by simp at h
  | y :: ys, h => by
    by_cases e : y = 0
    · subst e; exact ⟨0, by simp, by simp⟩
    · have h' : nz ys < ys.length := by
        simp only [nz, List.countP_cons, List.length_cons] at h ⊢
        simp [e] at h ⊢; exact h
      obtain ⟨z, h1, h2⟩ := nz_zero ys h'
      exact ⟨z + 1, by simp; exact h1, by simpa using h2⟩
def dist (z n s : Int) : Nat := (if s ≤ z then z - s else z + n - s).toNat
def f_next (s n : Int32) : Int32 := if s + 1 = n then 0 else s + 1
theorem own_i1 (s : Int32) (h : 0 ≤ s.toInt ∧ s.toInt < 2147483647) : (s + 1).toInt = s.toInt + 1 := by
  rw [Int32.toInt_add]; simp only [Int32.reduceToInt]; rw [Int.bmod_eq_of_le] <;> omega
theorem own_next (s n : Int32) (h0 : 0 ≤ s.toInt) (h1 : s.toInt < n.toInt) : (s.toInt + 1 = n.toInt ∧ (f_next s n).toInt = 0) ∨ (s.toInt + 1 < n.toInt ∧ (f_next s n).toInt = s.toInt + 1) := by
  have hn := Int32.toInt_lt n
  have e := own_i1 s ⟨h0, by omega⟩
  unfold f_next
  by_cases h : s + 1 = n
  · rw [if_pos h]; exact Or.inl ⟨by rw [← h, e], rfl⟩
  · rw [if_neg h]
    have h' := mt Int32.toInt_inj.mp h
    exact Or.inr ⟨by omega, e⟩
theorem own_i32 (s : Int32) (h0 : 0 ≤ s.toInt) : ¬ s < 0 := by
  rw [Int32.lt_iff_toInt_lt]; simp only [Int32.reduceToInt]; omega
theorem own_cn (s : Int32) : (s.toNatClampNeg : Int) = max s.toInt 0 := by simp only [Int32.toNatClampNeg]; omega
def f_full (f n : Int32) : Int32 := if n / 4 * 3 < f then 1 else 0
def f_mh (x y : Int64) : Int64 := (x >>> ((32 : Int32).toInt64 &&& 63)) * (y >>> ((32 : Int32).toInt64 &&& 63)) + (((x >>> ((32 : Int32).toInt64 &&& 63)) * (y &&& (4294967295 : Int64)) + XT.ushrL ((x &&& (4294967295 : Int64)) * (y &&& (4294967295 : Int64))) (32 : Int32)) >>> ((32 : Int32).toInt64 &&& 63)) + (((((x >>> ((32 : Int32).toInt64 &&& 63)) * (y &&& (4294967295 : Int64)) + XT.ushrL ((x &&& (4294967295 : Int64)) * (y &&& (4294967295 : Int64))) (32 : Int32)) &&& (4294967295 : Int64)) + (x &&& (4294967295 : Int64)) * (y >>> ((32 : Int32).toInt64 &&& 63))) >>> ((32 : Int32).toInt64 &&& 63))
def f_red (x y : Int64) : Int64 := f_mh x y + ((x >>> ((63 : Int32).toInt64 &&& 63)) &&& y)
def f_slot (z : Int64) (n : Int32) : Int32 := (f_red z n.toInt64).toInt32
theorem own_bi (x : Int64) : x.toInt = x.toBitVec.toInt := rfl
theorem own_sr (x : Int64) (y : Int32) (k : Nat) (hk : ((y.toInt64 &&& 63).toBitVec.smod 64).toNat = k) : (x >>> (y.toInt64 &&& 63)).toInt = x.toInt / (2 ^ k : Nat) := by
  rw [own_bi, Int64.toBitVec_shiftRight, BitVec.sshiftRight_eq', hk, BitVec.toInt_sshiftRight, Int.shiftRight_eq_div_pow]
  rfl
theorem own_toInt_nat (x : Int64) : x.toInt % 4294967296 = (x.toBitVec.toNat : Int) % 4294967296 := by
  rw [own_bi, BitVec.toInt_eq_toNat_cond]
  split <;> omega
theorem own_m32 (x : Int64) : (x &&& (4294967295 : Int64)).toInt = x.toInt % 4294967296 := by
  rw [own_toInt_nat, own_bi, Int64.toBitVec_and]
  have e : (x.toBitVec &&& (4294967295 : Int64).toBitVec).toNat = x.toBitVec.toNat % 4294967296 := by
    rw [BitVec.toNat_and, show (4294967295 : Int64).toBitVec.toNat = 2 ^ 32 - 1 from by decide, Nat.and_two_pow_sub_one_eq_mod]
  rw [BitVec.toInt_eq_toNat_cond, e]
  split <;> omega
theorem own_usr (x : Int64) (h : 0 ≤ x.toInt) : (XT.ushrL x (32 : Int32)).toInt = x.toInt / 4294967296 := by
  have e0 : (XT.ushrL x (32 : Int32)).toBitVec = x.toBitVec >>> 32 := by
    unfold XT.ushrL
    show (x.toUInt64 >>> _).toBitVec = _
    rw [UInt64.toBitVec_shiftRight]
    show x.toBitVec >>> _ = _
    rw [BitVec.ushiftRight_eq', show (((32 : Int32).toInt64.toUInt64 &&& Int64.toUInt64 63).toBitVec % 64).toNat = 32 from by decide]
  rw [own_bi, e0, BitVec.toInt_eq_toNat_cond, BitVec.toNat_ushiftRight, Nat.shiftRight_eq_div_pow]
  rw [own_bi, BitVec.toInt_eq_toNat_cond] at h
  rw [own_bi, BitVec.toInt_eq_toNat_cond]
  have := x.toBitVec.isLt
  split at h <;> split <;> omega
theorem own_add64 (x y : Int64) (h : -9223372036854775808 ≤ x.toInt + y.toInt ∧ x.toInt + y.toInt < 9223372036854775808) : (x + y).toInt = x.toInt + y.toInt := by
  rw [Int64.toInt_add, Int.bmod_eq_of_le] <;> omega
theorem own_mul64 (x y : Int64) (h : -9223372036854775808 ≤ x.toInt * y.toInt ∧ x.toInt * y.toInt < 9223372036854775808) : (x * y).toInt = x.toInt * y.toInt := by
  rw [Int64.toInt_mul, Int.bmod_eq_of_le] <;> omega
theorem own_mulb (a b c d : Int) (ha : -a ≤ c ∧ c ≤ a) (hb : 0 ≤ d ∧ d ≤ b) (h0 : 0 ≤ a) : -(a * b) ≤ c * d ∧ c * d ≤ a * b := by
  constructor
  · have h1 : -(a * d) ≤ c * d := by rw [← Int.neg_mul]; exact Int.mul_le_mul_of_nonneg_right ha.1 hb.1
    have h2 : a * d ≤ a * b := Int.mul_le_mul_of_nonneg_left hb.2 h0
    omega
  · exact Int.le_trans (Int.mul_le_mul_of_nonneg_right ha.2 hb.1) (Int.mul_le_mul_of_nonneg_left hb.2 h0)
theorem own_slot (z : Int64) (n : Int32) (h : 0 < n.toInt ∧ n.toInt ≤ 64) : 0 ≤ (f_slot z n).toInt ∧ (f_slot z n).toInt < n.toInt := by
  unfold f_slot f_red f_mh
  have hy : n.toInt64.toInt = n.toInt := Int32.toInt_toInt64 n
  generalize n.toInt64 = y at *
  have y1 : (y >>> ((32 : Int32).toInt64 &&& 63)).toInt = 0 := by rw [own_sr _ _ 32 (by decide), hy]; omega
  have y1' : y >>> ((32 : Int32).toInt64 &&& 63) = 0 := Int64.toInt_inj.mp (by rw [y1]; rfl)
  have y0 : (y &&& (4294967295 : Int64)).toInt = n.toInt := by rw [own_m32, hy]; omega
  have y0' : y &&& (4294967295 : Int64) = y := Int64.toInt_inj.mp (by rw [y0, hy])
  have x1 : (z >>> ((32 : Int32).toInt64 &&& 63)).toInt = z.toInt / 4294967296 := own_sr _ _ 32 (by decide)
  have x0 := own_m32 z
  have hz1 := Int64.le_toInt z
  have hz2 := Int64.toInt_lt z
  have hx0 : 0 ≤ z.toInt % 4294967296 ∧ z.toInt % 4294967296 < 4294967296 := by omega
  have hx1 : -2147483648 ≤ z.toInt / 4294967296 ∧ z.toInt / 4294967296 ≤ 2147483647 := by omega
  rw [y1', y0', Int64.mul_zero, Int64.mul_zero, Int64.add_zero, Int64.zero_add]
  generalize hA : z >>> ((32 : Int32).toInt64 &&& 63) = A at *
  generalize hB : z &&& (4294967295 : Int64) = B at *
  have b1 := own_mulb 4294967296 64 B.toInt y.toInt (by omega) (by omega) (by omega)
  have b2 := own_mulb 2147483648 64 A.toInt y.toInt (by omega) (by omega) (by omega)
  have b3 : 0 ≤ B.toInt * y.toInt := Int.mul_nonneg (by omega) (by omega)
  have b4 : B.toInt * y.toInt ≤ 4294967295 * y.toInt := Int.mul_le_mul_of_nonneg_right (by omega) (by omega)
  have eB : (B * y).toInt = B.toInt * y.toInt := own_mul64 _ _ (by omega)
  have eA : (A * y).toInt = A.toInt * y.toInt := own_mul64 _ _ (by omega)
  have eU : (XT.ushrL (B * y) (32 : Int32)).toInt = B.toInt * y.toInt / 4294967296 := by rw [own_usr _ (by omega), eB]
  have eT : (A * y + XT.ushrL (B * y) (32 : Int32)).toInt = A.toInt * y.toInt + B.toInt * y.toInt / 4294967296 := by rw [own_add64 _ _ (by rw [eA, eU]; omega), eA, eU]
  generalize A * y + XT.ushrL (B * y) (32 : Int32) = T at *
  have e1 : (T >>> ((32 : Int32).toInt64 &&& 63)).toInt = T.toInt / 4294967296 := own_sr _ _ 32 (by decide)
  have e2 : ((T &&& (4294967295 : Int64)) >>> ((32 : Int32).toInt64 &&& 63)).toInt = 0 := by rw [own_sr _ _ 32 (by decide), own_m32]; omega
  have e3 : (T &&& (4294967295 : Int64)) >>> ((32 : Int32).toInt64 &&& 63) = 0 := Int64.toInt_inj.mp (by rw [e2]; rfl)
  rw [e3, Int64.add_zero]
  have s1 : (z >>> ((63 : Int32).toInt64 &&& 63)).toInt = z.toInt / 9223372036854775808 := own_sr _ _ 63 (by decide)
  have fin : ∀ r : Int64, 0 ≤ r.toInt → r.toInt < n.toInt → 0 ≤ r.toInt32.toInt ∧ r.toInt32.toInt < n.toInt := by
    intro r h1 h2
    have : r.toInt32.toInt = r.toInt := by rw [Int64.toInt_toInt32, Int.bmod_eq_of_le] <;> omega
    omega
  by_cases hz : z.toInt < 0
  · have s2 : z >>> ((63 : Int32).toInt64 &&& 63) = -1 := Int64.toInt_inj.mp (by rw [s1]; simp only [Int64.reduceToInt]; omega)
    rw [s2, show (-1 : Int64) &&& y = y from by apply Int64.toBitVec_inj.mp; rw [Int64.toBitVec_and]; exact BitVec.allOnes_and]
    have c1 : A.toInt ≤ -1 := by omega
    have c2 : A.toInt * y.toInt ≤ -1 * y.toInt := Int.mul_le_mul_of_nonneg_right c1 (by omega)
    have c3 : -2147483648 * y.toInt ≤ A.toInt * y.toInt := Int.mul_le_mul_of_nonneg_right (by omega) (by omega)
    have e4 : (T >>> ((32 : Int32).toInt64 &&& 63) + y).toInt = T.toInt / 4294967296 + y.toInt := by rw [own_add64 _ _ (by rw [e1]; omega), e1]
    refine fin _ ?_ ?_
    · rw [e4, eT]; omega
    · rw [e4, eT]; omega
  · have s2 : z >>> ((63 : Int32).toInt64 &&& 63) = 0 := Int64.toInt_inj.mp (by rw [s1]; simp only [Int64.reduceToInt]; omega)
    rw [s2, show (0 : Int64) &&& y = 0 from by apply Int64.toBitVec_inj.mp; rw [Int64.toBitVec_and]; exact BitVec.zero_and, Int64.add_zero]
    have c1 : 0 ≤ A.toInt := by omega
    have c2 : 0 ≤ A.toInt * y.toInt := Int.mul_nonneg c1 (by omega)
    have c3 : A.toInt * y.toInt ≤ 2147483647 * y.toInt := Int.mul_le_mul_of_nonneg_right (by omega) (by omega)
    refine fin _ ?_ ?_
    · rw [e1, eT]; omega
    · rw [e1, eT]; omega
theorem pd_1 : parseMethodDescriptor "(JJ)J" = some ⟨[.long, .long], (some .long)⟩ := by decide +kernel
theorem pn_1 : plainFor (⟨"com/example/orthrus/orthrus/Cells", "mix", "(J)J"⟩ : MethodName) = true := by first | exact plainFor_of_name (by first | (simp [plainName, overriddenIn]; done) | decide +kernel) | decide +kernel
theorem D_prog_3_m5_0 : Dc prog_3_method_5_code 0 (.lload_n 0) 1 1 := ⟨by decide +kernel, rfl⟩
theorem D_prog_3_m5_1 : Dc prog_3_method_5_code 1 (.lload_n 0) 1 2 := ⟨by decide +kernel, rfl⟩
theorem D_prog_3_m5_2 : Dc prog_3_method_5_code 2 (.bipush 30) 2 4 := ⟨by decide +kernel, rfl⟩
theorem D_prog_3_m5_4 : Dc prog_3_method_5_code 4 (.lushr) 1 5 := ⟨by decide +kernel, rfl⟩
theorem D_prog_3_m5_5 : Dc prog_3_method_5_code 5 (.lxor) 1 6 := ⟨by decide +kernel, rfl⟩
theorem D_prog_3_m5_6 : Dc prog_3_method_5_code 6 (.ldc2_w 24) 3 9 := ⟨by decide +kernel, rfl⟩
theorem D_prog_3_m5_9 : Dc prog_3_method_5_code 9 (.lmul) 1 10 := ⟨by decide +kernel, rfl⟩
theorem D_prog_3_m5_10 : Dc prog_3_method_5_code 10 (.lstore_n 0) 1 11 := ⟨by decide +kernel, rfl⟩
theorem D_prog_3_m5_11 : Dc prog_3_method_5_code 11 (.lload_n 0) 1 12 := ⟨by decide +kernel, rfl⟩
theorem D_prog_3_m5_12 : Dc prog_3_method_5_code 12 (.lload_n 0) 1 13 := ⟨by decide +kernel, rfl⟩
theorem D_prog_3_m5_13 : Dc prog_3_method_5_code 13 (.bipush 27) 2 15 := ⟨by decide +kernel, rfl⟩
theorem D_prog_3_m5_15 : Dc prog_3_method_5_code 15 (.lushr) 1 16 := ⟨by decide +kernel, rfl⟩
theorem D_prog_3_m5_16 : Dc prog_3_method_5_code 16 (.lxor) 1 17 := ⟨by decide +kernel, rfl⟩
theorem D_prog_3_m5_17 : Dc prog_3_method_5_code 17 (.ldc2_w 26) 3 20 := ⟨by decide +kernel, rfl⟩
theorem D_prog_3_m5_20 : Dc prog_3_method_5_code 20 (.lmul) 1 21 := ⟨by decide +kernel, rfl⟩
theorem D_prog_3_m5_21 : Dc prog_3_method_5_code 21 (.lstore_n 0) 1 22 := ⟨by decide +kernel, rfl⟩
theorem D_prog_3_m5_22 : Dc prog_3_method_5_code 22 (.lload_n 0) 1 23 := ⟨by decide +kernel, rfl⟩
theorem D_prog_3_m5_23 : Dc prog_3_method_5_code 23 (.lload_n 0) 1 24 := ⟨by decide +kernel, rfl⟩
theorem D_prog_3_m5_24 : Dc prog_3_method_5_code 24 (.bipush 31) 2 26 := ⟨by decide +kernel, rfl⟩
theorem D_prog_3_m5_26 : Dc prog_3_method_5_code 26 (.lushr) 1 27 := ⟨by decide +kernel, rfl⟩
theorem D_prog_3_m5_27 : Dc prog_3_method_5_code 27 (.lxor) 1 28 := ⟨by decide +kernel, rfl⟩
theorem D_prog_3_m5_28 : Dc prog_3_method_5_code 28 (.lreturn) 1 29 := ⟨by decide +kernel, rfl⟩
def Q_c_mix (z : Int64) (H : OH) : Option Value → OH → Prop := fun v H' => v = some (.long (f_mix z)) ∧ H' = H
set_option maxRecDepth 65536 in
set_option maxHeartbeats 40000000 in
theorem c_mix (l : Launch) (Z : State) (a0 : Array Value) (hw : ∀ d ∈ tables_1, d.before a0 Z = true) (z : Int64) (H : OH) :
    Met l Z (⟨"com/example/orthrus/orthrus/Cells", "mix", "(J)J"⟩ : MethodName) prog_3_method_5_code 2 (some .long) ({ frames := 0, cells := 0, slots := 0, locals := 0 } : Room) [(.long z)] H (Q_c_mix z H) := by
  refine Met.of_wp (Ls := #[.val (.long z), .second]) pn_1 (fun m => (entry_loc m _ _).trans rfl) ?_
  show Wp none l Z "com/example/orthrus/orthrus/Cells" "mix" prog_3_method_5_code 2 (some .long) ({ frames := 0, cells := 0, slots := 0, locals := 0 } : Room) H 0 0 0 #[.val (.long z), .second] [] (Q_c_mix z H)
  refine wp_lload_n D_prog_3_m5_0 rfl ?_
  refine wp_lload_n D_prog_3_m5_1 rfl ?_
  refine wp_bipush 30 D_prog_3_m5_2 (by decide) ?_
  refine wp_lushr D_prog_3_m5_4 ?_
  refine wp_lxor D_prog_3_m5_5 ?_
  refine wp_ldc2J D_prog_3_m5_6 (hw _ (List.mem_of_getElem? (i := 26) rfl)) ?_
  refine wp_lmul D_prog_3_m5_9 ?_
  generalize hg_x1 : ((z ^^^ (XT.ushrL z (30 : Int32))) * (-4658895280553007687 : Int64)) = x1
  refine wp_lstore_n #[.val (.long x1), .second] D_prog_3_m5_10 rfl ?_
  refine wp_lload_n D_prog_3_m5_11 rfl ?_
  refine wp_lload_n D_prog_3_m5_12 rfl ?_
  refine wp_bipush 27 D_prog_3_m5_13 (by decide) ?_
  refine wp_lushr D_prog_3_m5_15 ?_
  refine wp_lxor D_prog_3_m5_16 ?_
  refine wp_ldc2J D_prog_3_m5_17 (hw _ (List.mem_of_getElem? (i := 27) rfl)) ?_
  refine wp_lmul D_prog_3_m5_20 ?_
  generalize hg_x2 : ((x1 ^^^ (XT.ushrL x1 (27 : Int32))) * (-7723592293110705685 : Int64)) = x2
  refine wp_lstore_n #[.val (.long x2), .second] D_prog_3_m5_21 rfl ?_
  refine wp_lload_n D_prog_3_m5_22 rfl ?_
  refine wp_lload_n D_prog_3_m5_23 rfl ?_
  refine wp_bipush 31 D_prog_3_m5_24 (by decide) ?_
  refine wp_lushr D_prog_3_m5_26 ?_
  refine wp_lxor D_prog_3_m5_27 ?_
  refine wp_lreturn D_prog_3_m5_28 rfl (by decide) (by decide) ?_
  subst hg_x1 hg_x2
  exact ⟨rfl, rfl⟩
theorem pn_2 : plainFor (⟨"java/lang/Math", "multiplyHigh", "(JJ)J"⟩ : MethodName) = true := by first | exact plainFor_of_name (by first | (simp [plainName, overriddenIn]; done) | decide +kernel) | decide +kernel
theorem D_jdk_29_m45_0 : Dc jdk_29_method_45_code 0 (.lload_n 0) 1 1 := ⟨by decide +kernel, rfl⟩
theorem D_jdk_29_m45_1 : Dc jdk_29_method_45_code 1 (.bipush 32) 2 3 := ⟨by decide +kernel, rfl⟩
theorem D_jdk_29_m45_3 : Dc jdk_29_method_45_code 3 (.lshr) 1 4 := ⟨by decide +kernel, rfl⟩
theorem D_jdk_29_m45_4 : Dc jdk_29_method_45_code 4 (.lstore 4) 2 6 := ⟨by decide +kernel, rfl⟩
theorem D_jdk_29_m45_6 : Dc jdk_29_method_45_code 6 (.lload_n 0) 1 7 := ⟨by decide +kernel, rfl⟩
theorem D_jdk_29_m45_7 : Dc jdk_29_method_45_code 7 (.ldc2_w 138) 3 10 := ⟨by decide +kernel, rfl⟩
theorem D_jdk_29_m45_10 : Dc jdk_29_method_45_code 10 (.land) 1 11 := ⟨by decide +kernel, rfl⟩
theorem D_jdk_29_m45_11 : Dc jdk_29_method_45_code 11 (.lstore 6) 2 13 := ⟨by decide +kernel, rfl⟩
theorem D_jdk_29_m45_13 : Dc jdk_29_method_45_code 13 (.lload_n 2) 1 14 := ⟨by decide +kernel, rfl⟩
theorem D_jdk_29_m45_14 : Dc jdk_29_method_45_code 14 (.bipush 32) 2 16 := ⟨by decide +kernel, rfl⟩
theorem D_jdk_29_m45_16 : Dc jdk_29_method_45_code 16 (.lshr) 1 17 := ⟨by decide +kernel, rfl⟩
theorem D_jdk_29_m45_17 : Dc jdk_29_method_45_code 17 (.lstore 8) 2 19 := ⟨by decide +kernel, rfl⟩
theorem D_jdk_29_m45_19 : Dc jdk_29_method_45_code 19 (.lload_n 2) 1 20 := ⟨by decide +kernel, rfl⟩
theorem D_jdk_29_m45_20 : Dc jdk_29_method_45_code 20 (.ldc2_w 138) 3 23 := ⟨by decide +kernel, rfl⟩
theorem D_jdk_29_m45_23 : Dc jdk_29_method_45_code 23 (.land) 1 24 := ⟨by decide +kernel, rfl⟩
theorem D_jdk_29_m45_24 : Dc jdk_29_method_45_code 24 (.lstore 10) 2 26 := ⟨by decide +kernel, rfl⟩
theorem D_jdk_29_m45_26 : Dc jdk_29_method_45_code 26 (.lload 6) 2 28 := ⟨by decide +kernel, rfl⟩
theorem D_jdk_29_m45_28 : Dc jdk_29_method_45_code 28 (.lload 10) 2 30 := ⟨by decide +kernel, rfl⟩
theorem D_jdk_29_m45_30 : Dc jdk_29_method_45_code 30 (.lmul) 1 31 := ⟨by decide +kernel, rfl⟩
theorem D_jdk_29_m45_31 : Dc jdk_29_method_45_code 31 (.lstore 12) 2 33 := ⟨by decide +kernel, rfl⟩
theorem D_jdk_29_m45_33 : Dc jdk_29_method_45_code 33 (.lload 4) 2 35 := ⟨by decide +kernel, rfl⟩
theorem D_jdk_29_m45_35 : Dc jdk_29_method_45_code 35 (.lload 10) 2 37 := ⟨by decide +kernel, rfl⟩
theorem D_jdk_29_m45_37 : Dc jdk_29_method_45_code 37 (.lmul) 1 38 := ⟨by decide +kernel, rfl⟩
theorem D_jdk_29_m45_38 : Dc jdk_29_method_45_code 38 (.lload 12) 2 40 := ⟨by decide +kernel, rfl⟩
theorem D_jdk_29_m45_40 : Dc jdk_29_method_45_code 40 (.bipush 32) 2 42 := ⟨by decide +kernel, rfl⟩
theorem D_jdk_29_m45_42 : Dc jdk_29_method_45_code 42 (.lushr) 1 43 := ⟨by decide +kernel, rfl⟩
theorem D_jdk_29_m45_43 : Dc jdk_29_method_45_code 43 (.ladd) 1 44 := ⟨by decide +kernel, rfl⟩
theorem D_jdk_29_m45_44 : Dc jdk_29_method_45_code 44 (.lstore 14) 2 46 := ⟨by decide +kernel, rfl⟩
theorem D_jdk_29_m45_46 : Dc jdk_29_method_45_code 46 (.lload 14) 2 48 := ⟨by decide +kernel, rfl⟩
theorem D_jdk_29_m45_48 : Dc jdk_29_method_45_code 48 (.ldc2_w 138) 3 51 := ⟨by decide +kernel, rfl⟩
theorem D_jdk_29_m45_51 : Dc jdk_29_method_45_code 51 (.land) 1 52 := ⟨by decide +kernel, rfl⟩
theorem D_jdk_29_m45_52 : Dc jdk_29_method_45_code 52 (.lstore 16) 2 54 := ⟨by decide +kernel, rfl⟩
theorem D_jdk_29_m45_54 : Dc jdk_29_method_45_code 54 (.lload 14) 2 56 := ⟨by decide +kernel, rfl⟩
theorem D_jdk_29_m45_56 : Dc jdk_29_method_45_code 56 (.bipush 32) 2 58 := ⟨by decide +kernel, rfl⟩
theorem D_jdk_29_m45_58 : Dc jdk_29_method_45_code 58 (.lshr) 1 59 := ⟨by decide +kernel, rfl⟩
theorem D_jdk_29_m45_59 : Dc jdk_29_method_45_code 59 (.lstore 18) 2 61 := ⟨by decide +kernel, rfl⟩
theorem D_jdk_29_m45_61 : Dc jdk_29_method_45_code 61 (.lload 16) 2 63 := ⟨by decide +kernel, rfl⟩
theorem D_jdk_29_m45_63 : Dc jdk_29_method_45_code 63 (.lload 6) 2 65 := ⟨by decide +kernel, rfl⟩
theorem D_jdk_29_m45_65 : Dc jdk_29_method_45_code 65 (.lload 8) 2 67 := ⟨by decide +kernel, rfl⟩
theorem D_jdk_29_m45_67 : Dc jdk_29_method_45_code 67 (.lmul) 1 68 := ⟨by decide +kernel, rfl⟩
theorem D_jdk_29_m45_68 : Dc jdk_29_method_45_code 68 (.ladd) 1 69 := ⟨by decide +kernel, rfl⟩
theorem D_jdk_29_m45_69 : Dc jdk_29_method_45_code 69 (.lstore 16) 2 71 := ⟨by decide +kernel, rfl⟩
theorem D_jdk_29_m45_71 : Dc jdk_29_method_45_code 71 (.lload 4) 2 73 := ⟨by decide +kernel, rfl⟩
theorem D_jdk_29_m45_73 : Dc jdk_29_method_45_code 73 (.lload 8) 2 75 := ⟨by decide +kernel, rfl⟩
theorem D_jdk_29_m45_75 : Dc jdk_29_method_45_code 75 (.lmul) 1 76 := ⟨by decide +kernel, rfl⟩
theorem D_jdk_29_m45_76 : Dc jdk_29_method_45_code 76 (.lload 18) 2 78 := ⟨by decide +kernel, rfl⟩
theorem D_jdk_29_m45_78 : Dc jdk_29_method_45_code 78 (.ladd) 1 79 := ⟨by decide +kernel, rfl⟩
theorem D_jdk_29_m45_79 : Dc jdk_29_method_45_code 79 (.lload 16) 2 81 := ⟨by decide +kernel, rfl⟩
theorem D_jdk_29_m45_81 : Dc jdk_29_method_45_code 81 (.bipush 32) 2 83 := ⟨by decide +kernel, rfl⟩
theorem D_jdk_29_m45_83 : Dc jdk_29_method_45_code 83 (.lshr) 1 84 := ⟨by decide +kernel, rfl⟩
theorem D_jdk_29_m45_84 : Dc jdk_29_method_45_code 84 (.ladd) 1 85 := ⟨by decide +kernel, rfl⟩
theorem D_jdk_29_m45_85 : Dc jdk_29_method_45_code 85 (.lreturn) 1 86 := ⟨by decide +kernel, rfl⟩
def Q_c_mh (x : Int64) (y : Int64) (H : OH) : Option Value → OH → Prop := fun v H' => v = some (.long (f_mh x y)) ∧ H' = H
set_option maxRecDepth 65536 in
set_option maxHeartbeats 40000000 in
theorem c_mh (l : Launch) (Z : State) (a0 : Array Value) (hw : ∀ d ∈ tables_1, d.before a0 Z = true) (x : Int64) (y : Int64) (H : OH) :
    Met l Z (⟨"java/lang/Math", "multiplyHigh", "(JJ)J"⟩ : MethodName) jdk_29_method_45_code 20 (some .long) ({ frames := 0, cells := 0, slots := 0, locals := 0 } : Room) [(.long x), (.long y)] H (Q_c_mh x y H) := by
  refine Met.of_wp (Ls := #[.val (.long x), .second, .val (.long y), .second, .unset, .unset, .unset, .unset, .unset, .unset, .unset, .unset, .unset, .unset, .unset, .unset, .unset, .unset, .unset, .unset]) pn_2 (fun m => (entry_loc m _ _).trans rfl) ?_
  show Wp none l Z "java/lang/Math" "multiplyHigh" jdk_29_method_45_code 20 (some .long) ({ frames := 0, cells := 0, slots := 0, locals := 0 } : Room) H 0 0 0 #[.val (.long x), .second, .val (.long y), .second, .unset, .unset, .unset, .unset, .unset, .unset, .unset, .unset, .unset, .unset, .unset, .unset, .unset, .unset, .unset, .unset] [] (Q_c_mh x y H)
  refine wp_lload_n D_jdk_29_m45_0 rfl ?_
  refine wp_bipush 32 D_jdk_29_m45_1 (by decide) ?_
  refine wp_lshr D_jdk_29_m45_3 ?_
  generalize hg_x1 : (x >>> ((32 : Int32).toInt64 &&& 63)) = x1
  refine wp_lstore #[.val (.long x), .second, .val (.long y), .second, .val (.long x1), .second, .unset, .unset, .unset, .unset, .unset, .unset, .unset, .unset, .unset, .unset, .unset, .unset, .unset, .unset] D_jdk_29_m45_4 rfl ?_
  refine wp_lload_n D_jdk_29_m45_6 rfl ?_
  refine wp_ldc2J D_jdk_29_m45_7 (hw _ (List.mem_of_getElem? (i := 35) rfl)) ?_
  refine wp_land D_jdk_29_m45_10 ?_
  generalize hg_x2 : (x &&& (4294967295 : Int64)) = x2
  refine wp_lstore #[.val (.long x), .second, .val (.long y), .second, .val (.long x1), .second, .val (.long x2), .second, .unset, .unset, .unset, .unset, .unset, .unset, .unset, .unset, .unset, .unset, .unset, .unset] D_jdk_29_m45_11 rfl ?_
  refine wp_lload_n D_jdk_29_m45_13 rfl ?_
  refine wp_bipush 32 D_jdk_29_m45_14 (by decide) ?_
  refine wp_lshr D_jdk_29_m45_16 ?_
  generalize hg_x3 : (y >>> ((32 : Int32).toInt64 &&& 63)) = x3
  refine wp_lstore #[.val (.long x), .second, .val (.long y), .second, .val (.long x1), .second, .val (.long x2), .second, .val (.long x3), .second, .unset, .unset, .unset, .unset, .unset, .unset, .unset, .unset, .unset, .unset] D_jdk_29_m45_17 rfl ?_
  refine wp_lload_n D_jdk_29_m45_19 rfl ?_
  refine wp_ldc2J D_jdk_29_m45_20 (hw _ (List.mem_of_getElem? (i := 35) rfl)) ?_
  refine wp_land D_jdk_29_m45_23 ?_
  generalize hg_x4 : (y &&& (4294967295 : Int64)) = x4
  refine wp_lstore #[.val (.long x), .second, .val (.long y), .second, .val (.long x1), .second, .val (.long x2), .second, .val (.long x3), .second, .val (.long x4), .second, .unset, .unset, .unset, .unset, .unset, .unset, .unset, .unset] D_jdk_29_m45_24 rfl ?_
  refine wp_lload D_jdk_29_m45_26 rfl ?_
  refine wp_lload D_jdk_29_m45_28 rfl ?_
  refine wp_lmul D_jdk_29_m45_30 ?_
  generalize hg_x5 : (x2 * x4) = x5
  refine wp_lstore #[.val (.long x), .second, .val (.long y), .second, .val (.long x1), .second, .val (.long x2), .second, .val (.long x3), .second, .val (.long x4), .second, .val (.long x5), .second, .unset, .unset, .unset, .unset, .unset, .unset] D_jdk_29_m45_31 rfl ?_
  refine wp_lload D_jdk_29_m45_33 rfl ?_
  refine wp_lload D_jdk_29_m45_35 rfl ?_
  refine wp_lmul D_jdk_29_m45_37 ?_
  refine wp_lload D_jdk_29_m45_38 rfl ?_
  refine wp_bipush 32 D_jdk_29_m45_40 (by decide) ?_
  refine wp_lushr D_jdk_29_m45_42 ?_
  refine wp_ladd D_jdk_29_m45_43 ?_
  generalize hg_x6 : ((x1 * x4) + (XT.ushrL x5 (32 : Int32))) = x6
  refine wp_lstore #[.val (.long x), .second, .val (.long y), .second, .val (.long x1), .second, .val (.long x2), .second, .val (.long x3), .second, .val (.long x4), .second, .val (.long x5), .second, .val (.long x6), .second, .unset, .unset, .unset, .unset] D_jdk_29_m45_44 rfl ?_
  refine wp_lload D_jdk_29_m45_46 rfl ?_
  refine wp_ldc2J D_jdk_29_m45_48 (hw _ (List.mem_of_getElem? (i := 35) rfl)) ?_
  refine wp_land D_jdk_29_m45_51 ?_
  generalize hg_x7 : (x6 &&& (4294967295 : Int64)) = x7
  refine wp_lstore #[.val (.long x), .second, .val (.long y), .second, .val (.long x1), .second, .val (.long x2), .second, .val (.long x3), .second, .val (.long x4), .second, .val (.long x5), .second, .val (.long x6), .second, .val (.long x7), .second, .unset, .unset] D_jdk_29_m45_52 rfl ?_
  refine wp_lload D_jdk_29_m45_54 rfl ?_
  refine wp_bipush 32 D_jdk_29_m45_56 (by decide) ?_
  refine wp_lshr D_jdk_29_m45_58 ?_
  generalize hg_x8 : (x6 >>> ((32 : Int32).toInt64 &&& 63)) = x8
  refine wp_lstore #[.val (.long x), .second, .val (.long y), .second, .val (.long x1), .second, .val (.long x2), .second, .val (.long x3), .second, .val (.long x4), .second, .val (.long x5), .second, .val (.long x6), .second, .val (.long x7), .second, .val (.long x8), .second] D_jdk_29_m45_59 rfl ?_
  refine wp_lload D_jdk_29_m45_61 rfl ?_
  refine wp_lload D_jdk_29_m45_63 rfl ?_
  refine wp_lload D_jdk_29_m45_65 rfl ?_
  refine wp_lmul D_jdk_29_m45_67 ?_
  refine wp_ladd D_jdk_29_m45_68 ?_
  generalize hg_x9 : (x7 + (x2 * x3)) = x9
  refine wp_lstore #[.val (.long x), .second, .val (.long y), .second, .val (.long x1), .second, .val (.long x2), .second, .val (.long x3), .second, .val (.long x4), .second, .val (.long x5), .second, .val (.long x6), .second, .val (.long x9), .second, .val (.long x8), .second] D_jdk_29_m45_69 rfl ?_
  refine wp_lload D_jdk_29_m45_71 rfl ?_
  refine wp_lload D_jdk_29_m45_73 rfl ?_
  refine wp_lmul D_jdk_29_m45_75 ?_
  refine wp_lload D_jdk_29_m45_76 rfl ?_
  refine wp_ladd D_jdk_29_m45_78 ?_
  refine wp_lload D_jdk_29_m45_79 rfl ?_
  refine wp_bipush 32 D_jdk_29_m45_81 (by decide) ?_
  refine wp_lshr D_jdk_29_m45_83 ?_
  refine wp_ladd D_jdk_29_m45_84 ?_
  refine wp_lreturn D_jdk_29_m45_85 rfl (by decide) (by decide) ?_
  subst hg_x1 hg_x2 hg_x3 hg_x4 hg_x5 hg_x6 hg_x7 hg_x8 hg_x9
  exact ⟨rfl, rfl⟩
theorem pn_3 : plainFor (⟨"com/example/orthrus/orthrus/Cells", "reduce", "(JJ)J"⟩ : MethodName) = true := by first | exact plainFor_of_name (by first | (simp [plainName, overriddenIn]; done) | decide +kernel) | decide +kernel
theorem D_prog_3_m4_0 : Dc prog_3_method_4_code 0 (.lload_n 0) 1 1 := ⟨by decide +kernel, rfl⟩
theorem D_prog_3_m4_1 : Dc prog_3_method_4_code 1 (.lload_n 2) 1 2 := ⟨by decide +kernel, rfl⟩
theorem D_prog_3_m4_2 : Dc prog_3_method_4_code 2 (.invokestatic 19) 3 5 := ⟨by decide +kernel, rfl⟩
theorem D_prog_3_m4_5 : Dc prog_3_method_4_code 5 (.lload_n 0) 1 6 := ⟨by decide +kernel, rfl⟩
theorem D_prog_3_m4_6 : Dc prog_3_method_4_code 6 (.bipush 63) 2 8 := ⟨by decide +kernel, rfl⟩
theorem D_prog_3_m4_8 : Dc prog_3_method_4_code 8 (.lshr) 1 9 := ⟨by decide +kernel, rfl⟩
theorem D_prog_3_m4_9 : Dc prog_3_method_4_code 9 (.lload_n 2) 1 10 := ⟨by decide +kernel, rfl⟩
theorem D_prog_3_m4_10 : Dc prog_3_method_4_code 10 (.land) 1 11 := ⟨by decide +kernel, rfl⟩
theorem D_prog_3_m4_11 : Dc prog_3_method_4_code 11 (.ladd) 1 12 := ⟨by decide +kernel, rfl⟩
theorem D_prog_3_m4_12 : Dc prog_3_method_4_code 12 (.lreturn) 1 13 := ⟨by decide +kernel, rfl⟩
def Q_c_red (x : Int64) (y : Int64) (H : OH) : Option Value → OH → Prop := fun v H' => v = some (.long (f_red x y)) ∧ H' = H
set_option maxRecDepth 65536 in
set_option maxHeartbeats 40000000 in
theorem c_red (l : Launch) (Z : State) (a0 : Array Value) (hw : ∀ d ∈ tables_1, d.before a0 Z = true) (x : Int64) (y : Int64) (H : OH) :
    Met l Z (⟨"com/example/orthrus/orthrus/Cells", "reduce", "(JJ)J"⟩ : MethodName) prog_3_method_4_code 4 (some .long) ({ frames := 1, cells := 0, slots := 0, locals := 31 } : Room) [(.long x), (.long y)] H (Q_c_red x y H) := by
  refine Met.of_wp (Ls := #[.val (.long x), .second, .val (.long y), .second]) pn_3 (fun m => (entry_loc m _ _).trans rfl) ?_
  show Wp none l Z "com/example/orthrus/orthrus/Cells" "reduce" prog_3_method_4_code 4 (some .long) ({ frames := 1, cells := 0, slots := 0, locals := 31 } : Room) H 0 0 0 #[.val (.long x), .second, .val (.long y), .second] [] (Q_c_red x y H)
  refine wp_lload_n D_prog_3_m4_0 rfl ?_
  refine wp_lload_n D_prog_3_m4_1 rfl ?_
  refine wp_callS (c_mh l Z a0 hw x y H) D_prog_3_m4_2 (hw _ (List.mem_of_getElem? (i := 31) rfl)) (hw _ (List.mem_of_getElem? (i := 32) rfl)) (hw _ (List.mem_of_getElem? (i := 33) rfl)) (hw _ (List.mem_of_getElem? (i := 34) rfl)) (by decide) pd_1 rfl rfl rfl (Nat.le_of_ble_eq_true rfl) (Nat.le_of_ble_eq_true rfl) (Nat.le_of_ble_eq_true rfl) (Nat.le_of_ble_eq_true rfl) ?_
  rintro _ H_ ⟨rfl, eH⟩
  rw [eH]
  show Wp none l Z "com/example/orthrus/orthrus/Cells" "reduce" prog_3_method_4_code 4 (some .long) ({ frames := 1, cells := 0, slots := 0, locals := 31 } : Room) H 0 0 5 #[.val (.long x), .second, .val (.long y), .second] [(.long (f_mh x y))] (Q_c_red x y H)
  refine wp_lload_n D_prog_3_m4_5 rfl ?_
  refine wp_bipush 63 D_prog_3_m4_6 (by decide) ?_
  refine wp_lshr D_prog_3_m4_8 ?_
  refine wp_lload_n D_prog_3_m4_9 rfl ?_
  refine wp_land D_prog_3_m4_10 ?_
  refine wp_ladd D_prog_3_m4_11 ?_
  refine wp_lreturn D_prog_3_m4_12 rfl (by decide) (by decide) ?_
  skip
  exact ⟨rfl, rfl⟩
theorem pd_2 : parseMethodDescriptor "(JI)I" = some ⟨[.long, .int], (some .int)⟩ := by decide +kernel
theorem pd_3 : parseMethodDescriptor "(J)J" = some ⟨[.long], (some .long)⟩ := by decide +kernel
theorem pd_4 : parseMethodDescriptor "()Z" = some ⟨[], (some .boolean)⟩ := by decide +kernel
theorem pd_5 : parseMethodDescriptor "(II)I" = some ⟨[.int, .int], (some .int)⟩ := by decide +kernel
theorem pd_6 : parseMethodDescriptor "(III)I" = some ⟨[.int, .int, .int], (some .int)⟩ := by decide +kernel
theorem pn_4 : plainFor (⟨"com/example/orthrus/orthrus/SignatureSet", "slotOf", "(JI)I"⟩ : MethodName) = true := by first | exact plainFor_of_name (by first | (simp [plainName, overriddenIn]; done) | decide +kernel) | decide +kernel
theorem D_prog_8_m12_0 : Dc prog_8_method_12_code 0 (.lload_n 0) 1 1 := ⟨by decide +kernel, rfl⟩
theorem D_prog_8_m12_1 : Dc prog_8_method_12_code 1 (.invokestatic 82) 3 4 := ⟨by decide +kernel, rfl⟩
theorem D_prog_8_m12_4 : Dc prog_8_method_12_code 4 (.iload_n 2) 1 5 := ⟨by decide +kernel, rfl⟩
theorem D_prog_8_m12_5 : Dc prog_8_method_12_code 5 (.i2l) 1 6 := ⟨by decide +kernel, rfl⟩
theorem D_prog_8_m12_6 : Dc prog_8_method_12_code 6 (.invokestatic 86) 3 9 := ⟨by decide +kernel, rfl⟩
theorem D_prog_8_m12_9 : Dc prog_8_method_12_code 9 (.l2i) 1 10 := ⟨by decide +kernel, rfl⟩
theorem D_prog_8_m12_10 : Dc prog_8_method_12_code 10 (.ireturn) 1 11 := ⟨by decide +kernel, rfl⟩
def Q_c_slot (x : Int64) (n : Int32) (H : OH) : Option Value → OH → Prop := fun v H' => v = some (.int (f_slot (f_mix x) n)) ∧ H' = H
set_option maxRecDepth 65536 in
set_option maxHeartbeats 40000000 in
theorem c_slot (l : Launch) (Z : State) (a0 : Array Value) (hw : ∀ d ∈ tables_1, d.before a0 Z = true) (x : Int64) (n : Int32) (H : OH) :
    Met l Z (⟨"com/example/orthrus/orthrus/SignatureSet", "slotOf", "(JI)I"⟩ : MethodName) prog_8_method_12_code 3 (some .int) ({ frames := 2, cells := 0, slots := 0, locals := 48 } : Room) [(.long x), (.int n)] H (Q_c_slot x n H) := by
  refine Met.of_wp (Ls := #[.val (.long x), .second, .val (.int n)]) pn_4 (fun m => (entry_loc m _ _).trans rfl) ?_
  show Wp none l Z "com/example/orthrus/orthrus/SignatureSet" "slotOf" prog_8_method_12_code 3 (some .int) ({ frames := 2, cells := 0, slots := 0, locals := 48 } : Room) H 0 0 0 #[.val (.long x), .second, .val (.int n)] [] (Q_c_slot x n H)
  refine wp_lload_n D_prog_8_m12_0 rfl ?_
  refine wp_callS (c_mix l Z a0 hw x H) D_prog_8_m12_1 (hw _ (List.mem_of_getElem? (i := 22) rfl)) (hw _ (List.mem_of_getElem? (i := 23) rfl)) (hw _ (List.mem_of_getElem? (i := 24) rfl)) (hw _ (List.mem_of_getElem? (i := 25) rfl)) (by decide) pd_3 rfl rfl rfl (Nat.le_of_ble_eq_true rfl) (Nat.le_of_ble_eq_true rfl) (Nat.le_of_ble_eq_true rfl) (Nat.le_of_ble_eq_true rfl) ?_
  rintro _ H_ ⟨rfl, eH⟩
  rw [eH]
  show Wp none l Z "com/example/orthrus/orthrus/SignatureSet" "slotOf" prog_8_method_12_code 3 (some .int) ({ frames := 2, cells := 0, slots := 0, locals := 48 } : Room) H 0 0 4 #[.val (.long x), .second, .val (.int n)] [(.long (f_mix x))] (Q_c_slot x n H)
  refine wp_iload_n D_prog_8_m12_4 rfl ?_
  refine wp_i2l D_prog_8_m12_5 ?_
  refine wp_callS (c_red l Z a0 hw (f_mix x) n.toInt64 H) D_prog_8_m12_6 (hw _ (List.mem_of_getElem? (i := 28) rfl)) (hw _ (List.mem_of_getElem? (i := 29) rfl)) (hw _ (List.mem_of_getElem? (i := 24) rfl)) (hw _ (List.mem_of_getElem? (i := 30) rfl)) (by decide) pd_1 rfl rfl rfl (Nat.le_of_ble_eq_true rfl) (Nat.le_of_ble_eq_true rfl) (Nat.le_of_ble_eq_true rfl) (Nat.le_of_ble_eq_true rfl) ?_
  rintro _ H_ ⟨rfl, eH⟩
  rw [eH]
  show Wp none l Z "com/example/orthrus/orthrus/SignatureSet" "slotOf" prog_8_method_12_code 3 (some .int) ({ frames := 2, cells := 0, slots := 0, locals := 48 } : Room) H 0 0 9 #[.val (.long x), .second, .val (.int n)] [(.long (f_red (f_mix x) n.toInt64))] (Q_c_slot x n H)
  refine wp_l2i D_prog_8_m12_9 ?_
  refine wp_ireturn D_prog_8_m12_10 rfl (by decide) (by decide) ?_
  skip
  exact ⟨rfl, rfl⟩
theorem pn_5 : plainFor (⟨"com/example/orthrus/orthrus/SignatureSet", "next", "(II)I"⟩ : MethodName) = true := by first | exact plainFor_of_name (by first | (simp [plainName, overriddenIn]; done) | decide +kernel) | decide +kernel
theorem D_prog_8_m13_0 : Dc prog_8_method_13_code 0 (.iload_n 0) 1 1 := ⟨by decide +kernel, rfl⟩
theorem D_prog_8_m13_1 : Dc prog_8_method_13_code 1 (.iconst 1) 1 2 := ⟨by decide +kernel, rfl⟩
theorem D_prog_8_m13_2 : Dc prog_8_method_13_code 2 (.iadd) 1 3 := ⟨by decide +kernel, rfl⟩
theorem D_prog_8_m13_3 : Dc prog_8_method_13_code 3 (.iload_n 1) 1 4 := ⟨by decide +kernel, rfl⟩
theorem D_prog_8_m13_4 : Dc prog_8_method_13_code 4 (.if_icmp .ne 7) 3 7 := ⟨by decide +kernel, rfl⟩
theorem D_prog_8_m13_7 : Dc prog_8_method_13_code 7 (.iconst 0) 1 8 := ⟨by decide +kernel, rfl⟩
theorem D_prog_8_m13_8 : Dc prog_8_method_13_code 8 (.goto 6) 3 11 := ⟨by decide +kernel, rfl⟩
theorem D_prog_8_m13_11 : Dc prog_8_method_13_code 11 (.iload_n 0) 1 12 := ⟨by decide +kernel, rfl⟩
theorem D_prog_8_m13_12 : Dc prog_8_method_13_code 12 (.iconst 1) 1 13 := ⟨by decide +kernel, rfl⟩
theorem D_prog_8_m13_13 : Dc prog_8_method_13_code 13 (.iadd) 1 14 := ⟨by decide +kernel, rfl⟩
theorem D_prog_8_m13_14 : Dc prog_8_method_13_code 14 (.ireturn) 1 15 := ⟨by decide +kernel, rfl⟩
def Q_c_next (s : Int32) (n : Int32) (H : OH) : Option Value → OH → Prop := fun v H' => v = some (.int (f_next s n)) ∧ H' = H
set_option maxRecDepth 65536 in
set_option maxHeartbeats 40000000 in
theorem c_next (l : Launch) (Z : State) (a0 : Array Value) (hw : ∀ d ∈ tables_1, d.before a0 Z = true) (s : Int32) (n : Int32) (H : OH) :
    Met l Z (⟨"com/example/orthrus/orthrus/SignatureSet", "next", "(II)I"⟩ : MethodName) prog_8_method_13_code 2 (some .int) ({ frames := 0, cells := 0, slots := 0, locals := 0 } : Room) [(.int s), (.int n)] H (Q_c_next s n H) := by
  refine Met.of_wp (Ls := #[.val (.int s), .val (.int n)]) pn_5 (fun m => (entry_loc m _ _).trans rfl) ?_
  show Wp none l Z "com/example/orthrus/orthrus/SignatureSet" "next" prog_8_method_13_code 2 (some .int) ({ frames := 0, cells := 0, slots := 0, locals := 0 } : Room) H 0 0 0 #[.val (.int s), .val (.int n)] [] (Q_c_next s n H)
  refine wp_iload_n D_prog_8_m13_0 rfl ?_
  refine wp_iconst 1 D_prog_8_m13_1 (by decide) ?_
  refine wp_iadd D_prog_8_m13_2 ?_
  refine wp_iload_n D_prog_8_m13_3 rfl ?_
  refine wp_icmp_ne D_prog_8_m13_4 (pc'' := 11) ⟨by decide, by decide⟩ (fun h1 => ?_) (fun h1 => ?_)
  · skip
    refine wp_iload_n D_prog_8_m13_11 rfl ?_
    refine wp_iconst 1 D_prog_8_m13_12 (by decide) ?_
    refine wp_iadd D_prog_8_m13_13 ?_
    refine wp_ireturn D_prog_8_m13_14 rfl (by decide) (by decide) ?_
    exact ⟨by simp [f_next, h1], rfl⟩
  · skip
    refine wp_iconst 0 D_prog_8_m13_7 (by decide) ?_
    refine wp_goto D_prog_8_m13_8 (pc'' := 14) ⟨by decide, by decide⟩ ?_
    refine wp_ireturn D_prog_8_m13_14 rfl (by decide) (by decide) ?_
    exact ⟨by simp [f_next, h1], rfl⟩
theorem pn_6 : plainFor (⟨"com/example/orthrus/orthrus/SignatureSet", "full", "()Z"⟩ : MethodName) = true := by first | exact plainFor_of_name (by first | (simp [plainName, overriddenIn]; done) | decide +kernel) | decide +kernel
theorem D_prog_8_m5_0 : Dc prog_8_method_5_code 0 (.aload_n 0) 1 1 := ⟨by decide +kernel, rfl⟩
theorem D_prog_8_m5_1 : Dc prog_8_method_5_code 1 (.getfield 42) 3 4 := ⟨by decide +kernel, rfl⟩
theorem D_prog_8_m5_4 : Dc prog_8_method_5_code 4 (.aload_n 0) 1 5 := ⟨by decide +kernel, rfl⟩
theorem D_prog_8_m5_5 : Dc prog_8_method_5_code 5 (.getfield 20) 3 8 := ⟨by decide +kernel, rfl⟩
theorem D_prog_8_m5_8 : Dc prog_8_method_5_code 8 (.arraylength) 1 9 := ⟨by decide +kernel, rfl⟩
theorem D_prog_8_m5_9 : Dc prog_8_method_5_code 9 (.iconst 4) 1 10 := ⟨by decide +kernel, rfl⟩
theorem D_prog_8_m5_10 : Dc prog_8_method_5_code 10 (.idiv) 1 11 := ⟨by decide +kernel, rfl⟩
theorem D_prog_8_m5_11 : Dc prog_8_method_5_code 11 (.iconst 3) 1 12 := ⟨by decide +kernel, rfl⟩
theorem D_prog_8_m5_12 : Dc prog_8_method_5_code 12 (.imul) 1 13 := ⟨by decide +kernel, rfl⟩
theorem D_prog_8_m5_13 : Dc prog_8_method_5_code 13 (.if_icmp .le 7) 3 16 := ⟨by decide +kernel, rfl⟩
theorem D_prog_8_m5_16 : Dc prog_8_method_5_code 16 (.iconst 1) 1 17 := ⟨by decide +kernel, rfl⟩
theorem D_prog_8_m5_17 : Dc prog_8_method_5_code 17 (.goto 4) 3 20 := ⟨by decide +kernel, rfl⟩
theorem D_prog_8_m5_20 : Dc prog_8_method_5_code 20 (.iconst 0) 1 21 := ⟨by decide +kernel, rfl⟩
theorem D_prog_8_m5_21 : Dc prog_8_method_5_code 21 (.ireturn) 1 22 := ⟨by decide +kernel, rfl⟩
def Q_c_full (o a : Addr) (ms : Int64) (hz f n : Int32) (xs : List Int64) (F : OH) : Option Value → OH → Prop := fun v H' => v = some (.int (f_full f n)) ∧ H' = ((o, oI "com/example/orthrus/orthrus/SignatureSet" sg_1 [(.long ms), (.ref a), (.int f), (.int hz)]) :: (a, oJ xs) :: F)
set_option maxRecDepth 65536 in
set_option maxHeartbeats 40000000 in
theorem c_full (l : Launch) (Z : State) (a0 : Array Value) (hw : ∀ d ∈ tables_1, d.before a0 Z = true) (o a : Addr) (ms : Int64) (hz f n : Int32) (xs : List Int64) (F : OH)  (hl : xs.length.toInt32 = n) :
    Met l Z (⟨"com/example/orthrus/orthrus/SignatureSet", "full", "()Z"⟩ : MethodName) prog_8_method_5_code 1 (some .boolean) ({ frames := 0, cells := 0, slots := 0, locals := 0 } : Room) [(.ref o)] ((o, oI "com/example/orthrus/orthrus/SignatureSet" sg_1 [(.long ms), (.ref a), (.int f), (.int hz)]) :: (a, oJ xs) :: F) (Q_c_full o a ms hz f n xs F) := by
  refine Met.of_wp (Ls := #[.val (.ref o)]) pn_6 (fun m => (entry_loc m _ _).trans rfl) ?_
  show Wp none l Z "com/example/orthrus/orthrus/SignatureSet" "full" prog_8_method_5_code 1 (some .boolean) ({ frames := 0, cells := 0, slots := 0, locals := 0 } : Room) ((o, oI "com/example/orthrus/orthrus/SignatureSet" sg_1 [(.long ms), (.ref a), (.int f), (.int hz)]) :: (a, oJ xs) :: F) 0 0 0 #[.val (.ref o)] [] (Q_c_full o a ms hz f n xs F)
  refine wp_aload_n D_prog_8_m5_0 rfl rfl ?_
  refine wp_getfield D_prog_8_m5_1 (hw _ (List.mem_of_getElem? (i := 41) rfl)) (fld_new (i := 0) (fi := 2) rfl rfl rfl) ?_
  refine wp_aload_n D_prog_8_m5_4 rfl rfl ?_
  refine wp_getfield D_prog_8_m5_5 (hw _ (List.mem_of_getElem? (i := 12) rfl)) (fld_new (i := 0) (fi := 1) rfl rfl rfl) ?_
  refine wp_lengthJ (i := 1) n D_prog_8_m5_8 rfl hl ?_
  refine wp_iconst 4 D_prog_8_m5_9 (by decide) ?_
  refine wp_idiv D_prog_8_m5_10 (by decide) ?_
  refine wp_iconst 3 D_prog_8_m5_11 (by decide) ?_
  refine wp_imul D_prog_8_m5_12 ?_
  refine wp_icmp_le D_prog_8_m5_13 (pc'' := 20) ⟨by decide, by decide⟩ (fun h1 => ?_) (fun h1 => ?_)
  · skip
    refine wp_iconst 0 D_prog_8_m5_20 (by decide) ?_
    refine wp_ireturnN D_prog_8_m5_21 rfl (by simp) (by decide) (by decide) ?_
    exact ⟨by simp [f_full, nar, h1], rfl⟩
  · skip
    refine wp_iconst 1 D_prog_8_m5_16 (by decide) ?_
    refine wp_goto D_prog_8_m5_17 (pc'' := 21) ⟨by decide, by decide⟩ ?_
    refine wp_ireturnN D_prog_8_m5_21 rfl (by simp) (by decide) (by decide) ?_
    exact ⟨by simp [f_full, nar, h1], rfl⟩
def cd (n a b : Nat) : Nat := if a ≤ b then b - a else b + n - a
theorem cdS (n a b : Nat) : (a ≤ b ∧ cd n a b = b - a) ∨ (b < a ∧ cd n a b = b + n - a) := by
  unfold cd
  by_cases h : a ≤ b
  · rw [if_pos h]; exact Or.inl ⟨h, rfl⟩
  · rw [if_neg h]; exact Or.inr ⟨by omega, rfl⟩
def nx (n s : Nat) : Nat := if s + 1 = n then 0 else s + 1
theorem nxS (n s : Nat) : (s + 1 = n ∧ nx n s = 0) ∨ (s + 1 ≠ n ∧ nx n s = s + 1) := by
  unfold nx
  by_cases h : s + 1 = n
  · rw [if_pos h]; exact Or.inl ⟨h, rfl⟩
  · rw [if_neg h]; exact Or.inr ⟨h, rfl⟩
theorem gj_set (xs : List Int64) (s p : Nat) (v : Int64) (hs : s < xs.length) : gj (xs.set s v) p = if p = s then v else gj xs p := by
  unfold gj
  by_cases h : p = s
  · subst h; simp [hs]
  · rw [if_neg h]; simp [List.getD_eq_getElem?_getD, List.getElem?_set, Ne.symm h]
theorem gj_same (xs : List Int64) (s : Nat) (v : Int64) (hs : s < xs.length) : gj (xs.set s v) s = v := by rw [gj_set _ _ _ _ hs, if_pos rfl]
theorem gj_other (xs : List Int64) (s p : Nat) (v : Int64) (hs : s < xs.length) (h : p ≠ s) : gj (xs.set s v) p = gj xs p := by rw [gj_set _ _ _ _ hs, if_neg h]
def PInv (n : Nat) (hm : Int64 → Nat) (xs : List Int64) : Prop := ∀ p, p < n → gj xs p ≠ 0 → ∀ q, q < n → cd n (hm (gj xs p)) q < cd n (hm (gj xs p)) p → gj xs q ≠ 0
def PUni (n : Nat) (xs : List Int64) : Prop := ∀ p q, p < n → q < n → gj xs p ≠ 0 → gj xs p = gj xs q → p = q
def Mem (n : Nat) (xs : List Int64) (y : Int64) : Prop := ∃ p, p < n ∧ gj xs p = y
theorem find_empty {n : Nat} {hm : Int64 → Nat} {xs : List Int64} (hh : ∀ y, hm y < n) (hI : PInv n hm xs) {x : Int64} (hx : x ≠ 0) {s : Nat} (hs : s < n) (h0 : gj xs s = 0) (hw : ∀ q, q < n → cd n (hm x) q < cd n (hm x) s → gj xs q ≠ x) : ¬ Mem n xs x := by
  rintro ⟨p, hp, e⟩
  rcases Nat.lt_trichotomy (cd n (hm x) p) (cd n (hm x) s) with h | h | h
  · exact hw p hp h e
  · have := cdS n (hm x) p; have := cdS n (hm x) s; have := hh x
    have e2 : p = s := by omega
    subst e2; exact hx (e.symm.trans h0)
  · exact hI p hp (by rw [e]; exact hx) s hs (by rw [e]; exact h) h0
theorem ins_inv {n : Nat} {hm : Int64 → Nat} {xs : List Int64} (hl : xs.length = n) (hI : PInv n hm xs) {x : Int64} (hx : x ≠ 0) {s : Nat} (hs : s < n) (hw : ∀ q, q < n → cd n (hm x) q < cd n (hm x) s → gj xs q ≠ 0) : PInv n hm (xs.set s x) := by
  intro p hp h0 q hq hc
  by_cases e : q = s
  · subst e; rw [gj_same _ _ _ (by omega)]; exact hx
  · rw [gj_other _ _ _ _ (by omega) e]
    by_cases e2 : p = s
    · subst e2; rw [gj_same _ _ _ (by omega)] at hc; exact hw q hq hc
    · rw [gj_other _ _ _ _ (by omega) e2] at h0 hc; exact hI p hp h0 q hq hc
theorem ins_uni {n : Nat} {xs : List Int64} (hl : xs.length = n) (hU : PUni n xs) {x : Int64} (hM : ¬ Mem n xs x) {s : Nat} (hs : s < n) : PUni n (xs.set s x) := by
  intro p q hp hq h0 e
  by_cases e1 : p = s <;> by_cases e2 : q = s
  · omega
  · subst e1; rw [gj_same _ _ _ (by omega), gj_other _ _ _ _ (by omega) e2] at e; exact absurd ⟨q, hq, e.symm⟩ hM
  · subst e2; rw [gj_same _ _ _ (by omega), gj_other _ _ _ _ (by omega) e1] at e; exact absurd ⟨p, hp, e⟩ hM
  · rw [gj_other _ _ _ _ (by omega) e1, gj_other _ _ _ _ (by omega) e2] at e; rw [gj_other _ _ _ _ (by omega) e1] at h0; exact hU p q hp hq h0 e
theorem ins_mem {n : Nat} {xs : List Int64} (hl : xs.length = n) {x : Int64} {s : Nat} (hs : s < n) (h0 : gj xs s = 0) (y : Int64) (hy : y ≠ 0) : Mem n (xs.set s x) y ↔ (Mem n xs y ∨ y = x) := by
  constructor
  · rintro ⟨p, hp, e⟩
    by_cases e1 : p = s
    · subst e1; rw [gj_same _ _ _ (by omega)] at e; exact Or.inr e.symm
    · rw [gj_other _ _ _ _ (by omega) e1] at e; exact Or.inl ⟨p, hp, e⟩
  · rintro (⟨p, hp, e⟩ | rfl)
    · by_cases e1 : p = s
      · subst e1; exact absurd (e.symm.trans h0) hy
      · exact ⟨p, hp, by rw [gj_other _ _ _ _ (by omega) e1]; exact e⟩
    · exact ⟨s, hs, gj_same _ _ _ (by omega)⟩
theorem nz_put : ∀ (xs : List Int64) (m : Nat) (x : Int64), m < xs.length → gj xs m ≠ 0 → x ≠ 0 → nz (xs.set m x) = nz xs
  | [], m, x, h, _, _ => by simp at h
  | y :: ys, 0, x, h, h0, hx => by
    have e : y ≠ 0 := by simpa [gj] using h0
    simp [nz, List.countP_cons, hx, e]
  | y :: ys, m + 1, x, h, h0, hx => by
    have ih := nz_put ys m x (by simpa using h) (by simpa [gj] using h0) hx
    simp only [List.set_cons_succ, nz, List.countP_cons] at ih ⊢
    omega
theorem nz_clear : ∀ (xs : List Int64) (m : Nat), m < xs.length → gj xs m ≠ 0 → nz (xs.set m 0) + 1 = nz xs
  | [], m, h, _ => by simp at h
  | y :: ys, 0, h, h0 => by
    have e : y ≠ 0 := by simpa [gj] using h0
    simp [nz, List.countP_cons, e]
  | y :: ys, m + 1, h, h0 => by
    have ih := nz_clear ys m (by simpa using h) (by simpa [gj] using h0)
    simp only [List.set_cons_succ, nz, List.countP_cons] at ih ⊢
    omega
/-- the state of the removal's shift: hole t, look at i -/
def RI (n : Nat) (hm : Int64 → Nat) (xs : List Int64) (x : Int64) (z : Nat) (ys : List Int64) (t i : Nat) : Prop :=
  (t < n ∧ i < n ∧ ys.length = n ∧ 1 ≤ cd n t i ∧ gj ys t ≠ 0 ∧ nz ys = nz xs ∧ z < n ∧ z ≠ t ∧ gj ys z = 0) ∧
  (∀ p, p < n → p ≠ t → gj ys p ≠ 0 → ∀ q, q < n → cd n (hm (gj ys p)) q < cd n (hm (gj ys p)) p → q = t ∨ gj ys q ≠ 0) ∧
  (∀ p, p < n → p ≠ t → cd n t p < cd n t i → gj ys p ≠ 0 ∧ ¬ cd n (hm (gj ys p)) t < cd n (hm (gj ys p)) p) ∧
  (∀ p, p < n → p ≠ t → gj ys p ≠ x) ∧ (∀ y, y ≠ 0 → y ≠ x → (Mem n xs y ↔ ∃ p, p < n ∧ p ≠ t ∧ gj ys p = y)) ∧ (∀ p q, p < n → q < n → p ≠ t → q ≠ t → gj ys p ≠ 0 → gj ys p = gj ys q → p = q)
theorem ri_start {n : Nat} {hm : Int64 → Nat} {xs : List Int64} (hl : xs.length = n) (hI : PInv n hm xs) (hU : PUni n xs) {x : Int64} (hx : x ≠ 0) {s : Nat} (hs : s < n) (e : gj xs s = x) {z : Nat} (hz : z < n) (hz0 : gj xs z = 0) : RI n hm xs x z xs s (nx n s) := by
  have hzs : z ≠ s := by rintro rfl; exact hx (e.symm.trans hz0)
  have := nxS n s; have := cdS n s (nx n s)
  refine ⟨⟨hs, by omega, hl, by omega, by rw [e]; exact hx, rfl, hz, hzs, hz0⟩, fun p hp hps h0 q hq hc => Or.inr (hI p hp h0 q hq hc), fun p hp hps hc => ?_, fun p hp hps ep => hps ?_, fun y hy hyx => ⟨fun ⟨p, hp, ep⟩ => ⟨p, hp, ?_, ep⟩, fun ⟨p, hp, _, ep⟩ => ⟨p, hp, ep⟩⟩, fun p q hp hq _ _ h0 e => hU p q hp hq h0 e⟩
  · have := cdS n s p; omega
  · exact hU p s hp hs (by rw [ep]; exact hx) (ep.trans e.symm)
  · rintro rfl; exact hyx (ep.symm.trans e)
theorem ri_far {n : Nat} {hm : Int64 → Nat} {xs ys : List Int64} {x : Int64} {z t i : Nat} (h : RI n hm xs x z ys t i) (h0 : gj ys i ≠ 0) : cd n t i < cd n t z := by
  obtain ⟨⟨ht, hi, hl, h1, -, -, hz, hzt, hz0⟩, -, hb, -, -⟩ := h
  rcases Nat.lt_trichotomy (cd n t z) (cd n t i) with q | q | q
  · exact absurd hz0 (hb z hz hzt q).1
  · have := cdS n t z; have := cdS n t i
    have e : z = i := by omega
    subst e; exact absurd hz0 h0
  · exact q
theorem ri_skip {n : Nat} {hm : Int64 → Nat} (hh : ∀ y, hm y < n) {xs ys : List Int64} {x : Int64} {z t i : Nat} (h : RI n hm xs x z ys t i) (h0 : gj ys i ≠ 0) (hc : cd n (hm (gj ys i)) i < cd n t i) : RI n hm xs x z ys t (nx n i) ∧ cd n (nx n i) z < cd n i z := by
  have hf := ri_far h h0
  obtain ⟨⟨ht, hi, hl, h1, h2, h3, hz, hzt, hz0⟩, ha, hb, hd, hm'⟩ := h
  have a1 := nxS n i; have a2 := cdS n t i; have a3 := cdS n t z; have a4 := cdS n t (nx n i); have a5 := cdS n i z; have a6 := cdS n (nx n i) z
  refine ⟨⟨⟨ht, by omega, hl, by omega, h2, h3, hz, hzt, hz0⟩, ha, fun p hp hpt hcp => ?_, hd, hm'⟩, by omega⟩
  have a7 := cdS n t p
  by_cases e : p = i
  · subst e
    refine ⟨h0, fun q => ?_⟩
    have b1 := cdS n (hm (gj ys p)) t; have b2 := cdS n (hm (gj ys p)) p; have b3 := hh (gj ys p)
    omega
  · exact hb p hp hpt (by omega)
theorem ri_move {n : Nat} {hm : Int64 → Nat} (hh : ∀ y, hm y < n) {xs ys : List Int64} {x : Int64} {z t i : Nat} (h : RI n hm xs x z ys t i) (h0 : gj ys i ≠ 0) (hc : ¬ cd n (hm (gj ys i)) i < cd n t i) : RI n hm xs x z (ys.set t (gj ys i)) i (nx n i) ∧ cd n (nx n i) z < cd n i z := by
  have hf := ri_far h h0
  obtain ⟨⟨ht, hi, hl, h1, h2, h3, hz, hzt, hz0⟩, ha, hb, hd, hm'⟩ := h
  have a1 := nxS n i; have a2 := cdS n t i; have a3 := cdS n t z; have a4 := cdS n i (nx n i); have a5 := cdS n i z; have a6 := cdS n (nx n i) z
  have hti : i ≠ t := by omega
  have hzi : z ≠ i := by rintro rfl; exact h0 hz0
  have gs : gj (ys.set t (gj ys i)) t = gj ys i := gj_same _ _ _ (by omega)
  have go : ∀ p, p ≠ t → gj (ys.set t (gj ys i)) p = gj ys p := fun p hp => gj_other _ _ _ _ (by omega) hp
  have hnz : ∀ q, q < n → q = t ∨ gj ys q ≠ 0 → gj (ys.set t (gj ys i)) q ≠ 0 := by
    intro q hq hor
    by_cases e : q = t
    · subst e; rw [gs]; exact h0
    · rw [go q e]; exact hor.resolve_left e
  refine ⟨⟨⟨hi, by omega, by simp [hl], by omega, by rw [go i hti]; exact h0, by rw [nz_put ys t _ (by omega) h2 h0]; exact h3, hz, hzi, by rw [go z hzt]; exact hz0⟩, fun p hp hpi hp0 q hq hcq => ?_, fun p hp hpi hcp => ?_, fun p hp hpi => ?_, fun y hy hyx => ?_, fun p q hp hq hpi hqi hp0 e => ?_⟩, by omega⟩
  · by_cases e : p = t
    · subst e
      rw [gs] at hcq
      have b1 := cdS n (hm (gj ys i)) p; have b2 := cdS n (hm (gj ys i)) i; have b3 := hh (gj ys i); have b4 := cdS n (hm (gj ys i)) q
      exact Or.inr (hnz q hq (ha i hi hti h0 q hq (by omega)))
    · rw [go p e] at hcq hp0
      exact Or.inr (hnz q hq (ha p hp e hp0 q hq hcq))
  · have := cdS n i p; omega
  · by_cases e : p = t
    · subst e; rw [gs]; exact hd i hi hti
    · rw [go p e]; exact hd p hp e
  · rw [hm'.1 y hy hyx]
    constructor
    · rintro ⟨p, hp, hpt, ep⟩
      by_cases e : p = i
      · subst e; exact ⟨t, ht, Ne.symm hti, by rw [gs]; exact ep⟩
      · exact ⟨p, hp, e, by rw [go p hpt]; exact ep⟩
    · rintro ⟨p, hp, hpi, ep⟩
      by_cases e : p = t
      · subst e; rw [gs] at ep; exact ⟨i, hi, hti, ep⟩
      · rw [go p e] at ep; exact ⟨p, hp, e, ep⟩
  · by_cases e1 : p = t <;> by_cases e2 : q = t
    · omega
    · subst e1; rw [gs, go q e2] at e; exact absurd (hm'.2 i q hi hq hti e2 h0 e).symm hqi
    · subst e2; rw [gs, go p e1] at e; exact absurd (hm'.2 i p hi hp hti e1 h0 e.symm).symm hpi
    · rw [go p e1, go q e2] at e; rw [go p e1] at hp0; exact hm'.2 p q hp hq e1 e2 hp0 e
theorem ri_end {n : Nat} {hm : Int64 → Nat} (hh : ∀ y, hm y < n) {xs ys : List Int64} {x : Int64} {z t i : Nat} (hx : x ≠ 0) (h : RI n hm xs x z ys t i) (h0 : gj ys i = 0) : PInv n hm (ys.set t 0) ∧ nz (ys.set t 0) + 1 = nz xs ∧ ¬ Mem n (ys.set t 0) x ∧ (∀ y, y ≠ 0 → y ≠ x → (Mem n (ys.set t 0) y ↔ Mem n xs y)) ∧ PUni n (ys.set t 0) := by
  obtain ⟨⟨ht, hi, hl, h1, h2, h3, hz, hzt, hz0⟩, ha, hb, hd, hm'⟩ := h
  have gs : gj (ys.set t 0) t = 0 := gj_same _ _ _ (by omega)
  have go : ∀ p, p ≠ t → gj (ys.set t 0) p = gj ys p := fun p hp => gj_other _ _ _ _ (by omega) hp
  have a2 := cdS n t i
  refine ⟨fun p hp hp0 q hq hcq => ?_, by rw [nz_clear ys t (by omega) h2]; exact h3, ?_, fun y hy hyx => ?_, fun p q hp hq hp0 e => ?_⟩
  · have hpt : p ≠ t := by rintro rfl; exact hp0 gs
    rw [go p hpt] at hp0 hcq
    have hq' := ha p hp hpt hp0 q hq hcq
    by_cases e : q = t
    · exfalso
      subst e
      have b1 := cdS n (hm (gj ys p)) q; have b2 := cdS n (hm (gj ys p)) p; have b3 := hh (gj ys p); have b4 := cdS n q p; have b5 := cdS n (hm (gj ys p)) i
      rcases Nat.lt_trichotomy (cd n q p) (cd n q i) with r | r | r
      · exact (hb p hp hpt r).2 hcq
      · have e2 : p = i := by omega
        subst e2; exact hp0 h0
      · rcases ha p hp hpt hp0 i hi (by omega) with r2 | r2
        · omega
        · exact r2 h0
    · rw [go q e]; exact hq'.resolve_left e
  · rintro ⟨p, hp, ep⟩
    by_cases e : p = t
    · subst e; rw [gs] at ep; exact hx ep.symm
    · rw [go p e] at ep; exact hd p hp e ep
  · rw [hm'.1 y hy hyx]
    constructor
    · rintro ⟨p, hp, ep⟩
      by_cases e : p = t
      · subst e; rw [gs] at ep; exact absurd ep.symm hy
      · rw [go p e] at ep; exact ⟨p, hp, e, ep⟩
    · rintro ⟨p, hp, e, ep⟩
      exact ⟨p, hp, by rw [go p e]; exact ep⟩
  · have hpt : p ≠ t := by rintro rfl; exact hp0 gs
    have hqt : q ≠ t := by rintro rfl; rw [gs] at e; exact hp0 e
    rw [go p hpt, go q hqt] at e; rw [go p hpt] at hp0; exact hm'.2 p q hp hq hpt hqt hp0 e
def HM (n : Int32) (y : Int64) : Nat := (f_slot (f_mix y) n).toNatClampNeg
theorem hm_lt (n : Int32) (hn : 8 ≤ n.toInt ∧ n.toInt ≤ 15) (y : Int64) : HM n y < n.toNatClampNeg := by
  have h := own_slot (f_mix y) n (by omega)
  unfold HM; simp only [Int32.toNatClampNeg]; omega
def TB (n f hz : Int32) (xs : List Int64) : Prop := xs.length = n.toNatClampNeg ∧ PInv n.toNatClampNeg (HM n) xs ∧ PUni n.toNatClampNeg xs ∧ f.toInt = nz xs ∧ (hz = 0 ∨ hz = 1)
def Has (n hz : Int32) (xs : List Int64) (y : Int64) : Prop := (y = 0 ∧ hz = 1) ∨ (y ≠ 0 ∧ Mem n.toNatClampNeg xs y)
def PA (n : Int32) (x : Int64) (hz f : Int32) (xs : List Int64) (hz' f' : Int32) (xs' : List Int64) : Prop := TB n f' hz' xs' ∧ (∀ y, Has n hz' xs' y ↔ (Has n hz xs y ∨ y = x)) ∧ ((Has n hz xs x ∧ f'.toInt + hz'.toInt = f.toInt + hz.toInt) ∨ (¬ Has n hz xs x ∧ f'.toInt + hz'.toInt = f.toInt + hz.toInt + 1))
def PR (n : Int32) (x : Int64) (hz f : Int32) (xs : List Int64) (hz' f' : Int32) (xs' : List Int64) : Prop := TB n f' hz' xs' ∧ (∀ y, Has n hz' xs' y ↔ (Has n hz xs y ∧ y ≠ x)) ∧ ((Has n hz xs x ∧ f'.toInt + hz'.toInt + 1 = f.toInt + hz.toInt) ∨ (¬ Has n hz xs x ∧ f'.toInt + hz'.toInt = f.toInt + hz.toInt))
theorem pa_zero {n f hz : Int32} {xs : List Int64} (h : TB n f hz xs) : PA n 0 hz f xs 1 f xs := by
  refine ⟨⟨h.1, h.2.1, h.2.2.1, h.2.2.2.1, Or.inr rfl⟩, fun y => ?_, ?_⟩
  · unfold Has
    by_cases e : y = 0 <;> simp [e]
  · rcases h.2.2.2.2 with e | e <;> subst e
    · right; refine ⟨by unfold Has; simp, by simp only [Int32.reduceToInt]; omega⟩
    · left; exact ⟨Or.inl ⟨rfl, rfl⟩, rfl⟩
theorem pa_old {n f hz : Int32} {xs : List Int64} (h : TB n f hz xs) {x : Int64} (hx : x ≠ 0) {s : Nat} (hs : s < n.toNatClampNeg) (e : gj xs s = x) : PA n x hz f xs hz f xs := by
  have hm : Has n hz xs x := Or.inr ⟨hx, s, hs, e⟩
  refine ⟨h, fun y => ⟨Or.inl, fun q => q.elim id fun q => by rw [q]; exact hm⟩, Or.inl ⟨hm, rfl⟩⟩
theorem pa_new {n f hz : Int32} {xs : List Int64} (hn : 8 ≤ n.toInt ∧ n.toInt ≤ 15) (hf : f.toInt ≤ 10) (h : TB n f hz xs) {x : Int64} (hx : x ≠ 0) {s : Nat} (hs : s < n.toNatClampNeg) (e : gj xs s = 0) (hw : ∀ q, q < n.toNatClampNeg → cd n.toNatClampNeg (HM n x) q < cd n.toNatClampNeg (HM n x) s → gj xs q ≠ 0 ∧ gj xs q ≠ x) : PA n x hz f xs hz (f + 1) (xs.set s x) := by
  obtain ⟨h1, h2, h3, h4, h5⟩ := h
  have hM := find_empty (hm_lt n hn) h2 hx hs e (fun q hq hc => (hw q hq hc).2)
  have hnz := nz_set xs s x (by rw [own_gj xs s (by omega), e]) hx
  have hf1 : (f + 1).toInt = f.toInt + 1 := own_i1 f ⟨by omega, by omega⟩
  have hnH : ¬ Has n hz xs x := by
    rintro (⟨q, -⟩ | ⟨-, q⟩)
    · exact hx q
    · exact hM q
  refine ⟨⟨by rw [List.length_set]; exact h1, ins_inv h1 h2 hx hs (fun q hq hc => (hw q hq hc).1), ins_uni h1 h3 hM hs, by rw [hf1, hnz, h4]; rfl, h5⟩, fun y => ?_, Or.inr ⟨hnH, by rw [hf1]; omega⟩⟩
  unfold Has
  by_cases ey : y = 0
  · subst ey; simp [Ne.symm hx]
  · have := ins_mem h1 hs e (x := x) y ey
    simp only [ey, false_and, false_or, ne_eq, not_false_eq_true, true_and]
    exact this
theorem pr_zero {n f hz : Int32} {xs : List Int64} (h : TB n f hz xs) : PR n 0 hz f xs 0 f xs := by
  refine ⟨⟨h.1, h.2.1, h.2.2.1, h.2.2.2.1, Or.inl rfl⟩, fun y => ?_, ?_⟩
  · unfold Has
    by_cases e : y = 0 <;> simp [e]
  · rcases h.2.2.2.2 with e | e <;> subst e
    · right; exact ⟨by unfold Has; simp, rfl⟩
    · left; refine ⟨Or.inl ⟨rfl, rfl⟩, by simp only [Int32.reduceToInt]; omega⟩
theorem pr_none {n f hz : Int32} {xs : List Int64} (hn : 8 ≤ n.toInt ∧ n.toInt ≤ 15) (h : TB n f hz xs) {x : Int64} (hx : x ≠ 0) {s : Nat} (hs : s < n.toNatClampNeg) (e : gj xs s = 0) (hw : ∀ q, q < n.toNatClampNeg → cd n.toNatClampNeg (HM n x) q < cd n.toNatClampNeg (HM n x) s → gj xs q ≠ 0 ∧ gj xs q ≠ x) : PR n x hz f xs hz f xs := by
  have hM := find_empty (hm_lt n hn) h.2.1 hx hs e (fun q hq hc => (hw q hq hc).2)
  have hnH : ¬ Has n hz xs x := by
    rintro (⟨q, -⟩ | ⟨-, q⟩)
    · exact hx q
    · exact hM q
  exact ⟨h, fun y => ⟨fun q => ⟨q, fun ey => hnH (ey ▸ q)⟩, fun q => q.1⟩, Or.inr ⟨hnH, rfl⟩⟩
theorem pr_found {n f hz : Int32} {xs ys : List Int64} (hn : 8 ≤ n.toInt ∧ n.toInt ≤ 15) (h : TB n f hz xs) {x : Int64} (hx : x ≠ 0) (hxm : Mem n.toNatClampNeg xs x) {z t i : Nat} (hR : RI n.toNatClampNeg (HM n) xs x z ys t i) (e : gj ys i = 0) : PR n x hz f xs hz (f - 1) (ys.set t 0) := by
  obtain ⟨h1, h2, h3, h4, h5⟩ := h
  have hl : ys.length = n.toNatClampNeg := hR.1.2.2.1
  obtain ⟨r1, r2, r3, r4, r5⟩ := ri_end (hm_lt n hn) hx hR e
  have hf1 : (f - 1).toInt = f.toInt - 1 := by
    have := Int32.toInt_lt f
    rw [Int32.toInt_sub]; simp only [Int32.reduceToInt]; rw [Int.bmod_eq_of_le] <;> omega
  have hHx : Has n hz xs x := Or.inr ⟨hx, hxm⟩
  refine ⟨⟨by rw [List.length_set]; exact hl, r1, r5, by rw [hf1]; omega, h5⟩, fun y => ?_, Or.inl ⟨hHx, by rw [hf1]; omega⟩⟩
  unfold Has
  by_cases ey : y = 0
  · subst ey; simp [Ne.symm hx]
  · by_cases eyx : y = x
    · subst eyx; simp [ey, r3]
    · simp [ey, eyx, r4 y ey eyx]
theorem tb_start (n : Int32) : TB n 0 0 (List.replicate n.toNatClampNeg 0) := by
  have g0 : ∀ p, gj (List.replicate n.toNatClampNeg 0) p = 0 := by
    intro p; unfold gj
    by_cases h : p < n.toNatClampNeg
    · simp [List.getD_eq_getElem?_getD, List.getElem?_replicate, h]
    · simp [List.getD_eq_getElem?_getD, List.getElem?_replicate, h]
  exact ⟨List.length_replicate, fun p _ h => absurd (g0 p) h, fun p q _ _ h => absurd (g0 p) h, by rw [nz_rep]; rfl, Or.inl rfl⟩
theorem has_start (n : Int32) (y : Int64) : ¬ Has n 0 (List.replicate n.toNatClampNeg 0) y := by
  rintro (⟨-, q⟩ | ⟨q, p, -, e⟩)
  · exact absurd q (by decide)
  · apply q; rw [← e]; unfold gj
    by_cases h : p < n.toNatClampNeg
    · simp [List.getD_eq_getElem?_getD, List.getElem?_replicate, h]
    · simp [List.getD_eq_getElem?_getD, List.getElem?_replicate, h]
theorem own_nx (s n : Int32) (h0 : 0 ≤ s.toInt) (h1 : s.toInt < n.toInt) : (f_next s n).toNatClampNeg = nx n.toNatClampNeg s.toNatClampNeg := by
  have a := own_next s n h0 h1
  have b := nxS n.toNatClampNeg s.toNatClampNeg
  simp only [Int32.toNatClampNeg] at b ⊢
  omega
def f_dist (a b n : Int32) : Int32 := if b < a then b + n - a else b - a
theorem own_dist (a b n : Int32) (ha : 0 ≤ a.toInt ∧ a.toInt < n.toInt) (hb : 0 ≤ b.toInt ∧ b.toInt < n.toInt) (hn : n.toInt ≤ 15) : (f_dist a b n).toInt = cd n.toNatClampNeg a.toNatClampNeg b.toNatClampNeg := by
  have c := cdS n.toNatClampNeg a.toNatClampNeg b.toNatClampNeg
  simp only [Int32.toNatClampNeg] at c ⊢
  unfold f_dist
  by_cases h : b < a
  · rw [if_pos h]
    rw [Int32.lt_iff_toInt_lt] at h
    have e1 : (b + n).toInt = b.toInt + n.toInt := by rw [Int32.toInt_add, Int.bmod_eq_of_le] <;> omega
    rw [Int32.toInt_sub, e1, Int.bmod_eq_of_le] <;> omega
  · rw [if_neg h]
    rw [Int32.lt_iff_toInt_lt] at h
    rw [Int32.toInt_sub, Int.bmod_eq_of_le] <;> omega
theorem own_w0 (n : Int32) (x : Int64) (xs : List Int64) (hn : 8 ≤ n.toInt ∧ n.toInt ≤ 15) : ∀ q, q < n.toNatClampNeg → cd n.toNatClampNeg (HM n x) q < cd n.toNatClampNeg (HM n x) (HM n x) → gj xs q ≠ 0 ∧ gj xs q ≠ x := by
  intro q hq hc
  have := cdS n.toNatClampNeg (HM n x) (HM n x); omega
theorem own_wn {n : Int32} {x : Int64} {xs : List Int64} (hn : 8 ≤ n.toInt ∧ n.toInt ≤ 15) {s : Nat} (hs : s < n.toNatClampNeg) (h0 : gj xs s ≠ 0) (hx : gj xs s ≠ x) (hw : ∀ q, q < n.toNatClampNeg → cd n.toNatClampNeg (HM n x) q < cd n.toNatClampNeg (HM n x) s → gj xs q ≠ 0 ∧ gj xs q ≠ x) :
    ∀ q, q < n.toNatClampNeg → cd n.toNatClampNeg (HM n x) q < cd n.toNatClampNeg (HM n x) (nx n.toNatClampNeg s) → gj xs q ≠ 0 ∧ gj xs q ≠ x := by
  intro q hq hc
  have a1 := cdS n.toNatClampNeg (HM n x) q; have a2 := cdS n.toNatClampNeg (HM n x) (nx n.toNatClampNeg s); have a3 := cdS n.toNatClampNeg (HM n x) s; have a4 := nxS n.toNatClampNeg s; have a5 := hm_lt n hn x
  by_cases e : q = s
  · subst e; exact ⟨h0, hx⟩
  · exact hw q hq (by omega)
theorem own_cdz {n s z : Nat} (hs : s < n) (hz : z < n) (h : s ≠ z) : cd n (nx n s) z < cd n s z := by
  have a1 := cdS n s z; have a2 := cdS n (nx n s) z; have a3 := nxS n s
  omega
theorem own_n4 (n : Int32) (hn : 8 ≤ n.toInt ∧ n.toInt ≤ 15) (f : Int32) (hf : f.toInt ≤ 6) : f_full f n = 0 := by
  have h : n = 8 ∨ n = 9 ∨ n = 10 ∨ n = 11 ∨ n = 12 ∨ n = 13 ∨ n = 14 ∨ n = 15 := by simp only [← Int32.toInt_inj, Int32.reduceToInt]; omega
  have h6 : (6 : Int32).toInt ≤ (n / 4 * 3).toInt := by rcases h with rfl | rfl | rfl | rfl | rfl | rfl | rfl | rfl <;> decide
  unfold f_full
  rw [if_neg]
  rw [Int32.lt_iff_toInt_lt]; simp only [Int32.reduceToInt] at h6; omega
theorem pn_7 : plainFor (⟨"com/example/orthrus/orthrus/SignatureSet", "distance", "(III)I"⟩ : MethodName) = true := by first | exact plainFor_of_name (by first | (simp [plainName, overriddenIn]; done) | decide +kernel) | decide +kernel
theorem D_prog_8_m14_0 : Dc prog_8_method_14_code 0 (.iload_n 1) 1 1 := ⟨by decide +kernel, rfl⟩
theorem D_prog_8_m14_1 : Dc prog_8_method_14_code 1 (.iload_n 0) 1 2 := ⟨by decide +kernel, rfl⟩
theorem D_prog_8_m14_2 : Dc prog_8_method_14_code 2 (.if_icmp .lt 9) 3 5 := ⟨by decide +kernel, rfl⟩
theorem D_prog_8_m14_5 : Dc prog_8_method_14_code 5 (.iload_n 1) 1 6 := ⟨by decide +kernel, rfl⟩
theorem D_prog_8_m14_6 : Dc prog_8_method_14_code 6 (.iload_n 0) 1 7 := ⟨by decide +kernel, rfl⟩
theorem D_prog_8_m14_7 : Dc prog_8_method_14_code 7 (.isub) 1 8 := ⟨by decide +kernel, rfl⟩
theorem D_prog_8_m14_8 : Dc prog_8_method_14_code 8 (.goto 8) 3 11 := ⟨by decide +kernel, rfl⟩
theorem D_prog_8_m14_11 : Dc prog_8_method_14_code 11 (.iload_n 1) 1 12 := ⟨by decide +kernel, rfl⟩
theorem D_prog_8_m14_12 : Dc prog_8_method_14_code 12 (.iload_n 2) 1 13 := ⟨by decide +kernel, rfl⟩
theorem D_prog_8_m14_13 : Dc prog_8_method_14_code 13 (.iadd) 1 14 := ⟨by decide +kernel, rfl⟩
theorem D_prog_8_m14_14 : Dc prog_8_method_14_code 14 (.iload_n 0) 1 15 := ⟨by decide +kernel, rfl⟩
theorem D_prog_8_m14_15 : Dc prog_8_method_14_code 15 (.isub) 1 16 := ⟨by decide +kernel, rfl⟩
theorem D_prog_8_m14_16 : Dc prog_8_method_14_code 16 (.ireturn) 1 17 := ⟨by decide +kernel, rfl⟩
def Q_c_dist (a : Int32) (b : Int32) (n : Int32) (H : OH) : Option Value → OH → Prop := fun v H' => v = some (.int (f_dist a b n)) ∧ H' = H
set_option maxRecDepth 65536 in
set_option maxHeartbeats 40000000 in
theorem c_dist (l : Launch) (Z : State) (a0 : Array Value) (hw : ∀ d ∈ tables_1, d.before a0 Z = true) (a : Int32) (b : Int32) (n : Int32) (H : OH) :
    Met l Z (⟨"com/example/orthrus/orthrus/SignatureSet", "distance", "(III)I"⟩ : MethodName) prog_8_method_14_code 3 (some .int) ({ frames := 0, cells := 0, slots := 0, locals := 0 } : Room) [(.int a), (.int b), (.int n)] H (Q_c_dist a b n H) := by
  refine Met.of_wp (Ls := #[.val (.int a), .val (.int b), .val (.int n)]) pn_7 (fun m => (entry_loc m _ _).trans rfl) ?_
  show Wp none l Z "com/example/orthrus/orthrus/SignatureSet" "distance" prog_8_method_14_code 3 (some .int) ({ frames := 0, cells := 0, slots := 0, locals := 0 } : Room) H 0 0 0 #[.val (.int a), .val (.int b), .val (.int n)] [] (Q_c_dist a b n H)
  refine wp_iload_n D_prog_8_m14_0 rfl ?_
  refine wp_iload_n D_prog_8_m14_1 rfl ?_
  refine wp_icmp_lt D_prog_8_m14_2 (pc'' := 11) ⟨by decide, by decide⟩ (fun h1 => ?_) (fun h1 => ?_)
  · skip
    refine wp_iload_n D_prog_8_m14_11 rfl ?_
    refine wp_iload_n D_prog_8_m14_12 rfl ?_
    refine wp_iadd D_prog_8_m14_13 ?_
    refine wp_iload_n D_prog_8_m14_14 rfl ?_
    refine wp_isub D_prog_8_m14_15 ?_
    refine wp_ireturn D_prog_8_m14_16 rfl (by decide) (by decide) ?_
    exact ⟨by simp [f_dist, h1], rfl⟩
  · skip
    refine wp_iload_n D_prog_8_m14_5 rfl ?_
    refine wp_iload_n D_prog_8_m14_6 rfl ?_
    refine wp_isub D_prog_8_m14_7 ?_
    refine wp_goto D_prog_8_m14_8 (pc'' := 16) ⟨by decide, by decide⟩ ?_
    refine wp_ireturn D_prog_8_m14_16 rfl (by decide) (by decide) ?_
    exact ⟨by simp [f_dist, h1], rfl⟩
def f_size (f hz : Int32) : Int64 := (f + (if hz = 0 then 0 else 1)).toInt64
theorem pn_8 : plainFor (⟨"com/example/orthrus/orthrus/SignatureSet", "size", "()J"⟩ : MethodName) = true := by first | exact plainFor_of_name (by first | (simp [plainName, overriddenIn]; done) | decide +kernel) | decide +kernel
theorem D_prog_8_m6_0 : Dc prog_8_method_6_code 0 (.aload_n 0) 1 1 := ⟨by decide +kernel, rfl⟩
theorem D_prog_8_m6_1 : Dc prog_8_method_6_code 1 (.getfield 42) 3 4 := ⟨by decide +kernel, rfl⟩
theorem D_prog_8_m6_4 : Dc prog_8_method_6_code 4 (.aload_n 0) 1 5 := ⟨by decide +kernel, rfl⟩
theorem D_prog_8_m6_5 : Dc prog_8_method_6_code 5 (.getfield 24) 3 8 := ⟨by decide +kernel, rfl⟩
theorem D_prog_8_m6_8 : Dc prog_8_method_6_code 8 (.ifCond .eq 7) 3 11 := ⟨by decide +kernel, rfl⟩
theorem D_prog_8_m6_11 : Dc prog_8_method_6_code 11 (.iconst 1) 1 12 := ⟨by decide +kernel, rfl⟩
theorem D_prog_8_m6_12 : Dc prog_8_method_6_code 12 (.goto 4) 3 15 := ⟨by decide +kernel, rfl⟩
theorem D_prog_8_m6_15 : Dc prog_8_method_6_code 15 (.iconst 0) 1 16 := ⟨by decide +kernel, rfl⟩
theorem D_prog_8_m6_16 : Dc prog_8_method_6_code 16 (.iadd) 1 17 := ⟨by decide +kernel, rfl⟩
theorem D_prog_8_m6_17 : Dc prog_8_method_6_code 17 (.i2l) 1 18 := ⟨by decide +kernel, rfl⟩
theorem D_prog_8_m6_18 : Dc prog_8_method_6_code 18 (.lreturn) 1 19 := ⟨by decide +kernel, rfl⟩
def Q_c_size (o a : Addr) (ms : Int64) (hz f : Int32) (F : OH) : Option Value → OH → Prop := fun v H' => v = some (.long (f_size f hz)) ∧ H' = (o, oI "com/example/orthrus/orthrus/SignatureSet" sg_1 [(.long ms), (.ref a), (.int f), (.int hz)]) :: F
set_option maxRecDepth 65536 in
set_option maxHeartbeats 40000000 in
theorem c_size (l : Launch) (Z : State) (a0 : Array Value) (hw : ∀ d ∈ tables_1, d.before a0 Z = true) (o a : Addr) (ms : Int64) (hz f : Int32) (F : OH)  :
    Met l Z (⟨"com/example/orthrus/orthrus/SignatureSet", "size", "()J"⟩ : MethodName) prog_8_method_6_code 1 (some .long) ({ frames := 0, cells := 0, slots := 0, locals := 0 } : Room) [(.ref o)] ((o, oI "com/example/orthrus/orthrus/SignatureSet" sg_1 [(.long ms), (.ref a), (.int f), (.int hz)]) :: F) (Q_c_size o a ms hz f F) := by
  refine Met.of_wp (Ls := #[.val (.ref o)]) pn_8 (fun m => (entry_loc m _ _).trans rfl) ?_
  show Wp none l Z "com/example/orthrus/orthrus/SignatureSet" "size" prog_8_method_6_code 1 (some .long) ({ frames := 0, cells := 0, slots := 0, locals := 0 } : Room) ((o, oI "com/example/orthrus/orthrus/SignatureSet" sg_1 [(.long ms), (.ref a), (.int f), (.int hz)]) :: F) 0 0 0 #[.val (.ref o)] [] (Q_c_size o a ms hz f F)
  refine wp_aload_n D_prog_8_m6_0 rfl rfl ?_
  refine wp_getfield D_prog_8_m6_1 (hw _ (List.mem_of_getElem? (i := 41) rfl)) (fld_new (i := 0) (fi := 2) rfl rfl rfl) ?_
  refine wp_aload_n D_prog_8_m6_4 rfl rfl ?_
  refine wp_getfield D_prog_8_m6_5 (hw _ (List.mem_of_getElem? (i := 43) rfl)) (fld_new (i := 0) (fi := 3) rfl rfl rfl) ?_
  refine wp_if_eq D_prog_8_m6_8 (pc'' := 15) ⟨by decide, by decide⟩ (fun h1 => ?_) (fun h1 => ?_)
  · skip
    refine wp_iconst 0 D_prog_8_m6_15 (by decide) ?_
    refine wp_iadd D_prog_8_m6_16 ?_
    refine wp_i2l D_prog_8_m6_17 ?_
    refine wp_lreturn D_prog_8_m6_18 rfl (by decide) (by decide) ?_
    exact ⟨by simp [f_size, h1], rfl⟩
  · skip
    refine wp_iconst 1 D_prog_8_m6_11 (by decide) ?_
    refine wp_goto D_prog_8_m6_12 (pc'' := 16) ⟨by decide, by decide⟩ ?_
    refine wp_iadd D_prog_8_m6_16 ?_
    refine wp_i2l D_prog_8_m6_17 ?_
    refine wp_lreturn D_prog_8_m6_18 rfl (by decide) (by decide) ?_
    exact ⟨by simp [f_size, h1], rfl⟩
theorem pn_9 : plainFor (⟨"com/example/orthrus/orthrus/SignatureSet", "add", "(J)Z"⟩ : MethodName) = true := by first | exact plainFor_of_name (by first | (simp [plainName, overriddenIn]; done) | decide +kernel) | decide +kernel
theorem D_prog_8_m3_0 : Dc prog_8_method_3_code 0 (.lload_n 1) 1 1 := ⟨by decide +kernel, rfl⟩
theorem D_prog_8_m3_1 : Dc prog_8_method_3_code 1 (.lconst 0) 1 2 := ⟨by decide +kernel, rfl⟩
theorem D_prog_8_m3_2 : Dc prog_8_method_3_code 2 (.lcmp) 1 3 := ⟨by decide +kernel, rfl⟩
theorem D_prog_8_m3_3 : Dc prog_8_method_3_code 3 (.ifCond .ne 23) 3 6 := ⟨by decide +kernel, rfl⟩
theorem D_prog_8_m3_6 : Dc prog_8_method_3_code 6 (.aload_n 0) 1 7 := ⟨by decide +kernel, rfl⟩
theorem D_prog_8_m3_7 : Dc prog_8_method_3_code 7 (.getfield 24) 3 10 := ⟨by decide +kernel, rfl⟩
theorem D_prog_8_m3_10 : Dc prog_8_method_3_code 10 (.ifCond .ne 7) 3 13 := ⟨by decide +kernel, rfl⟩
theorem D_prog_8_m3_13 : Dc prog_8_method_3_code 13 (.iconst 1) 1 14 := ⟨by decide +kernel, rfl⟩
theorem D_prog_8_m3_14 : Dc prog_8_method_3_code 14 (.goto 4) 3 17 := ⟨by decide +kernel, rfl⟩
theorem D_prog_8_m3_17 : Dc prog_8_method_3_code 17 (.iconst 0) 1 18 := ⟨by decide +kernel, rfl⟩
theorem D_prog_8_m3_18 : Dc prog_8_method_3_code 18 (.istore_n 3) 1 19 := ⟨by decide +kernel, rfl⟩
theorem D_prog_8_m3_19 : Dc prog_8_method_3_code 19 (.aload_n 0) 1 20 := ⟨by decide +kernel, rfl⟩
theorem D_prog_8_m3_20 : Dc prog_8_method_3_code 20 (.iconst 1) 1 21 := ⟨by decide +kernel, rfl⟩
theorem D_prog_8_m3_21 : Dc prog_8_method_3_code 21 (.putfield 24) 3 24 := ⟨by decide +kernel, rfl⟩
theorem D_prog_8_m3_24 : Dc prog_8_method_3_code 24 (.iload_n 3) 1 25 := ⟨by decide +kernel, rfl⟩
theorem D_prog_8_m3_25 : Dc prog_8_method_3_code 25 (.ireturn) 1 26 := ⟨by decide +kernel, rfl⟩
theorem D_prog_8_m3_26 : Dc prog_8_method_3_code 26 (.lload_n 1) 1 27 := ⟨by decide +kernel, rfl⟩
theorem D_prog_8_m3_27 : Dc prog_8_method_3_code 27 (.aload_n 0) 1 28 := ⟨by decide +kernel, rfl⟩
theorem D_prog_8_m3_28 : Dc prog_8_method_3_code 28 (.getfield 20) 3 31 := ⟨by decide +kernel, rfl⟩
theorem D_prog_8_m3_31 : Dc prog_8_method_3_code 31 (.arraylength) 1 32 := ⟨by decide +kernel, rfl⟩
theorem D_prog_8_m3_32 : Dc prog_8_method_3_code 32 (.invokestatic 28) 3 35 := ⟨by decide +kernel, rfl⟩
theorem D_prog_8_m3_35 : Dc prog_8_method_3_code 35 (.istore_n 3) 1 36 := ⟨by decide +kernel, rfl⟩
theorem D_prog_8_m3_36 : Dc prog_8_method_3_code 36 (.aload_n 0) 1 37 := ⟨by decide +kernel, rfl⟩
theorem D_prog_8_m3_37 : Dc prog_8_method_3_code 37 (.getfield 20) 3 40 := ⟨by decide +kernel, rfl⟩
theorem D_prog_8_m3_40 : Dc prog_8_method_3_code 40 (.iload_n 3) 1 41 := ⟨by decide +kernel, rfl⟩
theorem D_prog_8_m3_41 : Dc prog_8_method_3_code 41 (.laload) 1 42 := ⟨by decide +kernel, rfl⟩
theorem D_prog_8_m3_42 : Dc prog_8_method_3_code 42 (.lconst 0) 1 43 := ⟨by decide +kernel, rfl⟩
theorem D_prog_8_m3_43 : Dc prog_8_method_3_code 43 (.lcmp) 1 44 := ⟨by decide +kernel, rfl⟩
theorem D_prog_8_m3_44 : Dc prog_8_method_3_code 44 (.ifCond .eq 29) 3 47 := ⟨by decide +kernel, rfl⟩
theorem D_prog_8_m3_47 : Dc prog_8_method_3_code 47 (.aload_n 0) 1 48 := ⟨by decide +kernel, rfl⟩
theorem D_prog_8_m3_48 : Dc prog_8_method_3_code 48 (.getfield 20) 3 51 := ⟨by decide +kernel, rfl⟩
theorem D_prog_8_m3_51 : Dc prog_8_method_3_code 51 (.iload_n 3) 1 52 := ⟨by decide +kernel, rfl⟩
theorem D_prog_8_m3_52 : Dc prog_8_method_3_code 52 (.laload) 1 53 := ⟨by decide +kernel, rfl⟩
theorem D_prog_8_m3_53 : Dc prog_8_method_3_code 53 (.lload_n 1) 1 54 := ⟨by decide +kernel, rfl⟩
theorem D_prog_8_m3_54 : Dc prog_8_method_3_code 54 (.lcmp) 1 55 := ⟨by decide +kernel, rfl⟩
theorem D_prog_8_m3_55 : Dc prog_8_method_3_code 55 (.ifCond .ne 5) 3 58 := ⟨by decide +kernel, rfl⟩
theorem D_prog_8_m3_58 : Dc prog_8_method_3_code 58 (.iconst 0) 1 59 := ⟨by decide +kernel, rfl⟩
theorem D_prog_8_m3_59 : Dc prog_8_method_3_code 59 (.ireturn) 1 60 := ⟨by decide +kernel, rfl⟩
theorem D_prog_8_m3_60 : Dc prog_8_method_3_code 60 (.iload_n 3) 1 61 := ⟨by decide +kernel, rfl⟩
theorem D_prog_8_m3_61 : Dc prog_8_method_3_code 61 (.aload_n 0) 1 62 := ⟨by decide +kernel, rfl⟩
theorem D_prog_8_m3_62 : Dc prog_8_method_3_code 62 (.getfield 20) 3 65 := ⟨by decide +kernel, rfl⟩
theorem D_prog_8_m3_65 : Dc prog_8_method_3_code 65 (.arraylength) 1 66 := ⟨by decide +kernel, rfl⟩
theorem D_prog_8_m3_66 : Dc prog_8_method_3_code 66 (.invokestatic 32) 3 69 := ⟨by decide +kernel, rfl⟩
theorem D_prog_8_m3_69 : Dc prog_8_method_3_code 69 (.istore_n 3) 1 70 := ⟨by decide +kernel, rfl⟩
theorem D_prog_8_m3_70 : Dc prog_8_method_3_code 70 (.goto (-34)) 3 73 := ⟨by decide +kernel, rfl⟩
theorem D_prog_8_m3_73 : Dc prog_8_method_3_code 73 (.aload_n 0) 1 74 := ⟨by decide +kernel, rfl⟩
theorem D_prog_8_m3_74 : Dc prog_8_method_3_code 74 (.invokevirtual 36) 3 77 := ⟨by decide +kernel, rfl⟩
theorem D_prog_8_m3_77 : Dc prog_8_method_3_code 77 (.ifCond .eq 20) 3 80 := ⟨by decide +kernel, rfl⟩
theorem D_prog_8_m3_80 : Dc prog_8_method_3_code 80 (.new 40) 3 83 := ⟨by decide +kernel, rfl⟩
theorem D_prog_8_m3_83 : Dc prog_8_method_3_code 83 (.dup) 1 84 := ⟨by decide +kernel, rfl⟩
theorem D_prog_8_m3_84 : Dc prog_8_method_3_code 84 (.aload_n 0) 1 85 := ⟨by decide +kernel, rfl⟩
theorem D_prog_8_m3_85 : Dc prog_8_method_3_code 85 (.getfield 42) 3 88 := ⟨by decide +kernel, rfl⟩
theorem D_prog_8_m3_88 : Dc prog_8_method_3_code 88 (.invokedynamic 46) 5 93 := ⟨by decide +kernel, rfl⟩
theorem D_prog_8_m3_93 : Dc prog_8_method_3_code 93 (.invokespecial 50) 3 96 := ⟨by decide +kernel, rfl⟩
theorem D_prog_8_m3_96 : Dc prog_8_method_3_code 96 (.athrow) 1 97 := ⟨by decide +kernel, rfl⟩
theorem D_prog_8_m3_97 : Dc prog_8_method_3_code 97 (.aload_n 0) 1 98 := ⟨by decide +kernel, rfl⟩
theorem D_prog_8_m3_98 : Dc prog_8_method_3_code 98 (.getfield 20) 3 101 := ⟨by decide +kernel, rfl⟩
theorem D_prog_8_m3_101 : Dc prog_8_method_3_code 101 (.iload_n 3) 1 102 := ⟨by decide +kernel, rfl⟩
theorem D_prog_8_m3_102 : Dc prog_8_method_3_code 102 (.lload_n 1) 1 103 := ⟨by decide +kernel, rfl⟩
theorem D_prog_8_m3_103 : Dc prog_8_method_3_code 103 (.lastore) 1 104 := ⟨by decide +kernel, rfl⟩
theorem D_prog_8_m3_104 : Dc prog_8_method_3_code 104 (.aload_n 0) 1 105 := ⟨by decide +kernel, rfl⟩
theorem D_prog_8_m3_105 : Dc prog_8_method_3_code 105 (.dup) 1 106 := ⟨by decide +kernel, rfl⟩
theorem D_prog_8_m3_106 : Dc prog_8_method_3_code 106 (.getfield 42) 3 109 := ⟨by decide +kernel, rfl⟩
theorem D_prog_8_m3_109 : Dc prog_8_method_3_code 109 (.iconst 1) 1 110 := ⟨by decide +kernel, rfl⟩
theorem D_prog_8_m3_110 : Dc prog_8_method_3_code 110 (.iadd) 1 111 := ⟨by decide +kernel, rfl⟩
theorem D_prog_8_m3_111 : Dc prog_8_method_3_code 111 (.putfield 42) 3 114 := ⟨by decide +kernel, rfl⟩
theorem D_prog_8_m3_114 : Dc prog_8_method_3_code 114 (.aload_n 0) 1 115 := ⟨by decide +kernel, rfl⟩
theorem D_prog_8_m3_115 : Dc prog_8_method_3_code 115 (.invokevirtual 36) 3 118 := ⟨by decide +kernel, rfl⟩
theorem D_prog_8_m3_118 : Dc prog_8_method_3_code 118 (.ifCond .eq 7) 3 121 := ⟨by decide +kernel, rfl⟩
theorem D_prog_8_m3_121 : Dc prog_8_method_3_code 121 (.aload_n 0) 1 122 := ⟨by decide +kernel, rfl⟩
theorem D_prog_8_m3_122 : Dc prog_8_method_3_code 122 (.invokevirtual 53) 3 125 := ⟨by decide +kernel, rfl⟩
theorem D_prog_8_m3_125 : Dc prog_8_method_3_code 125 (.iconst 1) 1 126 := ⟨by decide +kernel, rfl⟩
theorem D_prog_8_m3_126 : Dc prog_8_method_3_code 126 (.ireturn) 1 127 := ⟨by decide +kernel, rfl⟩
set_option maxRecDepth 65536 in
set_option maxHeartbeats 40000000 in
theorem lp_fa (l : Launch) (Z : State) (a0 : Array Value) (hw : ∀ d ∈ tables_1, d.before a0 Z = true) (o a : Addr) (ms x : Int64) (hz f n : Int32) (xs : List Int64) (F : OH) (Q : Option Value → OH → Prop) (hl : xs.length.toInt32 = n) (hL : xs.length = n.toNatClampNeg) (hn : 8 ≤ n.toInt ∧ n.toInt ≤ 15) (z : Nat) (hz1 : z < n.toNatClampNeg) (hz0 : gj xs z = 0) (hc0 : ∀ s : Int32, 0 ≤ s.toInt → s.toInt < n.toInt → gj xs s.toNatClampNeg = 0 → (∀ q, q < n.toNatClampNeg → cd n.toNatClampNeg (HM n x) q < cd n.toNatClampNeg (HM n x) s.toNatClampNeg → gj xs q ≠ 0 ∧ gj xs q ≠ x) → Wp none l Z "com/example/orthrus/orthrus/SignatureSet" "add" prog_8_method_3_code 4 (some .boolean) ({ frames := 3, cells := 0, slots := 0, locals := 62 } : Room) ((o, oI "com/example/orthrus/orthrus/SignatureSet" sg_1 [(.long ms), (.ref a), (.int f), (.int hz)]) :: (a, oJ xs) :: F) 0 0 73 #[.val (.ref o), .val (.long x), .second, .val (.int s)] [] Q) (hc1 : ∀ s : Int32, 0 ≤ s.toInt → s.toInt < n.toInt → gj xs s.toNatClampNeg = x → Wp none l Z "com/example/orthrus/orthrus/SignatureSet" "add" prog_8_method_3_code 4 (some .boolean) ({ frames := 3, cells := 0, slots := 0, locals := 62 } : Room) ((o, oI "com/example/orthrus/orthrus/SignatureSet" sg_1 [(.long ms), (.ref a), (.int f), (.int hz)]) :: (a, oJ xs) :: F) 0 0 58 #[.val (.ref o), .val (.long x), .second, .val (.int s)] [] Q) :
    ∀ (d : Nat) (s : Int32), 0 ≤ s.toInt → s.toInt < n.toInt → (∀ q, q < n.toNatClampNeg → cd n.toNatClampNeg (HM n x) q < cd n.toNatClampNeg (HM n x) s.toNatClampNeg → gj xs q ≠ 0 ∧ gj xs q ≠ x) → cd n.toNatClampNeg s.toNatClampNeg z = d → Wp none l Z "com/example/orthrus/orthrus/SignatureSet" "add" prog_8_method_3_code 4 (some .boolean) ({ frames := 3, cells := 0, slots := 0, locals := 62 } : Room) ((o, oI "com/example/orthrus/orthrus/SignatureSet" sg_1 [(.long ms), (.ref a), (.int f), (.int hz)]) :: (a, oJ xs) :: F) 0 0 36 #[.val (.ref o), .val (.long x), .second, .val (.int s)] [] Q := by
  intro d
  induction d using Nat.strongRecOn with
  | _ d ih =>
  intro s hq0 hq1 hW hd
  refine wp_aload_n D_prog_8_m3_36 rfl rfl ?_
  refine wp_getfield D_prog_8_m3_37 (hw _ (List.mem_of_getElem? (i := 12) rfl)) (fld_new (i := 0) (fi := 1) rfl rfl rfl) ?_
  refine wp_iload_n D_prog_8_m3_40 rfl ?_
  refine wp_laload (i := 1) (s.toNatClampNeg) D_prog_8_m3_41 rfl (own_i32 _ hq0) rfl (own_gj xs _ (by have := own_cn s; have := own_cn n; omega)) ?_
  refine wp_lconst 0 D_prog_8_m3_42 (by decide) ?_
  refine wp_lcmp_eq D_prog_8_m3_43 D_prog_8_m3_44 (pc'' := 73) ⟨by decide, by decide⟩ (fun h1 => ?_) (fun h1 => ?_)
  · skip
    exact hc0 s hq0 hq1 h1 hW
  · skip
    refine wp_aload_n D_prog_8_m3_47 rfl rfl ?_
    refine wp_getfield D_prog_8_m3_48 (hw _ (List.mem_of_getElem? (i := 12) rfl)) (fld_new (i := 0) (fi := 1) rfl rfl rfl) ?_
    refine wp_iload_n D_prog_8_m3_51 rfl ?_
    refine wp_laload (i := 1) (s.toNatClampNeg) D_prog_8_m3_52 rfl (own_i32 _ hq0) rfl (own_gj xs _ (by have := own_cn s; have := own_cn n; omega)) ?_
    refine wp_lload_n D_prog_8_m3_53 rfl ?_
    refine wp_lcmp_ne D_prog_8_m3_54 D_prog_8_m3_55 (pc'' := 60) ⟨by decide, by decide⟩ (fun h2 => ?_) (fun h2 => ?_)
    · skip
      refine wp_iload_n D_prog_8_m3_60 rfl ?_
      refine wp_aload_n D_prog_8_m3_61 rfl rfl ?_
      refine wp_getfield D_prog_8_m3_62 (hw _ (List.mem_of_getElem? (i := 12) rfl)) (fld_new (i := 0) (fi := 1) rfl rfl rfl) ?_
      refine wp_lengthJ (i := 1) n D_prog_8_m3_65 rfl hl ?_
      refine wp_callS (c_next l Z a0 hw s n ((o, oI "com/example/orthrus/orthrus/SignatureSet" sg_1 [(.long ms), (.ref a), (.int f), (.int hz)]) :: (a, oJ xs) :: F)) D_prog_8_m3_66 (hw _ (List.mem_of_getElem? (i := 45) rfl)) (hw _ (List.mem_of_getElem? (i := 46) rfl)) (hw _ (List.mem_of_getElem? (i := 2) rfl)) (hw _ (List.mem_of_getElem? (i := 47) rfl)) (by decide) pd_5 rfl rfl rfl (Nat.le_of_ble_eq_true rfl) (Nat.le_of_ble_eq_true rfl) (Nat.le_of_ble_eq_true rfl) (Nat.le_of_ble_eq_true rfl) ?_
      rintro _ _ ⟨rfl, rfl⟩
      show Wp none l Z "com/example/orthrus/orthrus/SignatureSet" "add" prog_8_method_3_code 4 (some .boolean) ({ frames := 3, cells := 0, slots := 0, locals := 62 } : Room) ((o, oI "com/example/orthrus/orthrus/SignatureSet" sg_1 [(.long ms), (.ref a), (.int f), (.int hz)]) :: (a, oJ xs) :: F) 0 0 69 #[.val (.ref o), .val (.long x), .second, .val (.int s)] [(.int (f_next s n))] Q
      refine wp_istore_n #[.val (.ref o), .val (.long x), .second, .val (.int (f_next s n))] D_prog_8_m3_69 rfl ?_
      refine wp_goto D_prog_8_m3_70 (pc'' := 36) ⟨by decide, by decide⟩ ?_
      have hsz : s.toNatClampNeg ≠ z := by rintro e; rw [← e] at hz0; exact h1 hz0
      have hnx := own_next s n hq0 hq1
      have hnn := own_nx s n hq0 hq1
      exact ih _ (by rw [hnn, ← hd]; exact own_cdz (by have := own_cn s; have := own_cn n; omega) hz1 hsz) _ (by omega) (by omega) (by rw [hnn]; exact own_wn hn (by have := own_cn s; have := own_cn n; omega) h1 h2 hW) rfl
    · skip
      exact hc1 s hq0 hq1 h2
theorem pn_10 : plainFor (⟨"com/example/orthrus/orthrus/SignatureSet", "remove", "(J)Z"⟩ : MethodName) = true := by first | exact plainFor_of_name (by first | (simp [plainName, overriddenIn]; done) | decide +kernel) | decide +kernel
theorem D_prog_8_m4_0 : Dc prog_8_method_4_code 0 (.lload_n 1) 1 1 := ⟨by decide +kernel, rfl⟩
theorem D_prog_8_m4_1 : Dc prog_8_method_4_code 1 (.lconst 0) 1 2 := ⟨by decide +kernel, rfl⟩
theorem D_prog_8_m4_2 : Dc prog_8_method_4_code 2 (.lcmp) 1 3 := ⟨by decide +kernel, rfl⟩
theorem D_prog_8_m4_3 : Dc prog_8_method_4_code 3 (.ifCond .ne 15) 3 6 := ⟨by decide +kernel, rfl⟩
theorem D_prog_8_m4_6 : Dc prog_8_method_4_code 6 (.aload_n 0) 1 7 := ⟨by decide +kernel, rfl⟩
theorem D_prog_8_m4_7 : Dc prog_8_method_4_code 7 (.getfield 24) 3 10 := ⟨by decide +kernel, rfl⟩
theorem D_prog_8_m4_10 : Dc prog_8_method_4_code 10 (.istore_n 3) 1 11 := ⟨by decide +kernel, rfl⟩
theorem D_prog_8_m4_11 : Dc prog_8_method_4_code 11 (.aload_n 0) 1 12 := ⟨by decide +kernel, rfl⟩
theorem D_prog_8_m4_12 : Dc prog_8_method_4_code 12 (.iconst 0) 1 13 := ⟨by decide +kernel, rfl⟩
theorem D_prog_8_m4_13 : Dc prog_8_method_4_code 13 (.putfield 24) 3 16 := ⟨by decide +kernel, rfl⟩
theorem D_prog_8_m4_16 : Dc prog_8_method_4_code 16 (.iload_n 3) 1 17 := ⟨by decide +kernel, rfl⟩
theorem D_prog_8_m4_17 : Dc prog_8_method_4_code 17 (.ireturn) 1 18 := ⟨by decide +kernel, rfl⟩
theorem D_prog_8_m4_18 : Dc prog_8_method_4_code 18 (.lload_n 1) 1 19 := ⟨by decide +kernel, rfl⟩
theorem D_prog_8_m4_19 : Dc prog_8_method_4_code 19 (.aload_n 0) 1 20 := ⟨by decide +kernel, rfl⟩
theorem D_prog_8_m4_20 : Dc prog_8_method_4_code 20 (.getfield 20) 3 23 := ⟨by decide +kernel, rfl⟩
theorem D_prog_8_m4_23 : Dc prog_8_method_4_code 23 (.arraylength) 1 24 := ⟨by decide +kernel, rfl⟩
theorem D_prog_8_m4_24 : Dc prog_8_method_4_code 24 (.invokestatic 28) 3 27 := ⟨by decide +kernel, rfl⟩
theorem D_prog_8_m4_27 : Dc prog_8_method_4_code 27 (.istore_n 3) 1 28 := ⟨by decide +kernel, rfl⟩
theorem D_prog_8_m4_28 : Dc prog_8_method_4_code 28 (.aload_n 0) 1 29 := ⟨by decide +kernel, rfl⟩
theorem D_prog_8_m4_29 : Dc prog_8_method_4_code 29 (.getfield 20) 3 32 := ⟨by decide +kernel, rfl⟩
theorem D_prog_8_m4_32 : Dc prog_8_method_4_code 32 (.iload_n 3) 1 33 := ⟨by decide +kernel, rfl⟩
theorem D_prog_8_m4_33 : Dc prog_8_method_4_code 33 (.laload) 1 34 := ⟨by decide +kernel, rfl⟩
theorem D_prog_8_m4_34 : Dc prog_8_method_4_code 34 (.lload_n 1) 1 35 := ⟨by decide +kernel, rfl⟩
theorem D_prog_8_m4_35 : Dc prog_8_method_4_code 35 (.lcmp) 1 36 := ⟨by decide +kernel, rfl⟩
theorem D_prog_8_m4_36 : Dc prog_8_method_4_code 36 (.ifCond .eq 29) 3 39 := ⟨by decide +kernel, rfl⟩
theorem D_prog_8_m4_39 : Dc prog_8_method_4_code 39 (.aload_n 0) 1 40 := ⟨by decide +kernel, rfl⟩
theorem D_prog_8_m4_40 : Dc prog_8_method_4_code 40 (.getfield 20) 3 43 := ⟨by decide +kernel, rfl⟩
theorem D_prog_8_m4_43 : Dc prog_8_method_4_code 43 (.iload_n 3) 1 44 := ⟨by decide +kernel, rfl⟩
theorem D_prog_8_m4_44 : Dc prog_8_method_4_code 44 (.laload) 1 45 := ⟨by decide +kernel, rfl⟩
theorem D_prog_8_m4_45 : Dc prog_8_method_4_code 45 (.lconst 0) 1 46 := ⟨by decide +kernel, rfl⟩
theorem D_prog_8_m4_46 : Dc prog_8_method_4_code 46 (.lcmp) 1 47 := ⟨by decide +kernel, rfl⟩
theorem D_prog_8_m4_47 : Dc prog_8_method_4_code 47 (.ifCond .ne 5) 3 50 := ⟨by decide +kernel, rfl⟩
theorem D_prog_8_m4_50 : Dc prog_8_method_4_code 50 (.iconst 0) 1 51 := ⟨by decide +kernel, rfl⟩
theorem D_prog_8_m4_51 : Dc prog_8_method_4_code 51 (.ireturn) 1 52 := ⟨by decide +kernel, rfl⟩
theorem D_prog_8_m4_52 : Dc prog_8_method_4_code 52 (.iload_n 3) 1 53 := ⟨by decide +kernel, rfl⟩
theorem D_prog_8_m4_53 : Dc prog_8_method_4_code 53 (.aload_n 0) 1 54 := ⟨by decide +kernel, rfl⟩
theorem D_prog_8_m4_54 : Dc prog_8_method_4_code 54 (.getfield 20) 3 57 := ⟨by decide +kernel, rfl⟩
theorem D_prog_8_m4_57 : Dc prog_8_method_4_code 57 (.arraylength) 1 58 := ⟨by decide +kernel, rfl⟩
theorem D_prog_8_m4_58 : Dc prog_8_method_4_code 58 (.invokestatic 32) 3 61 := ⟨by decide +kernel, rfl⟩
theorem D_prog_8_m4_61 : Dc prog_8_method_4_code 61 (.istore_n 3) 1 62 := ⟨by decide +kernel, rfl⟩
theorem D_prog_8_m4_62 : Dc prog_8_method_4_code 62 (.goto (-34)) 3 65 := ⟨by decide +kernel, rfl⟩
theorem D_prog_8_m4_65 : Dc prog_8_method_4_code 65 (.aload_n 0) 1 66 := ⟨by decide +kernel, rfl⟩
theorem D_prog_8_m4_66 : Dc prog_8_method_4_code 66 (.dup) 1 67 := ⟨by decide +kernel, rfl⟩
theorem D_prog_8_m4_67 : Dc prog_8_method_4_code 67 (.getfield 42) 3 70 := ⟨by decide +kernel, rfl⟩
theorem D_prog_8_m4_70 : Dc prog_8_method_4_code 70 (.iconst 1) 1 71 := ⟨by decide +kernel, rfl⟩
theorem D_prog_8_m4_71 : Dc prog_8_method_4_code 71 (.isub) 1 72 := ⟨by decide +kernel, rfl⟩
theorem D_prog_8_m4_72 : Dc prog_8_method_4_code 72 (.putfield 42) 3 75 := ⟨by decide +kernel, rfl⟩
theorem D_prog_8_m4_75 : Dc prog_8_method_4_code 75 (.iload_n 3) 1 76 := ⟨by decide +kernel, rfl⟩
theorem D_prog_8_m4_76 : Dc prog_8_method_4_code 76 (.istore 4) 2 78 := ⟨by decide +kernel, rfl⟩
theorem D_prog_8_m4_78 : Dc prog_8_method_4_code 78 (.iload_n 3) 1 79 := ⟨by decide +kernel, rfl⟩
theorem D_prog_8_m4_79 : Dc prog_8_method_4_code 79 (.aload_n 0) 1 80 := ⟨by decide +kernel, rfl⟩
theorem D_prog_8_m4_80 : Dc prog_8_method_4_code 80 (.getfield 20) 3 83 := ⟨by decide +kernel, rfl⟩
theorem D_prog_8_m4_83 : Dc prog_8_method_4_code 83 (.arraylength) 1 84 := ⟨by decide +kernel, rfl⟩
theorem D_prog_8_m4_84 : Dc prog_8_method_4_code 84 (.invokestatic 32) 3 87 := ⟨by decide +kernel, rfl⟩
theorem D_prog_8_m4_87 : Dc prog_8_method_4_code 87 (.istore 5) 2 89 := ⟨by decide +kernel, rfl⟩
theorem D_prog_8_m4_89 : Dc prog_8_method_4_code 89 (.aload_n 0) 1 90 := ⟨by decide +kernel, rfl⟩
theorem D_prog_8_m4_90 : Dc prog_8_method_4_code 90 (.getfield 20) 3 93 := ⟨by decide +kernel, rfl⟩
theorem D_prog_8_m4_93 : Dc prog_8_method_4_code 93 (.iload 5) 2 95 := ⟨by decide +kernel, rfl⟩
theorem D_prog_8_m4_95 : Dc prog_8_method_4_code 95 (.laload) 1 96 := ⟨by decide +kernel, rfl⟩
theorem D_prog_8_m4_96 : Dc prog_8_method_4_code 96 (.lconst 0) 1 97 := ⟨by decide +kernel, rfl⟩
theorem D_prog_8_m4_97 : Dc prog_8_method_4_code 97 (.lcmp) 1 98 := ⟨by decide +kernel, rfl⟩
theorem D_prog_8_m4_98 : Dc prog_8_method_4_code 98 (.ifCond .eq 80) 3 101 := ⟨by decide +kernel, rfl⟩
theorem D_prog_8_m4_101 : Dc prog_8_method_4_code 101 (.aload_n 0) 1 102 := ⟨by decide +kernel, rfl⟩
theorem D_prog_8_m4_102 : Dc prog_8_method_4_code 102 (.getfield 20) 3 105 := ⟨by decide +kernel, rfl⟩
theorem D_prog_8_m4_105 : Dc prog_8_method_4_code 105 (.iload 5) 2 107 := ⟨by decide +kernel, rfl⟩
theorem D_prog_8_m4_107 : Dc prog_8_method_4_code 107 (.laload) 1 108 := ⟨by decide +kernel, rfl⟩
theorem D_prog_8_m4_108 : Dc prog_8_method_4_code 108 (.aload_n 0) 1 109 := ⟨by decide +kernel, rfl⟩
theorem D_prog_8_m4_109 : Dc prog_8_method_4_code 109 (.getfield 20) 3 112 := ⟨by decide +kernel, rfl⟩
theorem D_prog_8_m4_112 : Dc prog_8_method_4_code 112 (.arraylength) 1 113 := ⟨by decide +kernel, rfl⟩
theorem D_prog_8_m4_113 : Dc prog_8_method_4_code 113 (.invokestatic 28) 3 116 := ⟨by decide +kernel, rfl⟩
theorem D_prog_8_m4_116 : Dc prog_8_method_4_code 116 (.istore 6) 2 118 := ⟨by decide +kernel, rfl⟩
theorem D_prog_8_m4_118 : Dc prog_8_method_4_code 118 (.iload 6) 2 120 := ⟨by decide +kernel, rfl⟩
theorem D_prog_8_m4_120 : Dc prog_8_method_4_code 120 (.iload 5) 2 122 := ⟨by decide +kernel, rfl⟩
theorem D_prog_8_m4_122 : Dc prog_8_method_4_code 122 (.aload_n 0) 1 123 := ⟨by decide +kernel, rfl⟩
theorem D_prog_8_m4_123 : Dc prog_8_method_4_code 123 (.getfield 20) 3 126 := ⟨by decide +kernel, rfl⟩
theorem D_prog_8_m4_126 : Dc prog_8_method_4_code 126 (.arraylength) 1 127 := ⟨by decide +kernel, rfl⟩
theorem D_prog_8_m4_127 : Dc prog_8_method_4_code 127 (.invokestatic 56) 3 130 := ⟨by decide +kernel, rfl⟩
theorem D_prog_8_m4_130 : Dc prog_8_method_4_code 130 (.iload 4) 2 132 := ⟨by decide +kernel, rfl⟩
theorem D_prog_8_m4_132 : Dc prog_8_method_4_code 132 (.iload 5) 2 134 := ⟨by decide +kernel, rfl⟩
theorem D_prog_8_m4_134 : Dc prog_8_method_4_code 134 (.aload_n 0) 1 135 := ⟨by decide +kernel, rfl⟩
theorem D_prog_8_m4_135 : Dc prog_8_method_4_code 135 (.getfield 20) 3 138 := ⟨by decide +kernel, rfl⟩
theorem D_prog_8_m4_138 : Dc prog_8_method_4_code 138 (.arraylength) 1 139 := ⟨by decide +kernel, rfl⟩
theorem D_prog_8_m4_139 : Dc prog_8_method_4_code 139 (.invokestatic 56) 3 142 := ⟨by decide +kernel, rfl⟩
theorem D_prog_8_m4_142 : Dc prog_8_method_4_code 142 (.if_icmp .lt 21) 3 145 := ⟨by decide +kernel, rfl⟩
theorem D_prog_8_m4_145 : Dc prog_8_method_4_code 145 (.aload_n 0) 1 146 := ⟨by decide +kernel, rfl⟩
theorem D_prog_8_m4_146 : Dc prog_8_method_4_code 146 (.getfield 20) 3 149 := ⟨by decide +kernel, rfl⟩
theorem D_prog_8_m4_149 : Dc prog_8_method_4_code 149 (.iload 4) 2 151 := ⟨by decide +kernel, rfl⟩
theorem D_prog_8_m4_151 : Dc prog_8_method_4_code 151 (.aload_n 0) 1 152 := ⟨by decide +kernel, rfl⟩
theorem D_prog_8_m4_152 : Dc prog_8_method_4_code 152 (.getfield 20) 3 155 := ⟨by decide +kernel, rfl⟩
theorem D_prog_8_m4_155 : Dc prog_8_method_4_code 155 (.iload 5) 2 157 := ⟨by decide +kernel, rfl⟩
theorem D_prog_8_m4_157 : Dc prog_8_method_4_code 157 (.laload) 1 158 := ⟨by decide +kernel, rfl⟩
theorem D_prog_8_m4_158 : Dc prog_8_method_4_code 158 (.lastore) 1 159 := ⟨by decide +kernel, rfl⟩
theorem D_prog_8_m4_159 : Dc prog_8_method_4_code 159 (.iload 5) 2 161 := ⟨by decide +kernel, rfl⟩
theorem D_prog_8_m4_161 : Dc prog_8_method_4_code 161 (.istore 4) 2 163 := ⟨by decide +kernel, rfl⟩
theorem D_prog_8_m4_163 : Dc prog_8_method_4_code 163 (.iload 5) 2 165 := ⟨by decide +kernel, rfl⟩
theorem D_prog_8_m4_165 : Dc prog_8_method_4_code 165 (.aload_n 0) 1 166 := ⟨by decide +kernel, rfl⟩
theorem D_prog_8_m4_166 : Dc prog_8_method_4_code 166 (.getfield 20) 3 169 := ⟨by decide +kernel, rfl⟩
theorem D_prog_8_m4_169 : Dc prog_8_method_4_code 169 (.arraylength) 1 170 := ⟨by decide +kernel, rfl⟩
theorem D_prog_8_m4_170 : Dc prog_8_method_4_code 170 (.invokestatic 32) 3 173 := ⟨by decide +kernel, rfl⟩
theorem D_prog_8_m4_173 : Dc prog_8_method_4_code 173 (.istore 5) 2 175 := ⟨by decide +kernel, rfl⟩
theorem D_prog_8_m4_175 : Dc prog_8_method_4_code 175 (.goto (-86)) 3 178 := ⟨by decide +kernel, rfl⟩
theorem D_prog_8_m4_178 : Dc prog_8_method_4_code 178 (.aload_n 0) 1 179 := ⟨by decide +kernel, rfl⟩
theorem D_prog_8_m4_179 : Dc prog_8_method_4_code 179 (.getfield 20) 3 182 := ⟨by decide +kernel, rfl⟩
theorem D_prog_8_m4_182 : Dc prog_8_method_4_code 182 (.iload 4) 2 184 := ⟨by decide +kernel, rfl⟩
theorem D_prog_8_m4_184 : Dc prog_8_method_4_code 184 (.lconst 0) 1 185 := ⟨by decide +kernel, rfl⟩
theorem D_prog_8_m4_185 : Dc prog_8_method_4_code 185 (.lastore) 1 186 := ⟨by decide +kernel, rfl⟩
theorem D_prog_8_m4_186 : Dc prog_8_method_4_code 186 (.iconst 1) 1 187 := ⟨by decide +kernel, rfl⟩
theorem D_prog_8_m4_187 : Dc prog_8_method_4_code 187 (.ireturn) 1 188 := ⟨by decide +kernel, rfl⟩
set_option maxRecDepth 65536 in
set_option maxHeartbeats 40000000 in
theorem lp_fr (l : Launch) (Z : State) (a0 : Array Value) (hw : ∀ d ∈ tables_1, d.before a0 Z = true) (o a : Addr) (ms x : Int64) (hz f n : Int32) (xs : List Int64) (F : OH) (Q : Option Value → OH → Prop) (hl : xs.length.toInt32 = n) (hL : xs.length = n.toNatClampNeg) (hn : 8 ≤ n.toInt ∧ n.toInt ≤ 15) (z : Nat) (hz1 : z < n.toNatClampNeg) (hz0 : gj xs z = 0) (hc0 : ∀ s : Int32, 0 ≤ s.toInt → s.toInt < n.toInt → gj xs s.toNatClampNeg = 0 → (∀ q, q < n.toNatClampNeg → cd n.toNatClampNeg (HM n x) q < cd n.toNatClampNeg (HM n x) s.toNatClampNeg → gj xs q ≠ 0 ∧ gj xs q ≠ x) → Wp none l Z "com/example/orthrus/orthrus/SignatureSet" "remove" prog_8_method_4_code 7 (some .boolean) ({ frames := 3, cells := 0, slots := 0, locals := 66 } : Room) ((o, oI "com/example/orthrus/orthrus/SignatureSet" sg_1 [(.long ms), (.ref a), (.int f), (.int hz)]) :: (a, oJ xs) :: F) 0 0 50 #[.val (.ref o), .val (.long x), .second, .val (.int s), .unset, .unset, .unset] [] Q) (hc1 : ∀ s : Int32, 0 ≤ s.toInt → s.toInt < n.toInt → gj xs s.toNatClampNeg = x → Wp none l Z "com/example/orthrus/orthrus/SignatureSet" "remove" prog_8_method_4_code 7 (some .boolean) ({ frames := 3, cells := 0, slots := 0, locals := 66 } : Room) ((o, oI "com/example/orthrus/orthrus/SignatureSet" sg_1 [(.long ms), (.ref a), (.int f), (.int hz)]) :: (a, oJ xs) :: F) 0 0 65 #[.val (.ref o), .val (.long x), .second, .val (.int s), .unset, .unset, .unset] [] Q) :
    ∀ (d : Nat) (s : Int32), 0 ≤ s.toInt → s.toInt < n.toInt → (∀ q, q < n.toNatClampNeg → cd n.toNatClampNeg (HM n x) q < cd n.toNatClampNeg (HM n x) s.toNatClampNeg → gj xs q ≠ 0 ∧ gj xs q ≠ x) → cd n.toNatClampNeg s.toNatClampNeg z = d → Wp none l Z "com/example/orthrus/orthrus/SignatureSet" "remove" prog_8_method_4_code 7 (some .boolean) ({ frames := 3, cells := 0, slots := 0, locals := 66 } : Room) ((o, oI "com/example/orthrus/orthrus/SignatureSet" sg_1 [(.long ms), (.ref a), (.int f), (.int hz)]) :: (a, oJ xs) :: F) 0 0 28 #[.val (.ref o), .val (.long x), .second, .val (.int s), .unset, .unset, .unset] [] Q := by
  intro d
  induction d using Nat.strongRecOn with
  | _ d ih =>
  intro s hq0 hq1 hW hd
  refine wp_aload_n D_prog_8_m4_28 rfl rfl ?_
  refine wp_getfield D_prog_8_m4_29 (hw _ (List.mem_of_getElem? (i := 12) rfl)) (fld_new (i := 0) (fi := 1) rfl rfl rfl) ?_
  refine wp_iload_n D_prog_8_m4_32 rfl ?_
  refine wp_laload (i := 1) (s.toNatClampNeg) D_prog_8_m4_33 rfl (own_i32 _ hq0) rfl (own_gj xs _ (by have := own_cn s; have := own_cn n; omega)) ?_
  refine wp_lload_n D_prog_8_m4_34 rfl ?_
  refine wp_lcmp_eq D_prog_8_m4_35 D_prog_8_m4_36 (pc'' := 65) ⟨by decide, by decide⟩ (fun h1 => ?_) (fun h1 => ?_)
  · skip
    exact hc1 s hq0 hq1 h1
  · skip
    refine wp_aload_n D_prog_8_m4_39 rfl rfl ?_
    refine wp_getfield D_prog_8_m4_40 (hw _ (List.mem_of_getElem? (i := 12) rfl)) (fld_new (i := 0) (fi := 1) rfl rfl rfl) ?_
    refine wp_iload_n D_prog_8_m4_43 rfl ?_
    refine wp_laload (i := 1) (s.toNatClampNeg) D_prog_8_m4_44 rfl (own_i32 _ hq0) rfl (own_gj xs _ (by have := own_cn s; have := own_cn n; omega)) ?_
    refine wp_lconst 0 D_prog_8_m4_45 (by decide) ?_
    refine wp_lcmp_ne D_prog_8_m4_46 D_prog_8_m4_47 (pc'' := 52) ⟨by decide, by decide⟩ (fun h2 => ?_) (fun h2 => ?_)
    · skip
      refine wp_iload_n D_prog_8_m4_52 rfl ?_
      refine wp_aload_n D_prog_8_m4_53 rfl rfl ?_
      refine wp_getfield D_prog_8_m4_54 (hw _ (List.mem_of_getElem? (i := 12) rfl)) (fld_new (i := 0) (fi := 1) rfl rfl rfl) ?_
      refine wp_lengthJ (i := 1) n D_prog_8_m4_57 rfl hl ?_
      refine wp_callS (c_next l Z a0 hw s n ((o, oI "com/example/orthrus/orthrus/SignatureSet" sg_1 [(.long ms), (.ref a), (.int f), (.int hz)]) :: (a, oJ xs) :: F)) D_prog_8_m4_58 (hw _ (List.mem_of_getElem? (i := 45) rfl)) (hw _ (List.mem_of_getElem? (i := 46) rfl)) (hw _ (List.mem_of_getElem? (i := 2) rfl)) (hw _ (List.mem_of_getElem? (i := 47) rfl)) (by decide) pd_5 rfl rfl rfl (Nat.le_of_ble_eq_true rfl) (Nat.le_of_ble_eq_true rfl) (Nat.le_of_ble_eq_true rfl) (Nat.le_of_ble_eq_true rfl) ?_
      rintro _ _ ⟨rfl, rfl⟩
      show Wp none l Z "com/example/orthrus/orthrus/SignatureSet" "remove" prog_8_method_4_code 7 (some .boolean) ({ frames := 3, cells := 0, slots := 0, locals := 66 } : Room) ((o, oI "com/example/orthrus/orthrus/SignatureSet" sg_1 [(.long ms), (.ref a), (.int f), (.int hz)]) :: (a, oJ xs) :: F) 0 0 61 #[.val (.ref o), .val (.long x), .second, .val (.int s), .unset, .unset, .unset] [(.int (f_next s n))] Q
      refine wp_istore_n #[.val (.ref o), .val (.long x), .second, .val (.int (f_next s n)), .unset, .unset, .unset] D_prog_8_m4_61 rfl ?_
      refine wp_goto D_prog_8_m4_62 (pc'' := 28) ⟨by decide, by decide⟩ ?_
      have hsz : s.toNatClampNeg ≠ z := by rintro e; rw [← e] at hz0; exact h2 hz0
      have hnx := own_next s n hq0 hq1
      have hnn := own_nx s n hq0 hq1
      exact ih _ (by rw [hnn, ← hd]; exact own_cdz (by have := own_cn s; have := own_cn n; omega) hz1 hsz) _ (by omega) (by omega) (by rw [hnn]; exact own_wn hn (by have := own_cn s; have := own_cn n; omega) h2 h1 hW) rfl
    · skip
      exact hc0 s hq0 hq1 h2 hW
def Q_c_add (o a : Addr) (ms x : Int64) (hz f n : Int32) (xs : List Int64) (F : OH) : Option Value → OH → Prop := fun v H' => ∃ r hz' f' xs', v = some (.int r) ∧ H' = (o, oI "com/example/orthrus/orthrus/SignatureSet" sg_1 [(.long ms), (.ref a), (.int f'), (.int hz')]) :: (a, oJ xs') :: F ∧ PA n x hz f xs hz' f' xs'
set_option maxRecDepth 65536 in
set_option maxHeartbeats 40000000 in
theorem c_add (l : Launch) (Z : State) (a0 : Array Value) (hw : ∀ d ∈ tables_1, d.before a0 Z = true) (o a : Addr) (ms x : Int64) (hz f n : Int32) (xs : List Int64) (F : OH)  (hl : xs.length.toInt32 = n) (hL : xs.length = n.toNatClampNeg) (hn : 8 ≤ n.toInt ∧ n.toInt ≤ 15) (hf : 0 ≤ f.toInt ∧ f.toInt ≤ 5) (hT : TB n f hz xs) :
    Met l Z (⟨"com/example/orthrus/orthrus/SignatureSet", "add", "(J)Z"⟩ : MethodName) prog_8_method_3_code 4 (some .boolean) ({ frames := 3, cells := 0, slots := 0, locals := 62 } : Room) [(.ref o), (.long x)] ((o, oI "com/example/orthrus/orthrus/SignatureSet" sg_1 [(.long ms), (.ref a), (.int f), (.int hz)]) :: (a, oJ xs) :: F) (Q_c_add o a ms x hz f n xs F) := by
  refine Met.of_wp (Ls := #[.val (.ref o), .val (.long x), .second, .unset]) pn_9 (fun m => (entry_loc m _ _).trans rfl) ?_
  show Wp none l Z "com/example/orthrus/orthrus/SignatureSet" "add" prog_8_method_3_code 4 (some .boolean) ({ frames := 3, cells := 0, slots := 0, locals := 62 } : Room) ((o, oI "com/example/orthrus/orthrus/SignatureSet" sg_1 [(.long ms), (.ref a), (.int f), (.int hz)]) :: (a, oJ xs) :: F) 0 0 0 #[.val (.ref o), .val (.long x), .second, .unset] [] (Q_c_add o a ms x hz f n xs F)
  refine wp_lload_n D_prog_8_m3_0 rfl ?_
  refine wp_lconst 0 D_prog_8_m3_1 (by decide) ?_
  refine wp_lcmp_ne D_prog_8_m3_2 D_prog_8_m3_3 (pc'' := 26) ⟨by decide, by decide⟩ (fun h1 => ?_) (fun h1 => ?_)
  · skip
    refine wp_lload_n D_prog_8_m3_26 rfl ?_
    refine wp_aload_n D_prog_8_m3_27 rfl rfl ?_
    refine wp_getfield D_prog_8_m3_28 (hw _ (List.mem_of_getElem? (i := 12) rfl)) (fld_new (i := 0) (fi := 1) rfl rfl rfl) ?_
    refine wp_lengthJ (i := 1) n D_prog_8_m3_31 rfl hl ?_
    refine wp_callS (c_slot l Z a0 hw x n ((o, oI "com/example/orthrus/orthrus/SignatureSet" sg_1 [(.long ms), (.ref a), (.int f), (.int hz)]) :: (a, oJ xs) :: F)) D_prog_8_m3_32 (hw _ (List.mem_of_getElem? (i := 19) rfl)) (hw _ (List.mem_of_getElem? (i := 20) rfl)) (hw _ (List.mem_of_getElem? (i := 2) rfl)) (hw _ (List.mem_of_getElem? (i := 21) rfl)) (by decide) pd_2 rfl rfl rfl (Nat.le_of_ble_eq_true rfl) (Nat.le_of_ble_eq_true rfl) (Nat.le_of_ble_eq_true rfl) (Nat.le_of_ble_eq_true rfl) ?_
    rintro _ _ ⟨rfl, rfl⟩
    show Wp none l Z "com/example/orthrus/orthrus/SignatureSet" "add" prog_8_method_3_code 4 (some .boolean) ({ frames := 3, cells := 0, slots := 0, locals := 62 } : Room) ((o, oI "com/example/orthrus/orthrus/SignatureSet" sg_1 [(.long ms), (.ref a), (.int f), (.int hz)]) :: (a, oJ xs) :: F) 0 0 35 #[.val (.ref o), .val (.long x), .second, .unset] [(.int (f_slot (f_mix x) n))] (Q_c_add o a ms x hz f n xs F)
    generalize hg_x2 : (f_slot (f_mix x) n) = x2
    refine wp_istore_n #[.val (.ref o), .val (.long x), .second, .val (.int x2)] D_prog_8_m3_35 rfl ?_
    have hN : n.toNatClampNeg = n.toInt := by simp only [Int32.toNatClampNeg]; omega
    obtain ⟨z, hz1, hz0⟩ := nz_zero xs (by have := hT.2.2.2.1; omega)
    have hz0 : gj xs z = 0 := Option.some.inj ((own_gj xs z hz1).symm.trans hz0)
    rw [hL] at hz1
    have hs_x := own_slot (f_mix x) n (by omega)
    have hs_h : x2.toNatClampNeg = HM n x := by rw [← hg_x2]; rfl
    rw [hg_x2] at hs_x
    refine lp_fa l Z a0 hw o a ms x hz f n xs F _ hl hL hn z hz1 hz0 (fun s hq0 hq1 hv hW => ?_) (fun s hq0 hq1 hv => ?_) _ x2 hs_x.1 hs_x.2 (by rw [hs_h]; exact own_w0 n x xs hn) rfl
    · skip
      show Wp none l Z "com/example/orthrus/orthrus/SignatureSet" "add" prog_8_method_3_code 4 (some .boolean) ({ frames := 3, cells := 0, slots := 0, locals := 62 } : Room) ((o, oI "com/example/orthrus/orthrus/SignatureSet" sg_1 [(.long ms), (.ref a), (.int f), (.int hz)]) :: (a, oJ xs) :: F) 0 0 73 #[.val (.ref o), .val (.long x), .second, .val (.int s)] [] (Q_c_add o a ms x hz f n xs F)
      refine wp_aload_n D_prog_8_m3_73 rfl rfl ?_
      refine wp_virtual (c_full l Z a0 hw o a ms hz f n xs F (by first | exact hl | (simp only [List.length_set]; exact hl))) (exa_new (i := 0) rfl) D_prog_8_m3_74 (hw _ (List.mem_of_getElem? (i := 36) rfl)) (hw _ (List.mem_of_getElem? (i := 37) rfl)) (hw _ (List.mem_of_getElem? (i := 39) rfl)) (hw _ (List.mem_of_getElem? (i := 39) rfl)) (hw _ (List.mem_of_getElem? (i := 38) rfl)) (hw _ (List.mem_of_getElem? (i := 2) rfl)) (hw _ (List.mem_of_getElem? (i := 40) rfl)) (by decide) pd_4 rfl rfl rfl (Nat.le_of_ble_eq_true rfl) (Nat.le_of_ble_eq_true rfl) (Nat.le_of_ble_eq_true rfl) (Nat.le_of_ble_eq_true rfl) ?_
      rintro _ _ ⟨rfl, rfl⟩
      rw [own_n4 n hn f (by first | omega | (rw [own_i1 f ⟨hf.1, by omega⟩]; omega))]
      show Wp none l Z "com/example/orthrus/orthrus/SignatureSet" "add" prog_8_method_3_code 4 (some .boolean) ({ frames := 3, cells := 0, slots := 0, locals := 62 } : Room) ((o, oI "com/example/orthrus/orthrus/SignatureSet" sg_1 [(.long ms), (.ref a), (.int f), (.int hz)]) :: (a, oJ xs) :: F) 0 0 77 #[.val (.ref o), .val (.long x), .second, .val (.int s)] [(.int (0 : Int32))] (Q_c_add o a ms x hz f n xs F)
      refine wp_if_eq D_prog_8_m3_77 (pc'' := 97) ⟨by decide, by decide⟩ (fun h3 => ?_) (fun h3 => by exact absurd h3 (by decide))
      refine wp_aload_n D_prog_8_m3_97 rfl rfl ?_
      refine wp_getfield D_prog_8_m3_98 (hw _ (List.mem_of_getElem? (i := 12) rfl)) (fld_new (i := 0) (fi := 1) rfl rfl rfl) ?_
      refine wp_iload_n D_prog_8_m3_101 rfl ?_
      refine wp_lload_n D_prog_8_m3_102 rfl ?_
      refine wp_lastore (i := 1) (s.toNatClampNeg) D_prog_8_m3_103 rfl (own_i32 _ (by first | exact hq0 | exact ht0)) rfl (by have := own_cn s; have := own_cn n; omega) ?_
      show Wp none l Z "com/example/orthrus/orthrus/SignatureSet" "add" prog_8_method_3_code 4 (some .boolean) ({ frames := 3, cells := 0, slots := 0, locals := 62 } : Room) ((o, oI "com/example/orthrus/orthrus/SignatureSet" sg_1 [(.long ms), (.ref a), (.int f), (.int hz)]) :: (a, oJ (xs.set (s.toNatClampNeg) x)) :: F) 0 0 104 #[.val (.ref o), .val (.long x), .second, .val (.int s)] [] (Q_c_add o a ms x hz f n xs F)
      refine wp_aload_n D_prog_8_m3_104 rfl rfl ?_
      refine wp_dup D_prog_8_m3_105 rfl ?_
      refine wp_getfield D_prog_8_m3_106 (hw _ (List.mem_of_getElem? (i := 41) rfl)) (fld_new (i := 0) (fi := 2) rfl rfl rfl) ?_
      refine wp_iconst 1 D_prog_8_m3_109 (by decide) ?_
      refine wp_iadd D_prog_8_m3_110 ?_
      refine wp_putfield (i := 0) (fi := 2) (ty := .int) D_prog_8_m3_111 (hw _ (List.mem_of_getElem? (i := 41) rfl)) rfl rfl rfl (Or.inl (hw _ (List.mem_of_getElem? (i := 42) rfl))) (hw _ (List.mem_of_getElem? (i := 1) rfl)) (by decide) rfl rfl ?_
      show Wp none l Z "com/example/orthrus/orthrus/SignatureSet" "add" prog_8_method_3_code 4 (some .boolean) ({ frames := 3, cells := 0, slots := 0, locals := 62 } : Room) ((o, oI "com/example/orthrus/orthrus/SignatureSet" sg_1 [(.long ms), (.ref a), (.int (f + (1 : Int32))), (.int hz)]) :: (a, oJ (xs.set (s.toNatClampNeg) x)) :: F) 0 0 114 #[.val (.ref o), .val (.long x), .second, .val (.int s)] [] (Q_c_add o a ms x hz f n xs F)
      refine wp_aload_n D_prog_8_m3_114 rfl rfl ?_
      refine wp_virtual (c_full l Z a0 hw o a ms hz (f + (1 : Int32)) n (xs.set (s.toNatClampNeg) x) F (by first | exact hl | (simp only [List.length_set]; exact hl))) (exa_new (i := 0) rfl) D_prog_8_m3_115 (hw _ (List.mem_of_getElem? (i := 36) rfl)) (hw _ (List.mem_of_getElem? (i := 37) rfl)) (hw _ (List.mem_of_getElem? (i := 39) rfl)) (hw _ (List.mem_of_getElem? (i := 39) rfl)) (hw _ (List.mem_of_getElem? (i := 38) rfl)) (hw _ (List.mem_of_getElem? (i := 2) rfl)) (hw _ (List.mem_of_getElem? (i := 40) rfl)) (by decide) pd_4 rfl rfl rfl (Nat.le_of_ble_eq_true rfl) (Nat.le_of_ble_eq_true rfl) (Nat.le_of_ble_eq_true rfl) (Nat.le_of_ble_eq_true rfl) ?_
      rintro _ _ ⟨rfl, rfl⟩
      rw [own_n4 n hn (f + (1 : Int32)) (by first | omega | (rw [own_i1 f ⟨hf.1, by omega⟩]; omega))]
      show Wp none l Z "com/example/orthrus/orthrus/SignatureSet" "add" prog_8_method_3_code 4 (some .boolean) ({ frames := 3, cells := 0, slots := 0, locals := 62 } : Room) ((o, oI "com/example/orthrus/orthrus/SignatureSet" sg_1 [(.long ms), (.ref a), (.int (f + (1 : Int32))), (.int hz)]) :: (a, oJ (xs.set (s.toNatClampNeg) x)) :: F) 0 0 118 #[.val (.ref o), .val (.long x), .second, .val (.int s)] [(.int (0 : Int32))] (Q_c_add o a ms x hz f n xs F)
      refine wp_if_eq D_prog_8_m3_118 (pc'' := 125) ⟨by decide, by decide⟩ (fun h4 => ?_) (fun h4 => by exact absurd h4 (by decide))
      refine wp_iconst 1 D_prog_8_m3_125 (by decide) ?_
      refine wp_ireturnN D_prog_8_m3_126 rfl (by simp) (by decide) (by decide) ?_
      exact ⟨_, hz, _, _, rfl, rfl, pa_new hn (by omega) hT h1 (by have := own_cn s; have := own_cn n; omega) hv hW⟩
    · skip
      show Wp none l Z "com/example/orthrus/orthrus/SignatureSet" "add" prog_8_method_3_code 4 (some .boolean) ({ frames := 3, cells := 0, slots := 0, locals := 62 } : Room) ((o, oI "com/example/orthrus/orthrus/SignatureSet" sg_1 [(.long ms), (.ref a), (.int f), (.int hz)]) :: (a, oJ xs) :: F) 0 0 58 #[.val (.ref o), .val (.long x), .second, .val (.int s)] [] (Q_c_add o a ms x hz f n xs F)
      refine wp_iconst 0 D_prog_8_m3_58 (by decide) ?_
      refine wp_ireturnN D_prog_8_m3_59 rfl (by simp) (by decide) (by decide) ?_
      exact ⟨_, hz, f, xs, rfl, rfl, pa_old hT h1 (by have := own_cn s; have := own_cn n; omega) hv⟩
  · skip
    refine wp_aload_n D_prog_8_m3_6 rfl rfl ?_
    refine wp_getfield D_prog_8_m3_7 (hw _ (List.mem_of_getElem? (i := 43) rfl)) (fld_new (i := 0) (fi := 3) rfl rfl rfl) ?_
    refine wp_if_ne D_prog_8_m3_10 (pc'' := 17) ⟨by decide, by decide⟩ (fun h5 => ?_) (fun h5 => ?_)
    · skip
      refine wp_iconst 0 D_prog_8_m3_17 (by decide) ?_
      refine wp_istore_n #[.val (.ref o), .val (.long x), .second, .val (.int (0 : Int32))] D_prog_8_m3_18 rfl ?_
      refine wp_aload_n D_prog_8_m3_19 rfl rfl ?_
      refine wp_iconst 1 D_prog_8_m3_20 (by decide) ?_
      refine wp_putfield (i := 0) (fi := 3) (ty := .boolean) D_prog_8_m3_21 (hw _ (List.mem_of_getElem? (i := 43) rfl)) rfl rfl rfl (Or.inl (hw _ (List.mem_of_getElem? (i := 44) rfl))) (hw _ (List.mem_of_getElem? (i := 1) rfl)) (by decide) rfl rfl ?_
      show Wp none l Z "com/example/orthrus/orthrus/SignatureSet" "add" prog_8_method_3_code 4 (some .boolean) ({ frames := 3, cells := 0, slots := 0, locals := 62 } : Room) ((o, oI "com/example/orthrus/orthrus/SignatureSet" sg_1 [(.long ms), (.ref a), (.int f), (.int (1 : Int32))]) :: (a, oJ xs) :: F) 0 0 24 #[.val (.ref o), .val (.long x), .second, .val (.int (0 : Int32))] [] (Q_c_add o a ms x hz f n xs F)
      refine wp_iload_n D_prog_8_m3_24 rfl ?_
      refine wp_ireturnN D_prog_8_m3_25 rfl (by simp) (by decide) (by decide) ?_
      subst h1
      exact ⟨_, 1, f, xs, rfl, rfl, pa_zero hT⟩
    · skip
      refine wp_iconst 1 D_prog_8_m3_13 (by decide) ?_
      refine wp_goto D_prog_8_m3_14 (pc'' := 18) ⟨by decide, by decide⟩ ?_
      refine wp_istore_n #[.val (.ref o), .val (.long x), .second, .val (.int (1 : Int32))] D_prog_8_m3_18 rfl ?_
      refine wp_aload_n D_prog_8_m3_19 rfl rfl ?_
      refine wp_iconst 1 D_prog_8_m3_20 (by decide) ?_
      refine wp_putfield (i := 0) (fi := 3) (ty := .boolean) D_prog_8_m3_21 (hw _ (List.mem_of_getElem? (i := 43) rfl)) rfl rfl rfl (Or.inl (hw _ (List.mem_of_getElem? (i := 44) rfl))) (hw _ (List.mem_of_getElem? (i := 1) rfl)) (by decide) rfl rfl ?_
      show Wp none l Z "com/example/orthrus/orthrus/SignatureSet" "add" prog_8_method_3_code 4 (some .boolean) ({ frames := 3, cells := 0, slots := 0, locals := 62 } : Room) ((o, oI "com/example/orthrus/orthrus/SignatureSet" sg_1 [(.long ms), (.ref a), (.int f), (.int (1 : Int32))]) :: (a, oJ xs) :: F) 0 0 24 #[.val (.ref o), .val (.long x), .second, .val (.int (1 : Int32))] [] (Q_c_add o a ms x hz f n xs F)
      refine wp_iload_n D_prog_8_m3_24 rfl ?_
      refine wp_ireturnN D_prog_8_m3_25 rfl (by simp) (by decide) (by decide) ?_
      subst h1
      exact ⟨_, 1, f, xs, rfl, rfl, pa_zero hT⟩
set_option maxRecDepth 65536 in
set_option maxHeartbeats 40000000 in
theorem lp_sh (l : Launch) (Z : State) (a0 : Array Value) (hw : ∀ d ∈ tables_1, d.before a0 Z = true) (o a : Addr) (ms x : Int64) (hz g n s : Int32) (xs : List Int64) (F : OH) (Q : Option Value → OH → Prop) (hn : 8 ≤ n.toInt ∧ n.toInt ≤ 15) (z : Nat) (hc : ∀ (t i : Int32) (ys : List Int64) (t6 : Slot), 0 ≤ t.toInt → t.toInt < n.toInt → 0 ≤ i.toInt → i.toInt < n.toInt → RI n.toNatClampNeg (HM n) xs x z ys t.toNatClampNeg i.toNatClampNeg → gj ys i.toNatClampNeg = 0 → (t6 = .unset ∨ ∃ u : Int32, t6 = .val (.int u)) → Wp none l Z "com/example/orthrus/orthrus/SignatureSet" "remove" prog_8_method_4_code 7 (some .boolean) ({ frames := 3, cells := 0, slots := 0, locals := 66 } : Room) ((o, oI "com/example/orthrus/orthrus/SignatureSet" sg_1 [(.long ms), (.ref a), (.int g), (.int hz)]) :: (a, oJ ys) :: F) 0 0 178 #[.val (.ref o), .val (.long x), .second, .val (.int s), .val (.int t), .val (.int i), t6] [] Q) :
    ∀ (d : Nat) (t i : Int32) (ys : List Int64) (t6 : Slot), 0 ≤ t.toInt → t.toInt < n.toInt → 0 ≤ i.toInt → i.toInt < n.toInt → RI n.toNatClampNeg (HM n) xs x z ys t.toNatClampNeg i.toNatClampNeg → (t6 = .unset ∨ ∃ u : Int32, t6 = .val (.int u)) → cd n.toNatClampNeg i.toNatClampNeg z = d → Wp none l Z "com/example/orthrus/orthrus/SignatureSet" "remove" prog_8_method_4_code 7 (some .boolean) ({ frames := 3, cells := 0, slots := 0, locals := 66 } : Room) ((o, oI "com/example/orthrus/orthrus/SignatureSet" sg_1 [(.long ms), (.ref a), (.int g), (.int hz)]) :: (a, oJ ys) :: F) 0 0 89 #[.val (.ref o), .val (.long x), .second, .val (.int s), .val (.int t), .val (.int i), t6] [] Q := by
  intro d
  induction d using Nat.strongRecOn with
  | _ d ih =>
  intro t i ys t6 ht0 ht1 hi0 hi1 hR h6 hd
  have hyl : ys.length = n.toNatClampNeg := hR.1.2.2.1
  have hyi : ys.length.toInt32 = n := by rw [hyl]; exact (back32 (own_i32 _ (by omega))).1
  rcases h6 with rfl | ⟨u, rfl⟩
  · skip
    refine wp_aload_n D_prog_8_m4_89 rfl rfl ?_
    refine wp_getfield D_prog_8_m4_90 (hw _ (List.mem_of_getElem? (i := 12) rfl)) (fld_new (i := 0) (fi := 1) rfl rfl rfl) ?_
    refine wp_iload D_prog_8_m4_93 rfl ?_
    refine wp_laload (i := 1) (i.toNatClampNeg) D_prog_8_m4_95 rfl (own_i32 _ hi0) rfl (own_gj ys _ (by have := own_cn i; have := own_cn n; omega)) ?_
    refine wp_lconst 0 D_prog_8_m4_96 (by decide) ?_
    refine wp_lcmp_eq D_prog_8_m4_97 D_prog_8_m4_98 (pc'' := 178) ⟨by decide, by decide⟩ (fun h1 => ?_) (fun h1 => ?_)
    · skip
      exact hc t i ys _ ht0 ht1 hi0 hi1 hR h1 (Or.inl rfl)
    · skip
      refine wp_aload_n D_prog_8_m4_101 rfl rfl ?_
      refine wp_getfield D_prog_8_m4_102 (hw _ (List.mem_of_getElem? (i := 12) rfl)) (fld_new (i := 0) (fi := 1) rfl rfl rfl) ?_
      refine wp_iload D_prog_8_m4_105 rfl ?_
      refine wp_laload (i := 1) (i.toNatClampNeg) D_prog_8_m4_107 rfl (own_i32 _ hi0) rfl (own_gj ys _ (by have := own_cn i; have := own_cn n; omega)) ?_
      refine wp_aload_n D_prog_8_m4_108 rfl rfl ?_
      refine wp_getfield D_prog_8_m4_109 (hw _ (List.mem_of_getElem? (i := 12) rfl)) (fld_new (i := 0) (fi := 1) rfl rfl rfl) ?_
      refine wp_lengthJ (i := 1) n D_prog_8_m4_112 rfl hyi ?_
      refine wp_callS (c_slot l Z a0 hw (gj ys i.toNatClampNeg) n ((o, oI "com/example/orthrus/orthrus/SignatureSet" sg_1 [(.long ms), (.ref a), (.int g), (.int hz)]) :: (a, oJ ys) :: F)) D_prog_8_m4_113 (hw _ (List.mem_of_getElem? (i := 19) rfl)) (hw _ (List.mem_of_getElem? (i := 20) rfl)) (hw _ (List.mem_of_getElem? (i := 2) rfl)) (hw _ (List.mem_of_getElem? (i := 21) rfl)) (by decide) pd_2 rfl rfl rfl (Nat.le_of_ble_eq_true rfl) (Nat.le_of_ble_eq_true rfl) (Nat.le_of_ble_eq_true rfl) (Nat.le_of_ble_eq_true rfl) ?_
      rintro _ _ ⟨rfl, rfl⟩
      show Wp none l Z "com/example/orthrus/orthrus/SignatureSet" "remove" prog_8_method_4_code 7 (some .boolean) ({ frames := 3, cells := 0, slots := 0, locals := 66 } : Room) ((o, oI "com/example/orthrus/orthrus/SignatureSet" sg_1 [(.long ms), (.ref a), (.int g), (.int hz)]) :: (a, oJ ys) :: F) 0 0 116 #[.val (.ref o), .val (.long x), .second, .val (.int s), .val (.int t), .val (.int i), .unset] [(.int (f_slot (f_mix (gj ys i.toNatClampNeg)) n))] Q
      refine wp_istore #[.val (.ref o), .val (.long x), .second, .val (.int s), .val (.int t), .val (.int i), .val (.int (f_slot (f_mix (gj ys i.toNatClampNeg)) n))] D_prog_8_m4_116 rfl ?_
      refine wp_iload D_prog_8_m4_118 rfl ?_
      refine wp_iload D_prog_8_m4_120 rfl ?_
      refine wp_aload_n D_prog_8_m4_122 rfl rfl ?_
      refine wp_getfield D_prog_8_m4_123 (hw _ (List.mem_of_getElem? (i := 12) rfl)) (fld_new (i := 0) (fi := 1) rfl rfl rfl) ?_
      refine wp_lengthJ (i := 1) n D_prog_8_m4_126 rfl hyi ?_
      refine wp_callS (c_dist l Z a0 hw (f_slot (f_mix (gj ys i.toNatClampNeg)) n) i n ((o, oI "com/example/orthrus/orthrus/SignatureSet" sg_1 [(.long ms), (.ref a), (.int g), (.int hz)]) :: (a, oJ ys) :: F)) D_prog_8_m4_127 (hw _ (List.mem_of_getElem? (i := 58) rfl)) (hw _ (List.mem_of_getElem? (i := 59) rfl)) (hw _ (List.mem_of_getElem? (i := 2) rfl)) (hw _ (List.mem_of_getElem? (i := 60) rfl)) (by decide) pd_6 rfl rfl rfl (Nat.le_of_ble_eq_true rfl) (Nat.le_of_ble_eq_true rfl) (Nat.le_of_ble_eq_true rfl) (Nat.le_of_ble_eq_true rfl) ?_
      rintro _ _ ⟨rfl, rfl⟩
      show Wp none l Z "com/example/orthrus/orthrus/SignatureSet" "remove" prog_8_method_4_code 7 (some .boolean) ({ frames := 3, cells := 0, slots := 0, locals := 66 } : Room) ((o, oI "com/example/orthrus/orthrus/SignatureSet" sg_1 [(.long ms), (.ref a), (.int g), (.int hz)]) :: (a, oJ ys) :: F) 0 0 130 #[.val (.ref o), .val (.long x), .second, .val (.int s), .val (.int t), .val (.int i), .val (.int (f_slot (f_mix (gj ys i.toNatClampNeg)) n))] [(.int (f_dist (f_slot (f_mix (gj ys i.toNatClampNeg)) n) i n))] Q
      refine wp_iload D_prog_8_m4_130 rfl ?_
      refine wp_iload D_prog_8_m4_132 rfl ?_
      refine wp_aload_n D_prog_8_m4_134 rfl rfl ?_
      refine wp_getfield D_prog_8_m4_135 (hw _ (List.mem_of_getElem? (i := 12) rfl)) (fld_new (i := 0) (fi := 1) rfl rfl rfl) ?_
      refine wp_lengthJ (i := 1) n D_prog_8_m4_138 rfl hyi ?_
      refine wp_callS (c_dist l Z a0 hw t i n ((o, oI "com/example/orthrus/orthrus/SignatureSet" sg_1 [(.long ms), (.ref a), (.int g), (.int hz)]) :: (a, oJ ys) :: F)) D_prog_8_m4_139 (hw _ (List.mem_of_getElem? (i := 58) rfl)) (hw _ (List.mem_of_getElem? (i := 59) rfl)) (hw _ (List.mem_of_getElem? (i := 2) rfl)) (hw _ (List.mem_of_getElem? (i := 60) rfl)) (by decide) pd_6 rfl rfl rfl (Nat.le_of_ble_eq_true rfl) (Nat.le_of_ble_eq_true rfl) (Nat.le_of_ble_eq_true rfl) (Nat.le_of_ble_eq_true rfl) ?_
      rintro _ _ ⟨rfl, rfl⟩
      show Wp none l Z "com/example/orthrus/orthrus/SignatureSet" "remove" prog_8_method_4_code 7 (some .boolean) ({ frames := 3, cells := 0, slots := 0, locals := 66 } : Room) ((o, oI "com/example/orthrus/orthrus/SignatureSet" sg_1 [(.long ms), (.ref a), (.int g), (.int hz)]) :: (a, oJ ys) :: F) 0 0 142 #[.val (.ref o), .val (.long x), .second, .val (.int s), .val (.int t), .val (.int i), .val (.int (f_slot (f_mix (gj ys i.toNatClampNeg)) n))] [(.int (f_dist t i n)), (.int (f_dist (f_slot (f_mix (gj ys i.toNatClampNeg)) n) i n))] Q
      refine wp_icmp_lt D_prog_8_m4_142 (pc'' := 163) ⟨by decide, by decide⟩ (fun h2 => ?_) (fun h2 => ?_)
      · skip
        refine wp_iload D_prog_8_m4_163 rfl ?_
        refine wp_aload_n D_prog_8_m4_165 rfl rfl ?_
        refine wp_getfield D_prog_8_m4_166 (hw _ (List.mem_of_getElem? (i := 12) rfl)) (fld_new (i := 0) (fi := 1) rfl rfl rfl) ?_
        refine wp_lengthJ (i := 1) n D_prog_8_m4_169 rfl hyi ?_
        refine wp_callS (c_next l Z a0 hw i n ((o, oI "com/example/orthrus/orthrus/SignatureSet" sg_1 [(.long ms), (.ref a), (.int g), (.int hz)]) :: (a, oJ ys) :: F)) D_prog_8_m4_170 (hw _ (List.mem_of_getElem? (i := 45) rfl)) (hw _ (List.mem_of_getElem? (i := 46) rfl)) (hw _ (List.mem_of_getElem? (i := 2) rfl)) (hw _ (List.mem_of_getElem? (i := 47) rfl)) (by decide) pd_5 rfl rfl rfl (Nat.le_of_ble_eq_true rfl) (Nat.le_of_ble_eq_true rfl) (Nat.le_of_ble_eq_true rfl) (Nat.le_of_ble_eq_true rfl) ?_
        rintro _ _ ⟨rfl, rfl⟩
        show Wp none l Z "com/example/orthrus/orthrus/SignatureSet" "remove" prog_8_method_4_code 7 (some .boolean) ({ frames := 3, cells := 0, slots := 0, locals := 66 } : Room) ((o, oI "com/example/orthrus/orthrus/SignatureSet" sg_1 [(.long ms), (.ref a), (.int g), (.int hz)]) :: (a, oJ ys) :: F) 0 0 173 #[.val (.ref o), .val (.long x), .second, .val (.int s), .val (.int t), .val (.int i), .val (.int (f_slot (f_mix (gj ys i.toNatClampNeg)) n))] [(.int (f_next i n))] Q
        refine wp_istore #[.val (.ref o), .val (.long x), .second, .val (.int s), .val (.int t), .val (.int (f_next i n)), .val (.int (f_slot (f_mix (gj ys i.toNatClampNeg)) n))] D_prog_8_m4_173 rfl ?_
        refine wp_goto D_prog_8_m4_175 (pc'' := 89) ⟨by decide, by decide⟩ ?_
        have hhm := own_slot (f_mix (gj ys i.toNatClampNeg)) n (by omega)
        have d1 := own_dist (f_slot (f_mix (gj ys i.toNatClampNeg)) n) i n hhm ⟨hi0, hi1⟩ hn.2
        have d2 := own_dist t i n ⟨ht0, ht1⟩ ⟨hi0, hi1⟩ hn.2
        have hlt := h2
        rw [Int32.lt_iff_toInt_lt, d1, d2] at hlt
        have hnx := own_next i n hi0 hi1
        have hnn := own_nx i n hi0 hi1
        have hM := ri_skip (hm_lt n hn) hR h1 (by exact_mod_cast hlt)
        exact ih _ (by rw [hnn, ← hd]; exact hM.2) t _ ys _ ht0 ht1 (by omega) (by omega) (by rw [hnn]; exact hM.1) (Or.inr ⟨_, rfl⟩) rfl
      · skip
        refine wp_aload_n D_prog_8_m4_145 rfl rfl ?_
        refine wp_getfield D_prog_8_m4_146 (hw _ (List.mem_of_getElem? (i := 12) rfl)) (fld_new (i := 0) (fi := 1) rfl rfl rfl) ?_
        refine wp_iload D_prog_8_m4_149 rfl ?_
        refine wp_aload_n D_prog_8_m4_151 rfl rfl ?_
        refine wp_getfield D_prog_8_m4_152 (hw _ (List.mem_of_getElem? (i := 12) rfl)) (fld_new (i := 0) (fi := 1) rfl rfl rfl) ?_
        refine wp_iload D_prog_8_m4_155 rfl ?_
        refine wp_laload (i := 1) (i.toNatClampNeg) D_prog_8_m4_157 rfl (own_i32 _ hi0) rfl (own_gj ys _ (by have := own_cn i; have := own_cn n; omega)) ?_
        refine wp_lastore (i := 1) (t.toNatClampNeg) D_prog_8_m4_158 rfl (own_i32 _ ht0) rfl (by have := own_cn t; have := own_cn n; omega) ?_
        show Wp none l Z "com/example/orthrus/orthrus/SignatureSet" "remove" prog_8_method_4_code 7 (some .boolean) ({ frames := 3, cells := 0, slots := 0, locals := 66 } : Room) ((o, oI "com/example/orthrus/orthrus/SignatureSet" sg_1 [(.long ms), (.ref a), (.int g), (.int hz)]) :: (a, oJ (ys.set (t.toNatClampNeg) (gj ys i.toNatClampNeg))) :: F) 0 0 159 #[.val (.ref o), .val (.long x), .second, .val (.int s), .val (.int t), .val (.int i), .val (.int (f_slot (f_mix (gj ys i.toNatClampNeg)) n))] [] Q
        refine wp_iload D_prog_8_m4_159 rfl ?_
        refine wp_istore #[.val (.ref o), .val (.long x), .second, .val (.int s), .val (.int i), .val (.int i), .val (.int (f_slot (f_mix (gj ys i.toNatClampNeg)) n))] D_prog_8_m4_161 rfl ?_
        refine wp_iload D_prog_8_m4_163 rfl ?_
        refine wp_aload_n D_prog_8_m4_165 rfl rfl ?_
        refine wp_getfield D_prog_8_m4_166 (hw _ (List.mem_of_getElem? (i := 12) rfl)) (fld_new (i := 0) (fi := 1) rfl rfl rfl) ?_
        refine wp_lengthJ (i := 1) n D_prog_8_m4_169 rfl (by simp only [List.length_set]; exact hyi) ?_
        refine wp_callS (c_next l Z a0 hw i n ((o, oI "com/example/orthrus/orthrus/SignatureSet" sg_1 [(.long ms), (.ref a), (.int g), (.int hz)]) :: (a, oJ (ys.set (t.toNatClampNeg) (gj ys i.toNatClampNeg))) :: F)) D_prog_8_m4_170 (hw _ (List.mem_of_getElem? (i := 45) rfl)) (hw _ (List.mem_of_getElem? (i := 46) rfl)) (hw _ (List.mem_of_getElem? (i := 2) rfl)) (hw _ (List.mem_of_getElem? (i := 47) rfl)) (by decide) pd_5 rfl rfl rfl (Nat.le_of_ble_eq_true rfl) (Nat.le_of_ble_eq_true rfl) (Nat.le_of_ble_eq_true rfl) (Nat.le_of_ble_eq_true rfl) ?_
        rintro _ _ ⟨rfl, rfl⟩
        show Wp none l Z "com/example/orthrus/orthrus/SignatureSet" "remove" prog_8_method_4_code 7 (some .boolean) ({ frames := 3, cells := 0, slots := 0, locals := 66 } : Room) ((o, oI "com/example/orthrus/orthrus/SignatureSet" sg_1 [(.long ms), (.ref a), (.int g), (.int hz)]) :: (a, oJ (ys.set (t.toNatClampNeg) (gj ys i.toNatClampNeg))) :: F) 0 0 173 #[.val (.ref o), .val (.long x), .second, .val (.int s), .val (.int i), .val (.int i), .val (.int (f_slot (f_mix (gj ys i.toNatClampNeg)) n))] [(.int (f_next i n))] Q
        refine wp_istore #[.val (.ref o), .val (.long x), .second, .val (.int s), .val (.int i), .val (.int (f_next i n)), .val (.int (f_slot (f_mix (gj ys i.toNatClampNeg)) n))] D_prog_8_m4_173 rfl ?_
        refine wp_goto D_prog_8_m4_175 (pc'' := 89) ⟨by decide, by decide⟩ ?_
        have hhm := own_slot (f_mix (gj ys i.toNatClampNeg)) n (by omega)
        have d1 := own_dist (f_slot (f_mix (gj ys i.toNatClampNeg)) n) i n hhm ⟨hi0, hi1⟩ hn.2
        have d2 := own_dist t i n ⟨ht0, ht1⟩ ⟨hi0, hi1⟩ hn.2
        have hlt := h2
        rw [Int32.lt_iff_toInt_lt, d1, d2] at hlt
        have hnx := own_next i n hi0 hi1
        have hnn := own_nx i n hi0 hi1
        have hM := ri_move (hm_lt n hn) hR h1 (by intro q; exact hlt (by exact_mod_cast q))
        exact ih _ (by rw [hnn, ← hd]; exact hM.2) i _ _ _ hi0 hi1 (by omega) (by omega) (by rw [hnn]; exact hM.1) (Or.inr ⟨_, rfl⟩) rfl
  · skip
    refine wp_aload_n D_prog_8_m4_89 rfl rfl ?_
    refine wp_getfield D_prog_8_m4_90 (hw _ (List.mem_of_getElem? (i := 12) rfl)) (fld_new (i := 0) (fi := 1) rfl rfl rfl) ?_
    refine wp_iload D_prog_8_m4_93 rfl ?_
    refine wp_laload (i := 1) (i.toNatClampNeg) D_prog_8_m4_95 rfl (own_i32 _ hi0) rfl (own_gj ys _ (by have := own_cn i; have := own_cn n; omega)) ?_
    refine wp_lconst 0 D_prog_8_m4_96 (by decide) ?_
    refine wp_lcmp_eq D_prog_8_m4_97 D_prog_8_m4_98 (pc'' := 178) ⟨by decide, by decide⟩ (fun h1 => ?_) (fun h1 => ?_)
    · skip
      exact hc t i ys _ ht0 ht1 hi0 hi1 hR h1 (Or.inr ⟨_, rfl⟩)
    · skip
      refine wp_aload_n D_prog_8_m4_101 rfl rfl ?_
      refine wp_getfield D_prog_8_m4_102 (hw _ (List.mem_of_getElem? (i := 12) rfl)) (fld_new (i := 0) (fi := 1) rfl rfl rfl) ?_
      refine wp_iload D_prog_8_m4_105 rfl ?_
      refine wp_laload (i := 1) (i.toNatClampNeg) D_prog_8_m4_107 rfl (own_i32 _ hi0) rfl (own_gj ys _ (by have := own_cn i; have := own_cn n; omega)) ?_
      refine wp_aload_n D_prog_8_m4_108 rfl rfl ?_
      refine wp_getfield D_prog_8_m4_109 (hw _ (List.mem_of_getElem? (i := 12) rfl)) (fld_new (i := 0) (fi := 1) rfl rfl rfl) ?_
      refine wp_lengthJ (i := 1) n D_prog_8_m4_112 rfl hyi ?_
      refine wp_callS (c_slot l Z a0 hw (gj ys i.toNatClampNeg) n ((o, oI "com/example/orthrus/orthrus/SignatureSet" sg_1 [(.long ms), (.ref a), (.int g), (.int hz)]) :: (a, oJ ys) :: F)) D_prog_8_m4_113 (hw _ (List.mem_of_getElem? (i := 19) rfl)) (hw _ (List.mem_of_getElem? (i := 20) rfl)) (hw _ (List.mem_of_getElem? (i := 2) rfl)) (hw _ (List.mem_of_getElem? (i := 21) rfl)) (by decide) pd_2 rfl rfl rfl (Nat.le_of_ble_eq_true rfl) (Nat.le_of_ble_eq_true rfl) (Nat.le_of_ble_eq_true rfl) (Nat.le_of_ble_eq_true rfl) ?_
      rintro _ _ ⟨rfl, rfl⟩
      show Wp none l Z "com/example/orthrus/orthrus/SignatureSet" "remove" prog_8_method_4_code 7 (some .boolean) ({ frames := 3, cells := 0, slots := 0, locals := 66 } : Room) ((o, oI "com/example/orthrus/orthrus/SignatureSet" sg_1 [(.long ms), (.ref a), (.int g), (.int hz)]) :: (a, oJ ys) :: F) 0 0 116 #[.val (.ref o), .val (.long x), .second, .val (.int s), .val (.int t), .val (.int i), .val (.int u)] [(.int (f_slot (f_mix (gj ys i.toNatClampNeg)) n))] Q
      refine wp_istore #[.val (.ref o), .val (.long x), .second, .val (.int s), .val (.int t), .val (.int i), .val (.int (f_slot (f_mix (gj ys i.toNatClampNeg)) n))] D_prog_8_m4_116 rfl ?_
      refine wp_iload D_prog_8_m4_118 rfl ?_
      refine wp_iload D_prog_8_m4_120 rfl ?_
      refine wp_aload_n D_prog_8_m4_122 rfl rfl ?_
      refine wp_getfield D_prog_8_m4_123 (hw _ (List.mem_of_getElem? (i := 12) rfl)) (fld_new (i := 0) (fi := 1) rfl rfl rfl) ?_
      refine wp_lengthJ (i := 1) n D_prog_8_m4_126 rfl hyi ?_
      refine wp_callS (c_dist l Z a0 hw (f_slot (f_mix (gj ys i.toNatClampNeg)) n) i n ((o, oI "com/example/orthrus/orthrus/SignatureSet" sg_1 [(.long ms), (.ref a), (.int g), (.int hz)]) :: (a, oJ ys) :: F)) D_prog_8_m4_127 (hw _ (List.mem_of_getElem? (i := 58) rfl)) (hw _ (List.mem_of_getElem? (i := 59) rfl)) (hw _ (List.mem_of_getElem? (i := 2) rfl)) (hw _ (List.mem_of_getElem? (i := 60) rfl)) (by decide) pd_6 rfl rfl rfl (Nat.le_of_ble_eq_true rfl) (Nat.le_of_ble_eq_true rfl) (Nat.le_of_ble_eq_true rfl) (Nat.le_of_ble_eq_true rfl) ?_
      rintro _ _ ⟨rfl, rfl⟩
      show Wp none l Z "com/example/orthrus/orthrus/SignatureSet" "remove" prog_8_method_4_code 7 (some .boolean) ({ frames := 3, cells := 0, slots := 0, locals := 66 } : Room) ((o, oI "com/example/orthrus/orthrus/SignatureSet" sg_1 [(.long ms), (.ref a), (.int g), (.int hz)]) :: (a, oJ ys) :: F) 0 0 130 #[.val (.ref o), .val (.long x), .second, .val (.int s), .val (.int t), .val (.int i), .val (.int (f_slot (f_mix (gj ys i.toNatClampNeg)) n))] [(.int (f_dist (f_slot (f_mix (gj ys i.toNatClampNeg)) n) i n))] Q
      refine wp_iload D_prog_8_m4_130 rfl ?_
      refine wp_iload D_prog_8_m4_132 rfl ?_
      refine wp_aload_n D_prog_8_m4_134 rfl rfl ?_
      refine wp_getfield D_prog_8_m4_135 (hw _ (List.mem_of_getElem? (i := 12) rfl)) (fld_new (i := 0) (fi := 1) rfl rfl rfl) ?_
      refine wp_lengthJ (i := 1) n D_prog_8_m4_138 rfl hyi ?_
      refine wp_callS (c_dist l Z a0 hw t i n ((o, oI "com/example/orthrus/orthrus/SignatureSet" sg_1 [(.long ms), (.ref a), (.int g), (.int hz)]) :: (a, oJ ys) :: F)) D_prog_8_m4_139 (hw _ (List.mem_of_getElem? (i := 58) rfl)) (hw _ (List.mem_of_getElem? (i := 59) rfl)) (hw _ (List.mem_of_getElem? (i := 2) rfl)) (hw _ (List.mem_of_getElem? (i := 60) rfl)) (by decide) pd_6 rfl rfl rfl (Nat.le_of_ble_eq_true rfl) (Nat.le_of_ble_eq_true rfl) (Nat.le_of_ble_eq_true rfl) (Nat.le_of_ble_eq_true rfl) ?_
      rintro _ _ ⟨rfl, rfl⟩
      show Wp none l Z "com/example/orthrus/orthrus/SignatureSet" "remove" prog_8_method_4_code 7 (some .boolean) ({ frames := 3, cells := 0, slots := 0, locals := 66 } : Room) ((o, oI "com/example/orthrus/orthrus/SignatureSet" sg_1 [(.long ms), (.ref a), (.int g), (.int hz)]) :: (a, oJ ys) :: F) 0 0 142 #[.val (.ref o), .val (.long x), .second, .val (.int s), .val (.int t), .val (.int i), .val (.int (f_slot (f_mix (gj ys i.toNatClampNeg)) n))] [(.int (f_dist t i n)), (.int (f_dist (f_slot (f_mix (gj ys i.toNatClampNeg)) n) i n))] Q
      refine wp_icmp_lt D_prog_8_m4_142 (pc'' := 163) ⟨by decide, by decide⟩ (fun h2 => ?_) (fun h2 => ?_)
      · skip
        refine wp_iload D_prog_8_m4_163 rfl ?_
        refine wp_aload_n D_prog_8_m4_165 rfl rfl ?_
        refine wp_getfield D_prog_8_m4_166 (hw _ (List.mem_of_getElem? (i := 12) rfl)) (fld_new (i := 0) (fi := 1) rfl rfl rfl) ?_
        refine wp_lengthJ (i := 1) n D_prog_8_m4_169 rfl hyi ?_
        refine wp_callS (c_next l Z a0 hw i n ((o, oI "com/example/orthrus/orthrus/SignatureSet" sg_1 [(.long ms), (.ref a), (.int g), (.int hz)]) :: (a, oJ ys) :: F)) D_prog_8_m4_170 (hw _ (List.mem_of_getElem? (i := 45) rfl)) (hw _ (List.mem_of_getElem? (i := 46) rfl)) (hw _ (List.mem_of_getElem? (i := 2) rfl)) (hw _ (List.mem_of_getElem? (i := 47) rfl)) (by decide) pd_5 rfl rfl rfl (Nat.le_of_ble_eq_true rfl) (Nat.le_of_ble_eq_true rfl) (Nat.le_of_ble_eq_true rfl) (Nat.le_of_ble_eq_true rfl) ?_
        rintro _ _ ⟨rfl, rfl⟩
        show Wp none l Z "com/example/orthrus/orthrus/SignatureSet" "remove" prog_8_method_4_code 7 (some .boolean) ({ frames := 3, cells := 0, slots := 0, locals := 66 } : Room) ((o, oI "com/example/orthrus/orthrus/SignatureSet" sg_1 [(.long ms), (.ref a), (.int g), (.int hz)]) :: (a, oJ ys) :: F) 0 0 173 #[.val (.ref o), .val (.long x), .second, .val (.int s), .val (.int t), .val (.int i), .val (.int (f_slot (f_mix (gj ys i.toNatClampNeg)) n))] [(.int (f_next i n))] Q
        refine wp_istore #[.val (.ref o), .val (.long x), .second, .val (.int s), .val (.int t), .val (.int (f_next i n)), .val (.int (f_slot (f_mix (gj ys i.toNatClampNeg)) n))] D_prog_8_m4_173 rfl ?_
        refine wp_goto D_prog_8_m4_175 (pc'' := 89) ⟨by decide, by decide⟩ ?_
        have hhm := own_slot (f_mix (gj ys i.toNatClampNeg)) n (by omega)
        have d1 := own_dist (f_slot (f_mix (gj ys i.toNatClampNeg)) n) i n hhm ⟨hi0, hi1⟩ hn.2
        have d2 := own_dist t i n ⟨ht0, ht1⟩ ⟨hi0, hi1⟩ hn.2
        have hlt := h2
        rw [Int32.lt_iff_toInt_lt, d1, d2] at hlt
        have hnx := own_next i n hi0 hi1
        have hnn := own_nx i n hi0 hi1
        have hM := ri_skip (hm_lt n hn) hR h1 (by exact_mod_cast hlt)
        exact ih _ (by rw [hnn, ← hd]; exact hM.2) t _ ys _ ht0 ht1 (by omega) (by omega) (by rw [hnn]; exact hM.1) (Or.inr ⟨_, rfl⟩) rfl
      · skip
        refine wp_aload_n D_prog_8_m4_145 rfl rfl ?_
        refine wp_getfield D_prog_8_m4_146 (hw _ (List.mem_of_getElem? (i := 12) rfl)) (fld_new (i := 0) (fi := 1) rfl rfl rfl) ?_
        refine wp_iload D_prog_8_m4_149 rfl ?_
        refine wp_aload_n D_prog_8_m4_151 rfl rfl ?_
        refine wp_getfield D_prog_8_m4_152 (hw _ (List.mem_of_getElem? (i := 12) rfl)) (fld_new (i := 0) (fi := 1) rfl rfl rfl) ?_
        refine wp_iload D_prog_8_m4_155 rfl ?_
        refine wp_laload (i := 1) (i.toNatClampNeg) D_prog_8_m4_157 rfl (own_i32 _ hi0) rfl (own_gj ys _ (by have := own_cn i; have := own_cn n; omega)) ?_
        refine wp_lastore (i := 1) (t.toNatClampNeg) D_prog_8_m4_158 rfl (own_i32 _ ht0) rfl (by have := own_cn t; have := own_cn n; omega) ?_
        show Wp none l Z "com/example/orthrus/orthrus/SignatureSet" "remove" prog_8_method_4_code 7 (some .boolean) ({ frames := 3, cells := 0, slots := 0, locals := 66 } : Room) ((o, oI "com/example/orthrus/orthrus/SignatureSet" sg_1 [(.long ms), (.ref a), (.int g), (.int hz)]) :: (a, oJ (ys.set (t.toNatClampNeg) (gj ys i.toNatClampNeg))) :: F) 0 0 159 #[.val (.ref o), .val (.long x), .second, .val (.int s), .val (.int t), .val (.int i), .val (.int (f_slot (f_mix (gj ys i.toNatClampNeg)) n))] [] Q
        refine wp_iload D_prog_8_m4_159 rfl ?_
        refine wp_istore #[.val (.ref o), .val (.long x), .second, .val (.int s), .val (.int i), .val (.int i), .val (.int (f_slot (f_mix (gj ys i.toNatClampNeg)) n))] D_prog_8_m4_161 rfl ?_
        refine wp_iload D_prog_8_m4_163 rfl ?_
        refine wp_aload_n D_prog_8_m4_165 rfl rfl ?_
        refine wp_getfield D_prog_8_m4_166 (hw _ (List.mem_of_getElem? (i := 12) rfl)) (fld_new (i := 0) (fi := 1) rfl rfl rfl) ?_
        refine wp_lengthJ (i := 1) n D_prog_8_m4_169 rfl (by simp only [List.length_set]; exact hyi) ?_
        refine wp_callS (c_next l Z a0 hw i n ((o, oI "com/example/orthrus/orthrus/SignatureSet" sg_1 [(.long ms), (.ref a), (.int g), (.int hz)]) :: (a, oJ (ys.set (t.toNatClampNeg) (gj ys i.toNatClampNeg))) :: F)) D_prog_8_m4_170 (hw _ (List.mem_of_getElem? (i := 45) rfl)) (hw _ (List.mem_of_getElem? (i := 46) rfl)) (hw _ (List.mem_of_getElem? (i := 2) rfl)) (hw _ (List.mem_of_getElem? (i := 47) rfl)) (by decide) pd_5 rfl rfl rfl (Nat.le_of_ble_eq_true rfl) (Nat.le_of_ble_eq_true rfl) (Nat.le_of_ble_eq_true rfl) (Nat.le_of_ble_eq_true rfl) ?_
        rintro _ _ ⟨rfl, rfl⟩
        show Wp none l Z "com/example/orthrus/orthrus/SignatureSet" "remove" prog_8_method_4_code 7 (some .boolean) ({ frames := 3, cells := 0, slots := 0, locals := 66 } : Room) ((o, oI "com/example/orthrus/orthrus/SignatureSet" sg_1 [(.long ms), (.ref a), (.int g), (.int hz)]) :: (a, oJ (ys.set (t.toNatClampNeg) (gj ys i.toNatClampNeg))) :: F) 0 0 173 #[.val (.ref o), .val (.long x), .second, .val (.int s), .val (.int i), .val (.int i), .val (.int (f_slot (f_mix (gj ys i.toNatClampNeg)) n))] [(.int (f_next i n))] Q
        refine wp_istore #[.val (.ref o), .val (.long x), .second, .val (.int s), .val (.int i), .val (.int (f_next i n)), .val (.int (f_slot (f_mix (gj ys i.toNatClampNeg)) n))] D_prog_8_m4_173 rfl ?_
        refine wp_goto D_prog_8_m4_175 (pc'' := 89) ⟨by decide, by decide⟩ ?_
        have hhm := own_slot (f_mix (gj ys i.toNatClampNeg)) n (by omega)
        have d1 := own_dist (f_slot (f_mix (gj ys i.toNatClampNeg)) n) i n hhm ⟨hi0, hi1⟩ hn.2
        have d2 := own_dist t i n ⟨ht0, ht1⟩ ⟨hi0, hi1⟩ hn.2
        have hlt := h2
        rw [Int32.lt_iff_toInt_lt, d1, d2] at hlt
        have hnx := own_next i n hi0 hi1
        have hnn := own_nx i n hi0 hi1
        have hM := ri_move (hm_lt n hn) hR h1 (by intro q; exact hlt (by exact_mod_cast q))
        exact ih _ (by rw [hnn, ← hd]; exact hM.2) i _ _ _ hi0 hi1 (by omega) (by omega) (by rw [hnn]; exact hM.1) (Or.inr ⟨_, rfl⟩) rfl
def Q_c_rem (o a : Addr) (ms x : Int64) (hz f n : Int32) (xs : List Int64) (F : OH) : Option Value → OH → Prop := fun v H' => ∃ r hz' f' xs', v = some (.int r) ∧ H' = (o, oI "com/example/orthrus/orthrus/SignatureSet" sg_1 [(.long ms), (.ref a), (.int f'), (.int hz')]) :: (a, oJ xs') :: F ∧ PR n x hz f xs hz' f' xs'
set_option maxRecDepth 65536 in
set_option maxHeartbeats 40000000 in
theorem c_rem (l : Launch) (Z : State) (a0 : Array Value) (hw : ∀ d ∈ tables_1, d.before a0 Z = true) (o a : Addr) (ms x : Int64) (hz f n : Int32) (xs : List Int64) (F : OH)  (hl : xs.length.toInt32 = n) (hL : xs.length = n.toNatClampNeg) (hn : 8 ≤ n.toInt ∧ n.toInt ≤ 15) (hf : 0 ≤ f.toInt ∧ f.toInt ≤ 5) (hT : TB n f hz xs) :
    Met l Z (⟨"com/example/orthrus/orthrus/SignatureSet", "remove", "(J)Z"⟩ : MethodName) prog_8_method_4_code 7 (some .boolean) ({ frames := 3, cells := 0, slots := 0, locals := 66 } : Room) [(.ref o), (.long x)] ((o, oI "com/example/orthrus/orthrus/SignatureSet" sg_1 [(.long ms), (.ref a), (.int f), (.int hz)]) :: (a, oJ xs) :: F) (Q_c_rem o a ms x hz f n xs F) := by
  refine Met.of_wp (Ls := #[.val (.ref o), .val (.long x), .second, .unset, .unset, .unset, .unset]) pn_10 (fun m => (entry_loc m _ _).trans rfl) ?_
  show Wp none l Z "com/example/orthrus/orthrus/SignatureSet" "remove" prog_8_method_4_code 7 (some .boolean) ({ frames := 3, cells := 0, slots := 0, locals := 66 } : Room) ((o, oI "com/example/orthrus/orthrus/SignatureSet" sg_1 [(.long ms), (.ref a), (.int f), (.int hz)]) :: (a, oJ xs) :: F) 0 0 0 #[.val (.ref o), .val (.long x), .second, .unset, .unset, .unset, .unset] [] (Q_c_rem o a ms x hz f n xs F)
  refine wp_lload_n D_prog_8_m4_0 rfl ?_
  refine wp_lconst 0 D_prog_8_m4_1 (by decide) ?_
  refine wp_lcmp_ne D_prog_8_m4_2 D_prog_8_m4_3 (pc'' := 18) ⟨by decide, by decide⟩ (fun h1 => ?_) (fun h1 => ?_)
  · skip
    refine wp_lload_n D_prog_8_m4_18 rfl ?_
    refine wp_aload_n D_prog_8_m4_19 rfl rfl ?_
    refine wp_getfield D_prog_8_m4_20 (hw _ (List.mem_of_getElem? (i := 12) rfl)) (fld_new (i := 0) (fi := 1) rfl rfl rfl) ?_
    refine wp_lengthJ (i := 1) n D_prog_8_m4_23 rfl hl ?_
    refine wp_callS (c_slot l Z a0 hw x n ((o, oI "com/example/orthrus/orthrus/SignatureSet" sg_1 [(.long ms), (.ref a), (.int f), (.int hz)]) :: (a, oJ xs) :: F)) D_prog_8_m4_24 (hw _ (List.mem_of_getElem? (i := 19) rfl)) (hw _ (List.mem_of_getElem? (i := 20) rfl)) (hw _ (List.mem_of_getElem? (i := 2) rfl)) (hw _ (List.mem_of_getElem? (i := 21) rfl)) (by decide) pd_2 rfl rfl rfl (Nat.le_of_ble_eq_true rfl) (Nat.le_of_ble_eq_true rfl) (Nat.le_of_ble_eq_true rfl) (Nat.le_of_ble_eq_true rfl) ?_
    rintro _ _ ⟨rfl, rfl⟩
    show Wp none l Z "com/example/orthrus/orthrus/SignatureSet" "remove" prog_8_method_4_code 7 (some .boolean) ({ frames := 3, cells := 0, slots := 0, locals := 66 } : Room) ((o, oI "com/example/orthrus/orthrus/SignatureSet" sg_1 [(.long ms), (.ref a), (.int f), (.int hz)]) :: (a, oJ xs) :: F) 0 0 27 #[.val (.ref o), .val (.long x), .second, .unset, .unset, .unset, .unset] [(.int (f_slot (f_mix x) n))] (Q_c_rem o a ms x hz f n xs F)
    generalize hg_x2 : (f_slot (f_mix x) n) = x2
    refine wp_istore_n #[.val (.ref o), .val (.long x), .second, .val (.int x2), .unset, .unset, .unset] D_prog_8_m4_27 rfl ?_
    have hN : n.toNatClampNeg = n.toInt := by simp only [Int32.toNatClampNeg]; omega
    obtain ⟨z, hz1, hz0⟩ := nz_zero xs (by have := hT.2.2.2.1; omega)
    have hz0 : gj xs z = 0 := Option.some.inj ((own_gj xs z hz1).symm.trans hz0)
    rw [hL] at hz1
    have hs_x := own_slot (f_mix x) n (by omega)
    have hs_h : x2.toNatClampNeg = HM n x := by rw [← hg_x2]; rfl
    rw [hg_x2] at hs_x
    refine lp_fr l Z a0 hw o a ms x hz f n xs F _ hl hL hn z hz1 hz0 (fun s hq0 hq1 hv hW => ?_) (fun s hq0 hq1 hv => ?_) _ x2 hs_x.1 hs_x.2 (by rw [hs_h]; exact own_w0 n x xs hn) rfl
    · skip
      show Wp none l Z "com/example/orthrus/orthrus/SignatureSet" "remove" prog_8_method_4_code 7 (some .boolean) ({ frames := 3, cells := 0, slots := 0, locals := 66 } : Room) ((o, oI "com/example/orthrus/orthrus/SignatureSet" sg_1 [(.long ms), (.ref a), (.int f), (.int hz)]) :: (a, oJ xs) :: F) 0 0 50 #[.val (.ref o), .val (.long x), .second, .val (.int s), .unset, .unset, .unset] [] (Q_c_rem o a ms x hz f n xs F)
      refine wp_iconst 0 D_prog_8_m4_50 (by decide) ?_
      refine wp_ireturnN D_prog_8_m4_51 rfl (by simp) (by decide) (by decide) ?_
      exact ⟨_, hz, f, xs, rfl, rfl, pr_none hn hT h1 (by have := own_cn s; have := own_cn n; omega) hv hW⟩
    · skip
      show Wp none l Z "com/example/orthrus/orthrus/SignatureSet" "remove" prog_8_method_4_code 7 (some .boolean) ({ frames := 3, cells := 0, slots := 0, locals := 66 } : Room) ((o, oI "com/example/orthrus/orthrus/SignatureSet" sg_1 [(.long ms), (.ref a), (.int f), (.int hz)]) :: (a, oJ xs) :: F) 0 0 65 #[.val (.ref o), .val (.long x), .second, .val (.int s), .unset, .unset, .unset] [] (Q_c_rem o a ms x hz f n xs F)
      refine wp_aload_n D_prog_8_m4_65 rfl rfl ?_
      refine wp_dup D_prog_8_m4_66 rfl ?_
      refine wp_getfield D_prog_8_m4_67 (hw _ (List.mem_of_getElem? (i := 41) rfl)) (fld_new (i := 0) (fi := 2) rfl rfl rfl) ?_
      refine wp_iconst 1 D_prog_8_m4_70 (by decide) ?_
      refine wp_isub D_prog_8_m4_71 ?_
      refine wp_putfield (i := 0) (fi := 2) (ty := .int) D_prog_8_m4_72 (hw _ (List.mem_of_getElem? (i := 41) rfl)) rfl rfl rfl (Or.inl (hw _ (List.mem_of_getElem? (i := 42) rfl))) (hw _ (List.mem_of_getElem? (i := 1) rfl)) (by decide) rfl rfl ?_
      show Wp none l Z "com/example/orthrus/orthrus/SignatureSet" "remove" prog_8_method_4_code 7 (some .boolean) ({ frames := 3, cells := 0, slots := 0, locals := 66 } : Room) ((o, oI "com/example/orthrus/orthrus/SignatureSet" sg_1 [(.long ms), (.ref a), (.int (f - (1 : Int32))), (.int hz)]) :: (a, oJ xs) :: F) 0 0 75 #[.val (.ref o), .val (.long x), .second, .val (.int s), .unset, .unset, .unset] [] (Q_c_rem o a ms x hz f n xs F)
      refine wp_iload_n D_prog_8_m4_75 rfl ?_
      refine wp_istore #[.val (.ref o), .val (.long x), .second, .val (.int s), .val (.int s), .unset, .unset] D_prog_8_m4_76 rfl ?_
      refine wp_iload_n D_prog_8_m4_78 rfl ?_
      refine wp_aload_n D_prog_8_m4_79 rfl rfl ?_
      refine wp_getfield D_prog_8_m4_80 (hw _ (List.mem_of_getElem? (i := 12) rfl)) (fld_new (i := 0) (fi := 1) rfl rfl rfl) ?_
      refine wp_lengthJ (i := 1) n D_prog_8_m4_83 rfl hl ?_
      refine wp_callS (c_next l Z a0 hw s n ((o, oI "com/example/orthrus/orthrus/SignatureSet" sg_1 [(.long ms), (.ref a), (.int (f - (1 : Int32))), (.int hz)]) :: (a, oJ xs) :: F)) D_prog_8_m4_84 (hw _ (List.mem_of_getElem? (i := 45) rfl)) (hw _ (List.mem_of_getElem? (i := 46) rfl)) (hw _ (List.mem_of_getElem? (i := 2) rfl)) (hw _ (List.mem_of_getElem? (i := 47) rfl)) (by decide) pd_5 rfl rfl rfl (Nat.le_of_ble_eq_true rfl) (Nat.le_of_ble_eq_true rfl) (Nat.le_of_ble_eq_true rfl) (Nat.le_of_ble_eq_true rfl) ?_
      rintro _ _ ⟨rfl, rfl⟩
      show Wp none l Z "com/example/orthrus/orthrus/SignatureSet" "remove" prog_8_method_4_code 7 (some .boolean) ({ frames := 3, cells := 0, slots := 0, locals := 66 } : Room) ((o, oI "com/example/orthrus/orthrus/SignatureSet" sg_1 [(.long ms), (.ref a), (.int (f - (1 : Int32))), (.int hz)]) :: (a, oJ xs) :: F) 0 0 87 #[.val (.ref o), .val (.long x), .second, .val (.int s), .val (.int s), .unset, .unset] [(.int (f_next s n))] (Q_c_rem o a ms x hz f n xs F)
      generalize hg_x3 : (f_next s n) = x3
      refine wp_istore #[.val (.ref o), .val (.long x), .second, .val (.int s), .val (.int s), .val (.int x3), .unset] D_prog_8_m4_87 rfl ?_
      have hnx := own_next s n hq0 hq1
      have hnn := own_nx s n hq0 hq1
      have hx0 := h1
      have hR0 := ri_start (hm := HM n) hL hT.2.1 hT.2.2.1 hx0 (s := s.toNatClampNeg) (by have := own_cn s; have := own_cn n; omega) hv hz1 hz0
      rw [← hnn, hg_x3] at hR0
      rw [hg_x3] at hnx
      refine lp_sh l Z a0 hw o a ms x hz (f - (1 : Int32)) n s xs F _ hn z (fun t i ys t6 ht0 ht1 hi0 hi1 hR hv0 h6 => ?_) _ s x3 xs _ hq0 hq1 (by omega) (by omega) hR0 (Or.inl rfl) rfl
      have hyl : ys.length = n.toNatClampNeg := hR.1.2.2.1
      rcases h6 with rfl | ⟨u, rfl⟩
      · skip
        show Wp none l Z "com/example/orthrus/orthrus/SignatureSet" "remove" prog_8_method_4_code 7 (some .boolean) ({ frames := 3, cells := 0, slots := 0, locals := 66 } : Room) ((o, oI "com/example/orthrus/orthrus/SignatureSet" sg_1 [(.long ms), (.ref a), (.int (f - (1 : Int32))), (.int hz)]) :: (a, oJ ys) :: F) 0 0 178 #[.val (.ref o), .val (.long x), .second, .val (.int s), .val (.int t), .val (.int i), .unset] [] (Q_c_rem o a ms x hz f n xs F)
        refine wp_aload_n D_prog_8_m4_178 rfl rfl ?_
        refine wp_getfield D_prog_8_m4_179 (hw _ (List.mem_of_getElem? (i := 12) rfl)) (fld_new (i := 0) (fi := 1) rfl rfl rfl) ?_
        refine wp_iload D_prog_8_m4_182 rfl ?_
        refine wp_lconst 0 D_prog_8_m4_184 (by decide) ?_
        refine wp_lastore (i := 1) (t.toNatClampNeg) D_prog_8_m4_185 rfl (own_i32 _ (by first | exact hq0 | exact ht0)) rfl (by have := own_cn t; have := own_cn n; omega) ?_
        show Wp none l Z "com/example/orthrus/orthrus/SignatureSet" "remove" prog_8_method_4_code 7 (some .boolean) ({ frames := 3, cells := 0, slots := 0, locals := 66 } : Room) ((o, oI "com/example/orthrus/orthrus/SignatureSet" sg_1 [(.long ms), (.ref a), (.int (f - (1 : Int32))), (.int hz)]) :: (a, oJ (ys.set (t.toNatClampNeg) (0 : Int64))) :: F) 0 0 186 #[.val (.ref o), .val (.long x), .second, .val (.int s), .val (.int t), .val (.int i), .unset] [] (Q_c_rem o a ms x hz f n xs F)
        refine wp_iconst 1 D_prog_8_m4_186 (by decide) ?_
        refine wp_ireturnN D_prog_8_m4_187 rfl (by simp) (by decide) (by decide) ?_
        exact ⟨_, hz, _, _, rfl, rfl, pr_found hn hT h1 ⟨_, (by have := own_cn s; have := own_cn n; omega), hv⟩ hR hv0⟩
      · skip
        show Wp none l Z "com/example/orthrus/orthrus/SignatureSet" "remove" prog_8_method_4_code 7 (some .boolean) ({ frames := 3, cells := 0, slots := 0, locals := 66 } : Room) ((o, oI "com/example/orthrus/orthrus/SignatureSet" sg_1 [(.long ms), (.ref a), (.int (f - (1 : Int32))), (.int hz)]) :: (a, oJ ys) :: F) 0 0 178 #[.val (.ref o), .val (.long x), .second, .val (.int s), .val (.int t), .val (.int i), .val (.int u)] [] (Q_c_rem o a ms x hz f n xs F)
        refine wp_aload_n D_prog_8_m4_178 rfl rfl ?_
        refine wp_getfield D_prog_8_m4_179 (hw _ (List.mem_of_getElem? (i := 12) rfl)) (fld_new (i := 0) (fi := 1) rfl rfl rfl) ?_
        refine wp_iload D_prog_8_m4_182 rfl ?_
        refine wp_lconst 0 D_prog_8_m4_184 (by decide) ?_
        refine wp_lastore (i := 1) (t.toNatClampNeg) D_prog_8_m4_185 rfl (own_i32 _ (by first | exact hq0 | exact ht0)) rfl (by have := own_cn t; have := own_cn n; omega) ?_
        show Wp none l Z "com/example/orthrus/orthrus/SignatureSet" "remove" prog_8_method_4_code 7 (some .boolean) ({ frames := 3, cells := 0, slots := 0, locals := 66 } : Room) ((o, oI "com/example/orthrus/orthrus/SignatureSet" sg_1 [(.long ms), (.ref a), (.int (f - (1 : Int32))), (.int hz)]) :: (a, oJ (ys.set (t.toNatClampNeg) (0 : Int64))) :: F) 0 0 186 #[.val (.ref o), .val (.long x), .second, .val (.int s), .val (.int t), .val (.int i), .val (.int u)] [] (Q_c_rem o a ms x hz f n xs F)
        refine wp_iconst 1 D_prog_8_m4_186 (by decide) ?_
        refine wp_ireturnN D_prog_8_m4_187 rfl (by simp) (by decide) (by decide) ?_
        exact ⟨_, hz, _, _, rfl, rfl, pr_found hn hT h1 ⟨_, (by have := own_cn s; have := own_cn n; omega), hv⟩ hR hv0⟩
  · skip
    refine wp_aload_n D_prog_8_m4_6 rfl rfl ?_
    refine wp_getfield D_prog_8_m4_7 (hw _ (List.mem_of_getElem? (i := 43) rfl)) (fld_new (i := 0) (fi := 3) rfl rfl rfl) ?_
    refine wp_istore_n #[.val (.ref o), .val (.long x), .second, .val (.int hz), .unset, .unset, .unset] D_prog_8_m4_10 rfl ?_
    refine wp_aload_n D_prog_8_m4_11 rfl rfl ?_
    refine wp_iconst 0 D_prog_8_m4_12 (by decide) ?_
    refine wp_putfield (i := 0) (fi := 3) (ty := .boolean) D_prog_8_m4_13 (hw _ (List.mem_of_getElem? (i := 43) rfl)) rfl rfl rfl (Or.inl (hw _ (List.mem_of_getElem? (i := 44) rfl))) (hw _ (List.mem_of_getElem? (i := 1) rfl)) (by decide) rfl rfl ?_
    show Wp none l Z "com/example/orthrus/orthrus/SignatureSet" "remove" prog_8_method_4_code 7 (some .boolean) ({ frames := 3, cells := 0, slots := 0, locals := 66 } : Room) ((o, oI "com/example/orthrus/orthrus/SignatureSet" sg_1 [(.long ms), (.ref a), (.int f), (.int (0 : Int32))]) :: (a, oJ xs) :: F) 0 0 16 #[.val (.ref o), .val (.long x), .second, .val (.int hz), .unset, .unset, .unset] [] (Q_c_rem o a ms x hz f n xs F)
    refine wp_iload_n D_prog_8_m4_16 rfl ?_
    refine wp_ireturnN D_prog_8_m4_17 rfl (by simp) (by decide) (by decide) ?_
    subst h1
    exact ⟨_, 0, f, xs, rfl, rfl, pr_zero hT⟩
theorem pn_11 : plainFor (⟨"com/example/orthrus/orthrus/SignatureSet", "<init>", "(IJ)V"⟩ : MethodName) = true := by first | exact plainFor_of_name (by first | (simp [plainName, overriddenIn]; done) | decide +kernel) | decide +kernel
theorem D_prog_8_m2_0 : Dc prog_8_method_2_code 0 (.aload_n 0) 1 1 := ⟨by decide +kernel, rfl⟩
theorem D_prog_8_m2_1 : Dc prog_8_method_2_code 1 (.invokespecial 11) 3 4 := ⟨by decide +kernel, rfl⟩
theorem D_prog_8_m2_4 : Dc prog_8_method_2_code 4 (.aload_n 0) 1 5 := ⟨by decide +kernel, rfl⟩
theorem D_prog_8_m2_5 : Dc prog_8_method_2_code 5 (.lload_n 2) 1 6 := ⟨by decide +kernel, rfl⟩
theorem D_prog_8_m2_6 : Dc prog_8_method_2_code 6 (.putfield 16) 3 9 := ⟨by decide +kernel, rfl⟩
theorem D_prog_8_m2_9 : Dc prog_8_method_2_code 9 (.aload_n 0) 1 10 := ⟨by decide +kernel, rfl⟩
theorem D_prog_8_m2_10 : Dc prog_8_method_2_code 10 (.iload_n 1) 1 11 := ⟨by decide +kernel, rfl⟩
theorem D_prog_8_m2_11 : Dc prog_8_method_2_code 11 (.newarray .long) 2 13 := ⟨by decide +kernel, rfl⟩
theorem D_prog_8_m2_13 : Dc prog_8_method_2_code 13 (.putfield 20) 3 16 := ⟨by decide +kernel, rfl⟩
theorem D_prog_8_m2_16 : Dc prog_8_method_2_code 16 (.return_) 1 17 := ⟨by decide +kernel, rfl⟩
def Q_c_new (o : Addr) (n : Int32) (ms : Int64) (F : OH) : Option Value → OH → Prop := fun v H' => v = none ∧ ∃ a, H' = (a, oJ (List.replicate n.toNatClampNeg 0)) :: (o, oI "com/example/orthrus/orthrus/SignatureSet" sg_1 [(.long ms), (.ref a), (.int (0 : Int32)), (.int (0 : Int32))]) :: F
set_option maxRecDepth 65536 in
set_option maxHeartbeats 40000000 in
theorem c_new (l : Launch) (Z : State) (a0 : Array Value) (hw : ∀ d ∈ tables_1, d.before a0 Z = true) (o : Addr) (n : Int32) (ms : Int64) (F : OH)  (hn : 8 ≤ n.toInt ∧ n.toInt ≤ 15) :
    Met l Z (⟨"com/example/orthrus/orthrus/SignatureSet", "<init>", "(IJ)V"⟩ : MethodName) prog_8_method_2_code 4 none ({ frames := 1, cells := 1, slots := 15, locals := 12 } : Room) [(.ref o), (.int n), (.long ms)] ((o, oI "com/example/orthrus/orthrus/SignatureSet" sg_1 [(.long (0 : Int64)), (.null), (.int (0 : Int32)), (.int (0 : Int32))]) :: F) (Q_c_new o n ms F) := by
  refine Met.of_wp (Ls := #[.val (.ref o), .val (.int n), .val (.long ms), .second]) pn_11 (fun m => (entry_loc m _ _).trans rfl) ?_
  show Wp none l Z "com/example/orthrus/orthrus/SignatureSet" "<init>" prog_8_method_2_code 4 none ({ frames := 1, cells := 1, slots := 15, locals := 12 } : Room) ((o, oI "com/example/orthrus/orthrus/SignatureSet" sg_1 [(.long (0 : Int64)), (.null), (.int (0 : Int32)), (.int (0 : Int32))]) :: F) 0 0 0 #[.val (.ref o), .val (.int n), .val (.long ms), .second] [] (Q_c_new o n ms F)
  refine wp_aload_n D_prog_8_m2_0 rfl rfl ?_
  refine wp_initO D_prog_8_m2_1 (hw _ (List.mem_of_getElem? (i := 6) rfl)) (hw _ (List.mem_of_getElem? (i := 7) rfl)) (hw _ (List.mem_of_getElem? (i := 8) rfl)) rfl (Nat.le_of_ble_eq_true rfl) (Nat.le_of_ble_eq_true rfl) ?_
  refine wp_aload_n D_prog_8_m2_4 rfl rfl ?_
  refine wp_lload_n D_prog_8_m2_5 rfl ?_
  refine wp_putfield (i := 0) (fi := 0) (ty := .long) D_prog_8_m2_6 (hw _ (List.mem_of_getElem? (i := 9) rfl)) rfl rfl rfl (Or.inl (hw _ (List.mem_of_getElem? (i := 10) rfl))) (hw _ (List.mem_of_getElem? (i := 1) rfl)) (by decide) rfl rfl ?_
  show Wp none l Z "com/example/orthrus/orthrus/SignatureSet" "<init>" prog_8_method_2_code 4 none ({ frames := 1, cells := 1, slots := 15, locals := 12 } : Room) ((o, oI "com/example/orthrus/orthrus/SignatureSet" sg_1 [(.long ms), (.null), (.int (0 : Int32)), (.int (0 : Int32))]) :: F) 0 0 9 #[.val (.ref o), .val (.int n), .val (.long ms), .second] [] (Q_c_new o n ms F)
  refine wp_aload_n D_prog_8_m2_9 rfl rfl ?_
  refine wp_iload_n D_prog_8_m2_10 rfl ?_
  refine wp_newarrayJ (n := n) (n.toNatClampNeg) 15 D_prog_8_m2_11 (hw _ (List.mem_of_getElem? (i := 11) rfl)) (own_i32 _ (by omega)) rfl (by simp only [Int32.toNatClampNeg]; omega) (by decide) (by decide) (by decide) ?_
  intro a1
  show Wp none l Z "com/example/orthrus/orthrus/SignatureSet" "<init>" prog_8_method_2_code 4 none ({ frames := 1, cells := 1, slots := 15, locals := 12 } : Room) ((a1, oJ (List.replicate (n.toNatClampNeg) 0)) :: (o, oI "com/example/orthrus/orthrus/SignatureSet" sg_1 [(.long ms), (.null), (.int (0 : Int32)), (.int (0 : Int32))]) :: F) 1 15 13 #[.val (.ref o), .val (.int n), .val (.long ms), .second] [(.ref a1), (.ref o)] (Q_c_new o n ms F)
  refine wp_putfield (i := 1) (fi := 1) (ty := (.array .long)) D_prog_8_m2_13 (hw _ (List.mem_of_getElem? (i := 12) rfl)) rfl rfl rfl (Or.inl (hw _ (List.mem_of_getElem? (i := 13) rfl))) (hw _ (List.mem_of_getElem? (i := 1) rfl)) (by decide) rfl rfl ?_
  show Wp none l Z "com/example/orthrus/orthrus/SignatureSet" "<init>" prog_8_method_2_code 4 none ({ frames := 1, cells := 1, slots := 15, locals := 12 } : Room) ((a1, oJ (List.replicate (n.toNatClampNeg) 0)) :: (o, oI "com/example/orthrus/orthrus/SignatureSet" sg_1 [(.long ms), (.ref a1), (.int (0 : Int32)), (.int (0 : Int32))]) :: F) 1 15 16 #[.val (.ref o), .val (.int n), .val (.long ms), .second] [] (Q_c_new o n ms F)
  refine wp_return D_prog_8_m2_16 rfl (by decide) (by decide) ?_
  exact ⟨rfl, _, rfl⟩
theorem own_a7 (a : Int32) : 8 ≤ ((8 : Int32) + (a &&& 7)).toInt ∧ ((8 : Int32) + (a &&& 7)).toInt ≤ 15 := by
  have h : (a &&& 7).toInt = a.toInt % 8 := c_mask a 7 3 (by decide) (by decide)
  rw [Int32.toInt_add]; simp only [Int32.reduceToInt]; rw [Int.bmod_eq_of_le] <;> omega
theorem own_size (n f hz : Int32) (xs : List Int64) (h : TB n f hz xs) (hf : f.toInt ≤ 10) : (f_size f hz).toInt = f.toInt + hz.toInt := by
  have h4 := h.2.2.2.1
  unfold f_size
  rw [Int32.toInt_toInt64]
  rcases h.2.2.2.2 with e | e <;> subst e
  · rw [if_pos rfl, Int32.toInt_add]; simp only [Int32.reduceToInt]; rw [Int.bmod_eq_of_le] <;> omega
  · rw [if_neg (by decide), Int32.toInt_add]; simp only [Int32.reduceToInt]; rw [Int.bmod_eq_of_le] <;> omega
theorem own_l1 (x : Int64) (h : 0 ≤ x.toInt ∧ x.toInt ≤ 100) : (x + 1).toInt = x.toInt + 1 := by rw [own_add64 _ _ (by simp only [Int64.reduceToInt]; omega)]; rfl
theorem own_lm (x : Int64) (h : 0 ≤ x.toInt ∧ x.toInt ≤ 100) : (x - 1).toInt = x.toInt - 1 := by
  rw [Int64.toInt_sub]; simp only [Int64.reduceToInt]; rw [Int.bmod_eq_of_le] <;> omega
theorem own_l0 (x : Int64) : x - 0 = x := Int64.sub_zero x
theorem own_s2 {A B c s1 s2 : Int} (hj : (B = A ∧ c = 1) ∨ (¬ B = A ∧ c = 2)) (hc : (B = A ∧ s2 = s1) ∨ (¬ B = A ∧ s2 = s1 + 1)) (h1 : s1 = 1) : s2 = c := by omega
theorem own_s3 {A B C' b c s1 s2 : Int} (hj : (C' = A ∧ c = b) ∨ (¬ C' = A ∧ C' = B ∧ c = b) ∨ (¬ C' = A ∧ ¬ C' = B ∧ c = b + 1)) (hc : ((C' = A ∨ C' = B) ∧ s2 = s1) ∨ (¬ (C' = A ∨ C' = B) ∧ s2 = s1 + 1)) (h1 : s1 = b) : s2 = c := by omega
theorem own_s4 {A B C' D b c s1 s2 : Int} (hj : (D = A ∧ c = b) ∨ (¬ D = A ∧ D = B ∧ c = b) ∨ (¬ D = A ∧ ¬ D = B ∧ D = C' ∧ c = b) ∨ (¬ D = A ∧ ¬ D = B ∧ ¬ D = C' ∧ c = b + 1)) (hc : (((D = A ∨ D = B) ∨ D = C') ∧ s2 = s1) ∨ (¬ ((D = A ∨ D = B) ∨ D = C') ∧ s2 = s1 + 1)) (h1 : s1 = b) : s2 = c := by omega
theorem own_s6 {A B C' D E k s1 s2 : Int} (hj : (E = B ∧ k = 0) ∨ (¬ E = B ∧ E = A ∧ k = 1) ∨ (¬ E = B ∧ ¬ E = A ∧ E = C' ∧ k = 1) ∨ (¬ E = B ∧ ¬ E = A ∧ ¬ E = C' ∧ ¬ E = D ∧ k = 0) ∨ (¬ E = B ∧ ¬ E = A ∧ ¬ E = C' ∧ E = D ∧ k = 1)) (hc : (((((E = A ∨ E = B) ∨ E = C') ∨ E = D) ∧ ¬ E = B) ∧ s2 + 1 = s1) ∨ (¬ ((((E = A ∨ E = B) ∨ E = C') ∨ E = D) ∧ ¬ E = B) ∧ s2 = s1)) : s2 + k = s1 ∧ 0 ≤ k ∧ k ≤ 1 := by omega
theorem pd_7 : parseMethodDescriptor "(IJ)V" = some ⟨[.int, .long], none⟩ := by decide +kernel
theorem pd_8 : parseMethodDescriptor "(J)Z" = some ⟨[.long], (some .boolean)⟩ := by decide +kernel
theorem pd_9 : parseMethodDescriptor "()J" = some ⟨[], (some .long)⟩ := by decide +kernel
theorem pn_12 : plainFor (⟨"com/example/orthrus/orthrus/SignatureSetSizePinLaw", "law", "(JJJI)Z"⟩ : MethodName) = true := by first | exact plainFor_of_name (by first | (simp [plainName, overriddenIn]; done) | decide +kernel) | decide +kernel
def Q_law : Option Value → OH → Prop := fun v H' => v = some (.int 1)
theorem D_0 : Dc code 0 (.bipush 8) 2 2 := ⟨at_0, rfl⟩
theorem D_2 : Dc code 2 (.iload 6) 2 4 := ⟨at_2, rfl⟩
theorem D_4 : Dc code 4 (.iconst 4) 1 5 := ⟨at_4, rfl⟩
theorem D_5 : Dc code 5 (.iushr) 1 6 := ⟨at_5, rfl⟩
theorem D_6 : Dc code 6 (.bipush 7) 2 8 := ⟨at_6, rfl⟩
theorem D_8 : Dc code 8 (.iand) 1 9 := ⟨at_8, rfl⟩
theorem D_9 : Dc code 9 (.iadd) 1 10 := ⟨at_9, rfl⟩
theorem D_10 : Dc code 10 (.istore 7) 2 12 := ⟨at_10, rfl⟩
theorem D_12 : Dc code 12 (.new 7) 3 15 := ⟨at_12, rfl⟩
theorem D_15 : Dc code 15 (.dup) 1 16 := ⟨at_15, rfl⟩
theorem D_16 : Dc code 16 (.iload 7) 2 18 := ⟨at_16, rfl⟩
theorem D_18 : Dc code 18 (.iload 7) 2 20 := ⟨at_18, rfl⟩
theorem D_20 : Dc code 20 (.i2l) 1 21 := ⟨at_20, rfl⟩
theorem D_21 : Dc code 21 (.invokespecial 9) 3 24 := ⟨at_21, rfl⟩
theorem D_24 : Dc code 24 (.astore 8) 2 26 := ⟨at_24, rfl⟩
theorem D_26 : Dc code 26 (.lload_n 0) 1 27 := ⟨at_26, rfl⟩
theorem D_27 : Dc code 27 (.lstore 9) 2 29 := ⟨at_27, rfl⟩
theorem D_29 : Dc code 29 (.iload 6) 2 31 := ⟨at_29, rfl⟩
theorem D_31 : Dc code 31 (.iconst 1) 1 32 := ⟨at_31, rfl⟩
theorem D_32 : Dc code 32 (.iand) 1 33 := ⟨at_32, rfl⟩
theorem D_33 : Dc code 33 (.ifCond .eq 7) 3 36 := ⟨at_33, rfl⟩
theorem D_36 : Dc code 36 (.lload_n 0) 1 37 := ⟨at_36, rfl⟩
theorem D_37 : Dc code 37 (.goto 4) 3 40 := ⟨at_37, rfl⟩
theorem D_40 : Dc code 40 (.lload_n 2) 1 41 := ⟨at_40, rfl⟩
theorem D_41 : Dc code 41 (.lstore 11) 2 43 := ⟨at_41, rfl⟩
theorem D_43 : Dc code 43 (.iload 6) 2 45 := ⟨at_43, rfl⟩
theorem D_45 : Dc code 45 (.iconst 2) 1 46 := ⟨at_45, rfl⟩
theorem D_46 : Dc code 46 (.iand) 1 47 := ⟨at_46, rfl⟩
theorem D_47 : Dc code 47 (.ifCond .eq 7) 3 50 := ⟨at_47, rfl⟩
theorem D_50 : Dc code 50 (.lconst 0) 1 51 := ⟨at_50, rfl⟩
theorem D_51 : Dc code 51 (.goto 5) 3 54 := ⟨at_51, rfl⟩
theorem D_54 : Dc code 54 (.lload 4) 2 56 := ⟨at_54, rfl⟩
theorem D_56 : Dc code 56 (.lstore 13) 2 58 := ⟨at_56, rfl⟩
theorem D_58 : Dc code 58 (.iload 6) 2 60 := ⟨at_58, rfl⟩
theorem D_60 : Dc code 60 (.iconst 4) 1 61 := ⟨at_60, rfl⟩
theorem D_61 : Dc code 61 (.iand) 1 62 := ⟨at_61, rfl⟩
theorem D_62 : Dc code 62 (.ifCond .eq 7) 3 65 := ⟨at_62, rfl⟩
theorem D_65 : Dc code 65 (.lload_n 2) 1 66 := ⟨at_65, rfl⟩
theorem D_66 : Dc code 66 (.goto 5) 3 69 := ⟨at_66, rfl⟩
theorem D_69 : Dc code 69 (.lload 4) 2 71 := ⟨at_69, rfl⟩
theorem D_71 : Dc code 71 (.lstore 15) 2 73 := ⟨at_71, rfl⟩
theorem D_73 : Dc code 73 (.iload 6) 2 75 := ⟨at_73, rfl⟩
theorem D_75 : Dc code 75 (.bipush 8) 2 77 := ⟨at_75, rfl⟩
theorem D_77 : Dc code 77 (.iand) 1 78 := ⟨at_77, rfl⟩
theorem D_78 : Dc code 78 (.ifCond .eq 8) 3 81 := ⟨at_78, rfl⟩
theorem D_81 : Dc code 81 (.lload 11) 2 83 := ⟨at_81, rfl⟩
theorem D_83 : Dc code 83 (.goto 4) 3 86 := ⟨at_83, rfl⟩
theorem D_86 : Dc code 86 (.lload_n 2) 1 87 := ⟨at_86, rfl⟩
theorem D_87 : Dc code 87 (.lstore 17) 2 89 := ⟨at_87, rfl⟩
theorem D_89 : Dc code 89 (.lconst 1) 1 90 := ⟨at_89, rfl⟩
theorem D_90 : Dc code 90 (.lstore 19) 2 92 := ⟨at_90, rfl⟩
theorem D_92 : Dc code 92 (.lload 11) 2 94 := ⟨at_92, rfl⟩
theorem D_94 : Dc code 94 (.lload 9) 2 96 := ⟨at_94, rfl⟩
theorem D_96 : Dc code 96 (.lcmp) 1 97 := ⟨at_96, rfl⟩
theorem D_97 : Dc code 97 (.ifCond .eq 9) 3 100 := ⟨at_97, rfl⟩
theorem D_100 : Dc code 100 (.lload 19) 2 102 := ⟨at_100, rfl⟩
theorem D_102 : Dc code 102 (.lconst 1) 1 103 := ⟨at_102, rfl⟩
theorem D_103 : Dc code 103 (.ladd) 1 104 := ⟨at_103, rfl⟩
theorem D_104 : Dc code 104 (.lstore 19) 2 106 := ⟨at_104, rfl⟩
theorem D_106 : Dc code 106 (.lload 13) 2 108 := ⟨at_106, rfl⟩
theorem D_108 : Dc code 108 (.lload 9) 2 110 := ⟨at_108, rfl⟩
theorem D_110 : Dc code 110 (.lcmp) 1 111 := ⟨at_110, rfl⟩
theorem D_111 : Dc code 111 (.ifCond .eq 17) 3 114 := ⟨at_111, rfl⟩
theorem D_114 : Dc code 114 (.lload 13) 2 116 := ⟨at_114, rfl⟩
theorem D_116 : Dc code 116 (.lload 11) 2 118 := ⟨at_116, rfl⟩
theorem D_118 : Dc code 118 (.lcmp) 1 119 := ⟨at_118, rfl⟩
theorem D_119 : Dc code 119 (.ifCond .eq 9) 3 122 := ⟨at_119, rfl⟩
theorem D_122 : Dc code 122 (.lload 19) 2 124 := ⟨at_122, rfl⟩
theorem D_124 : Dc code 124 (.lconst 1) 1 125 := ⟨at_124, rfl⟩
theorem D_125 : Dc code 125 (.ladd) 1 126 := ⟨at_125, rfl⟩
theorem D_126 : Dc code 126 (.lstore 19) 2 128 := ⟨at_126, rfl⟩
theorem D_128 : Dc code 128 (.lload 15) 2 130 := ⟨at_128, rfl⟩
theorem D_130 : Dc code 130 (.lload 9) 2 132 := ⟨at_130, rfl⟩
theorem D_132 : Dc code 132 (.lcmp) 1 133 := ⟨at_132, rfl⟩
theorem D_133 : Dc code 133 (.ifCond .eq 25) 3 136 := ⟨at_133, rfl⟩
theorem D_136 : Dc code 136 (.lload 15) 2 138 := ⟨at_136, rfl⟩
theorem D_138 : Dc code 138 (.lload 11) 2 140 := ⟨at_138, rfl⟩
theorem D_140 : Dc code 140 (.lcmp) 1 141 := ⟨at_140, rfl⟩
theorem D_141 : Dc code 141 (.ifCond .eq 17) 3 144 := ⟨at_141, rfl⟩
theorem D_144 : Dc code 144 (.lload 15) 2 146 := ⟨at_144, rfl⟩
theorem D_146 : Dc code 146 (.lload 13) 2 148 := ⟨at_146, rfl⟩
theorem D_148 : Dc code 148 (.lcmp) 1 149 := ⟨at_148, rfl⟩
theorem D_149 : Dc code 149 (.ifCond .eq 9) 3 152 := ⟨at_149, rfl⟩
theorem D_152 : Dc code 152 (.lload 19) 2 154 := ⟨at_152, rfl⟩
theorem D_154 : Dc code 154 (.lconst 1) 1 155 := ⟨at_154, rfl⟩
theorem D_155 : Dc code 155 (.ladd) 1 156 := ⟨at_155, rfl⟩
theorem D_156 : Dc code 156 (.lstore 19) 2 158 := ⟨at_156, rfl⟩
theorem D_158 : Dc code 158 (.lload 17) 2 160 := ⟨at_158, rfl⟩
theorem D_160 : Dc code 160 (.lload 11) 2 162 := ⟨at_160, rfl⟩
theorem D_162 : Dc code 162 (.lcmp) 1 163 := ⟨at_162, rfl⟩
theorem D_163 : Dc code 163 (.ifCond .eq 31) 3 166 := ⟨at_163, rfl⟩
theorem D_166 : Dc code 166 (.lload 17) 2 168 := ⟨at_166, rfl⟩
theorem D_168 : Dc code 168 (.lload 9) 2 170 := ⟨at_168, rfl⟩
theorem D_170 : Dc code 170 (.lcmp) 1 171 := ⟨at_170, rfl⟩
theorem D_171 : Dc code 171 (.ifCond .eq 19) 3 174 := ⟨at_171, rfl⟩
theorem D_174 : Dc code 174 (.lload 17) 2 176 := ⟨at_174, rfl⟩
theorem D_176 : Dc code 176 (.lload 13) 2 178 := ⟨at_176, rfl⟩
theorem D_178 : Dc code 178 (.lcmp) 1 179 := ⟨at_178, rfl⟩
theorem D_179 : Dc code 179 (.ifCond .eq 11) 3 182 := ⟨at_179, rfl⟩
theorem D_182 : Dc code 182 (.lload 17) 2 184 := ⟨at_182, rfl⟩
theorem D_184 : Dc code 184 (.lload 15) 2 186 := ⟨at_184, rfl⟩
theorem D_186 : Dc code 186 (.lcmp) 1 187 := ⟨at_186, rfl⟩
theorem D_187 : Dc code 187 (.ifCond .ne 7) 3 190 := ⟨at_187, rfl⟩
theorem D_190 : Dc code 190 (.iconst 1) 1 191 := ⟨at_190, rfl⟩
theorem D_191 : Dc code 191 (.goto 4) 3 194 := ⟨at_191, rfl⟩
theorem D_194 : Dc code 194 (.iconst 0) 1 195 := ⟨at_194, rfl⟩
theorem D_195 : Dc code 195 (.istore 21) 2 197 := ⟨at_195, rfl⟩
theorem D_197 : Dc code 197 (.aload 8) 2 199 := ⟨at_197, rfl⟩
theorem D_199 : Dc code 199 (.lload 9) 2 201 := ⟨at_199, rfl⟩
theorem D_201 : Dc code 201 (.invokevirtual 12) 3 204 := ⟨at_201, rfl⟩
theorem D_204 : Dc code 204 (.pop) 1 205 := ⟨at_204, rfl⟩
theorem D_205 : Dc code 205 (.aload 8) 2 207 := ⟨at_205, rfl⟩
theorem D_207 : Dc code 207 (.lload 11) 2 209 := ⟨at_207, rfl⟩
theorem D_209 : Dc code 209 (.invokevirtual 12) 3 212 := ⟨at_209, rfl⟩
theorem D_212 : Dc code 212 (.pop) 1 213 := ⟨at_212, rfl⟩
theorem D_213 : Dc code 213 (.aload 8) 2 215 := ⟨at_213, rfl⟩
theorem D_215 : Dc code 215 (.lload 13) 2 217 := ⟨at_215, rfl⟩
theorem D_217 : Dc code 217 (.invokevirtual 12) 3 220 := ⟨at_217, rfl⟩
theorem D_220 : Dc code 220 (.pop) 1 221 := ⟨at_220, rfl⟩
theorem D_221 : Dc code 221 (.aload 8) 2 223 := ⟨at_221, rfl⟩
theorem D_223 : Dc code 223 (.lload 15) 2 225 := ⟨at_223, rfl⟩
theorem D_225 : Dc code 225 (.invokevirtual 12) 3 228 := ⟨at_225, rfl⟩
theorem D_228 : Dc code 228 (.pop) 1 229 := ⟨at_228, rfl⟩
theorem D_229 : Dc code 229 (.aload 8) 2 231 := ⟨at_229, rfl⟩
theorem D_231 : Dc code 231 (.invokevirtual 16) 3 234 := ⟨at_231, rfl⟩
theorem D_234 : Dc code 234 (.lload 19) 2 236 := ⟨at_234, rfl⟩
theorem D_236 : Dc code 236 (.lcmp) 1 237 := ⟨at_236, rfl⟩
theorem D_237 : Dc code 237 (.ifCond .ne 7) 3 240 := ⟨at_237, rfl⟩
theorem D_240 : Dc code 240 (.iconst 1) 1 241 := ⟨at_240, rfl⟩
theorem D_241 : Dc code 241 (.goto 4) 3 244 := ⟨at_241, rfl⟩
theorem D_244 : Dc code 244 (.iconst 0) 1 245 := ⟨at_244, rfl⟩
theorem D_245 : Dc code 245 (.istore 22) 2 247 := ⟨at_245, rfl⟩
theorem D_247 : Dc code 247 (.aload 8) 2 249 := ⟨at_247, rfl⟩
theorem D_249 : Dc code 249 (.lload 11) 2 251 := ⟨at_249, rfl⟩
theorem D_251 : Dc code 251 (.invokevirtual 20) 3 254 := ⟨at_251, rfl⟩
theorem D_254 : Dc code 254 (.pop) 1 255 := ⟨at_254, rfl⟩
theorem D_255 : Dc code 255 (.iload 22) 2 257 := ⟨at_255, rfl⟩
theorem D_257 : Dc code 257 (.ifCond .eq 20) 3 260 := ⟨at_257, rfl⟩
theorem D_260 : Dc code 260 (.aload 8) 2 262 := ⟨at_260, rfl⟩
theorem D_262 : Dc code 262 (.invokevirtual 16) 3 265 := ⟨at_262, rfl⟩
theorem D_265 : Dc code 265 (.lload 19) 2 267 := ⟨at_265, rfl⟩
theorem D_267 : Dc code 267 (.lconst 1) 1 268 := ⟨at_267, rfl⟩
theorem D_268 : Dc code 268 (.lsub) 1 269 := ⟨at_268, rfl⟩
theorem D_269 : Dc code 269 (.lcmp) 1 270 := ⟨at_269, rfl⟩
theorem D_270 : Dc code 270 (.ifCond .ne 7) 3 273 := ⟨at_270, rfl⟩
theorem D_273 : Dc code 273 (.iconst 1) 1 274 := ⟨at_273, rfl⟩
theorem D_274 : Dc code 274 (.goto 4) 3 277 := ⟨at_274, rfl⟩
theorem D_277 : Dc code 277 (.iconst 0) 1 278 := ⟨at_277, rfl⟩
theorem D_278 : Dc code 278 (.istore 22) 2 280 := ⟨at_278, rfl⟩
theorem D_280 : Dc code 280 (.aload 8) 2 282 := ⟨at_280, rfl⟩
theorem D_282 : Dc code 282 (.lload 17) 2 284 := ⟨at_282, rfl⟩
theorem D_284 : Dc code 284 (.invokevirtual 20) 3 287 := ⟨at_284, rfl⟩
theorem D_287 : Dc code 287 (.pop) 1 288 := ⟨at_287, rfl⟩
theorem D_288 : Dc code 288 (.iload 22) 2 290 := ⟨at_288, rfl⟩
theorem D_290 : Dc code 290 (.ifCond .eq 31) 3 293 := ⟨at_290, rfl⟩
theorem D_293 : Dc code 293 (.aload 8) 2 295 := ⟨at_293, rfl⟩
theorem D_295 : Dc code 295 (.invokevirtual 16) 3 298 := ⟨at_295, rfl⟩
theorem D_298 : Dc code 298 (.lload 19) 2 300 := ⟨at_298, rfl⟩
theorem D_300 : Dc code 300 (.lconst 1) 1 301 := ⟨at_300, rfl⟩
theorem D_301 : Dc code 301 (.lsub) 1 302 := ⟨at_301, rfl⟩
theorem D_302 : Dc code 302 (.iload 21) 2 304 := ⟨at_302, rfl⟩
theorem D_304 : Dc code 304 (.ifCond .eq 7) 3 307 := ⟨at_304, rfl⟩
theorem D_307 : Dc code 307 (.lconst 1) 1 308 := ⟨at_307, rfl⟩
theorem D_308 : Dc code 308 (.goto 4) 3 311 := ⟨at_308, rfl⟩
theorem D_311 : Dc code 311 (.lconst 0) 1 312 := ⟨at_311, rfl⟩
theorem D_312 : Dc code 312 (.lsub) 1 313 := ⟨at_312, rfl⟩
theorem D_313 : Dc code 313 (.lcmp) 1 314 := ⟨at_313, rfl⟩
theorem D_314 : Dc code 314 (.ifCond .ne 7) 3 317 := ⟨at_314, rfl⟩
theorem D_317 : Dc code 317 (.iconst 1) 1 318 := ⟨at_317, rfl⟩
theorem D_318 : Dc code 318 (.goto 4) 3 321 := ⟨at_318, rfl⟩
theorem D_321 : Dc code 321 (.iconst 0) 1 322 := ⟨at_321, rfl⟩
theorem D_322 : Dc code 322 (.istore 22) 2 324 := ⟨at_322, rfl⟩
theorem D_324 : Dc code 324 (.iload 22) 2 326 := ⟨at_324, rfl⟩
theorem D_326 : Dc code 326 (.ireturn) 1 327 := ⟨at_326, rfl⟩
set_option maxRecDepth 65536 in
set_option maxHeartbeats 40000000 in
theorem law_wp (l : Launch) (Z : State) (a0 : Array Value) (hw : ∀ d ∈ tables_1, d.before a0 Z = true) (a : Int64) (b : Int64) (c : Int64) (f : Int32)  : Wp none l Z "com/example/orthrus/orthrus/SignatureSetSizePinLaw" "law" code maxLocals ret room_1 [] 0 0 0 #[.val (.long a), .second, .val (.long b), .second, .val (.long c), .second, .val (.int f), .unset, .unset, .unset, .unset, .unset, .unset, .unset, .unset, .unset, .unset, .unset, .unset, .unset, .unset, .unset, .unset] [] Q_law := by
  refine wp_bipush 8 D_0 (by decide) ?_
  refine wp_iload D_2 rfl ?_
  refine wp_iconst 4 D_4 (by decide) ?_
  refine wp_iushr D_5 ?_
  refine wp_bipush 7 D_6 (by decide) ?_
  refine wp_iand D_8 ?_
  refine wp_iadd D_9 ?_
  generalize hg_x1 : ((8 : Int32) + ((XT.ushr f (4 : Int32)) &&& (7 : Int32))) = x1
  have hn : 8 ≤ x1.toInt ∧ x1.toInt ≤ 15 := by rw [← hg_x1]; exact own_a7 _
  refine wp_istore #[.val (.long a), .second, .val (.long b), .second, .val (.long c), .second, .val (.int f), .val (.int x1), .unset, .unset, .unset, .unset, .unset, .unset, .unset, .unset, .unset, .unset, .unset, .unset, .unset, .unset, .unset] D_10 rfl ?_
  refine wp_new sg_1 [(.long (0 : Int64)), (.null), (.int (0 : Int32)), (.int (0 : Int32))] D_12 (hw _ (List.mem_of_getElem? (i := 0) rfl)) (hw _ (List.mem_of_getElem? (i := 1) rfl)) (hw _ (List.mem_of_getElem? (i := 2) rfl)) (laid_sg_1 l Z a0 hw) (by decide) dfl_sg_1 (by decide) (by decide) ?_
  intro a2
  show Wp none l Z "com/example/orthrus/orthrus/SignatureSetSizePinLaw" "law" code maxLocals ret room_1 [(a2, oI "com/example/orthrus/orthrus/SignatureSet" sg_1 [(.long (0 : Int64)), (.null), (.int (0 : Int32)), (.int (0 : Int32))])] 1 4 15 #[.val (.long a), .second, .val (.long b), .second, .val (.long c), .second, .val (.int f), .val (.int x1), .unset, .unset, .unset, .unset, .unset, .unset, .unset, .unset, .unset, .unset, .unset, .unset, .unset, .unset, .unset] [(.ref a2)] Q_law
  refine wp_dup D_15 rfl ?_
  refine wp_iload D_16 rfl ?_
  refine wp_iload D_18 rfl ?_
  refine wp_i2l D_20 ?_
  refine wp_init (c_new l Z a0 hw a2 x1 x1.toInt64 [] hn) D_21 rfl (hw _ (List.mem_of_getElem? (i := 3) rfl)) (hw _ (List.mem_of_getElem? (i := 4) rfl)) (hw _ (List.mem_of_getElem? (i := 2) rfl)) (hw _ (List.mem_of_getElem? (i := 5) rfl)) (by decide) pd_7 rfl rfl rfl (Nat.le_of_ble_eq_true rfl) (Nat.le_of_ble_eq_true rfl) (Nat.le_of_ble_eq_true rfl) (Nat.le_of_ble_eq_true rfl) ?_
  rintro _ _ ⟨rfl, A3, rfl⟩
  show Wp none l Z "com/example/orthrus/orthrus/SignatureSetSizePinLaw" "law" code maxLocals ret room_1 [(A3, oJ (List.replicate x1.toNatClampNeg 0)), (a2, oI "com/example/orthrus/orthrus/SignatureSet" sg_1 [(.long x1.toInt64), (.ref A3), (.int (0 : Int32)), (.int (0 : Int32))])] 2 19 24 #[.val (.long a), .second, .val (.long b), .second, .val (.long c), .second, .val (.int f), .val (.int x1), .unset, .unset, .unset, .unset, .unset, .unset, .unset, .unset, .unset, .unset, .unset, .unset, .unset, .unset, .unset] [(.ref a2)] Q_law
  obtain ⟨xs4, e_xs4⟩ : ∃ zs : List Int64, zs = List.replicate x1.toNatClampNeg 0 := ⟨_, rfl⟩
  rw [← e_xs4]
  have hT0 : TB x1 0 0 xs4 := by rw [e_xs4]; exact tb_start _
  have hH0 : ∀ y, ¬ Has x1 0 xs4 y := by rw [e_xs4]; exact has_start _
  show Wp none l Z "com/example/orthrus/orthrus/SignatureSetSizePinLaw" "law" code maxLocals ret room_1 [(A3, oJ xs4), (a2, oI "com/example/orthrus/orthrus/SignatureSet" sg_1 [(.long x1.toInt64), (.ref A3), (.int (0 : Int32)), (.int (0 : Int32))])] 2 19 24 #[.val (.long a), .second, .val (.long b), .second, .val (.long c), .second, .val (.int f), .val (.int x1), .unset, .unset, .unset, .unset, .unset, .unset, .unset, .unset, .unset, .unset, .unset, .unset, .unset, .unset, .unset] [(.ref a2)] Q_law
  refine wp_astore #[.val (.long a), .second, .val (.long b), .second, .val (.long c), .second, .val (.int f), .val (.int x1), .val (.ref a2), .unset, .unset, .unset, .unset, .unset, .unset, .unset, .unset, .unset, .unset, .unset, .unset, .unset, .unset] D_24 rfl rfl ?_
  refine wp_lload_n D_26 rfl ?_
  refine wp_lstore #[.val (.long a), .second, .val (.long b), .second, .val (.long c), .second, .val (.int f), .val (.int x1), .val (.ref a2), .val (.long a), .second, .unset, .unset, .unset, .unset, .unset, .unset, .unset, .unset, .unset, .unset, .unset, .unset] D_27 rfl ?_
  refine wp_iload D_29 rfl ?_
  refine wp_iconst 1 D_31 (by decide) ?_
  refine wp_iand D_32 ?_
  have J8 : ∀ (b6 : Int64), (((f &&& (1 : Int32)) = (0 : Int32) ∧ b6 = b) ∨ (¬ (f &&& (1 : Int32)) = (0 : Int32) ∧ b6 = a)) → Wp none l Z "com/example/orthrus/orthrus/SignatureSetSizePinLaw" "law" code maxLocals ret room_1 [(A3, oJ xs4), (a2, oI "com/example/orthrus/orthrus/SignatureSet" sg_1 [(.long x1.toInt64), (.ref A3), (.int (0 : Int32)), (.int (0 : Int32))])] 2 19 41 #[.val (.long a), .second, .val (.long b), .second, .val (.long c), .second, .val (.int f), .val (.int x1), .val (.ref a2), .val (.long a), .second, .unset, .unset, .unset, .unset, .unset, .unset, .unset, .unset, .unset, .unset, .unset, .unset] [(.long b6)] Q_law := by
    intro b6 hj7
    refine wp_lstore #[.val (.long a), .second, .val (.long b), .second, .val (.long c), .second, .val (.int f), .val (.int x1), .val (.ref a2), .val (.long a), .second, .val (.long b6), .second, .unset, .unset, .unset, .unset, .unset, .unset, .unset, .unset, .unset, .unset] D_41 rfl ?_
    refine wp_iload D_43 rfl ?_
    refine wp_iconst 2 D_45 (by decide) ?_
    refine wp_iand D_46 ?_
    have J12 : ∀ (b10 : Int64), (((f &&& (2 : Int32)) = (0 : Int32) ∧ b10 = c) ∨ (¬ (f &&& (2 : Int32)) = (0 : Int32) ∧ b10 = (0 : Int64))) → Wp none l Z "com/example/orthrus/orthrus/SignatureSetSizePinLaw" "law" code maxLocals ret room_1 [(A3, oJ xs4), (a2, oI "com/example/orthrus/orthrus/SignatureSet" sg_1 [(.long x1.toInt64), (.ref A3), (.int (0 : Int32)), (.int (0 : Int32))])] 2 19 56 #[.val (.long a), .second, .val (.long b), .second, .val (.long c), .second, .val (.int f), .val (.int x1), .val (.ref a2), .val (.long a), .second, .val (.long b6), .second, .unset, .unset, .unset, .unset, .unset, .unset, .unset, .unset, .unset, .unset] [(.long b10)] Q_law := by
      intro b10 hj11
      refine wp_lstore #[.val (.long a), .second, .val (.long b), .second, .val (.long c), .second, .val (.int f), .val (.int x1), .val (.ref a2), .val (.long a), .second, .val (.long b6), .second, .val (.long b10), .second, .unset, .unset, .unset, .unset, .unset, .unset, .unset, .unset] D_56 rfl ?_
      refine wp_iload D_58 rfl ?_
      refine wp_iconst 4 D_60 (by decide) ?_
      refine wp_iand D_61 ?_
      have J16 : ∀ (b14 : Int64), (((f &&& (4 : Int32)) = (0 : Int32) ∧ b14 = c) ∨ (¬ (f &&& (4 : Int32)) = (0 : Int32) ∧ b14 = b)) → Wp none l Z "com/example/orthrus/orthrus/SignatureSetSizePinLaw" "law" code maxLocals ret room_1 [(A3, oJ xs4), (a2, oI "com/example/orthrus/orthrus/SignatureSet" sg_1 [(.long x1.toInt64), (.ref A3), (.int (0 : Int32)), (.int (0 : Int32))])] 2 19 71 #[.val (.long a), .second, .val (.long b), .second, .val (.long c), .second, .val (.int f), .val (.int x1), .val (.ref a2), .val (.long a), .second, .val (.long b6), .second, .val (.long b10), .second, .unset, .unset, .unset, .unset, .unset, .unset, .unset, .unset] [(.long b14)] Q_law := by
        intro b14 hj15
        refine wp_lstore #[.val (.long a), .second, .val (.long b), .second, .val (.long c), .second, .val (.int f), .val (.int x1), .val (.ref a2), .val (.long a), .second, .val (.long b6), .second, .val (.long b10), .second, .val (.long b14), .second, .unset, .unset, .unset, .unset, .unset, .unset] D_71 rfl ?_
        refine wp_iload D_73 rfl ?_
        refine wp_bipush 8 D_75 (by decide) ?_
        refine wp_iand D_77 ?_
        have J20 : ∀ (b18 : Int64), (((f &&& (8 : Int32)) = (0 : Int32) ∧ b18 = b) ∨ (¬ (f &&& (8 : Int32)) = (0 : Int32) ∧ b18 = b6)) → Wp none l Z "com/example/orthrus/orthrus/SignatureSetSizePinLaw" "law" code maxLocals ret room_1 [(A3, oJ xs4), (a2, oI "com/example/orthrus/orthrus/SignatureSet" sg_1 [(.long x1.toInt64), (.ref A3), (.int (0 : Int32)), (.int (0 : Int32))])] 2 19 87 #[.val (.long a), .second, .val (.long b), .second, .val (.long c), .second, .val (.int f), .val (.int x1), .val (.ref a2), .val (.long a), .second, .val (.long b6), .second, .val (.long b10), .second, .val (.long b14), .second, .unset, .unset, .unset, .unset, .unset, .unset] [(.long b18)] Q_law := by
          intro b18 hj19
          refine wp_lstore #[.val (.long a), .second, .val (.long b), .second, .val (.long c), .second, .val (.int f), .val (.int x1), .val (.ref a2), .val (.long a), .second, .val (.long b6), .second, .val (.long b10), .second, .val (.long b14), .second, .val (.long b18), .second, .unset, .unset, .unset, .unset] D_87 rfl ?_
          refine wp_lconst 1 D_89 (by decide) ?_
          refine wp_lstore #[.val (.long a), .second, .val (.long b), .second, .val (.long c), .second, .val (.int f), .val (.int x1), .val (.ref a2), .val (.long a), .second, .val (.long b6), .second, .val (.long b10), .second, .val (.long b14), .second, .val (.long b18), .second, .val (.long (1 : Int64)), .second, .unset, .unset] D_90 rfl ?_
          refine wp_lload D_92 rfl ?_
          refine wp_lload D_94 rfl ?_
          have J24 : ∀ (b22 : Int64), ((b6 = a ∧ b22 = (1 : Int64)) ∨ (¬ b6 = a ∧ b22 = (2 : Int64))) → Wp none l Z "com/example/orthrus/orthrus/SignatureSetSizePinLaw" "law" code maxLocals ret room_1 [(A3, oJ xs4), (a2, oI "com/example/orthrus/orthrus/SignatureSet" sg_1 [(.long x1.toInt64), (.ref A3), (.int (0 : Int32)), (.int (0 : Int32))])] 2 19 106 #[.val (.long a), .second, .val (.long b), .second, .val (.long c), .second, .val (.int f), .val (.int x1), .val (.ref a2), .val (.long a), .second, .val (.long b6), .second, .val (.long b10), .second, .val (.long b14), .second, .val (.long b18), .second, .val (.long b22), .second, .unset, .unset] [] Q_law := by
            intro b22 hj23
            simp only [← Int64.toInt_inj, Int64.reduceToInt] at hj23
            have hb_b22 : 1 ≤ b22.toInt ∧ b22.toInt ≤ 2 := by omega
            refine wp_lload D_106 rfl ?_
            refine wp_lload D_108 rfl ?_
            have J28 : ∀ (b26 : Int64), ((b10 = a ∧ b26 = b22) ∨ (¬ b10 = a ∧ b10 = b6 ∧ b26 = b22) ∨ (¬ b10 = a ∧ ¬ b10 = b6 ∧ b26 = (b22 + (1 : Int64)))) → Wp none l Z "com/example/orthrus/orthrus/SignatureSetSizePinLaw" "law" code maxLocals ret room_1 [(A3, oJ xs4), (a2, oI "com/example/orthrus/orthrus/SignatureSet" sg_1 [(.long x1.toInt64), (.ref A3), (.int (0 : Int32)), (.int (0 : Int32))])] 2 19 128 #[.val (.long a), .second, .val (.long b), .second, .val (.long c), .second, .val (.int f), .val (.int x1), .val (.ref a2), .val (.long a), .second, .val (.long b6), .second, .val (.long b10), .second, .val (.long b14), .second, .val (.long b18), .second, .val (.long b26), .second, .unset, .unset] [] Q_law := by
              intro b26 hj27
              simp only [← Int64.toInt_inj, own_l1 b22 (by omega)] at hj27
              have hb_b26 : 1 ≤ b26.toInt ∧ b26.toInt ≤ 3 := by omega
              refine wp_lload D_128 rfl ?_
              refine wp_lload D_130 rfl ?_
              have J32 : ∀ (b30 : Int64), ((b14 = a ∧ b30 = b26) ∨ (¬ b14 = a ∧ b14 = b6 ∧ b30 = b26) ∨ (¬ b14 = a ∧ ¬ b14 = b6 ∧ b14 = b10 ∧ b30 = b26) ∨ (¬ b14 = a ∧ ¬ b14 = b6 ∧ ¬ b14 = b10 ∧ b30 = (b26 + (1 : Int64)))) → Wp none l Z "com/example/orthrus/orthrus/SignatureSetSizePinLaw" "law" code maxLocals ret room_1 [(A3, oJ xs4), (a2, oI "com/example/orthrus/orthrus/SignatureSet" sg_1 [(.long x1.toInt64), (.ref A3), (.int (0 : Int32)), (.int (0 : Int32))])] 2 19 158 #[.val (.long a), .second, .val (.long b), .second, .val (.long c), .second, .val (.int f), .val (.int x1), .val (.ref a2), .val (.long a), .second, .val (.long b6), .second, .val (.long b10), .second, .val (.long b14), .second, .val (.long b18), .second, .val (.long b30), .second, .unset, .unset] [] Q_law := by
                intro b30 hj31
                simp only [← Int64.toInt_inj, own_l1 b26 (by omega)] at hj31
                have hb_b30 : 1 ≤ b30.toInt ∧ b30.toInt ≤ 4 := by omega
                refine wp_lload D_158 rfl ?_
                refine wp_lload D_160 rfl ?_
                have J36 : ∀ (b34 : Int32), ((b18 = b6 ∧ b34 = (0 : Int32)) ∨ (¬ b18 = b6 ∧ b18 = a ∧ b34 = (1 : Int32)) ∨ (¬ b18 = b6 ∧ ¬ b18 = a ∧ b18 = b10 ∧ b34 = (1 : Int32)) ∨ (¬ b18 = b6 ∧ ¬ b18 = a ∧ ¬ b18 = b10 ∧ ¬ b18 = b14 ∧ b34 = (0 : Int32)) ∨ (¬ b18 = b6 ∧ ¬ b18 = a ∧ ¬ b18 = b10 ∧ b18 = b14 ∧ b34 = (1 : Int32))) → Wp none l Z "com/example/orthrus/orthrus/SignatureSetSizePinLaw" "law" code maxLocals ret room_1 [(A3, oJ xs4), (a2, oI "com/example/orthrus/orthrus/SignatureSet" sg_1 [(.long x1.toInt64), (.ref A3), (.int (0 : Int32)), (.int (0 : Int32))])] 2 19 195 #[.val (.long a), .second, .val (.long b), .second, .val (.long c), .second, .val (.int f), .val (.int x1), .val (.ref a2), .val (.long a), .second, .val (.long b6), .second, .val (.long b10), .second, .val (.long b14), .second, .val (.long b18), .second, .val (.long b30), .second, .unset, .unset] [(.int b34)] Q_law := by
                  intro b34 hj35
                  simp only [← Int64.toInt_inj, ← Int32.toInt_inj, Int32.reduceToInt] at hj35
                  refine wp_istore #[.val (.long a), .second, .val (.long b), .second, .val (.long c), .second, .val (.int f), .val (.int x1), .val (.ref a2), .val (.long a), .second, .val (.long b6), .second, .val (.long b10), .second, .val (.long b14), .second, .val (.long b18), .second, .val (.long b30), .second, .val (.int b34), .unset] D_195 rfl ?_
                  refine wp_aload D_197 rfl rfl ?_
                  refine wp_lload D_199 rfl ?_
                  refine Wp.pick [1, 0] (by decide) ?_
                  show Wp none l Z "com/example/orthrus/orthrus/SignatureSetSizePinLaw" "law" code maxLocals ret room_1 [(a2, oI "com/example/orthrus/orthrus/SignatureSet" sg_1 [(.long x1.toInt64), (.ref A3), (.int (0 : Int32)), (.int (0 : Int32))]), (A3, oJ xs4)] 2 19 201 #[.val (.long a), .second, .val (.long b), .second, .val (.long c), .second, .val (.int f), .val (.int x1), .val (.ref a2), .val (.long a), .second, .val (.long b6), .second, .val (.long b10), .second, .val (.long b14), .second, .val (.long b18), .second, .val (.long b30), .second, .val (.int b34), .unset] [(.long a), (.ref a2)] Q_law
                  have hli0 : xs4.length.toInt32 = x1 := by rw [hT0.1]; exact (back32 (own_i32 _ (by omega))).1
                  refine wp_virtual (c_add l Z a0 hw a2 A3 x1.toInt64 a (0 : Int32) (0 : Int32) x1 xs4 [] hli0 hT0.1 hn ⟨by decide, by decide⟩ hT0) (exa_new (i := 0) rfl) D_201 (hw _ (List.mem_of_getElem? (i := 14) rfl)) (hw _ (List.mem_of_getElem? (i := 15) rfl)) (hw _ (List.mem_of_getElem? (i := 17) rfl)) (hw _ (List.mem_of_getElem? (i := 17) rfl)) (hw _ (List.mem_of_getElem? (i := 16) rfl)) (hw _ (List.mem_of_getElem? (i := 2) rfl)) (hw _ (List.mem_of_getElem? (i := 18) rfl)) (by decide) pd_8 rfl rfl rfl (Nat.le_of_ble_eq_true rfl) (Nat.le_of_ble_eq_true rfl) (Nat.le_of_ble_eq_true rfl) (Nat.le_of_ble_eq_true rfl) ?_
                  rintro _ _ ⟨r37, z38, f39, xs40, rfl, rfl, hP1⟩
                  show Wp none l Z "com/example/orthrus/orthrus/SignatureSetSizePinLaw" "law" code maxLocals ret room_1 [(a2, oI "com/example/orthrus/orthrus/SignatureSet" sg_1 [(.long x1.toInt64), (.ref A3), (.int f39), (.int z38)]), (A3, oJ xs40)] 2 19 204 #[.val (.long a), .second, .val (.long b), .second, .val (.long c), .second, .val (.int f), .val (.int x1), .val (.ref a2), .val (.long a), .second, .val (.long b6), .second, .val (.long b10), .second, .val (.long b14), .second, .val (.long b18), .second, .val (.long b30), .second, .val (.int b34), .unset] [(.int r37)] Q_law
                  have hT1 := hP1.1
                  have hZ1 : 0 ≤ z38.toInt := by rcases hT1.2.2.2.2 with e | e <;> rw [e] <;> decide
                  have hF1 : 0 ≤ f39.toInt := by have := hT1.2.2.2.1; omega
                  have hc1 := hP1.2.2
                  have hc1 := hc1.resolve_left (fun q => hH0 _ q.1)
                  have hc1 := hc1.2
                  have hs1 : f39.toInt + z38.toInt = 1 := hc1
                  clear hc1
                  have hH1 : ∀ y, Has x1 z38 xs40 y ↔ y = a := fun y => (hP1.2.1 y).trans ⟨fun q => q.elim (fun q => absurd q (hH0 y)) id, Or.inr⟩
                  have hb1 : 0 ≤ f39.toInt ∧ f39.toInt + z38.toInt ≤ 1 := by omega
                  show Wp none l Z "com/example/orthrus/orthrus/SignatureSetSizePinLaw" "law" code maxLocals ret room_1 [(a2, oI "com/example/orthrus/orthrus/SignatureSet" sg_1 [(.long x1.toInt64), (.ref A3), (.int f39), (.int z38)]), (A3, oJ xs40)] 2 19 204 #[.val (.long a), .second, .val (.long b), .second, .val (.long c), .second, .val (.int f), .val (.int x1), .val (.ref a2), .val (.long a), .second, .val (.long b6), .second, .val (.long b10), .second, .val (.long b14), .second, .val (.long b18), .second, .val (.long b30), .second, .val (.int b34), .unset] [(.int r37)] Q_law
                  refine wp_pop D_204 rfl ?_
                  refine wp_aload D_205 rfl rfl ?_
                  refine wp_lload D_207 rfl ?_
                  have hli1 : xs40.length.toInt32 = x1 := by rw [hT1.1]; exact (back32 (own_i32 _ (by omega))).1
                  refine wp_virtual (c_add l Z a0 hw a2 A3 x1.toInt64 b6 z38 f39 x1 xs40 [] hli1 hT1.1 hn ⟨hb1.1, by omega⟩ hT1) (exa_new (i := 0) rfl) D_209 (hw _ (List.mem_of_getElem? (i := 14) rfl)) (hw _ (List.mem_of_getElem? (i := 15) rfl)) (hw _ (List.mem_of_getElem? (i := 17) rfl)) (hw _ (List.mem_of_getElem? (i := 17) rfl)) (hw _ (List.mem_of_getElem? (i := 16) rfl)) (hw _ (List.mem_of_getElem? (i := 2) rfl)) (hw _ (List.mem_of_getElem? (i := 18) rfl)) (by decide) pd_8 rfl rfl rfl (Nat.le_of_ble_eq_true rfl) (Nat.le_of_ble_eq_true rfl) (Nat.le_of_ble_eq_true rfl) (Nat.le_of_ble_eq_true rfl) ?_
                  rintro _ _ ⟨r41, z42, f43, xs44, rfl, rfl, hP2⟩
                  show Wp none l Z "com/example/orthrus/orthrus/SignatureSetSizePinLaw" "law" code maxLocals ret room_1 [(a2, oI "com/example/orthrus/orthrus/SignatureSet" sg_1 [(.long x1.toInt64), (.ref A3), (.int f43), (.int z42)]), (A3, oJ xs44)] 2 19 212 #[.val (.long a), .second, .val (.long b), .second, .val (.long c), .second, .val (.int f), .val (.int x1), .val (.ref a2), .val (.long a), .second, .val (.long b6), .second, .val (.long b10), .second, .val (.long b14), .second, .val (.long b18), .second, .val (.long b30), .second, .val (.int b34), .unset] [(.int r41)] Q_law
                  have hT2 := hP2.1
                  have hZ2 : 0 ≤ z42.toInt := by rcases hT2.2.2.2.2 with e | e <;> rw [e] <;> decide
                  have hF2 : 0 ≤ f43.toInt := by have := hT2.2.2.2.1; omega
                  have hc2 := hP2.2.2
                  rw [hH1] at hc2
                  simp only [← Int64.toInt_inj] at hc2
                  have hH2 : ∀ y, Has x1 z42 xs44 y ↔ ((y = a) ∨ y = b6) := fun y => by rw [hP2.2.1 y, hH1 y]
                  have hs2 : f43.toInt + z42.toInt = b22.toInt := own_s2 hj23 hc2 hs1
                  clear hc2 hj23
                  have hb2 : 0 ≤ f43.toInt ∧ f43.toInt + z42.toInt ≤ 2 := by omega
                  show Wp none l Z "com/example/orthrus/orthrus/SignatureSetSizePinLaw" "law" code maxLocals ret room_1 [(a2, oI "com/example/orthrus/orthrus/SignatureSet" sg_1 [(.long x1.toInt64), (.ref A3), (.int f43), (.int z42)]), (A3, oJ xs44)] 2 19 212 #[.val (.long a), .second, .val (.long b), .second, .val (.long c), .second, .val (.int f), .val (.int x1), .val (.ref a2), .val (.long a), .second, .val (.long b6), .second, .val (.long b10), .second, .val (.long b14), .second, .val (.long b18), .second, .val (.long b30), .second, .val (.int b34), .unset] [(.int r41)] Q_law
                  refine wp_pop D_212 rfl ?_
                  refine wp_aload D_213 rfl rfl ?_
                  refine wp_lload D_215 rfl ?_
                  have hli2 : xs44.length.toInt32 = x1 := by rw [hT2.1]; exact (back32 (own_i32 _ (by omega))).1
                  refine wp_virtual (c_add l Z a0 hw a2 A3 x1.toInt64 b10 z42 f43 x1 xs44 [] hli2 hT2.1 hn ⟨hb2.1, by omega⟩ hT2) (exa_new (i := 0) rfl) D_217 (hw _ (List.mem_of_getElem? (i := 14) rfl)) (hw _ (List.mem_of_getElem? (i := 15) rfl)) (hw _ (List.mem_of_getElem? (i := 17) rfl)) (hw _ (List.mem_of_getElem? (i := 17) rfl)) (hw _ (List.mem_of_getElem? (i := 16) rfl)) (hw _ (List.mem_of_getElem? (i := 2) rfl)) (hw _ (List.mem_of_getElem? (i := 18) rfl)) (by decide) pd_8 rfl rfl rfl (Nat.le_of_ble_eq_true rfl) (Nat.le_of_ble_eq_true rfl) (Nat.le_of_ble_eq_true rfl) (Nat.le_of_ble_eq_true rfl) ?_
                  rintro _ _ ⟨r45, z46, f47, xs48, rfl, rfl, hP3⟩
                  show Wp none l Z "com/example/orthrus/orthrus/SignatureSetSizePinLaw" "law" code maxLocals ret room_1 [(a2, oI "com/example/orthrus/orthrus/SignatureSet" sg_1 [(.long x1.toInt64), (.ref A3), (.int f47), (.int z46)]), (A3, oJ xs48)] 2 19 220 #[.val (.long a), .second, .val (.long b), .second, .val (.long c), .second, .val (.int f), .val (.int x1), .val (.ref a2), .val (.long a), .second, .val (.long b6), .second, .val (.long b10), .second, .val (.long b14), .second, .val (.long b18), .second, .val (.long b30), .second, .val (.int b34), .unset] [(.int r45)] Q_law
                  have hT3 := hP3.1
                  have hZ3 : 0 ≤ z46.toInt := by rcases hT3.2.2.2.2 with e | e <;> rw [e] <;> decide
                  have hF3 : 0 ≤ f47.toInt := by have := hT3.2.2.2.1; omega
                  have hc3 := hP3.2.2
                  rw [hH2] at hc3
                  simp only [← Int64.toInt_inj] at hc3
                  have hH3 : ∀ y, Has x1 z46 xs48 y ↔ (((y = a) ∨ y = b6) ∨ y = b10) := fun y => by rw [hP3.2.1 y, hH2 y]
                  have hs3 : f47.toInt + z46.toInt = b26.toInt := own_s3 hj27 hc3 hs2
                  clear hc3 hj27
                  have hb3 : 0 ≤ f47.toInt ∧ f47.toInt + z46.toInt ≤ 3 := by omega
                  show Wp none l Z "com/example/orthrus/orthrus/SignatureSetSizePinLaw" "law" code maxLocals ret room_1 [(a2, oI "com/example/orthrus/orthrus/SignatureSet" sg_1 [(.long x1.toInt64), (.ref A3), (.int f47), (.int z46)]), (A3, oJ xs48)] 2 19 220 #[.val (.long a), .second, .val (.long b), .second, .val (.long c), .second, .val (.int f), .val (.int x1), .val (.ref a2), .val (.long a), .second, .val (.long b6), .second, .val (.long b10), .second, .val (.long b14), .second, .val (.long b18), .second, .val (.long b30), .second, .val (.int b34), .unset] [(.int r45)] Q_law
                  refine wp_pop D_220 rfl ?_
                  refine wp_aload D_221 rfl rfl ?_
                  refine wp_lload D_223 rfl ?_
                  have hli3 : xs48.length.toInt32 = x1 := by rw [hT3.1]; exact (back32 (own_i32 _ (by omega))).1
                  refine wp_virtual (c_add l Z a0 hw a2 A3 x1.toInt64 b14 z46 f47 x1 xs48 [] hli3 hT3.1 hn ⟨hb3.1, by omega⟩ hT3) (exa_new (i := 0) rfl) D_225 (hw _ (List.mem_of_getElem? (i := 14) rfl)) (hw _ (List.mem_of_getElem? (i := 15) rfl)) (hw _ (List.mem_of_getElem? (i := 17) rfl)) (hw _ (List.mem_of_getElem? (i := 17) rfl)) (hw _ (List.mem_of_getElem? (i := 16) rfl)) (hw _ (List.mem_of_getElem? (i := 2) rfl)) (hw _ (List.mem_of_getElem? (i := 18) rfl)) (by decide) pd_8 rfl rfl rfl (Nat.le_of_ble_eq_true rfl) (Nat.le_of_ble_eq_true rfl) (Nat.le_of_ble_eq_true rfl) (Nat.le_of_ble_eq_true rfl) ?_
                  rintro _ _ ⟨r49, z50, f51, xs52, rfl, rfl, hP4⟩
                  show Wp none l Z "com/example/orthrus/orthrus/SignatureSetSizePinLaw" "law" code maxLocals ret room_1 [(a2, oI "com/example/orthrus/orthrus/SignatureSet" sg_1 [(.long x1.toInt64), (.ref A3), (.int f51), (.int z50)]), (A3, oJ xs52)] 2 19 228 #[.val (.long a), .second, .val (.long b), .second, .val (.long c), .second, .val (.int f), .val (.int x1), .val (.ref a2), .val (.long a), .second, .val (.long b6), .second, .val (.long b10), .second, .val (.long b14), .second, .val (.long b18), .second, .val (.long b30), .second, .val (.int b34), .unset] [(.int r49)] Q_law
                  have hT4 := hP4.1
                  have hZ4 : 0 ≤ z50.toInt := by rcases hT4.2.2.2.2 with e | e <;> rw [e] <;> decide
                  have hF4 : 0 ≤ f51.toInt := by have := hT4.2.2.2.1; omega
                  have hc4 := hP4.2.2
                  rw [hH3] at hc4
                  simp only [← Int64.toInt_inj] at hc4
                  have hH4 : ∀ y, Has x1 z50 xs52 y ↔ ((((y = a) ∨ y = b6) ∨ y = b10) ∨ y = b14) := fun y => by rw [hP4.2.1 y, hH3 y]
                  have hs4 : f51.toInt + z50.toInt = b30.toInt := own_s4 hj31 hc4 hs3
                  clear hc4 hj31
                  have hb4 : 0 ≤ f51.toInt ∧ f51.toInt + z50.toInt ≤ 4 := by omega
                  show Wp none l Z "com/example/orthrus/orthrus/SignatureSetSizePinLaw" "law" code maxLocals ret room_1 [(a2, oI "com/example/orthrus/orthrus/SignatureSet" sg_1 [(.long x1.toInt64), (.ref A3), (.int f51), (.int z50)]), (A3, oJ xs52)] 2 19 228 #[.val (.long a), .second, .val (.long b), .second, .val (.long c), .second, .val (.int f), .val (.int x1), .val (.ref a2), .val (.long a), .second, .val (.long b6), .second, .val (.long b10), .second, .val (.long b14), .second, .val (.long b18), .second, .val (.long b30), .second, .val (.int b34), .unset] [(.int r49)] Q_law
                  refine wp_pop D_228 rfl ?_
                  refine wp_aload D_229 rfl rfl ?_
                  refine wp_virtual (c_size l Z a0 hw a2 A3 x1.toInt64 z50 f51 [(A3, oJ xs52)]) (exa_new (i := 0) rfl) D_231 (hw _ (List.mem_of_getElem? (i := 48) rfl)) (hw _ (List.mem_of_getElem? (i := 49) rfl)) (hw _ (List.mem_of_getElem? (i := 51) rfl)) (hw _ (List.mem_of_getElem? (i := 51) rfl)) (hw _ (List.mem_of_getElem? (i := 50) rfl)) (hw _ (List.mem_of_getElem? (i := 2) rfl)) (hw _ (List.mem_of_getElem? (i := 52) rfl)) (by decide) pd_9 rfl rfl rfl (Nat.le_of_ble_eq_true rfl) (Nat.le_of_ble_eq_true rfl) (Nat.le_of_ble_eq_true rfl) (Nat.le_of_ble_eq_true rfl) ?_
                  rintro _ _ ⟨rfl, rfl⟩
                  show Wp none l Z "com/example/orthrus/orthrus/SignatureSetSizePinLaw" "law" code maxLocals ret room_1 [(a2, oI "com/example/orthrus/orthrus/SignatureSet" sg_1 [(.long x1.toInt64), (.ref A3), (.int f51), (.int z50)]), (A3, oJ xs52)] 2 19 234 #[.val (.long a), .second, .val (.long b), .second, .val (.long c), .second, .val (.int f), .val (.int x1), .val (.ref a2), .val (.long a), .second, .val (.long b6), .second, .val (.long b10), .second, .val (.long b14), .second, .val (.long b18), .second, .val (.long b30), .second, .val (.int b34), .unset] [(.long (f_size f51 z50))] Q_law
                  refine wp_lload D_234 rfl ?_
                  refine wp_lcmp_ne D_236 D_237 (pc'' := 244) ⟨by decide, by decide⟩ (fun h53 => by exact absurd (Int64.toInt_inj.mp (by rw [own_size x1 f51 z50 xs52 hT4 (by omega)]; omega)) h53) (fun h53 => ?_)
                  refine wp_iconst 1 D_240 (by decide) ?_
                  refine wp_goto D_241 (pc'' := 245) ⟨by decide, by decide⟩ ?_
                  refine wp_istore #[.val (.long a), .second, .val (.long b), .second, .val (.long c), .second, .val (.int f), .val (.int x1), .val (.ref a2), .val (.long a), .second, .val (.long b6), .second, .val (.long b10), .second, .val (.long b14), .second, .val (.long b18), .second, .val (.long b30), .second, .val (.int b34), .val (.int (1 : Int32))] D_245 rfl ?_
                  refine wp_aload D_247 rfl rfl ?_
                  refine wp_lload D_249 rfl ?_
                  have hli4 : xs52.length.toInt32 = x1 := by rw [hT4.1]; exact (back32 (own_i32 _ (by omega))).1
                  refine wp_virtual (c_rem l Z a0 hw a2 A3 x1.toInt64 b6 z50 f51 x1 xs52 [] hli4 hT4.1 hn ⟨hb4.1, by omega⟩ hT4) (exa_new (i := 0) rfl) D_251 (hw _ (List.mem_of_getElem? (i := 53) rfl)) (hw _ (List.mem_of_getElem? (i := 54) rfl)) (hw _ (List.mem_of_getElem? (i := 56) rfl)) (hw _ (List.mem_of_getElem? (i := 56) rfl)) (hw _ (List.mem_of_getElem? (i := 55) rfl)) (hw _ (List.mem_of_getElem? (i := 2) rfl)) (hw _ (List.mem_of_getElem? (i := 57) rfl)) (by decide) pd_8 rfl rfl rfl (Nat.le_of_ble_eq_true rfl) (Nat.le_of_ble_eq_true rfl) (Nat.le_of_ble_eq_true rfl) (Nat.le_of_ble_eq_true rfl) ?_
                  rintro _ _ ⟨r54, z55, f56, xs57, rfl, rfl, hP5⟩
                  show Wp none l Z "com/example/orthrus/orthrus/SignatureSetSizePinLaw" "law" code maxLocals ret room_1 [(a2, oI "com/example/orthrus/orthrus/SignatureSet" sg_1 [(.long x1.toInt64), (.ref A3), (.int f56), (.int z55)]), (A3, oJ xs57)] 2 19 254 #[.val (.long a), .second, .val (.long b), .second, .val (.long c), .second, .val (.int f), .val (.int x1), .val (.ref a2), .val (.long a), .second, .val (.long b6), .second, .val (.long b10), .second, .val (.long b14), .second, .val (.long b18), .second, .val (.long b30), .second, .val (.int b34), .val (.int (1 : Int32))] [(.int r54)] Q_law
                  have hT5 := hP5.1
                  have hZ5 : 0 ≤ z55.toInt := by rcases hT5.2.2.2.2 with e | e <;> rw [e] <;> decide
                  have hF5 : 0 ≤ f56.toInt := by have := hT5.2.2.2.1; omega
                  have hc5 := hP5.2.2
                  have hs5 : f56.toInt + z55.toInt + 1 = f51.toInt + z50.toInt := hc5.elim (fun q => q.2) (fun q => absurd ((hH4 _).mpr (by simp)) q.1)
                  clear hc5
                  have hb5 : 0 ≤ f56.toInt ∧ f56.toInt + z55.toInt ≤ 4 := by omega
                  show Wp none l Z "com/example/orthrus/orthrus/SignatureSetSizePinLaw" "law" code maxLocals ret room_1 [(a2, oI "com/example/orthrus/orthrus/SignatureSet" sg_1 [(.long x1.toInt64), (.ref A3), (.int f56), (.int z55)]), (A3, oJ xs57)] 2 19 254 #[.val (.long a), .second, .val (.long b), .second, .val (.long c), .second, .val (.int f), .val (.int x1), .val (.ref a2), .val (.long a), .second, .val (.long b6), .second, .val (.long b10), .second, .val (.long b14), .second, .val (.long b18), .second, .val (.long b30), .second, .val (.int b34), .val (.int (1 : Int32))] [(.int r54)] Q_law
                  refine wp_pop D_254 rfl ?_
                  refine wp_iload D_255 rfl ?_
                  refine wp_if_eq D_257 (pc'' := 277) ⟨by decide, by decide⟩ (fun h58 => by exact absurd h58 (by decide)) (fun h58 => ?_)
                  refine wp_aload D_260 rfl rfl ?_
                  refine wp_virtual (c_size l Z a0 hw a2 A3 x1.toInt64 z55 f56 [(A3, oJ xs57)]) (exa_new (i := 0) rfl) D_262 (hw _ (List.mem_of_getElem? (i := 48) rfl)) (hw _ (List.mem_of_getElem? (i := 49) rfl)) (hw _ (List.mem_of_getElem? (i := 51) rfl)) (hw _ (List.mem_of_getElem? (i := 51) rfl)) (hw _ (List.mem_of_getElem? (i := 50) rfl)) (hw _ (List.mem_of_getElem? (i := 2) rfl)) (hw _ (List.mem_of_getElem? (i := 52) rfl)) (by decide) pd_9 rfl rfl rfl (Nat.le_of_ble_eq_true rfl) (Nat.le_of_ble_eq_true rfl) (Nat.le_of_ble_eq_true rfl) (Nat.le_of_ble_eq_true rfl) ?_
                  rintro _ _ ⟨rfl, rfl⟩
                  show Wp none l Z "com/example/orthrus/orthrus/SignatureSetSizePinLaw" "law" code maxLocals ret room_1 [(a2, oI "com/example/orthrus/orthrus/SignatureSet" sg_1 [(.long x1.toInt64), (.ref A3), (.int f56), (.int z55)]), (A3, oJ xs57)] 2 19 265 #[.val (.long a), .second, .val (.long b), .second, .val (.long c), .second, .val (.int f), .val (.int x1), .val (.ref a2), .val (.long a), .second, .val (.long b6), .second, .val (.long b10), .second, .val (.long b14), .second, .val (.long b18), .second, .val (.long b30), .second, .val (.int b34), .val (.int (1 : Int32))] [(.long (f_size f56 z55))] Q_law
                  refine wp_lload D_265 rfl ?_
                  refine wp_lconst 1 D_267 (by decide) ?_
                  refine wp_lsub D_268 ?_
                  refine wp_lcmp_ne D_269 D_270 (pc'' := 277) ⟨by decide, by decide⟩ (fun h59 => by exact absurd (Int64.toInt_inj.mp (by rw [own_size x1 f56 z55 xs57 hT5 (by omega), own_lm b30 (by omega)]; omega)) h59) (fun h59 => ?_)
                  refine wp_iconst 1 D_273 (by decide) ?_
                  refine wp_goto D_274 (pc'' := 278) ⟨by decide, by decide⟩ ?_
                  refine wp_istore #[.val (.long a), .second, .val (.long b), .second, .val (.long c), .second, .val (.int f), .val (.int x1), .val (.ref a2), .val (.long a), .second, .val (.long b6), .second, .val (.long b10), .second, .val (.long b14), .second, .val (.long b18), .second, .val (.long b30), .second, .val (.int b34), .val (.int (1 : Int32))] D_278 rfl ?_
                  refine wp_aload D_280 rfl rfl ?_
                  refine wp_lload D_282 rfl ?_
                  have hli5 : xs57.length.toInt32 = x1 := by rw [hT5.1]; exact (back32 (own_i32 _ (by omega))).1
                  refine wp_virtual (c_rem l Z a0 hw a2 A3 x1.toInt64 b18 z55 f56 x1 xs57 [] hli5 hT5.1 hn ⟨hb5.1, by omega⟩ hT5) (exa_new (i := 0) rfl) D_284 (hw _ (List.mem_of_getElem? (i := 53) rfl)) (hw _ (List.mem_of_getElem? (i := 54) rfl)) (hw _ (List.mem_of_getElem? (i := 56) rfl)) (hw _ (List.mem_of_getElem? (i := 56) rfl)) (hw _ (List.mem_of_getElem? (i := 55) rfl)) (hw _ (List.mem_of_getElem? (i := 2) rfl)) (hw _ (List.mem_of_getElem? (i := 57) rfl)) (by decide) pd_8 rfl rfl rfl (Nat.le_of_ble_eq_true rfl) (Nat.le_of_ble_eq_true rfl) (Nat.le_of_ble_eq_true rfl) (Nat.le_of_ble_eq_true rfl) ?_
                  rintro _ _ ⟨r60, z61, f62, xs63, rfl, rfl, hP6⟩
                  show Wp none l Z "com/example/orthrus/orthrus/SignatureSetSizePinLaw" "law" code maxLocals ret room_1 [(a2, oI "com/example/orthrus/orthrus/SignatureSet" sg_1 [(.long x1.toInt64), (.ref A3), (.int f62), (.int z61)]), (A3, oJ xs63)] 2 19 287 #[.val (.long a), .second, .val (.long b), .second, .val (.long c), .second, .val (.int f), .val (.int x1), .val (.ref a2), .val (.long a), .second, .val (.long b6), .second, .val (.long b10), .second, .val (.long b14), .second, .val (.long b18), .second, .val (.long b30), .second, .val (.int b34), .val (.int (1 : Int32))] [(.int r60)] Q_law
                  have hT6 := hP6.1
                  have hZ6 : 0 ≤ z61.toInt := by rcases hT6.2.2.2.2 with e | e <;> rw [e] <;> decide
                  have hF6 : 0 ≤ f62.toInt := by have := hT6.2.2.2.1; omega
                  have hc6 := hP6.2.2
                  rw [hP5.2.1, hH4] at hc6
                  simp only [← Int64.toInt_inj, ne_eq] at hc6
                  have hs6 := own_s6 hj35 hc6
                  clear hc6 hj35
                  have hb6 : 0 ≤ f62.toInt ∧ f62.toInt + z61.toInt ≤ 4 := by omega
                  show Wp none l Z "com/example/orthrus/orthrus/SignatureSetSizePinLaw" "law" code maxLocals ret room_1 [(a2, oI "com/example/orthrus/orthrus/SignatureSet" sg_1 [(.long x1.toInt64), (.ref A3), (.int f62), (.int z61)]), (A3, oJ xs63)] 2 19 287 #[.val (.long a), .second, .val (.long b), .second, .val (.long c), .second, .val (.int f), .val (.int x1), .val (.ref a2), .val (.long a), .second, .val (.long b6), .second, .val (.long b10), .second, .val (.long b14), .second, .val (.long b18), .second, .val (.long b30), .second, .val (.int b34), .val (.int (1 : Int32))] [(.int r60)] Q_law
                  refine wp_pop D_287 rfl ?_
                  refine wp_iload D_288 rfl ?_
                  refine wp_if_eq D_290 (pc'' := 321) ⟨by decide, by decide⟩ (fun h64 => by exact absurd h64 (by decide)) (fun h64 => ?_)
                  refine wp_aload D_293 rfl rfl ?_
                  refine wp_virtual (c_size l Z a0 hw a2 A3 x1.toInt64 z61 f62 [(A3, oJ xs63)]) (exa_new (i := 0) rfl) D_295 (hw _ (List.mem_of_getElem? (i := 48) rfl)) (hw _ (List.mem_of_getElem? (i := 49) rfl)) (hw _ (List.mem_of_getElem? (i := 51) rfl)) (hw _ (List.mem_of_getElem? (i := 51) rfl)) (hw _ (List.mem_of_getElem? (i := 50) rfl)) (hw _ (List.mem_of_getElem? (i := 2) rfl)) (hw _ (List.mem_of_getElem? (i := 52) rfl)) (by decide) pd_9 rfl rfl rfl (Nat.le_of_ble_eq_true rfl) (Nat.le_of_ble_eq_true rfl) (Nat.le_of_ble_eq_true rfl) (Nat.le_of_ble_eq_true rfl) ?_
                  rintro _ _ ⟨rfl, rfl⟩
                  show Wp none l Z "com/example/orthrus/orthrus/SignatureSetSizePinLaw" "law" code maxLocals ret room_1 [(a2, oI "com/example/orthrus/orthrus/SignatureSet" sg_1 [(.long x1.toInt64), (.ref A3), (.int f62), (.int z61)]), (A3, oJ xs63)] 2 19 298 #[.val (.long a), .second, .val (.long b), .second, .val (.long c), .second, .val (.int f), .val (.int x1), .val (.ref a2), .val (.long a), .second, .val (.long b6), .second, .val (.long b10), .second, .val (.long b14), .second, .val (.long b18), .second, .val (.long b30), .second, .val (.int b34), .val (.int (1 : Int32))] [(.long (f_size f62 z61))] Q_law
                  refine wp_lload D_298 rfl ?_
                  refine wp_lconst 1 D_300 (by decide) ?_
                  refine wp_lsub D_301 ?_
                  refine wp_iload D_302 rfl ?_
                  refine wp_if_eq D_304 (pc'' := 311) ⟨by decide, by decide⟩ (fun h65 => ?_) (fun h65 => ?_)
                  · skip
                    refine wp_lconst 0 D_311 (by decide) ?_
                    refine wp_lsub D_312 ?_
                    refine wp_lcmp_ne D_313 D_314 (pc'' := 321) ⟨by decide, by decide⟩ (fun h66 => by have hk := h65; simp only [← Int32.toInt_inj, Int32.reduceToInt] at hk; exact absurd (Int64.toInt_inj.mp (by rw [own_size x1 f62 z61 xs63 hT6 (by omega), own_l0, own_lm b30 (by omega)]; omega)) h66) (fun h66 => ?_)
                    refine wp_iconst 1 D_317 (by decide) ?_
                    refine wp_goto D_318 (pc'' := 322) ⟨by decide, by decide⟩ ?_
                    refine wp_istore #[.val (.long a), .second, .val (.long b), .second, .val (.long c), .second, .val (.int f), .val (.int x1), .val (.ref a2), .val (.long a), .second, .val (.long b6), .second, .val (.long b10), .second, .val (.long b14), .second, .val (.long b18), .second, .val (.long b30), .second, .val (.int b34), .val (.int (1 : Int32))] D_322 rfl ?_
                    refine wp_iload D_324 rfl ?_
                    refine wp_ireturnN D_326 rfl (by simp) (by decide) (by decide) ?_
                    exact rfl
                  · skip
                    refine wp_lconst 1 D_307 (by decide) ?_
                    refine wp_goto D_308 (pc'' := 312) ⟨by decide, by decide⟩ ?_
                    refine wp_lsub D_312 ?_
                    refine wp_lcmp_ne D_313 D_314 (pc'' := 321) ⟨by decide, by decide⟩ (fun h67 => by have hk := h65; simp only [← Int32.toInt_inj, Int32.reduceToInt] at hk; exact absurd (Int64.toInt_inj.mp (by rw [own_size x1 f62 z61 xs63 hT6 (by omega), own_lm (b30 - 1) (by rw [own_lm b30 (by omega)]; omega), own_lm b30 (by omega)]; omega)) h67) (fun h67 => ?_)
                    refine wp_iconst 1 D_317 (by decide) ?_
                    refine wp_goto D_318 (pc'' := 322) ⟨by decide, by decide⟩ ?_
                    refine wp_istore #[.val (.long a), .second, .val (.long b), .second, .val (.long c), .second, .val (.int f), .val (.int x1), .val (.ref a2), .val (.long a), .second, .val (.long b6), .second, .val (.long b10), .second, .val (.long b14), .second, .val (.long b18), .second, .val (.long b30), .second, .val (.int b34), .val (.int (1 : Int32))] D_322 rfl ?_
                    refine wp_iload D_324 rfl ?_
                    refine wp_ireturnN D_326 rfl (by simp) (by decide) (by decide) ?_
                    exact rfl
                refine wp_lcmp_eq D_162 D_163 (pc'' := 194) ⟨by decide, by decide⟩ (fun h33 => ?_) (fun h33 => ?_)
                · skip
                  refine wp_iconst 0 D_194 (by decide) ?_
                  exact (J36 (0 : Int32) (Or.inl ⟨h33, rfl⟩))
                · skip
                  refine wp_lload D_166 rfl ?_
                  refine wp_lload D_168 rfl ?_
                  refine wp_lcmp_eq D_170 D_171 (pc'' := 190) ⟨by decide, by decide⟩ (fun h68 => ?_) (fun h68 => ?_)
                  · skip
                    refine wp_iconst 1 D_190 (by decide) ?_
                    refine wp_goto D_191 (pc'' := 195) ⟨by decide, by decide⟩ ?_
                    exact (J36 (1 : Int32) (Or.inr (Or.inl ⟨h33, h68, rfl⟩)))
                  · skip
                    refine wp_lload D_174 rfl ?_
                    refine wp_lload D_176 rfl ?_
                    refine wp_lcmp_eq D_178 D_179 (pc'' := 190) ⟨by decide, by decide⟩ (fun h69 => ?_) (fun h69 => ?_)
                    · skip
                      refine wp_iconst 1 D_190 (by decide) ?_
                      refine wp_goto D_191 (pc'' := 195) ⟨by decide, by decide⟩ ?_
                      exact (J36 (1 : Int32) (Or.inr (Or.inr (Or.inl ⟨h33, h68, h69, rfl⟩))))
                    · skip
                      refine wp_lload D_182 rfl ?_
                      refine wp_lload D_184 rfl ?_
                      refine wp_lcmp_ne D_186 D_187 (pc'' := 194) ⟨by decide, by decide⟩ (fun h70 => ?_) (fun h70 => ?_)
                      · skip
                        refine wp_iconst 0 D_194 (by decide) ?_
                        exact (J36 (0 : Int32) (Or.inr (Or.inr (Or.inr (Or.inl ⟨h33, h68, h69, h70, rfl⟩)))))
                      · skip
                        refine wp_iconst 1 D_190 (by decide) ?_
                        refine wp_goto D_191 (pc'' := 195) ⟨by decide, by decide⟩ ?_
                        exact (J36 (1 : Int32) (Or.inr (Or.inr (Or.inr (Or.inr ⟨h33, h68, h69, h70, rfl⟩)))))
              refine wp_lcmp_eq D_132 D_133 (pc'' := 158) ⟨by decide, by decide⟩ (fun h29 => ?_) (fun h29 => ?_)
              · skip
                exact (J32 b26 (Or.inl ⟨h29, rfl⟩))
              · skip
                refine wp_lload D_136 rfl ?_
                refine wp_lload D_138 rfl ?_
                refine wp_lcmp_eq D_140 D_141 (pc'' := 158) ⟨by decide, by decide⟩ (fun h71 => ?_) (fun h71 => ?_)
                · skip
                  exact (J32 b26 (Or.inr (Or.inl ⟨h29, h71, rfl⟩)))
                · skip
                  refine wp_lload D_144 rfl ?_
                  refine wp_lload D_146 rfl ?_
                  refine wp_lcmp_eq D_148 D_149 (pc'' := 158) ⟨by decide, by decide⟩ (fun h72 => ?_) (fun h72 => ?_)
                  · skip
                    exact (J32 b26 (Or.inr (Or.inr (Or.inl ⟨h29, h71, h72, rfl⟩))))
                  · skip
                    refine wp_lload D_152 rfl ?_
                    refine wp_lconst 1 D_154 (by decide) ?_
                    refine wp_ladd D_155 ?_
                    refine wp_lstore #[.val (.long a), .second, .val (.long b), .second, .val (.long c), .second, .val (.int f), .val (.int x1), .val (.ref a2), .val (.long a), .second, .val (.long b6), .second, .val (.long b10), .second, .val (.long b14), .second, .val (.long b18), .second, .val (.long (b26 + (1 : Int64))), .second, .unset, .unset] D_156 rfl ?_
                    exact (J32 (b26 + (1 : Int64)) (Or.inr (Or.inr (Or.inr ⟨h29, h71, h72, rfl⟩))))
            refine wp_lcmp_eq D_110 D_111 (pc'' := 128) ⟨by decide, by decide⟩ (fun h25 => ?_) (fun h25 => ?_)
            · skip
              exact (J28 b22 (Or.inl ⟨h25, rfl⟩))
            · skip
              refine wp_lload D_114 rfl ?_
              refine wp_lload D_116 rfl ?_
              refine wp_lcmp_eq D_118 D_119 (pc'' := 128) ⟨by decide, by decide⟩ (fun h73 => ?_) (fun h73 => ?_)
              · skip
                exact (J28 b22 (Or.inr (Or.inl ⟨h25, h73, rfl⟩)))
              · skip
                refine wp_lload D_122 rfl ?_
                refine wp_lconst 1 D_124 (by decide) ?_
                refine wp_ladd D_125 ?_
                refine wp_lstore #[.val (.long a), .second, .val (.long b), .second, .val (.long c), .second, .val (.int f), .val (.int x1), .val (.ref a2), .val (.long a), .second, .val (.long b6), .second, .val (.long b10), .second, .val (.long b14), .second, .val (.long b18), .second, .val (.long (b22 + (1 : Int64))), .second, .unset, .unset] D_126 rfl ?_
                exact (J28 (b22 + (1 : Int64)) (Or.inr (Or.inr ⟨h25, h73, rfl⟩)))
          refine wp_lcmp_eq D_96 D_97 (pc'' := 106) ⟨by decide, by decide⟩ (fun h21 => ?_) (fun h21 => ?_)
          · skip
            exact (J24 (1 : Int64) (Or.inl ⟨h21, rfl⟩))
          · skip
            refine wp_lload D_100 rfl ?_
            refine wp_lconst 1 D_102 (by decide) ?_
            refine wp_ladd D_103 ?_
            rw [show ((1 : Int64) + (1 : Int64)) = (2 : Int64) from by decide]
            refine wp_lstore #[.val (.long a), .second, .val (.long b), .second, .val (.long c), .second, .val (.int f), .val (.int x1), .val (.ref a2), .val (.long a), .second, .val (.long b6), .second, .val (.long b10), .second, .val (.long b14), .second, .val (.long b18), .second, .val (.long (2 : Int64)), .second, .unset, .unset] D_104 rfl ?_
            exact (J24 (2 : Int64) (Or.inr ⟨h21, rfl⟩))
        refine wp_if_eq D_78 (pc'' := 86) ⟨by decide, by decide⟩ (fun h17 => ?_) (fun h17 => ?_)
        · skip
          refine wp_lload_n D_86 rfl ?_
          exact (J20 b (Or.inl ⟨h17, rfl⟩))
        · skip
          refine wp_lload D_81 rfl ?_
          refine wp_goto D_83 (pc'' := 87) ⟨by decide, by decide⟩ ?_
          exact (J20 b6 (Or.inr ⟨h17, rfl⟩))
      refine wp_if_eq D_62 (pc'' := 69) ⟨by decide, by decide⟩ (fun h13 => ?_) (fun h13 => ?_)
      · skip
        refine wp_lload D_69 rfl ?_
        exact (J16 c (Or.inl ⟨h13, rfl⟩))
      · skip
        refine wp_lload_n D_65 rfl ?_
        refine wp_goto D_66 (pc'' := 71) ⟨by decide, by decide⟩ ?_
        exact (J16 b (Or.inr ⟨h13, rfl⟩))
    refine wp_if_eq D_47 (pc'' := 54) ⟨by decide, by decide⟩ (fun h9 => ?_) (fun h9 => ?_)
    · skip
      refine wp_lload D_54 rfl ?_
      exact (J12 c (Or.inl ⟨h9, rfl⟩))
    · skip
      refine wp_lconst 0 D_50 (by decide) ?_
      refine wp_goto D_51 (pc'' := 56) ⟨by decide, by decide⟩ ?_
      exact (J12 (0 : Int64) (Or.inr ⟨h9, rfl⟩))
  refine wp_if_eq D_33 (pc'' := 40) ⟨by decide, by decide⟩ (fun h5 => ?_) (fun h5 => ?_)
  · skip
    refine wp_lload_n D_40 rfl ?_
    exact (J8 b (Or.inl ⟨h5, rfl⟩))
  · skip
    refine wp_lload_n D_36 rfl ?_
    refine wp_goto D_37 (pc'' := 41) ⟨by decide, by decide⟩ ?_
    exact (J8 a (Or.inr ⟨h5, rfl⟩))
set_option maxRecDepth 65536 in
set_option maxHeartbeats 40000000 in
theorem comes_1 {Post : Tables → Env → Array Value → State → Outcome → State → Prop} (hpost : ∀ tb e args s v u, (limb_1_1.after args s (.returned v) u = true ∧ limb_1_2.after args s (.returned v) u = true ∧ True) → FrameEnd s (.returned v) u (Jvm.fieldLocs frame_1_writes args s ++ Jvm.arrayLocs frame_1_arrays args s ++ Jvm.staticLocs frame_1_statics s) 16 128 → Post tb e args s (.returned v) u) :
    ArmFor flags0 classFile x code maxLocals ret World_1 tables_1 room_1 Calls_1 rest_1 Pre_1 Post := by
  intro l hfl _ _ p e ha hc hk s m args below hf hA hF happ hP
  obtain ⟨hcalls, hrest, hpre⟩ := hP
  obtain ⟨-, -, -, hnamed, -, -, -, hat⟩ := (Spec.applies_iff hf).mp happ
  obtain ⟨hg, hn⟩ := and_e (Cond.before_iff.mp (show (Jvm.Cond.and given_1 narrow_1).before args s = true from hpre))
  obtain ⟨hcnt, hk0⟩ := and_e hg
  obtain ⟨hz0, hk1⟩ := and_e hk0
  obtain ⟨hz1, hk2⟩ := and_e hk1
  obtain ⟨hz2, hk3⟩ := and_e hk2
  have hz3 := hk3
  obtain ⟨w0, w1, w2, w3, rfl⟩ : ∃ w0 w1 w2 w3 : Value, args = #[w0, w1, w2, w3] := by
    have hs : args.size = 4 := by simpa [Cond.value, given_1] using hcnt
    obtain ⟨L⟩ := args
    match L, hs with
    | [w0, w1, w2, w3], _ => exact ⟨w0, w1, w2, w3, rfl⟩
  have hw := fun d (hd : d ∈ tables_1) => atoms_spec (ws := Jvm.Cond.code x code maxLocals ret :: tables_1) hat d (List.mem_cons_of_mem _ hd)
  have hfit : Fit s := fun {y c} hc i hi => by
    obtain ⟨ha, rfl⟩ := Array.getElem?_eq_some_iff.mp hc
    have q := List.all_eq_true.mp ((Array.all_eq_true_iff_forall_mem.mp hF) _ (Array.getElem_mem ha)) i (List.mem_range.mpr hi)
    simpa [Array.getElem?_eq_getElem hi] using q
  obtain ⟨a, e0⟩ := isL_v hz0
  obtain rfl : w0 = (.long a) := Option.some.inj e0
  obtain ⟨b, e1⟩ := isL_v hz1
  obtain rfl : w1 = (.long b) := Option.some.inj e1
  obtain ⟨c_, e2⟩ := isL_v hz2
  obtain rfl : w2 = (.long c_) := Option.some.inj e2
  obtain ⟨f, e3⟩ := is_v hz3
  obtain rfl : w3 = (.int f) := Option.some.inj e3
  have hm := (law_wp l s _ hw a b c_ f )
  obtain ⟨n, o, h1, h2, h3, v, L, rfl, ⟨N, -, H', -, hQ⟩, hq⟩ := Met.of_wp (y := x) (as' := [(.long a), (.long b), (.long c_), (.int f)]) pn_12 (fun m => (entry_loc m _ _).trans rfl) hm tables_1 s.heap (Hp.nil s) p e ha hc hk s m _ below hf ((Spec.applies_iff_loose hf).mp happ).1 ⟨rfl, State.Warmed39.refl s, rfl⟩ trivial
  obtain rfl : v = some (.int 1) := hQ
  refine ⟨n, _, h1, h2, h3, hpost _ _ _ _ _ _ ⟨Cond.after_iff.mpr rfl, Cond.after_iff.mpr (eq_i res_at (Term.int_eval (1)) rfl), trivial⟩ ⟨hq.1, hq.2.1, (hq.2.2.sift fun y hy => Or.inr (N y hy)).mono (by decide) (by decide)⟩⟩
theorem main_1_1 : Claimed_1_1 := comes_1 fun _ _ _ _ _ _ h hF => ⟨h.1, hF⟩
theorem main_1_2 : Claimed_1_2 := comes_1 fun _ _ _ _ _ _ h hF => ⟨h.2.1, hF⟩
end Jvm.Pilot.@@N@@
namespace Jvm.Pilot.@@N@@
open Jvm Jvm.ClassFile Sem Op Lib Jvm.Free Jvm.Stand Jvm.Pilot.@@N@@.Jvm.D
/-! MADE BY PROGRAM (witnessworld.py) out of the Statement's table words and the real class files: 13 classes; the members and pool entries that the words name. The judged class is class 1, her method 1. -/
namespace start1
open Jvm.ClassFile
def u (s : String) : CpInfo := .utf8 (stringToUtf16 s)
/-- a pool by its gaps: so many unusable entries, then the entry; so many at the end -/
def gap : Nat → List CpInfo → List CpInfo
  | 0, r => r
  | n + 1, r => .unusable :: gap n r
def poolList (es : List (Nat × CpInfo)) (last : Nat) : List CpInfo := es.foldr (fun e r => gap e.1 (e.2 :: r)) (gap last [])
def pool (es : List (Nat × CpInfo)) (last : Nat) : Array CpInfo := ⟨poolList es last⟩
def fileOf (pool : Array CpInfo) (this : Nat) (attrs : Array Attribute := #[]) (ms : Array MethodInfo := #[]) (fl : Nat := 33) (sup : Nat := 0) (ifs : Array Nat := #[]) (fds : Array FieldInfo := #[]) : ClassFile where
  minorVersion := 0
  majorVersion := 65
  constantPool := pool
  accessFlags := fl
  thisClass := this
  superClass := sup
  interfaces := ifs
  fields := fds
  methods := ms
  attributes := attrs
def plain (name : String) (sup : Option ClassId) : Class where
  name := name
  kind := .ordinary
  loader := none
  accessFlags := 33
  super := sup
  interfaces := #[]
  cf := none
  fields := #[]
  methods := #[]
  instanceTypes := #[]
  staticTypes := #[]
  resolved := #[]
  callSites := []
  init := .initialized
  statics := none
  mirror := none

def pool0 : Array CpInfo := pool [(5, u "<init>"), (0, u "()V"), (1, .class_ 10), (1, u "java/lang/Object")] 113

def k0c0 : Code := { maxStack := 0, maxLocals := 1, code := object_method_1_code, exceptionTable := #[], attributes := #[] }
def k0m0 : Method := { name := "<init>", desc := "()V", sig := { parameters := [], returnType := none }, accessFlags := 1, code := some k0c0 }
/-- java/lang/Object -/
def k0 : Class := { plain "java/lang/Object" none with
  accessFlags := 33
  interfaces := #[]
  cf := some (fileOf pool0 8 #[] #[{ accessFlags := 1, nameIndex := 5, descriptorIndex := 6, attributes := #[] }] 33 0 #[] #[])
  fields := #[]
  methods := #[k0m0]
  instanceTypes := #[]
  staticTypes := #[]
  resolved := Array.replicate 124 none
  statics := none }

def pool1 : Array CpInfo := pool [(2, .class_ 4), (1, u "java/lang/Object"), (0, u "<init>"), (0, u "()V"), (0, .class_ 8), (0, u "com/example/orthrus/orthrus/SignatureSet"), (0, .methodref 7 10), (0, .nameAndType 5 11), (0, u "(IJ)V"), (0, .methodref 7 13), (0, .nameAndType 14 15), (0, u "add"), (0, u "(J)Z"), (0, .methodref 7 17), (0, .nameAndType 18 19), (0, u "size"), (0, u "()J"), (0, .methodref 7 21), (0, .nameAndType 22 15), (0, u "remove"), (0, .class_ 24), (0, u "com/example/orthrus/orthrus/SignatureSetSizePinLaw"), (2, u "law"), (0, u "(JJJI)Z")] 3

def k1m0 : Method := { name := "<init>", desc := "()V", sig := { parameters := [], returnType := none }, accessFlags := 1, code := none }
def k1c1 : Code := { maxStack := 6, maxLocals := 23, code := code, exceptionTable := #[], attributes := #[] }
def k1m1 : Method := { name := "law", desc := "(JJJI)Z", sig := { parameters := [.long, .long, .long, .int], returnType := some .boolean }, accessFlags := 9, code := some k1c1 }
/-- com/example/orthrus/orthrus/SignatureSetSizePinLaw -/
def k1 : Class := { plain "com/example/orthrus/orthrus/SignatureSetSizePinLaw" (some 0) with
  accessFlags := 49
  interfaces := #[]
  cf := some (fileOf pool1 23 #[] #[{ accessFlags := 1, nameIndex := 5, descriptorIndex := 6, attributes := #[] }, { accessFlags := 9, nameIndex := 27, descriptorIndex := 28, attributes := #[] }] 49 2 #[] #[])
  fields := #[]
  methods := #[k1m0, k1m1]
  instanceTypes := #[]
  staticTypes := #[]
  resolved := Array.replicate 32 none
  statics := none }

def pool2 : Array CpInfo := pool [(1, .class_ 2), (0, u "com/example/orthrus/orthrus/SignatureSet"), (6, u "<init>"), (0, u "(IJ)V"), (0, .methodref 12 13), (0, .class_ 14), (0, .nameAndType 9 15), (0, u "java/lang/Object"), (0, u "()V"), (0, .fieldref 1 17), (0, .nameAndType 18 19), (0, u "maxSlots"), (0, u "J"), (0, .fieldref 1 21), (0, .nameAndType 22 23), (0, u "slots"), (0, u "[J"), (0, .fieldref 1 25), (0, .nameAndType 26 27), (0, u "hasZero"), (0, u "Z"), (0, .methodref 1 29), (0, .nameAndType 30 31), (0, u "slotOf"), (0, u "(JI)I"), (0, .methodref 1 33), (0, .nameAndType 34 35), (0, u "next"), (0, u "(II)I"), (0, .methodref 1 37), (0, .nameAndType 38 39), (0, u "full"), (0, u "()Z"), (2, .fieldref 1 43), (0, .nameAndType 44 45), (0, u "filled"), (0, u "I"), (10, .methodref 1 57), (0, .nameAndType 58 59), (0, u "distance"), (0, u "(III)I"), (10, .class_ 71), (0, u "com/example/orthrus/orthrus/Cells"), (7, u "(JJ)J"), (2, .methodref 70 83), (0, .nameAndType 84 85), (0, u "mix"), (0, u "(J)J"), (0, .methodref 70 87), (0, .nameAndType 88 79), (0, u "reduce"), (0, u "INITIAL_CAPACITY"), (4, u "add"), (0, u "(J)Z"), (1, u "remove"), (0, u "size"), (0, u "()J")] 25

def k2m0 : Method := { name := "<init>", desc := "()V", sig := { parameters := [], returnType := none }, accessFlags := 0, code := none }
def k2c1 : Code := { maxStack := 3, maxLocals := 4, code := prog_8_method_2_code, exceptionTable := #[], attributes := #[] }
def k2m1 : Method := { name := "<init>", desc := "(IJ)V", sig := { parameters := [.int, .long], returnType := none }, accessFlags := 0, code := some k2c1 }
def k2c2 : Code := { maxStack := 4, maxLocals := 4, code := prog_8_method_3_code, exceptionTable := #[], attributes := #[] }
def k2m2 : Method := { name := "add", desc := "(J)Z", sig := { parameters := [.long], returnType := some .boolean }, accessFlags := 0, code := some k2c2 }
def k2c3 : Code := { maxStack := 4, maxLocals := 7, code := prog_8_method_4_code, exceptionTable := #[], attributes := #[] }
def k2m3 : Method := { name := "remove", desc := "(J)Z", sig := { parameters := [.long], returnType := some .boolean }, accessFlags := 0, code := some k2c3 }
def k2c4 : Code := { maxStack := 3, maxLocals := 1, code := prog_8_method_5_code, exceptionTable := #[], attributes := #[] }
def k2m4 : Method := { name := "full", desc := "()Z", sig := { parameters := [], returnType := some .boolean }, accessFlags := 0, code := some k2c4 }
def k2c5 : Code := { maxStack := 2, maxLocals := 1, code := prog_8_method_6_code, exceptionTable := #[], attributes := #[] }
def k2m5 : Method := { name := "size", desc := "()J", sig := { parameters := [], returnType := some .long }, accessFlags := 0, code := some k2c5 }
def k2c6 : Code := { maxStack := 4, maxLocals := 3, code := prog_8_method_12_code, exceptionTable := #[], attributes := #[] }
def k2m6 : Method := { name := "slotOf", desc := "(JI)I", sig := { parameters := [.long, .int], returnType := some .int }, accessFlags := 10, code := some k2c6 }
def k2c7 : Code := { maxStack := 2, maxLocals := 2, code := prog_8_method_13_code, exceptionTable := #[], attributes := #[] }
def k2m7 : Method := { name := "next", desc := "(II)I", sig := { parameters := [.int, .int], returnType := some .int }, accessFlags := 10, code := some k2c7 }
def k2c8 : Code := { maxStack := 2, maxLocals := 3, code := prog_8_method_14_code, exceptionTable := #[], attributes := #[] }
def k2m8 : Method := { name := "distance", desc := "(III)I", sig := { parameters := [.int, .int, .int], returnType := some .int }, accessFlags := 10, code := some k2c8 }
/-- com/example/orthrus/orthrus/SignatureSet -/
def k2 : Class := { plain "com/example/orthrus/orthrus/SignatureSet" (some 0) with
  accessFlags := 48
  interfaces := #[]
  cf := some (fileOf pool2 1 #[] #[{ accessFlags := 0, nameIndex := 9, descriptorIndex := 15, attributes := #[] }, { accessFlags := 0, nameIndex := 9, descriptorIndex := 10, attributes := #[] }, { accessFlags := 0, nameIndex := 94, descriptorIndex := 95, attributes := #[] }, { accessFlags := 0, nameIndex := 97, descriptorIndex := 95, attributes := #[] }, { accessFlags := 0, nameIndex := 38, descriptorIndex := 39, attributes := #[] }, { accessFlags := 0, nameIndex := 98, descriptorIndex := 99, attributes := #[] }, { accessFlags := 10, nameIndex := 30, descriptorIndex := 31, attributes := #[] }, { accessFlags := 10, nameIndex := 34, descriptorIndex := 35, attributes := #[] }, { accessFlags := 10, nameIndex := 58, descriptorIndex := 59, attributes := #[] }] 48 12 #[] #[{ accessFlags := 24, nameIndex := 89, descriptorIndex := 45, attributes := #[] }, { accessFlags := 2, nameIndex := 18, descriptorIndex := 19, attributes := #[] }, { accessFlags := 2, nameIndex := 22, descriptorIndex := 23, attributes := #[] }, { accessFlags := 2, nameIndex := 44, descriptorIndex := 45, attributes := #[] }, { accessFlags := 2, nameIndex := 26, descriptorIndex := 27, attributes := #[] }])
  fields := #[{ name := "INITIAL_CAPACITY", type := .int, accessFlags := 24, slot := 0, constantValue := 0 }, { name := "maxSlots", type := .long, accessFlags := 2, slot := 0, constantValue := 0 }, { name := "slots", type := (.array .long), accessFlags := 2, slot := 1, constantValue := 0 }, { name := "filled", type := .int, accessFlags := 2, slot := 2, constantValue := 0 }, { name := "hasZero", type := .boolean, accessFlags := 2, slot := 3, constantValue := 0 }]
  methods := #[k2m0, k2m1, k2m2, k2m3, k2m4, k2m5, k2m6, k2m7, k2m8]
  instanceTypes := #[.long, (.array .long), .int, .boolean]
  staticTypes := #[.int]
  resolved := Array.replicate 125 none
  statics := none }

def pool3 : Array CpInfo := pool [(4, .class_ 6), (1, u "java/lang/Object"), (0, u "<init>"), (0, u "()V"), (1, .class_ 12), (1, u "com/example/orthrus/orthrus/Cells"), (0, u "mix"), (0, u "(J)J"), (2, u "reduce"), (0, u "(JJ)J"), (0, .methodref 20 21), (0, .class_ 22), (0, .nameAndType 23 18), (0, u "java/lang/Math"), (0, u "multiplyHigh"), (0, .long 13787848793156543929), (1, .long 10723151780598845931), (1, u "HASHING"), (0, u "Ljava/lang/String;"), (3, u "MAX_WORDS"), (0, u "I")] 8

def k3m0 : Method := { name := "<init>", desc := "()V", sig := { parameters := [], returnType := none }, accessFlags := 2, code := none }
def k3c1 : Code := { maxStack := 6, maxLocals := 4, code := prog_3_method_4_code, exceptionTable := #[], attributes := #[] }
def k3m1 : Method := { name := "reduce", desc := "(JJ)J", sig := { parameters := [.long, .long], returnType := some .long }, accessFlags := 8, code := some k3c1 }
def k3c2 : Code := { maxStack := 5, maxLocals := 2, code := prog_3_method_5_code, exceptionTable := #[], attributes := #[] }
def k3m2 : Method := { name := "mix", desc := "(J)J", sig := { parameters := [.long], returnType := some .long }, accessFlags := 8, code := some k3c2 }
/-- com/example/orthrus/orthrus/Cells -/
def k3 : Class := { plain "com/example/orthrus/orthrus/Cells" (some 0) with
  accessFlags := 48
  interfaces := #[]
  cf := some (fileOf pool3 10 #[] #[{ accessFlags := 2, nameIndex := 7, descriptorIndex := 8, attributes := #[] }, { accessFlags := 8, nameIndex := 17, descriptorIndex := 18, attributes := #[] }, { accessFlags := 8, nameIndex := 13, descriptorIndex := 14, attributes := #[] }] 48 4 #[] #[{ accessFlags := 24, nameIndex := 28, descriptorIndex := 29, attributes := #[] }, { accessFlags := 24, nameIndex := 33, descriptorIndex := 34, attributes := #[] }])
  fields := #[{ name := "HASHING", type := (.object "java/lang/String"), accessFlags := 24, slot := 0, constantValue := 0 }, { name := "MAX_WORDS", type := .int, accessFlags := 24, slot := 1, constantValue := 0 }]
  methods := #[k3m0, k3m1, k3m2]
  instanceTypes := #[]
  staticTypes := #[(.object "java/lang/String"), .int]
  resolved := Array.replicate 43 none
  statics := none }

def pool4 : Array CpInfo := pool [(1, .class_ 2), (0, u "java/lang/Math"), (1, .class_ 6), (1, u "java/lang/Object"), (0, u "<init>"), (0, u "()V"), (89, .class_ 100), (1, u "java/lang/Math$RandomNumberGeneratorHolder"), (20, u "(JJ)J"), (16, .long 4294967295), (3, u "multiplyHigh"), (29, u "negativeZeroFloatBits"), (0, u "J"), (2, u "negativeZeroDoubleBits"), (68, u "$assertionsDisabled"), (0, u "Z"), (91, u "twoToTheDoubleScaleDown"), (0, u "D"), (4, u "twoToTheDoubleScaleUp"), (9, u "E"), (3, u "PI"), (2, u "TAU"), (2, u "DEGREES_TO_RADIANS"), (0, u "RADIANS_TO_DEGREES")] 94

def k4m0 : Method := { name := "<init>", desc := "()V", sig := { parameters := [], returnType := none }, accessFlags := 2, code := none }
def k4c1 : Code := { maxStack := 6, maxLocals := 20, code := jdk_29_method_45_code, exceptionTable := #[], attributes := #[] }
def k4m1 : Method := { name := "multiplyHigh", desc := "(JJ)J", sig := { parameters := [.long, .long], returnType := some .long }, accessFlags := 9, code := some k4c1 }
/-- java/lang/Math -/
def k4 : Class := { plain "java/lang/Math" (some 0) with
  accessFlags := 49
  interfaces := #[]
  cf := some (fileOf pool4 1 #[.nestMembers #[98]] #[{ accessFlags := 2, nameIndex := 7, descriptorIndex := 8, attributes := #[] }, { accessFlags := 9, nameIndex := 142, descriptorIndex := 121, attributes := #[] }] 49 4 #[] #[{ accessFlags := 25, nameIndex := 354, descriptorIndex := 339, attributes := #[] }, { accessFlags := 25, nameIndex := 358, descriptorIndex := 339, attributes := #[] }, { accessFlags := 25, nameIndex := 361, descriptorIndex := 339, attributes := #[] }, { accessFlags := 26, nameIndex := 364, descriptorIndex := 339, attributes := #[] }, { accessFlags := 26, nameIndex := 365, descriptorIndex := 339, attributes := #[] }, { accessFlags := 26, nameIndex := 172, descriptorIndex := 173, attributes := #[] }, { accessFlags := 26, nameIndex := 176, descriptorIndex := 173, attributes := #[] }, { accessFlags := 8, nameIndex := 344, descriptorIndex := 339, attributes := #[] }, { accessFlags := 8, nameIndex := 338, descriptorIndex := 339, attributes := #[] }, { accessFlags := 4120, nameIndex := 245, descriptorIndex := 246, attributes := #[] }])
  fields := #[{ name := "E", type := .double, accessFlags := 25, slot := 0, constantValue := 0 }, { name := "PI", type := .double, accessFlags := 25, slot := 1, constantValue := 0 }, { name := "TAU", type := .double, accessFlags := 25, slot := 2, constantValue := 0 }, { name := "DEGREES_TO_RADIANS", type := .double, accessFlags := 26, slot := 3, constantValue := 0 }, { name := "RADIANS_TO_DEGREES", type := .double, accessFlags := 26, slot := 4, constantValue := 0 }, { name := "negativeZeroFloatBits", type := .long, accessFlags := 26, slot := 5, constantValue := 0 }, { name := "negativeZeroDoubleBits", type := .long, accessFlags := 26, slot := 6, constantValue := 0 }, { name := "twoToTheDoubleScaleUp", type := .double, accessFlags := 8, slot := 7, constantValue := 0 }, { name := "twoToTheDoubleScaleDown", type := .double, accessFlags := 8, slot := 8, constantValue := 0 }, { name := "$assertionsDisabled", type := .boolean, accessFlags := 4120, slot := 9, constantValue := 0 }]
  methods := #[k4m0, k4m1]
  instanceTypes := #[]
  staticTypes := #[.double, .double, .double, .double, .double, .long, .long, .double, .double, .boolean]
  resolved := Array.replicate 460 none
  statics := none }

def pool5 : Array CpInfo := pool [(1, u "java/lang/Cloneable"), (0, .class_ 1), (0, u "java/lang/Object"), (0, .class_ 3)] 3

/-- java/lang/Cloneable -/
def k5 : Class := { plain "java/lang/Cloneable" (some 0) with
  accessFlags := 1537
  interfaces := #[]
  cf := some (fileOf pool5 2 #[] #[] 1537 4 #[] #[])
  fields := #[]
  methods := #[]
  instanceTypes := #[]
  staticTypes := #[]
  resolved := Array.replicate 8 none
  statics := none }

def pool6 : Array CpInfo := pool [(1, u "java/io/Serializable"), (0, .class_ 1), (0, u "java/lang/Object"), (0, .class_ 3)] 3

/-- java/io/Serializable -/
def k6 : Class := { plain "java/io/Serializable" (some 0) with
  accessFlags := 1537
  interfaces := #[]
  cf := some (fileOf pool6 2 #[] #[] 1537 4 #[] #[])
  fields := #[]
  methods := #[]
  instanceTypes := #[]
  staticTypes := #[]
  resolved := Array.replicate 8 none
  statics := none }

/-- the primitive byte -/
def k7 : Class := { plain "byte" none with kind := .primitive 'B', accessFlags := 0x411 }
/-- [B -/
def k8 : Class := { plain "[B" (some 0) with kind := .array 7 .byte, interfaces := #[5, 6], accessFlags := 1041 }

/-- the primitive int -/
def k9 : Class := { plain "int" none with kind := .primitive 'I', accessFlags := 0x411 }
/-- [I -/
def k10 : Class := { plain "[I" (some 0) with kind := .array 9 .int, interfaces := #[5, 6], accessFlags := 1041 }

/-- the primitive long -/
def k11 : Class := { plain "long" none with kind := .primitive 'J', accessFlags := 0x411 }
/-- [J -/
def k12 : Class := { plain "[J" (some 0) with kind := .array 11 .long, interfaces := #[5, 6], accessFlags := 1041 }

def heap : Heap := #[]
def classes : Array Class := #[k0, k1, k2, k3, k4, k5, k6, k7, k8, k9, k10, k11, k12]
def interned : List (Array UInt16 × Addr) := []
def slotsUsed : Nat := 0
def theMethod : MethodId := ⟨1, 1⟩
def args0 : Array Value := #[.long 1, .long 2, .long 3, .int 5]
def aboutOver (below : List Frame) : State where
  vm := { classes := classes, interned := interned.toArray }
  heap := heap
  slotsUsed := slotsUsed
  threads := #[{ frames := .invoking theMethod args0 :: below }]
def below0 : List Frame := [.native { method := ⟨0, 0⟩, args := #[] }]
def about1 : State := aboutOver below0
def p0 : Program := .bare "" "" ""
def e0 : Env := launch0.env 0 0 0
theorem w_frames : about1.frames = Frame.invoking theMethod args0 :: below0 := rfl
set_option maxRecDepth 65536 in
theorem w_args : argsFit about1.vm theMethod args0 = true := by decide +kernel
set_option maxRecDepth 65536 in
theorem w_heap : heapFits about1 = true := by decide +kernel
set_option maxRecDepth 65536 in
theorem w_runnable : about1.curStatus? = some .runnable := by decide +kernel
set_option maxRecDepth 65536 in
theorem w_alone : about1.alone = true := by decide +kernel
set_option maxRecDepth 65536 in
theorem w_named : about1.methodNamed? x = some theMethod := by decide +kernel
set_option maxRecDepth 65536 in
theorem w_hears : about1.hears theMethod below0 = true := by decide +kernel
set_option maxRecDepth 65536 in
theorem w_ripe : about1.ripe theMethod args0 below0 = true := by decide +kernel
theorem w_running : about1.status = .running := rfl
set_option maxRecDepth 65536 in
theorem w_room : about1.hasRoom e0.platform room_1 = true :=
  launch0.hasRoom_least _ room_1 (by decide +kernel) (by decide +kernel) (by decide +kernel) (by decide +kernel) (by decide +kernel) (by decide +kernel)
theorem allAtoms_all (ts : List Jvm.Cond) (a : Array Jvm.Value) (st : Jvm.State) : (allAtoms ts).before a st = ts.all (fun c => c.before a st) := by
  induction ts with
  | nil => rfl
  | cons c t ih =>
    show (Jvm.Cond.and c (allAtoms t)).before a st = _
    rw [Jvm.Cond.before_and, ih, List.all_cons]
def words1 : List Jvm.Cond := Jvm.Cond.code x code maxLocals ret :: tables_1
/-- a 'code' word, met by the world's own term for the bytes: nothing is compared byte by byte -/
theorem code_word {y : MethodName} {bytes : ByteArray} {mx : Nat} {rt : Option FieldType} {a : Array Value} {s : State} {m : MethodId} {meth : Method} {c : Code} (h1 : s.methodNamed? y = some m) (h2 : s.vm.method? m = some meth) (h3 : meth.code = some c) (h4 : c.code = bytes)
    (h5 : (c.maxLocals == mx && c.exceptionTable.isEmpty && decide (c.maxStack ≤ mostOperands) && decide (meth.sig.returnType = rt) && !meth.locks && decide (parseMethodDescriptor y.desc = some meth.sig)) = true) : (Jvm.Cond.code y bytes mx rt).before a s = true := by
  simp only [Bool.and_eq_true, beq_iff_eq, Bool.not_eq_true', decide_eq_true_eq] at h5
  obtain ⟨⟨⟨⟨⟨g1, g2⟩, g3⟩, g4⟩, g5⟩, g6⟩ := h5
  simp [Cond.before, Cond.holds, Cond.value, h1, h2, h3, h4, g1, g2, g3, g4, g5, g6]
def isCode : Jvm.Cond → Bool
  | .code _ _ _ _ => true
  | _ => false
theorem all_split {L : List Jvm.Cond} {P : Jvm.Cond → Bool} (h1 : L.all (fun c => isCode c || P c) = true) (h2 : ∀ c ∈ L.filter isCode, P c = true) : L.all P = true := by
  refine List.all_eq_true.mpr fun c hc => ?_
  have h := List.all_eq_true.mp h1 c hc
  rcases Bool.eq_false_or_eq_true (isCode c) with hi | hi
  · exact h2 c (List.mem_filter.mpr ⟨hc, hi⟩)
  · simpa [hi] using h
set_option maxRecDepth 65536 in
theorem w_c0 : (Jvm.Cond.code x code maxLocals ret).before args0 about1 = true := code_word (m := ⟨1, 1⟩) (meth := k1m1) (c := k1c1) (by decide +kernel) rfl rfl rfl (by decide +kernel)
set_option maxRecDepth 65536 in
theorem w_c1 : (Jvm.Cond.code ({ cls := "com/example/orthrus/orthrus/SignatureSet", name := "<init>", desc := "(IJ)V" } : Jvm.MethodName) prog_8_method_2_code (4 : Nat) (Option.none : Option Jvm.ClassFile.FieldType)).before args0 about1 = true := code_word (m := ⟨2, 1⟩) (meth := k2m1) (c := k2c1) (by decide +kernel) rfl rfl rfl (by decide +kernel)
set_option maxRecDepth 65536 in
theorem w_c2 : (Jvm.Cond.code ({ cls := "java/lang/Object", name := "<init>", desc := "()V" } : Jvm.MethodName) object_method_1_code (1 : Nat) (Option.none : Option Jvm.ClassFile.FieldType)).before args0 about1 = true := code_word (m := ⟨0, 0⟩) (meth := k0m0) (c := k0c0) (by decide +kernel) rfl rfl rfl (by decide +kernel)
set_option maxRecDepth 65536 in
theorem w_c3 : (Jvm.Cond.code ({ cls := "com/example/orthrus/orthrus/SignatureSet", name := "add", desc := "(J)Z" } : Jvm.MethodName) prog_8_method_3_code (4 : Nat) (Option.some Jvm.ClassFile.FieldType.boolean)).before args0 about1 = true := code_word (m := ⟨2, 2⟩) (meth := k2m2) (c := k2c2) (by decide +kernel) rfl rfl rfl (by decide +kernel)
set_option maxRecDepth 65536 in
theorem w_c4 : (Jvm.Cond.code ({ cls := "com/example/orthrus/orthrus/SignatureSet", name := "slotOf", desc := "(JI)I" } : Jvm.MethodName) prog_8_method_12_code (3 : Nat) (Option.some Jvm.ClassFile.FieldType.int)).before args0 about1 = true := code_word (m := ⟨2, 6⟩) (meth := k2m6) (c := k2c6) (by decide +kernel) rfl rfl rfl (by decide +kernel)
set_option maxRecDepth 65536 in
theorem w_c5 : (Jvm.Cond.code ({ cls := "com/example/orthrus/orthrus/Cells", name := "mix", desc := "(J)J" } : Jvm.MethodName) prog_3_method_5_code (2 : Nat) (Option.some Jvm.ClassFile.FieldType.long)).before args0 about1 = true := code_word (m := ⟨3, 2⟩) (meth := k3m2) (c := k3c2) (by decide +kernel) rfl rfl rfl (by decide +kernel)
set_option maxRecDepth 65536 in
theorem w_c6 : (Jvm.Cond.code ({ cls := "com/example/orthrus/orthrus/Cells", name := "reduce", desc := "(JJ)J" } : Jvm.MethodName) prog_3_method_4_code (4 : Nat) (Option.some Jvm.ClassFile.FieldType.long)).before args0 about1 = true := code_word (m := ⟨3, 1⟩) (meth := k3m1) (c := k3c1) (by decide +kernel) rfl rfl rfl (by decide +kernel)
set_option maxRecDepth 65536 in
theorem w_c7 : (Jvm.Cond.code ({ cls := "java/lang/Math", name := "multiplyHigh", desc := "(JJ)J" } : Jvm.MethodName) jdk_29_method_45_code (20 : Nat) (Option.some Jvm.ClassFile.FieldType.long)).before args0 about1 = true := code_word (m := ⟨4, 1⟩) (meth := k4m1) (c := k4c1) (by decide +kernel) rfl rfl rfl (by decide +kernel)
set_option maxRecDepth 65536 in
theorem w_c8 : (Jvm.Cond.code ({ cls := "com/example/orthrus/orthrus/SignatureSet", name := "full", desc := "()Z" } : Jvm.MethodName) prog_8_method_5_code (1 : Nat) (Option.some Jvm.ClassFile.FieldType.boolean)).before args0 about1 = true := code_word (m := ⟨2, 4⟩) (meth := k2m4) (c := k2c4) (by decide +kernel) rfl rfl rfl (by decide +kernel)
set_option maxRecDepth 65536 in
theorem w_c9 : (Jvm.Cond.code ({ cls := "com/example/orthrus/orthrus/SignatureSet", name := "next", desc := "(II)I" } : Jvm.MethodName) prog_8_method_13_code (2 : Nat) (Option.some Jvm.ClassFile.FieldType.int)).before args0 about1 = true := code_word (m := ⟨2, 7⟩) (meth := k2m7) (c := k2c7) (by decide +kernel) rfl rfl rfl (by decide +kernel)
set_option maxRecDepth 65536 in
theorem w_c10 : (Jvm.Cond.code ({ cls := "com/example/orthrus/orthrus/SignatureSet", name := "size", desc := "()J" } : Jvm.MethodName) prog_8_method_6_code (1 : Nat) (Option.some Jvm.ClassFile.FieldType.long)).before args0 about1 = true := code_word (m := ⟨2, 5⟩) (meth := k2m5) (c := k2c5) (by decide +kernel) rfl rfl rfl (by decide +kernel)
set_option maxRecDepth 65536 in
theorem w_c11 : (Jvm.Cond.code ({ cls := "com/example/orthrus/orthrus/SignatureSet", name := "remove", desc := "(J)Z" } : Jvm.MethodName) prog_8_method_4_code (7 : Nat) (Option.some Jvm.ClassFile.FieldType.boolean)).before args0 about1 = true := code_word (m := ⟨2, 3⟩) (meth := k2m3) (c := k2c3) (by decide +kernel) rfl rfl rfl (by decide +kernel)
set_option maxRecDepth 65536 in
theorem w_c12 : (Jvm.Cond.code ({ cls := "com/example/orthrus/orthrus/SignatureSet", name := "distance", desc := "(III)I" } : Jvm.MethodName) prog_8_method_14_code (3 : Nat) (Option.some Jvm.ClassFile.FieldType.int)).before args0 about1 = true := code_word (m := ⟨2, 8⟩) (meth := k2m8) (c := k2c8) (by decide +kernel) rfl rfl rfl (by decide +kernel)
def codes1 : List Jvm.Cond := [Jvm.Cond.code x code maxLocals ret, Jvm.Cond.code ({ cls := "com/example/orthrus/orthrus/SignatureSet", name := "<init>", desc := "(IJ)V" } : Jvm.MethodName) prog_8_method_2_code (4 : Nat) (Option.none : Option Jvm.ClassFile.FieldType), Jvm.Cond.code ({ cls := "java/lang/Object", name := "<init>", desc := "()V" } : Jvm.MethodName) object_method_1_code (1 : Nat) (Option.none : Option Jvm.ClassFile.FieldType), Jvm.Cond.code ({ cls := "com/example/orthrus/orthrus/SignatureSet", name := "add", desc := "(J)Z" } : Jvm.MethodName) prog_8_method_3_code (4 : Nat) (Option.some Jvm.ClassFile.FieldType.boolean), Jvm.Cond.code ({ cls := "com/example/orthrus/orthrus/SignatureSet", name := "slotOf", desc := "(JI)I" } : Jvm.MethodName) prog_8_method_12_code (3 : Nat) (Option.some Jvm.ClassFile.FieldType.int), Jvm.Cond.code ({ cls := "com/example/orthrus/orthrus/Cells", name := "mix", desc := "(J)J" } : Jvm.MethodName) prog_3_method_5_code (2 : Nat) (Option.some Jvm.ClassFile.FieldType.long), Jvm.Cond.code ({ cls := "com/example/orthrus/orthrus/Cells", name := "reduce", desc := "(JJ)J" } : Jvm.MethodName) prog_3_method_4_code (4 : Nat) (Option.some Jvm.ClassFile.FieldType.long), Jvm.Cond.code ({ cls := "java/lang/Math", name := "multiplyHigh", desc := "(JJ)J" } : Jvm.MethodName) jdk_29_method_45_code (20 : Nat) (Option.some Jvm.ClassFile.FieldType.long), Jvm.Cond.code ({ cls := "com/example/orthrus/orthrus/SignatureSet", name := "full", desc := "()Z" } : Jvm.MethodName) prog_8_method_5_code (1 : Nat) (Option.some Jvm.ClassFile.FieldType.boolean), Jvm.Cond.code ({ cls := "com/example/orthrus/orthrus/SignatureSet", name := "next", desc := "(II)I" } : Jvm.MethodName) prog_8_method_13_code (2 : Nat) (Option.some Jvm.ClassFile.FieldType.int), Jvm.Cond.code ({ cls := "com/example/orthrus/orthrus/SignatureSet", name := "size", desc := "()J" } : Jvm.MethodName) prog_8_method_6_code (1 : Nat) (Option.some Jvm.ClassFile.FieldType.long), Jvm.Cond.code ({ cls := "com/example/orthrus/orthrus/SignatureSet", name := "remove", desc := "(J)Z" } : Jvm.MethodName) prog_8_method_4_code (7 : Nat) (Option.some Jvm.ClassFile.FieldType.boolean), Jvm.Cond.code ({ cls := "com/example/orthrus/orthrus/SignatureSet", name := "distance", desc := "(III)I" } : Jvm.MethodName) prog_8_method_14_code (3 : Nat) (Option.some Jvm.ClassFile.FieldType.int)]
set_option maxRecDepth 65536 in
theorem codes_eq : words1.filter isCode = codes1 := rfl
theorem w_codes : ∀ c ∈ words1.filter isCode, c.before args0 about1 = true := by
  rw [codes_eq]
  intro c hc
  simp only [codes1, List.mem_cons, List.not_mem_nil, or_false] at hc
  rcases hc with rfl | rfl | rfl | rfl | rfl | rfl | rfl | rfl | rfl | rfl | rfl | rfl | rfl
  · exact w_c0
  · exact w_c1
  · exact w_c2
  · exact w_c3
  · exact w_c4
  · exact w_c5
  · exact w_c6
  · exact w_c7
  · exact w_c8
  · exact w_c9
  · exact w_c10
  · exact w_c11
  · exact w_c12
set_option maxRecDepth 65536 in
theorem w_t1 : (words1.take 24).all (fun c => isCode c || c.before args0 about1) = true := by decide +kernel
set_option maxRecDepth 65536 in
theorem w_t2 : ((words1.drop 24).take 24).all (fun c => isCode c || c.before args0 about1) = true := by decide +kernel
set_option maxRecDepth 65536 in
theorem w_t3 : ((words1.drop 24).drop 24).all (fun c => isCode c || c.before args0 about1) = true := by decide +kernel
theorem w_tables : (allAtoms (Jvm.Cond.code x code maxLocals ret :: tables_1)).before args0 about1 = true := by
  rw [allAtoms_all]
  show words1.all (fun c => c.before args0 about1) = true
  refine all_split ?_ w_codes
  rw [← List.take_append_drop 24 words1, List.all_append, w_t1, ← List.take_append_drop 24 (words1.drop 24), List.all_append, w_t2, w_t3]
  rfl
set_option maxRecDepth 65536 in
theorem w_case : (Jvm.Cond.and given_1 narrow_1).before args0 about1 = true := by decide +kernel
theorem w_applies : (headSpec (Jvm.Cond.code x code maxLocals ret :: tables_1) room_1).applies x e0.platform about1 = true :=
  (Spec.applies_iff w_frames).mpr ⟨w_running, w_runnable, w_alone, w_named, w_hears, w_ripe, w_room, w_tables⟩
theorem atStart : AtStart classFile x code maxLocals ret World_1 tables_1 room_1 Calls_1 rest_1 Pre_1 launch0 p0 e0 about1 theMethod args0 below0 :=
  ⟨lists_1, trivial, launch0.admits_env _ _ _, launch0.least_env, fairChoices_fair.cas, fairChoices_fair.clock, w_frames, w_args, w_heap, w_applies, trivial, trivial, w_case⟩
end start1
theorem witness_1 : WitnessClaimed_1 := ⟨start1.p0, start1.e0, start1.about1, start1.theMethod, start1.args0, start1.below0, start1.atStart⟩
end Jvm.Pilot.@@N@@
