import JvmDerived
import JvmDerived.Pilot.@@N@@Statement
import JvmDerived.Pilot.@@N@@Code
set_option linter.unusedVariables false
set_option linter.unusedSimpArgs false
@@BLOCK:NumsL.lean.txt@@
namespace Jvm.Own
open Sem ClassFile Op Lib Jvm.Stand Jvm.Free Jvm.LawKit Jvm.RoadKit
/-! a list of owned cells (all made since the start), each with what it holds; the start's own heap stays as it was -/
abbrev FK := String × String × String
abbrev Fs := List (FK × Value)
abbrev Rec := (String × Fs) ⊕ (FieldType × List Value × Bool)
abbrev Ent := Addr × Rec
def slK (Z : State) (k : FK) : Nat := RoadKit.slotOf Z k.1 k.2.1 k.2.2
def Hold (Z : State) (h : Heap) (a : Addr) : Rec → Prop
  | .inl (C, fs) => Exa Z h a C ∧ (∀ (i : Nat) (f : FK × Value), fs[i]? = some f → Fld Z h a f.1.1 f.1.2.1 f.1.2.2 f.2) ∧ (fs.map fun f => slK Z f.1).Nodup
  | .inr (ty, vs, b) => ∃ c : Cell, Arr Z h a c ty ∧ c.slots.toList = vs ∧ (b = true → ∀ C, ty = .object C → Ovr Z c.cls C)
def Rep (Z : State) (h : Heap) (M : List Ent) : Prop := Ext Z.heap h ∧ (∀ (i : Nat) (x : Ent), M[i]? = some x → Z.heap.size ≤ x.1 ∧ Hold Z h x.1 x.2) ∧ (M.map fun x => x.1).Nodup
section Facts
variable {Z : State} {h h' : Heap} {a b : Addr} {sl k j : Nat} {v w : Value} {r : Rec} {M : List Ent} {C : String} {fs : Fs} {f : FK}
theorem Hold.other (W : Wr h h' a sl v) (H : Hold Z h b r) (hne : b ≠ a) : Hold Z h' b r := by
  rcases r with ⟨C, fs⟩ | ⟨ty, vs, b'⟩
  · exact ⟨H.1.wr W, fun i f hf => (H.2.1 i f hf).other W (Or.inl hne), H.2.2⟩
  · obtain ⟨c, A, q⟩ := H
    exact ⟨c, A.other W hne, q⟩
theorem Hold.ext (E : Ext h h') (H : Hold Z h b r) : Hold Z h' b r := by
  rcases r with ⟨C, fs⟩ | ⟨ty, vs, b'⟩
  · exact ⟨H.1.ext E, fun i f hf => (H.2.1 i f hf).ext E, H.2.2⟩
  · obtain ⟨c, A, q⟩ := H
    exact ⟨c, A.ext E, q⟩
theorem Hold.lt (H : Hold Z h b r) : b < h.size := by
  rcases r with ⟨C, fs⟩ | ⟨ty, vs, b'⟩
  · exact H.1.lt
  · obtain ⟨c, A, q⟩ := H
    exact A.lt
theorem nd_inj {α : Type} {L : List α} (hn : L.Nodup) {i j : Nat} {x : α} (h1 : L[i]? = some x) (h2 : L[j]? = some x) : i = j :=
  (List.getElem?_inj (List.getElem?_eq_some_iff.mp h1).1 hn).mp (h1.trans h2.symm)
theorem Rep.inj (R : Rep Z h M) {i j : Nat} {x y : Ent} (h1 : M[i]? = some x) (h2 : M[j]? = some y) (e : x.1 = y.1) : i = j :=
  nd_inj (x := x.1) R.2.2 (by rw [List.getElem?_map, h1]; rfl) (by rw [List.getElem?_map, h2, e]; rfl)
theorem Rep.ne (R : Rep Z h M) {i j : Nat} {x y : Ent} (h1 : M[i]? = some x) (h2 : M[j]? = some y) (e : i ≠ j) : x.1 ≠ y.1 := fun q => e (R.inj h1 h2 q)
theorem Rep.fresh (R : Rep Z h M) {i : Nat} {x : Ent} (h1 : M[i]? = some x) : Z.heap.size ≤ x.1 := (R.2.1 i x h1).1
theorem map_set_same {α β : Type} {g : α → β} {L : List α} {x y : α} (h1 : L[k]? = some x) (e : g y = g x) : (L.set k y).map g = L.map g := by
  apply List.ext_getElem?
  intro i
  simp only [List.getElem?_map, List.getElem?_set]
  by_cases q : k = i
  · subst q
    obtain ⟨hl, hx⟩ := List.getElem?_eq_some_iff.mp h1
    simp [hl, e, h1, hx]
  · simp [q]
theorem Rep.wrote (R : Rep Z h M) (hk : M[k]? = some (a, r)) (W : Wr h h' a sl v) {r' : Rec} (H : Hold Z h' a r') : Rep Z h' (M.set k (a, r')) := by
  have ha := R.fresh hk
  refine ⟨(Old.wr ⟨rfl, R.1⟩ W ha).2, fun i x hx => ?_, ?_⟩
  · rw [List.getElem?_set] at hx
    by_cases q : k = i
    · subst q
      rw [if_pos rfl] at hx
      split at hx
      · cases hx
        exact ⟨ha, H⟩
      · cases hx
    · rw [if_neg q] at hx
      have g := R.2.1 i x hx
      exact ⟨g.1, g.2.other W (R.ne hx hk (Ne.symm q))⟩
  · rw [map_set_same (g := fun x : Ent => x.1) (y := (a, r')) hk rfl]
    exact R.2.2
theorem Hold.put (H : Hold Z h a (.inl (C, fs))) (hj : fs[j]? = some (f, w)) (W : Wr h h' a (slK Z f) v) : Hold Z h' a (.inl (C, fs.set j (f, v))) := by
  refine ⟨H.1.wr W, fun i x hx => ?_, ?_⟩
  · rw [List.getElem?_set] at hx
    by_cases q : j = i
    · subst q
      rw [if_pos rfl] at hx
      split at hx
      · cases hx
        exact (H.2.1 _ _ hj).same W
      · cases hx
    · rw [if_neg q] at hx
      refine (H.2.1 i x hx).other W (Or.inr fun e => q ?_)
      exact nd_inj (x := slK Z f) H.2.2 (by rw [List.getElem?_map, hj]; rfl) (by rw [List.getElem?_map, hx]; exact congrArg some e)
  · rw [map_set_same (g := fun f : FK × Value => slK Z f.1) (y := (f, v)) hj rfl]
    exact H.2.2
theorem Hold.store {ty : FieldType} {vs : List Value} {b : Bool} (H : Hold Z h a (.inr (ty, vs, b))) (W : Wr h h' a j v) : Hold Z h' a (.inr (ty, vs.set j v, b)) := by
  obtain ⟨c, A, q, o⟩ := H
  refine ⟨_, A.same W, ?_, o⟩
  simp [Cell.setSlot, ← q]
theorem Rep.new (R : Rep Z h M) (E : Ext h h') (hs : a = h.size) {r : Rec} (H : Hold Z h' a r) : Rep Z h' ((a, r) :: M) := by
  refine ⟨(Old.ext ⟨rfl, R.1⟩ E).2, fun i x hx => ?_, ?_⟩
  · rcases i with _ | i
    · cases hx
      exact ⟨by rw [hs]; exact R.1.1, H⟩
    · have g := R.2.1 i x hx
      exact ⟨g.1, g.2.ext E⟩
  · rw [List.map_cons, List.nodup_cons]
    refine ⟨fun m => ?_, R.2.2⟩
    obtain ⟨x, hx, e⟩ := List.mem_map.mp m
    obtain ⟨i, hi⟩ := List.mem_iff_getElem?.mp hx
    have hlt := (R.2.1 i x hi).2.lt
    have e : x.1 = a := e
    rw [e, hs] at hlt
    exact Nat.lt_irrefl _ hlt
theorem nd_pick {α : Type} {N : List α} (hn : N.Nodup) (n : Nat) (idx : List Nat) (h1 : idx.Nodup) (h2 : ∀ i ∈ idx, i < n) : (idx.filterMap (fun i => N[i]?) ++ N.drop n).Nodup := by
  rw [List.nodup_append]
  refine ⟨?_, hn.sublist (List.drop_sublist n N), ?_⟩
  · refine List.Pairwise.filterMap (fun i => N[i]?) ?_ h1
    intro i j hij x hx y hy e
    subst e
    exact hij (nd_inj hn hx hy)
  · intro x hx y hy e
    subst e
    obtain ⟨i, hi, hx⟩ := List.mem_filterMap.mp hx
    obtain ⟨j, hj⟩ := List.mem_iff_getElem?.mp hy
    rw [List.getElem?_drop] at hj
    have := nd_inj hn hx hj
    have := h2 i hi
    omega
theorem Rep.pick (R : Rep Z h M) (n : Nat) (idx : List Nat) (h1 : idx.Nodup) (h2 : ∀ i ∈ idx, i < n) : Rep Z h (idx.filterMap (fun i => M[i]?) ++ M.drop n) := by
  refine ⟨R.1, fun i x hx => ?_, ?_⟩
  · have hm := List.mem_of_getElem? hx
    rcases List.mem_append.mp hm with q | q
    · obtain ⟨j, -, hj⟩ := List.mem_filterMap.mp q
      exact R.2.1 j x hj
    · obtain ⟨j, hj⟩ := List.mem_iff_getElem?.mp (List.mem_of_mem_drop q)
      exact R.2.1 j x hj
  · have := nd_pick R.2.2 n idx h1 h2
    rw [List.map_append, List.map_drop, List.map_filterMap]
    simpa [List.getElem?_map] using this
theorem Rep.fld {O nm d : String} (R : Rep Z h M) (k j : Nat) (hk : M[k]? = some (a, .inl (C, fs))) (hj : fs[j]? = some ((O, nm, d), v)) : Fld Z h a O nm d v := (R.2.1 k _ hk).2.2.1 j _ hj
theorem Rep.exa (R : Rep Z h M) (k : Nat) (hk : M[k]? = some (a, .inl (C, fs))) : Exa Z h a C := (R.2.1 k _ hk).2.1
end Facts
theorem wd {L : List Cond} {a0 : Array Value} {Z : State} {d : Cond} (hw : ∀ d ∈ L, d.before a0 Z = true) (i : Nat) (h : L[i]? = some d) : d.before a0 Z = true := hw d (List.mem_of_getElem? h)
/-! the walk -/
abbrev E0 := Program × Env × State × MethodId × Array Value × List Frame × Method × Code
def Cx (Z : State) (y : MethodName) (code : ByteArray) (maxL : Nat) (ret : Option FieldType) (E : E0) : Prop :=
  E.1.tables.exec = Jvm.exec ∧ Z.Warmed39 E.2.2.1.vm ∧ E.2.2.1.vm.findClass y.cls = some E.2.2.2.1.cls ∧ E.2.2.2.2.2.2.2.code = code ∧ E.2.2.2.2.2.2.2.maxLocals = maxL ∧ E.2.2.2.2.2.2.1.sig.returnType = ret ∧ E.2.2.2.2.2.2.1.locks = false ∧ E.2.2.2.2.2.2.1.name = y.name
abbrev PQ := Option Value → List Ent → Prop
def StE (l : Launch) (R : Room) (E : E0) (T : State) (locs : List Loc) (k n : Nat) : Prop :=
  Stand E.1 l E.2.1 R E.2.2.1 E.2.2.2.1 E.2.2.2.2.1 E.2.2.2.2.2.1 E.2.2.2.2.2.2.1 E.2.2.2.2.2.2.2 T locs k n
def Go (l : Launch) (Z : State) (R : Room) (E : E0) (Q : PQ) (M : List Ent) (k n pc : Nat) (Ls : Array Slot) (st : List Value) : Prop :=
  ∀ T locs, StE l R E T locs k n → Fr Z.heap.size locs → Rep Z T.heap M →
    ∃ s₂ v L, Steps E.1.tables E.2.1 E.2.2.2.2.2.1 (T.setTop (mkF E.2.2.2.1 pc Ls st)) s₂ ∧ s₂.status = .running ∧ Ended s₂ E.2.2.2.2.2.1 (.returned v) ∧ Fr Z.heap.size L ∧ (∃ M', Q v M' ∧ Rep Z s₂.heap M') ∧ FrameEnd E.2.2.1 (.returned v) s₂ L R.cells R.slots
def Met (l : Launch) (Z : State) (y : MethodName) (bytes : ByteArray) (maxL : Nat) (ret : Option FieldType) (rm : Room) (as : Array Value) (M : List Ent) (Q : PQ) : Prop :=
  ∀ (ws : List Cond) (h : Heap), Rep Z h M → MetFree l y (head1 (Cond.code y bytes maxL ret :: ws) rm) (fun a U => a = as ∧ Z.Warmed39 U.vm ∧ U.heap = h) (fun _ _ _ _ _ => True) (fun _ U o U' => ∃ v L, o = .returned v ∧ (Fr Z.heap.size L ∧ ∃ M', Q v M' ∧ Rep Z U'.heap M') ∧ FrameEnd U o U' L rm.cells rm.slots)
theorem Met.of_go {l : Launch} {Z : State} {y : MethodName} {bytes : ByteArray} {maxL : Nat} {ret : Option FieldType} {rm : Room} {as : Array Value} {M : List Ent} {Q : PQ} {Ls : Array Slot} (hp : plainFor y = true) (hef : ∀ m, entryFrame m as maxL = mkF m 0 Ls [])
    (H : ∀ E, Cx Z y bytes maxL ret E → Go l Z rm E Q M 0 0 0 Ls []) : Met l Z y bytes maxL ret rm as M Q := by
  intro ws h r
  refine MetFree.of_bodySF hp hisR ?_
  intro p e s m args below meth c s₁ Bd hml0 hP hK
  obtain ⟨rfl, hZ, hh⟩ := hP
  have X0 : Stand p l e rm s m args below meth c s₁ [] 0 0 := Stand.of_body Bd
  have e0 : s₁.heap = h := by rw [← hh, Bd.state]; rfl
  obtain ⟨s₂, v, L, h1, h2, h3, h4, h5, h6⟩ := H (p, e, s, m, args, below, meth, c) ⟨Bd.exec, hZ, findClass_of_methodNamed Bd.named, Bd.bytes, hml0, Bd.returns, Bd.notSynchronized, (name_of_methodNamed Bd.named Bd.method).1⟩ s₁ [] X0 (Fr.nil _) (by rw [e0]; exact r)
  exact ⟨s₂, .returned v, castTop (hef m) h1, h2, h3, v, L, rfl, ⟨h4, h5⟩, h6⟩
theorem Met.mono {l : Launch} {Z : State} {y : MethodName} {bytes : ByteArray} {maxL : Nat} {ret : Option FieldType} {rm : Room} {as : Array Value} {M : List Ent} {Q Q' : PQ} (H : Met l Z y bytes maxL ret rm as M Q) (hq : ∀ v M', Q v M' → Q' v M') : Met l Z y bytes maxL ret rm as M Q' := by
  intro ws h r p e ha hc hk s m args below hf happ hP hK
  obtain ⟨n, o, h1, h2, h3, v, L, h4, ⟨h5, M', h6, h7⟩, h8⟩ := H ws h r p e ha hc hk s m args below hf happ hP hK
  exact ⟨n, o, h1, h2, h3, v, L, h4, ⟨h5, M', hq _ _ h6, h7⟩, h8⟩
section Walk
variable {l : Launch} {Z : State} {R : Room} {E : E0} {Q : PQ} {M : List Ent} {k n pc q : Nat} {Ls Ls' : Array Slot} {st : List Value} {x : MethodName} {code : ByteArray} {maxL : Nat} {ret : Option FieldType} {a0 : Array Value}
theorem Go.plain {q : Nat} {Ls' : Array Slot} {st' : List Value} (hr : Go l Z R E Q M k n q Ls' st')
    (hs : ∀ T locs t, StE l R E T locs k n → Steps E.1.tables E.2.1 E.2.2.2.2.2.1 (T.setTop (mkF E.2.2.2.1 q Ls' st')) t → Steps E.1.tables E.2.1 E.2.2.2.2.2.1 (T.setTop (mkF E.2.2.2.1 pc Ls st)) t) : Go l Z R E Q M k n pc Ls st := by
  intro T locs X F r
  obtain ⟨s₂, v, L, h1, h2⟩ := hr T locs X F r
  exact ⟨s₂, v, L, hs _ _ _ X h1, h2⟩
theorem Go.rep {M' : List Ent} (h : ∀ h, Rep Z h M → Rep Z h M') (hr : Go l Z R E Q M' k n pc Ls st) : Go l Z R E Q M k n pc Ls st := fun T locs X F r => hr T locs X F (h _ r)
theorem Go.know {P : Prop} (h : ∀ h, Rep Z h M → P) (hr : P → Go l Z R E Q M k n pc Ls st) : Go l Z R E Q M k n pc Ls st := fun T locs X F r => hr (h _ r) T locs X F r
theorem Go.more {k' n' : Nat} (hk : k ≤ k') (hn : n ≤ n') (hr : Go l Z R E Q M k' n' pc Ls st) : Go l Z R E Q M k n pc Ls st := fun T locs X F r => hr T locs (X.more hk hn) F r
theorem Go.pick {M' : List Ent} (i : Nat) (idx : List Nat) (h1 : idx.Nodup) (h2 : ∀ j ∈ idx, j < i) (hM : idx.filterMap (fun i => M[i]?) ++ M.drop i = M') (hr : Go l Z R E Q M' k n pc Ls st) : Go l Z R E Q M k n pc Ls st :=
  Go.rep (fun _ r => hM ▸ r.pick i idx h1 h2) hr
theorem Go.joinI {q : Nat} {Ls' : Array Slot} {st' : List Value} (v : Int32) (hJ : Go l Z R E Q M k n q Ls' (.int v :: st')) (hr : (∀ c : Int32, c = v → Go l Z R E Q M k n q Ls' (.int c :: st')) → Go l Z R E Q M k n pc Ls st) : Go l Z R E Q M k n pc Ls st := hr fun c e => e ▸ hJ
theorem Go.joinJ {q : Nat} {Ls' : Array Slot} {st' : List Value} (v : Int64) (hJ : Go l Z R E Q M k n q Ls' (.long v :: st')) (hr : (∀ c : Int64, c = v → Go l Z R E Q M k n q Ls' (.long c :: st')) → Go l Z R E Q M k n pc Ls st) : Go l Z R E Q M k n pc Ls st := hr fun c e => e ▸ hJ
theorem Go.joinW {q : Nat} {Ls' : Array Slot} {st' : List Value} (hJ : Go l Z R E Q M k n q Ls' st') (hr : Go l Z R E Q M k n q Ls' st' → Go l Z R E Q M k n pc Ls st) : Go l Z R E Q M k n pc Ls st := hr hJ
theorem Go.castI {u w : Int32} (h : u = w) (hr : Go l Z R E Q M k n pc Ls (.int w :: st)) : Go l Z R E Q M k n pc Ls (.int u :: st) := h ▸ hr
theorem Go.castJ {u w : Int64} (h : u = w) (hr : Go l Z R E Q M k n pc Ls (.long w :: st)) : Go l Z R E Q M k n pc Ls (.long u :: st) := h ▸ hr
/-! plain steps -/
theorem Go.aloadN (C : Cx Z x code maxL ret E) {j : Fin 4} {v : Value} (hd : decode code pc = .ok (.aload_n j, 1)) (hq : pc + 1 = q) (hl : Ls[j.val]? = some (.val v)) (hv : v.isRef = true) (hr : Go l Z R E Q M k n q Ls (v :: st)) : Go l Z R E Q M k n pc Ls st :=
  Go.plain hr fun _ _ _ X s => XS.aloadN X.here C.1 rfl (hb C.2.2.2.1 hd) hl hv (hq ▸ s)
theorem Go.aload (C : Cx Z x code maxL ret E) {j : Nat} {v : Value} (hd : decode code pc = .ok (.aload j, 2)) (hq : pc + 2 = q) (hl : Ls[j]? = some (.val v)) (hv : v.isRef = true) (hr : Go l Z R E Q M k n q Ls (v :: st)) : Go l Z R E Q M k n pc Ls st :=
  Go.plain hr fun _ _ _ X s => XS.aload X.here C.1 rfl (hb C.2.2.2.1 hd) hl hv (hq ▸ s)
theorem Go.iloadN (C : Cx Z x code maxL ret E) {j : Fin 4} {v : Int32} (hd : decode code pc = .ok (.iload_n j, 1)) (hq : pc + 1 = q) (hl : Ls[j.val]? = some (.val (.int v))) (hr : Go l Z R E Q M k n q Ls (.int v :: st)) : Go l Z R E Q M k n pc Ls st :=
  Go.plain hr fun _ _ _ X s => XS.iloadN X.here C.1 rfl (hb C.2.2.2.1 hd) hl (hq ▸ s)
theorem Go.iload (C : Cx Z x code maxL ret E) {j : Nat} {v : Int32} (hd : decode code pc = .ok (.iload j, 2)) (hq : pc + 2 = q) (hl : Ls[j]? = some (.val (.int v))) (hr : Go l Z R E Q M k n q Ls (.int v :: st)) : Go l Z R E Q M k n pc Ls st :=
  Go.plain hr fun _ _ _ X s => XS.iload X.here C.1 rfl (hb C.2.2.2.1 hd) hl (hq ▸ s)
theorem Go.lloadN (C : Cx Z x code maxL ret E) {j : Fin 4} {v : Int64} (hd : decode code pc = .ok (.lload_n j, 1)) (hq : pc + 1 = q) (hl : Ls[j.val]? = some (.val (.long v))) (hr : Go l Z R E Q M k n q Ls (.long v :: st)) : Go l Z R E Q M k n pc Ls st :=
  Go.plain hr fun _ _ _ X s => XT.lloadN X.here C.1 rfl (hb C.2.2.2.1 hd) hl (hq ▸ s)
theorem Go.lload (C : Cx Z x code maxL ret E) {j : Nat} {v : Int64} (hd : decode code pc = .ok (.lload j, 2)) (hq : pc + 2 = q) (hl : Ls[j]? = some (.val (.long v))) (hr : Go l Z R E Q M k n q Ls (.long v :: st)) : Go l Z R E Q M k n pc Ls st :=
  Go.plain hr fun _ _ _ X s => XT.lload X.here C.1 rfl (hb C.2.2.2.1 hd) hl (hq ▸ s)
theorem Go.istoreN (C : Cx Z x code maxL ret E) {j : Fin 4} {v : Int32} (hd : decode code pc = .ok (.istore_n j, 1)) (hq : pc + 1 = q) (hl : storeLocals Ls j.val (.int v) = some Ls') (hr : Go l Z R E Q M k n q Ls' st) : Go l Z R E Q M k n pc Ls (.int v :: st) :=
  Go.plain hr fun _ _ _ X s => XS.istoreN X.here C.1 rfl (hb C.2.2.2.1 hd) rfl hl (hq ▸ s)
theorem Go.istore (C : Cx Z x code maxL ret E) {j : Nat} {v : Int32} (hd : decode code pc = .ok (.istore j, 2)) (hq : pc + 2 = q) (hl : storeLocals Ls j (.int v) = some Ls') (hr : Go l Z R E Q M k n q Ls' st) : Go l Z R E Q M k n pc Ls (.int v :: st) :=
  Go.plain hr fun _ _ _ X s => XS.istore X.here C.1 rfl (hb C.2.2.2.1 hd) rfl hl (hq ▸ s)
theorem Go.lstoreN (C : Cx Z x code maxL ret E) {j : Fin 4} {v : Int64} (hd : decode code pc = .ok (.lstore_n j, 1)) (hq : pc + 1 = q) (hl : storeLocals Ls j.val (.long v) = some Ls') (hr : Go l Z R E Q M k n q Ls' st) : Go l Z R E Q M k n pc Ls (.long v :: st) :=
  Go.plain hr fun _ _ _ X s => XT.lstoreN X.here C.1 rfl (hb C.2.2.2.1 hd) rfl hl (hq ▸ s)
theorem Go.lstore (C : Cx Z x code maxL ret E) {j : Nat} {v : Int64} (hd : decode code pc = .ok (.lstore j, 2)) (hq : pc + 2 = q) (hl : storeLocals Ls j (.long v) = some Ls') (hr : Go l Z R E Q M k n q Ls' st) : Go l Z R E Q M k n pc Ls (.long v :: st) :=
  Go.plain hr fun _ _ _ X s => XT.lstore X.here C.1 rfl (hb C.2.2.2.1 hd) rfl hl (hq ▸ s)
theorem Go.astoreN (C : Cx Z x code maxL ret E) {j : Fin 4} {v : Value} (hd : decode code pc = .ok (.astore_n j, 1)) (hq : pc + 1 = q) (hv : v.isRef = true) (hl : storeLocals Ls j.val v = some Ls') (hr : Go l Z R E Q M k n q Ls' st) : Go l Z R E Q M k n pc Ls (v :: st) :=
  Go.plain hr fun _ _ _ X s => XS.astoreN X.here C.1 rfl (hb C.2.2.2.1 hd) rfl hv hl (hq ▸ s)
theorem Go.astore (C : Cx Z x code maxL ret E) {j : Nat} {v : Value} (hd : decode code pc = .ok (.astore j, 2)) (hq : pc + 2 = q) (hv : v.isRef = true) (hl : storeLocals Ls j v = some Ls') (hr : Go l Z R E Q M k n q Ls' st) : Go l Z R E Q M k n pc Ls (v :: st) :=
  Go.plain hr fun _ _ _ X s => XS.astore X.here C.1 rfl (hb C.2.2.2.1 hd) rfl hv hl (hq ▸ s)
theorem Go.iconst (C : Cx Z x code maxL ret E) {i : Int} {v : Int32} (hd : decode code pc = .ok (.iconst i, 1)) (hq : pc + 1 = q) (hv : Int32.ofInt i = v) (hr : Go l Z R E Q M k n q Ls (.int v :: st)) : Go l Z R E Q M k n pc Ls st :=
  Go.plain hr fun _ _ _ X s => XS.iconst X.here C.1 rfl (hb C.2.2.2.1 hd) (hv ▸ hq ▸ s)
theorem Go.bipush (C : Cx Z x code maxL ret E) {i : Int} {v : Int32} (hd : decode code pc = .ok (.bipush i, 2)) (hq : pc + 2 = q) (hv : (Int8.ofInt i).toInt32 = v) (hr : Go l Z R E Q M k n q Ls (.int v :: st)) : Go l Z R E Q M k n pc Ls st :=
  Go.plain hr fun _ _ _ X s => XS.bipush X.here C.1 rfl (hb C.2.2.2.1 hd) (hv ▸ hq ▸ s)
theorem Go.sipush (C : Cx Z x code maxL ret E) {i : Int} {v : Int32} (hd : decode code pc = .ok (.sipush i, 3)) (hq : pc + 3 = q) (hv : (Int16.ofInt i).toInt32 = v) (hr : Go l Z R E Q M k n q Ls (.int v :: st)) : Go l Z R E Q M k n pc Ls st :=
  Go.plain hr fun _ _ _ X s => XS.sipush X.here C.1 rfl (hb C.2.2.2.1 hd) (hv ▸ hq ▸ s)
theorem Go.lconst (C : Cx Z x code maxL ret E) {i : Fin 2} {v : Int64} (hd : decode code pc = .ok (.lconst i, 1)) (hq : pc + 1 = q) (hv : Int64.ofNat i = v) (hr : Go l Z R E Q M k n q Ls (.long v :: st)) : Go l Z R E Q M k n pc Ls st :=
  Go.plain hr fun _ _ _ X s => XT.lconst X.here C.1 rfl (hb C.2.2.2.1 hd) (hv ▸ hq ▸ s)
theorem Go.aconstNull (C : Cx Z x code maxL ret E) (hd : decode code pc = .ok (.aconst_null, 1)) (hq : pc + 1 = q) (hr : Go l Z R E Q M k n q Ls (.null :: st)) : Go l Z R E Q M k n pc Ls st :=
  Go.plain hr fun _ _ _ X s => XS.aconstNull X.here C.1 rfl (hb C.2.2.2.1 hd) (hq ▸ s)
theorem Go.ldcI (C : Cx Z x code maxL ret E) {i : Nat} {v : Int32} (w : (Cond.constant x.cls i v).before a0 Z = true) (hd : decode code pc = .ok (.ldc i, 2)) (hq : pc + 2 = q) (hr : Go l Z R E Q M k n q Ls (.int v :: st)) : Go l Z R E Q M k n pc Ls st :=
  Go.plain hr fun _ _ _ X s => Stand.ldcI X C.1 C.2.2.1 (mv C.2.1 w) rfl (hb C.2.2.2.1 hd) (hq ▸ s)
theorem Go.ldcWI (C : Cx Z x code maxL ret E) {i : Nat} {v : Int32} (w : (Cond.constant x.cls i v).before a0 Z = true) (hd : decode code pc = .ok (.ldc_w i, 3)) (hq : pc + 3 = q) (hr : Go l Z R E Q M k n q Ls (.int v :: st)) : Go l Z R E Q M k n pc Ls st :=
  Go.plain hr fun _ _ _ X s => Stand.ldcWI X C.1 C.2.2.1 (mv C.2.1 w) rfl (hb C.2.2.2.1 hd) (hq ▸ s)
theorem Go.ldc2J (C : Cx Z x code maxL ret E) {i : Nat} {v : Int64} (w : (Cond.constantLong x.cls i v).before a0 Z = true) (hd : decode code pc = .ok (.ldc2_w i, 3)) (hq : pc + 3 = q) (hr : Go l Z R E Q M k n q Ls (.long v :: st)) : Go l Z R E Q M k n pc Ls st :=
  Go.plain hr fun _ _ _ X s => Stand.ldc2J X C.1 C.2.2.1 (mv C.2.1 w) rfl (hb C.2.2.2.1 hd) (hq ▸ s)
theorem Go.dup (C : Cx Z x code maxL ret E) {v : Value} (hd : decode code pc = .ok (.dup, 1)) (hq : pc + 1 = q) (hc : v.category = 1) (hr : Go l Z R E Q M k n q Ls (v :: v :: st)) : Go l Z R E Q M k n pc Ls (v :: st) :=
  Go.plain hr fun _ _ _ X s => XS.dup X.here C.1 rfl (hb C.2.2.2.1 hd) rfl hc (hq ▸ s)
theorem Go.dupX1 (C : Cx Z x code maxL ret E) {v w : Value} (hd : decode code pc = .ok (.dup_x1, 1)) (hq : pc + 1 = q) (hc : v.category = 1) (hc' : w.category = 1) (hr : Go l Z R E Q M k n q Ls (v :: w :: v :: st)) : Go l Z R E Q M k n pc Ls (v :: w :: st) :=
  Go.plain hr fun _ _ _ X s => XT.dupX1 X.here C.1 rfl (hb C.2.2.2.1 hd) rfl hc hc' (hq ▸ s)
theorem Go.dup2 (C : Cx Z x code maxL ret E) {v w : Value} (hd : decode code pc = .ok (.dup2, 1)) (hq : pc + 1 = q) (hc : v.category = 1) (hc' : w.category = 1) (hr : Go l Z R E Q M k n q Ls (v :: w :: v :: w :: st)) : Go l Z R E Q M k n pc Ls (v :: w :: st) :=
  Go.plain hr fun _ _ _ X s => XT.dup2 X.here C.1 rfl (hb C.2.2.2.1 hd) rfl hc hc' (hq ▸ s)
theorem Go.dup2L (C : Cx Z x code maxL ret E) {v : Int64} (hd : decode code pc = .ok (.dup2, 1)) (hq : pc + 1 = q) (hr : Go l Z R E Q M k n q Ls (.long v :: .long v :: st)) : Go l Z R E Q M k n pc Ls (.long v :: st) :=
  Go.plain hr fun _ _ _ X s => XT.dup2L X.here C.1 rfl (hb C.2.2.2.1 hd) rfl (hq ▸ s)
theorem Go.pop (C : Cx Z x code maxL ret E) {v : Value} (hd : decode code pc = .ok (.pop, 1)) (hq : pc + 1 = q) (hc : v.category = 1) (hr : Go l Z R E Q M k n q Ls st) : Go l Z R E Q M k n pc Ls (v :: st) :=
  Go.plain hr fun _ _ _ X s => XT.pop X.here C.1 rfl (hb C.2.2.2.1 hd) rfl hc (hq ▸ s)
theorem Go.iadd (C : Cx Z x code maxL ret E) {u : Int32} {v : Int32} (hd : decode code pc = .ok (.iadd, 1)) (hq : pc + 1 = q) (hr : Go l Z R E Q M k n q Ls (.int (u + v) :: st)) : Go l Z R E Q M k n pc Ls (.int v :: .int u :: st) :=
  Go.plain hr fun _ _ _ X s => XS.iadd X.here C.1 rfl (hb C.2.2.2.1 hd) rfl (hq ▸ s)
theorem Go.isub (C : Cx Z x code maxL ret E) {u : Int32} {v : Int32} (hd : decode code pc = .ok (.isub, 1)) (hq : pc + 1 = q) (hr : Go l Z R E Q M k n q Ls (.int (u - v) :: st)) : Go l Z R E Q M k n pc Ls (.int v :: .int u :: st) :=
  Go.plain hr fun _ _ _ X s => XS.isub X.here C.1 rfl (hb C.2.2.2.1 hd) rfl (hq ▸ s)
theorem Go.imul (C : Cx Z x code maxL ret E) {u : Int32} {v : Int32} (hd : decode code pc = .ok (.imul, 1)) (hq : pc + 1 = q) (hr : Go l Z R E Q M k n q Ls (.int (u * v) :: st)) : Go l Z R E Q M k n pc Ls (.int v :: .int u :: st) :=
  Go.plain hr fun _ _ _ X s => XS.imul X.here C.1 rfl (hb C.2.2.2.1 hd) rfl (hq ▸ s)
theorem Go.iand (C : Cx Z x code maxL ret E) {u : Int32} {v : Int32} (hd : decode code pc = .ok (.iand, 1)) (hq : pc + 1 = q) (hr : Go l Z R E Q M k n q Ls (.int (u &&& v) :: st)) : Go l Z R E Q M k n pc Ls (.int v :: .int u :: st) :=
  Go.plain hr fun _ _ _ X s => XS.iand X.here C.1 rfl (hb C.2.2.2.1 hd) rfl (hq ▸ s)
theorem Go.ior (C : Cx Z x code maxL ret E) {u : Int32} {v : Int32} (hd : decode code pc = .ok (.ior, 1)) (hq : pc + 1 = q) (hr : Go l Z R E Q M k n q Ls (.int (u ||| v) :: st)) : Go l Z R E Q M k n pc Ls (.int v :: .int u :: st) :=
  Go.plain hr fun _ _ _ X s => XT.ior X.here C.1 rfl (hb C.2.2.2.1 hd) rfl (hq ▸ s)
theorem Go.ixor (C : Cx Z x code maxL ret E) {u : Int32} {v : Int32} (hd : decode code pc = .ok (.ixor, 1)) (hq : pc + 1 = q) (hr : Go l Z R E Q M k n q Ls (.int (u ^^^ v) :: st)) : Go l Z R E Q M k n pc Ls (.int v :: .int u :: st) :=
  Go.plain hr fun _ _ _ X s => XT.ixor X.here C.1 rfl (hb C.2.2.2.1 hd) rfl (hq ▸ s)
theorem Go.ishl (C : Cx Z x code maxL ret E) {u : Int32} {v : Int32} (hd : decode code pc = .ok (.ishl, 1)) (hq : pc + 1 = q) (hr : Go l Z R E Q M k n q Ls (.int (u <<< (v &&& 31)) :: st)) : Go l Z R E Q M k n pc Ls (.int v :: .int u :: st) :=
  Go.plain hr fun _ _ _ X s => XT.ishl X.here C.1 rfl (hb C.2.2.2.1 hd) rfl (hq ▸ s)
theorem Go.ishr (C : Cx Z x code maxL ret E) {u : Int32} {v : Int32} (hd : decode code pc = .ok (.ishr, 1)) (hq : pc + 1 = q) (hr : Go l Z R E Q M k n q Ls (.int (u >>> (v &&& 31)) :: st)) : Go l Z R E Q M k n pc Ls (.int v :: .int u :: st) :=
  Go.plain hr fun _ _ _ X s => XT.ishr X.here C.1 rfl (hb C.2.2.2.1 hd) rfl (hq ▸ s)
theorem Go.iushr (C : Cx Z x code maxL ret E) {u : Int32} {v : Int32} (hd : decode code pc = .ok (.iushr, 1)) (hq : pc + 1 = q) (hr : Go l Z R E Q M k n q Ls (.int (XT.ushr u v) :: st)) : Go l Z R E Q M k n pc Ls (.int v :: .int u :: st) :=
  Go.plain hr fun _ _ _ X s => XT.iushr X.here C.1 rfl (hb C.2.2.2.1 hd) rfl (hq ▸ s)
theorem Go.ladd (C : Cx Z x code maxL ret E) {u : Int64} {v : Int64} (hd : decode code pc = .ok (.ladd, 1)) (hq : pc + 1 = q) (hr : Go l Z R E Q M k n q Ls (.long (u + v) :: st)) : Go l Z R E Q M k n pc Ls (.long v :: .long u :: st) :=
  Go.plain hr fun _ _ _ X s => XT.ladd X.here C.1 rfl (hb C.2.2.2.1 hd) rfl (hq ▸ s)
theorem Go.lsub (C : Cx Z x code maxL ret E) {u : Int64} {v : Int64} (hd : decode code pc = .ok (.lsub, 1)) (hq : pc + 1 = q) (hr : Go l Z R E Q M k n q Ls (.long (u - v) :: st)) : Go l Z R E Q M k n pc Ls (.long v :: .long u :: st) :=
  Go.plain hr fun _ _ _ X s => XT.lsub X.here C.1 rfl (hb C.2.2.2.1 hd) rfl (hq ▸ s)
theorem Go.lmul (C : Cx Z x code maxL ret E) {u : Int64} {v : Int64} (hd : decode code pc = .ok (.lmul, 1)) (hq : pc + 1 = q) (hr : Go l Z R E Q M k n q Ls (.long (u * v) :: st)) : Go l Z R E Q M k n pc Ls (.long v :: .long u :: st) :=
  Go.plain hr fun _ _ _ X s => XT.lmul X.here C.1 rfl (hb C.2.2.2.1 hd) rfl (hq ▸ s)
theorem Go.land (C : Cx Z x code maxL ret E) {u : Int64} {v : Int64} (hd : decode code pc = .ok (.land, 1)) (hq : pc + 1 = q) (hr : Go l Z R E Q M k n q Ls (.long (u &&& v) :: st)) : Go l Z R E Q M k n pc Ls (.long v :: .long u :: st) :=
  Go.plain hr fun _ _ _ X s => XT.land X.here C.1 rfl (hb C.2.2.2.1 hd) rfl (hq ▸ s)
theorem Go.lor (C : Cx Z x code maxL ret E) {u : Int64} {v : Int64} (hd : decode code pc = .ok (.lor, 1)) (hq : pc + 1 = q) (hr : Go l Z R E Q M k n q Ls (.long (u ||| v) :: st)) : Go l Z R E Q M k n pc Ls (.long v :: .long u :: st) :=
  Go.plain hr fun _ _ _ X s => XT.lor X.here C.1 rfl (hb C.2.2.2.1 hd) rfl (hq ▸ s)
theorem Go.lxor (C : Cx Z x code maxL ret E) {u : Int64} {v : Int64} (hd : decode code pc = .ok (.lxor, 1)) (hq : pc + 1 = q) (hr : Go l Z R E Q M k n q Ls (.long (u ^^^ v) :: st)) : Go l Z R E Q M k n pc Ls (.long v :: .long u :: st) :=
  Go.plain hr fun _ _ _ X s => XT.lxor X.here C.1 rfl (hb C.2.2.2.1 hd) rfl (hq ▸ s)
theorem Go.lshl (C : Cx Z x code maxL ret E) {u : Int64} {v : Int32} (hd : decode code pc = .ok (.lshl, 1)) (hq : pc + 1 = q) (hr : Go l Z R E Q M k n q Ls (.long (u <<< (v.toInt64 &&& 63)) :: st)) : Go l Z R E Q M k n pc Ls (.int v :: .long u :: st) :=
  Go.plain hr fun _ _ _ X s => XT.lshl X.here C.1 rfl (hb C.2.2.2.1 hd) rfl (hq ▸ s)
theorem Go.lshr (C : Cx Z x code maxL ret E) {u : Int64} {v : Int32} (hd : decode code pc = .ok (.lshr, 1)) (hq : pc + 1 = q) (hr : Go l Z R E Q M k n q Ls (.long (u >>> (v.toInt64 &&& 63)) :: st)) : Go l Z R E Q M k n pc Ls (.int v :: .long u :: st) :=
  Go.plain hr fun _ _ _ X s => XT.lshr X.here C.1 rfl (hb C.2.2.2.1 hd) rfl (hq ▸ s)
theorem Go.lushr (C : Cx Z x code maxL ret E) {u : Int64} {v : Int32} (hd : decode code pc = .ok (.lushr, 1)) (hq : pc + 1 = q) (hr : Go l Z R E Q M k n q Ls (.long (XT.ushrL u v) :: st)) : Go l Z R E Q M k n pc Ls (.int v :: .long u :: st) :=
  Go.plain hr fun _ _ _ X s => XT.lushr X.here C.1 rfl (hb C.2.2.2.1 hd) rfl (hq ▸ s)
theorem Go.ineg (C : Cx Z x code maxL ret E) {u : Int32} (hd : decode code pc = .ok (.ineg, 1)) (hq : pc + 1 = q) (hr : Go l Z R E Q M k n q Ls (.int (-u) :: st)) : Go l Z R E Q M k n pc Ls (.int u :: st) :=
  Go.plain hr fun _ _ _ X s => XS.ineg X.here C.1 rfl (hb C.2.2.2.1 hd) rfl (hq ▸ s)
theorem Go.lneg (C : Cx Z x code maxL ret E) {u : Int64} (hd : decode code pc = .ok (.lneg, 1)) (hq : pc + 1 = q) (hr : Go l Z R E Q M k n q Ls (.long (-u) :: st)) : Go l Z R E Q M k n pc Ls (.long u :: st) :=
  Go.plain hr fun _ _ _ X s => XT.lneg X.here C.1 rfl (hb C.2.2.2.1 hd) rfl (hq ▸ s)
theorem Go.i2l (C : Cx Z x code maxL ret E) {u : Int32} (hd : decode code pc = .ok (.i2l, 1)) (hq : pc + 1 = q) (hr : Go l Z R E Q M k n q Ls (.long u.toInt64 :: st)) : Go l Z R E Q M k n pc Ls (.int u :: st) :=
  Go.plain hr fun _ _ _ X s => XT.i2l X.here C.1 rfl (hb C.2.2.2.1 hd) rfl (hq ▸ s)
theorem Go.l2i (C : Cx Z x code maxL ret E) {u : Int64} (hd : decode code pc = .ok (.l2i, 1)) (hq : pc + 1 = q) (hr : Go l Z R E Q M k n q Ls (.int u.toInt32 :: st)) : Go l Z R E Q M k n pc Ls (.long u :: st) :=
  Go.plain hr fun _ _ _ X s => XT.l2i X.here C.1 rfl (hb C.2.2.2.1 hd) rfl (hq ▸ s)
theorem Go.i2b (C : Cx Z x code maxL ret E) {u : Int32} (hd : decode code pc = .ok (.i2b, 1)) (hq : pc + 1 = q) (hr : Go l Z R E Q M k n q Ls (.int u.toInt8.toInt32 :: st)) : Go l Z R E Q M k n pc Ls (.int u :: st) :=
  Go.plain hr fun _ _ _ X s => XT.i2b X.here C.1 rfl (hb C.2.2.2.1 hd) rfl (hq ▸ s)
theorem Go.i2c (C : Cx Z x code maxL ret E) {u : Int32} (hd : decode code pc = .ok (.i2c, 1)) (hq : pc + 1 = q) (hr : Go l Z R E Q M k n q Ls (.int u.toUInt32.toUInt16.toUInt32.toInt32 :: st)) : Go l Z R E Q M k n pc Ls (.int u :: st) :=
  Go.plain hr fun _ _ _ X s => XT.i2c X.here C.1 rfl (hb C.2.2.2.1 hd) rfl (hq ▸ s)
theorem Go.i2s (C : Cx Z x code maxL ret E) {u : Int32} (hd : decode code pc = .ok (.i2s, 1)) (hq : pc + 1 = q) (hr : Go l Z R E Q M k n q Ls (.int u.toInt16.toInt32 :: st)) : Go l Z R E Q M k n pc Ls (.int u :: st) :=
  Go.plain hr fun _ _ _ X s => XT.i2s X.here C.1 rfl (hb C.2.2.2.1 hd) rfl (hq ▸ s)
theorem Go.lrem (C : Cx Z x code maxL ret E) {u v : Int64} (hd : decode code pc = .ok (.lrem, 1)) (hq : pc + 1 = q) (hv : v ≠ 0) (hr : Go l Z R E Q M k n q Ls (.long (u - u / v * v) :: st)) : Go l Z R E Q M k n pc Ls (.long v :: .long u :: st) :=
  Go.plain hr fun _ _ _ X s => XT.lrem X.here C.1 rfl (hb C.2.2.2.1 hd) rfl hv (hq ▸ s)
theorem Go.idiv (C : Cx Z x code maxL ret E) {u v : Int32} (hd : decode code pc = .ok (.idiv, 1)) (hq : pc + 1 = q) (hv : v ≠ 0) (hr : Go l Z R E Q M k n q Ls (.int (u / v) :: st)) : Go l Z R E Q M k n pc Ls (.int v :: .int u :: st) :=
  Go.plain hr fun _ _ _ X s => XS.idiv X.here C.1 rfl (hb C.2.2.2.1 hd) rfl hv (hq ▸ s)
theorem Go.irem (C : Cx Z x code maxL ret E) {u v : Int32} (hd : decode code pc = .ok (.irem, 1)) (hq : pc + 1 = q) (hv : v ≠ 0) (hr : Go l Z R E Q M k n q Ls (.int (u % v) :: st)) : Go l Z R E Q M k n pc Ls (.int v :: .int u :: st) :=
  Go.plain hr fun _ _ _ X s => iremM X C.1 rfl (hb C.2.2.2.1 hd) rfl hv (hq ▸ s)
theorem Go.ldiv (C : Cx Z x code maxL ret E) {u v : Int64} (hd : decode code pc = .ok (.ldiv, 1)) (hq : pc + 1 = q) (hv : v ≠ 0) (hr : Go l Z R E Q M k n q Ls (.long (u / v) :: st)) : Go l Z R E Q M k n pc Ls (.long v :: .long u :: st) :=
  Go.plain hr fun _ _ _ X s => XT.ldiv X.here C.1 rfl (hb C.2.2.2.1 hd) rfl hv (hq ▸ s)
theorem Go.iinc (C : Cx Z x code maxL ret E) {j : Nat} {i : Int} {u v : Int32} (hd : decode code pc = .ok (.iinc j i, 3)) (hq : pc + 3 = q) (hl : Ls[j]? = some (.val (.int u))) (hv : u + Int32.ofInt i = v) (hl' : storeLocals Ls j (.int v) = some Ls') (hr : Go l Z R E Q M k n q Ls' st) : Go l Z R E Q M k n pc Ls st :=
  Go.plain hr fun _ _ _ X s => XS.iinc X.here C.1 rfl (hb C.2.2.2.1 hd) hl (hv ▸ hl') (hq ▸ s)
theorem Go.goto (C : Cx Z x code maxL ret E) {o : Int} (hd : decode code pc = .ok (.goto o, 3)) (ho : 0 ≤ (pc : Int) + o) (hq : ((pc : Int) + o).toNat = q) (hr : Go l Z R E Q M k n q Ls st) : Go l Z R E Q M k n pc Ls st :=
  Go.plain hr fun _ _ _ X s => XS.goto X.here C.1 rfl rfl (hb C.2.2.2.1 hd) ho hq s
theorem Go.ifYes (C : Cx Z x code maxL ret E) {cd : ClassFile.Cond} {o : Int} {u : Int32} (hd : decode code pc = .ok (.ifCond cd o, 3)) (ho : 0 ≤ (pc : Int) + o) (hq : ((pc : Int) + o).toNat = q) (hc : ifCond.holds cd u = true) (hr : Go l Z R E Q M k n q Ls st) : Go l Z R E Q M k n pc Ls (.int u :: st) :=
  Go.plain hr fun _ _ _ X s => XS.ifYes X.here C.1 rfl rfl (hb C.2.2.2.1 hd) rfl hc ho hq s
theorem Go.ifNo (C : Cx Z x code maxL ret E) {cd : ClassFile.Cond} {o : Int} {u : Int32} (hd : decode code pc = .ok (.ifCond cd o, 3)) (hq : pc + 3 = q) (hc : ifCond.holds cd u = false) (hr : Go l Z R E Q M k n q Ls st) : Go l Z R E Q M k n pc Ls (.int u :: st) :=
  Go.plain hr fun _ _ _ X s => XS.ifNo X.here C.1 rfl (hb C.2.2.2.1 hd) rfl hc (hq ▸ s)
theorem Go.icmpYes (C : Cx Z x code maxL ret E) {cd : ClassFile.Cond} {o : Int} {u v : Int32} (hd : decode code pc = .ok (.if_icmp cd o, 3)) (ho : 0 ≤ (pc : Int) + o) (hq : ((pc : Int) + o).toNat = q) (hc : if_icmp.holds cd u v = true) (hr : Go l Z R E Q M k n q Ls st) : Go l Z R E Q M k n pc Ls (.int v :: .int u :: st) :=
  Go.plain hr fun _ _ _ X s => XS.icmpYes X.here C.1 rfl rfl (hb C.2.2.2.1 hd) rfl hc ho hq s
theorem Go.icmpNo (C : Cx Z x code maxL ret E) {cd : ClassFile.Cond} {o : Int} {u v : Int32} (hd : decode code pc = .ok (.if_icmp cd o, 3)) (hq : pc + 3 = q) (hc : if_icmp.holds cd u v = false) (hr : Go l Z R E Q M k n q Ls st) : Go l Z R E Q M k n pc Ls (.int v :: .int u :: st) :=
  Go.plain hr fun _ _ _ X s => XS.icmpNo X.here C.1 rfl (hb C.2.2.2.1 hd) rfl hc (hq ▸ s)
theorem Go.acmpYes (C : Cx Z x code maxL ret E) {cd : ClassFile.ACond} {o : Int} {u v : Value} (hd : decode code pc = .ok (.if_acmp cd o, 3)) (ho : 0 ≤ (pc : Int) + o) (hq : ((pc : Int) + o).toNat = q) (hu : u.isRef = true) (hv : v.isRef = true) (hc : XT.acmp cd u v = true) (hr : Go l Z R E Q M k n q Ls st) : Go l Z R E Q M k n pc Ls (v :: u :: st) :=
  Go.plain hr fun _ _ _ X s => XT.acmpYes X.here C.1 rfl rfl (hb C.2.2.2.1 hd) rfl hu hv hc ho hq s
theorem Go.acmpNo (C : Cx Z x code maxL ret E) {cd : ClassFile.ACond} {o : Int} {u v : Value} (hd : decode code pc = .ok (.if_acmp cd o, 3)) (hq : pc + 3 = q) (hu : u.isRef = true) (hv : v.isRef = true) (hc : XT.acmp cd u v = false) (hr : Go l Z R E Q M k n q Ls st) : Go l Z R E Q M k n pc Ls (v :: u :: st) :=
  Go.plain hr fun _ _ _ X s => XT.acmpNo X.here C.1 rfl (hb C.2.2.2.1 hd) rfl hu hv hc (hq ▸ s)
theorem Go.nullYes (C : Cx Z x code maxL ret E) {o : Int} {v : Value} (hd : decode code pc = .ok (.ifnull o, 3)) (ho : 0 ≤ (pc : Int) + o) (hq : ((pc : Int) + o).toNat = q) (hv : v = .null) (hr : Go l Z R E Q M k n q Ls st) : Go l Z R E Q M k n pc Ls (v :: st) :=
  Go.plain hr fun _ _ _ X s => XT.nullYes X.here C.1 rfl rfl (hb C.2.2.2.1 hd) rfl hv ho hq s
theorem Go.nullNo (C : Cx Z x code maxL ret E) {o : Int} {v : Value} (hd : decode code pc = .ok (.ifnull o, 3)) (hq : pc + 3 = q) (hu : v.isRef = true) (hv : ¬ v = .null) (hr : Go l Z R E Q M k n q Ls st) : Go l Z R E Q M k n pc Ls (v :: st) :=
  Go.plain hr fun _ _ _ X s => XT.nullNo X.here C.1 rfl (hb C.2.2.2.1 hd) rfl hu hv (hq ▸ s)
theorem Go.nonnullYes (C : Cx Z x code maxL ret E) {o : Int} {v : Value} (hd : decode code pc = .ok (.ifnonnull o, 3)) (ho : 0 ≤ (pc : Int) + o) (hq : ((pc : Int) + o).toNat = q) (hu : v.isRef = true) (hv : ¬ v = .null) (hr : Go l Z R E Q M k n q Ls st) : Go l Z R E Q M k n pc Ls (v :: st) :=
  Go.plain hr fun _ _ _ X s => XT.nonnullYes X.here C.1 rfl rfl (hb C.2.2.2.1 hd) rfl hu hv ho hq s
theorem Go.nonnullNo (C : Cx Z x code maxL ret E) {o : Int} {v : Value} (hd : decode code pc = .ok (.ifnonnull o, 3)) (hq : pc + 3 = q) (hv : v = .null) (hr : Go l Z R E Q M k n q Ls st) : Go l Z R E Q M k n pc Ls (v :: st) :=
  Go.plain hr fun _ _ _ X s => XT.nonnullNo X.here C.1 rfl (hb C.2.2.2.1 hd) rfl hv (hq ▸ s)
def icP : ClassFile.Cond → Int32 → Prop
  | .eq, u => u = 0 | .ne, u => ¬ u = 0 | .lt, u => u < 0 | .ge, u => ¬ u < 0 | .gt, u => 0 < u | .le, u => ¬ 0 < u
def icN : ClassFile.Cond → Int32 → Prop
  | .eq, u => ¬ u = 0 | .ne, u => u = 0 | .lt, u => ¬ u < 0 | .ge, u => u < 0 | .gt, u => ¬ 0 < u | .le, u => 0 < u
def iiP : ClassFile.Cond → Int32 → Int32 → Prop
  | .eq, u, v => u = v | .ne, u, v => ¬ u = v | .lt, u, v => u < v | .ge, u, v => ¬ u < v | .gt, u, v => v < u | .le, u, v => ¬ v < u
def iiN : ClassFile.Cond → Int32 → Int32 → Prop
  | .eq, u, v => ¬ u = v | .ne, u, v => u = v | .lt, u, v => ¬ u < v | .ge, u, v => u < v | .gt, u, v => ¬ v < u | .le, u, v => v < u
def llP : ClassFile.Cond → Int64 → Int64 → Prop
  | .eq, u, v => u = v | .ne, u, v => ¬ u = v | .lt, u, v => u < v | .ge, u, v => ¬ u < v | .gt, u, v => v < u | .le, u, v => ¬ v < u
def llN : ClassFile.Cond → Int64 → Int64 → Prop
  | .eq, u, v => ¬ u = v | .ne, u, v => u = v | .lt, u, v => ¬ u < v | .ge, u, v => u < v | .gt, u, v => ¬ v < u | .le, u, v => v < u
theorem ic_or (cd : ClassFile.Cond) (u : Int32) : (ifCond.holds cd u = true ∧ icP cd u) ∨ (ifCond.holds cd u = false ∧ icN cd u) := by
  cases cd
  · by_cases h : u = 0
    · exact Or.inl ⟨XT.i0_eq_t h, h⟩
    · exact Or.inr ⟨XT.i0_eq_f h, h⟩
  · by_cases h : u = 0
    · exact Or.inr ⟨XT.i0_ne_f h, h⟩
    · exact Or.inl ⟨XT.i0_ne_t h, h⟩
  · by_cases h : u < 0
    · exact Or.inl ⟨XT.i0_lt_t h, h⟩
    · exact Or.inr ⟨XT.i0_lt_f h, h⟩
  · by_cases h : u < 0
    · exact Or.inr ⟨XT.i0_ge_f h, h⟩
    · exact Or.inl ⟨XT.i0_ge_t h, h⟩
  · by_cases h : 0 < u
    · exact Or.inl ⟨XT.i0_gt_t h, h⟩
    · exact Or.inr ⟨XT.i0_gt_f h, h⟩
  · by_cases h : 0 < u
    · exact Or.inr ⟨XT.i0_le_f h, h⟩
    · exact Or.inl ⟨XT.i0_le_t h, h⟩
theorem ii_or (cd : ClassFile.Cond) (u v : Int32) : (if_icmp.holds cd u v = true ∧ iiP cd u v) ∨ (if_icmp.holds cd u v = false ∧ iiN cd u v) := by
  cases cd
  · by_cases h : u = v
    · exact Or.inl ⟨XT.ii_eq_t h, h⟩
    · exact Or.inr ⟨XT.ii_eq_f h, h⟩
  · by_cases h : u = v
    · exact Or.inr ⟨XT.ii_ne_f h, h⟩
    · exact Or.inl ⟨XT.ii_ne_t h, h⟩
  · by_cases h : u < v
    · exact Or.inl ⟨XT.ii_lt_t h, h⟩
    · exact Or.inr ⟨XT.ii_lt_f h, h⟩
  · by_cases h : u < v
    · exact Or.inr ⟨XT.ii_ge_f h, h⟩
    · exact Or.inl ⟨XT.ii_ge_t h, h⟩
  · by_cases h : v < u
    · exact Or.inl ⟨XT.ii_gt_t h, h⟩
    · exact Or.inr ⟨XT.ii_gt_f h, h⟩
  · by_cases h : v < u
    · exact Or.inr ⟨XT.ii_le_f h, h⟩
    · exact Or.inl ⟨XT.ii_le_t h, h⟩
theorem ll_or (cd : ClassFile.Cond) (u v : Int64) : (ifCond.holds cd (XT.cmpL u v) = true ∧ llP cd u v) ∨ (ifCond.holds cd (XT.cmpL u v) = false ∧ llN cd u v) := by
  cases cd
  · by_cases h : u = v
    · exact Or.inl ⟨XT.ll_eq_t h, h⟩
    · exact Or.inr ⟨XT.ll_eq_f h, h⟩
  · by_cases h : u = v
    · exact Or.inr ⟨XT.ll_ne_f h, h⟩
    · exact Or.inl ⟨XT.ll_ne_t h, h⟩
  · by_cases h : u < v
    · exact Or.inl ⟨XT.ll_lt_t h, h⟩
    · exact Or.inr ⟨XT.ll_lt_f h, h⟩
  · by_cases h : u < v
    · exact Or.inr ⟨XT.ll_ge_f h, h⟩
    · exact Or.inl ⟨XT.ll_ge_t h, h⟩
  · by_cases h : v < u
    · exact Or.inl ⟨XT.ll_gt_t h, h⟩
    · exact Or.inr ⟨XT.ll_gt_f h, h⟩
  · by_cases h : v < u
    · exact Or.inr ⟨XT.ll_le_f h, h⟩
    · exact Or.inl ⟨XT.ll_le_t h, h⟩
theorem Go.ifc (C : Cx Z x code maxL ret E) {cd : ClassFile.Cond} {o : Int} {u : Int32} {q' : Nat} (hd : decode code pc = .ok (.ifCond cd o, 3)) (ho : 0 ≤ (pc : Int) + o) (hq : ((pc : Int) + o).toNat = q) (hq' : pc + 3 = q')
    (h1 : icP cd u → Go l Z R E Q M k n q Ls st) (h2 : icN cd u → Go l Z R E Q M k n q' Ls st) : Go l Z R E Q M k n pc Ls (.int u :: st) := by
  rcases ic_or cd u with ⟨a, b⟩ | ⟨a, b⟩
  · exact Go.ifYes C hd ho hq a (h1 b)
  · exact Go.ifNo C hd hq' a (h2 b)
theorem Go.icmp (C : Cx Z x code maxL ret E) {cd : ClassFile.Cond} {o : Int} {u v : Int32} {q' : Nat} (hd : decode code pc = .ok (.if_icmp cd o, 3)) (ho : 0 ≤ (pc : Int) + o) (hq : ((pc : Int) + o).toNat = q) (hq' : pc + 3 = q')
    (h1 : iiP cd u v → Go l Z R E Q M k n q Ls st) (h2 : iiN cd u v → Go l Z R E Q M k n q' Ls st) : Go l Z R E Q M k n pc Ls (.int v :: .int u :: st) := by
  rcases ii_or cd u v with ⟨a, b⟩ | ⟨a, b⟩
  · exact Go.icmpYes C hd ho hq a (h1 b)
  · exact Go.icmpNo C hd hq' a (h2 b)
theorem Go.lcmp (C : Cx Z x code maxL ret E) {u v : Int64} (hd : decode code pc = .ok (.lcmp, 1)) (hq : pc + 1 = q) (hr : Go l Z R E Q M k n q Ls (.int (XT.cmpL u v) :: st)) : Go l Z R E Q M k n pc Ls (.long v :: .long u :: st) :=
  Go.plain hr fun _ _ _ X s => XT.lcmp X.here C.1 rfl (hb C.2.2.2.1 hd) rfl (hq ▸ s)
theorem Go.lcmpif (C : Cx Z x code maxL ret E) {cd : ClassFile.Cond} {o : Int} {u v : Int64} {p' q' : Nat} (hd : decode code pc = .ok (.lcmp, 1)) (hp : pc + 1 = p') (hd' : decode code p' = .ok (.ifCond cd o, 3)) (ho : 0 ≤ (p' : Int) + o) (hq : ((p' : Int) + o).toNat = q) (hq' : p' + 3 = q')
    (h1 : llP cd u v → Go l Z R E Q M k n q Ls st) (h2 : llN cd u v → Go l Z R E Q M k n q' Ls st) : Go l Z R E Q M k n pc Ls (.long v :: .long u :: st) := by
  refine Go.lcmp C hd hp ?_
  rcases ll_or cd u v with ⟨a, b⟩ | ⟨a, b⟩
  · exact Go.ifYes C hd' ho hq a (h1 b)
  · exact Go.ifNo C hd' hq' a (h2 b)
def acP : ClassFile.ACond → Value → Value → Prop
  | .eq, u, v => u = v | .ne, u, v => ¬ u = v
def acN : ClassFile.ACond → Value → Value → Prop
  | .eq, u, v => ¬ u = v | .ne, u, v => u = v
theorem ac_or (cd : ClassFile.ACond) (u v : Value) : (XT.acmp cd u v = true ∧ acP cd u v) ∨ (XT.acmp cd u v = false ∧ acN cd u v) := by
  cases cd
  · by_cases h : u = v
    · exact Or.inl ⟨XT.aa_eq_t h, h⟩
    · exact Or.inr ⟨XT.aa_eq_f h, h⟩
  · by_cases h : u = v
    · exact Or.inr ⟨XT.aa_ne_f h, h⟩
    · exact Or.inl ⟨XT.aa_ne_t h, h⟩
theorem Go.acmp (C : Cx Z x code maxL ret E) {cd : ClassFile.ACond} {o : Int} {u v : Value} {q' : Nat} (hd : decode code pc = .ok (.if_acmp cd o, 3)) (ho : 0 ≤ (pc : Int) + o) (hq : ((pc : Int) + o).toNat = q) (hq' : pc + 3 = q') (hu : u.isRef = true) (hv : v.isRef = true)
    (h1 : acP cd u v → Go l Z R E Q M k n q Ls st) (h2 : acN cd u v → Go l Z R E Q M k n q' Ls st) : Go l Z R E Q M k n pc Ls (v :: u :: st) := by
  rcases ac_or cd u v with ⟨a, b⟩ | ⟨a, b⟩
  · exact Go.acmpYes C hd ho hq hu hv a (h1 b)
  · exact Go.acmpNo C hd hq' hu hv a (h2 b)
theorem Go.tswIn (C : Cx Z x code maxL ret E) {dflt low high o : Int} {offs : Array Int} {len : Nat} {u : Int32} (hd : decode code pc = .ok (.tableswitch dflt low high offs, len)) (hin : ¬ (u.toInt < low ∨ u.toInt > high)) (hoff : offs[(u.toInt - low).toNat]? = some o) (ho : 0 ≤ (pc : Int) + o) (hq : ((pc : Int) + o).toNat = q) (hr : Go l Z R E Q M k n q Ls st) : Go l Z R E Q M k n pc Ls (.int u :: st) :=
  Go.plain hr fun _ _ _ X s => XS.tswIn X.here C.1 rfl rfl (hb C.2.2.2.1 hd) rfl hin hoff ho hq s
theorem Go.tswOut (C : Cx Z x code maxL ret E) {dflt low high : Int} {offs : Array Int} {len : Nat} {u : Int32} (hd : decode code pc = .ok (.tableswitch dflt low high offs, len)) (hout : u.toInt < low ∨ u.toInt > high) (ho : 0 ≤ (pc : Int) + dflt) (hq : ((pc : Int) + dflt).toNat = q) (hr : Go l Z R E Q M k n q Ls st) : Go l Z R E Q M k n pc Ls (.int u :: st) :=
  Go.plain hr fun _ _ _ X s => XS.tswOut X.here C.1 rfl rfl (hb C.2.2.2.1 hd) rfl hout ho hq s
/-! the heap -/
theorem Go.getS (C : Cx Z x code maxL ret E) {idx : Nat} {R0 O nm d host : String} {v : Value} (w : (Cond.fieldLink x.cls idx R0 nm d).before a0 Z = true ∨ (Cond.fieldLinkNest x.cls idx R0 nm d host).before a0 Z = true) (via : Via Z R0 O nm d) (S : Sta Z Z.heap O nm d v) (hd : decode code pc = .ok (.getstatic idx, 3)) (hq : pc + 3 = q) (hr : Go l Z R E Q M k n q Ls (v :: st)) : Go l Z R E Q M k n pc Ls st := by
  intro T locs X F r
  obtain ⟨T', X', e', s'⟩ := RoadKit.getS2 X C.1 C.2.1 C.2.2.1 w via rfl (S.ext r.1) (g := mkF E.2.2.2.1 pc Ls st) rfl (hb C.2.2.2.1 hd)
  obtain ⟨s₂, v, L, h1, h2⟩ := hr T' locs X' F (by rw [e']; exact r)
  exact ⟨s₂, v, L, s' _ (hq ▸ h1), h2⟩
theorem Go.getF (C : Cx Z x code maxL ret E) {idx : Nat} {R0 O nm d host : String} {a : Addr} {v : Value} (w : (Cond.fieldLink x.cls idx R0 nm d).before a0 Z = true ∨ (Cond.fieldLinkNest x.cls idx R0 nm d host).before a0 Z = true) (via : Via Z R0 O nm d) (H : ∀ h, Rep Z h M → Fld Z h a O nm d v) (hd : decode code pc = .ok (.getfield idx, 3)) (hq : pc + 3 = q) (hr : Go l Z R E Q M k n q Ls (v :: st)) : Go l Z R E Q M k n pc Ls (.ref a :: st) := by
  intro T locs X F r
  obtain ⟨T', X', e', s'⟩ := RoadKit.getF X C.1 C.2.1 C.2.2.1 w via rfl (H _ r) (g := mkF E.2.2.2.1 pc Ls (.ref a :: st)) rfl rfl (hb C.2.2.2.1 hd)
  obtain ⟨s₂, v, L, h1, h2⟩ := hr T' locs X' F (by rw [e']; exact r)
  exact ⟨s₂, v, L, s' _ (hq ▸ h1), h2⟩
theorem Go.putF (C : Cx Z x code maxL ret E) {idx kk i j : Nat} {R0 O nm d host K : String} {a : Addr} {v old : Value} {fs : Fs} {ty : FieldType} {M' : List Ent} (w : (Cond.fieldLink x.cls idx R0 nm d).before a0 Z = true ∨ (Cond.fieldLinkNest x.cls idx R0 nm d host).before a0 Z = true) (via : Via Z R0 O nm d)
    (hi : M[i]? = some (a, .inl (K, fs))) (hj : fs[j]? = some ((O, nm, d), old)) (L : (Cond.lays K O nm d).before a0 Z = true ∨ ((Cond.laysFinal K O nm d).before a0 Z = true ∧ x.cls = O ∧ x.name = "<init>")) (wi : (Cond.instantiable K kk).before a0 Z = true)
    (hty : parseFieldDescriptor d = some ty) (hn : narrow ty v = v) (hf : fits ty v = true) (hd : decode code pc = .ok (.putfield idx, 3)) (hq : pc + 3 = q) (hM : M.set i (a, .inl (K, fs.set j ((O, nm, d), v))) = M') (hr : Go l Z R E Q M' k n q Ls st) : Go l Z R E Q M k n pc Ls (v :: .ref a :: st) := by
  intro T locs X F r
  have Fl := r.fld i j hi hj
  obtain ⟨T', h', X', e', W, s'⟩ := RoadKit.putF X C.1 C.2.1 C.2.2.1 w via rfl Fl (r.exa i hi) (L.imp id fun q => ⟨q.1, q.2.1, C.2.2.2.2.2.2.2.trans q.2.2⟩) wi hty hn hf (g := mkF E.2.2.2.1 pc Ls (v :: .ref a :: st)) rfl rfl (hb C.2.2.2.1 hd)
  obtain ⟨s₂, v, L, h1, h2⟩ := hr T' _ X' (Fr.snoc X' F (r.fresh hi)) (by rw [e', ← hM]; exact r.wrote hi W ((r.2.1 i _ hi).2.put hj W))
  exact ⟨s₂, v, L, s' _ (hq ▸ h1), h2⟩
def LaidAll (Z : State) (a0 : Array Value) (K : String) : Fs → Prop
  | [] => True
  | f :: r => (Laid Z a0 K f.1.1 f.1.2.1 f.1.2.2 ∧ ∃ ty, parseFieldDescriptor f.1.2.2 = some ty ∧ f.2 = defaultValue ty) ∧ LaidAll Z a0 K r
theorem LaidAll.at {K : String} : ∀ {fs : Fs}, LaidAll Z a0 K fs → ∀ f ∈ fs, Laid Z a0 K f.1.1 f.1.2.1 f.1.2.2 ∧ ∃ ty, parseFieldDescriptor f.1.2.2 = some ty ∧ f.2 = defaultValue ty
  | _ :: _, H, f, hf => by
    rcases List.mem_cons.mp hf with rfl | q
    · exact H.1
    · exact H.2.at f q
theorem LaidAll.nodup {K : String} : ∀ {fs : Fs}, LaidAll Z a0 K fs → (fs.map fun f => f.1.2.1).Nodup → (fs.map fun f => slK Z f.1).Nodup
  | [], _, _ => List.nodup_nil
  | f :: r, H, hn => by
    rw [List.map_cons, List.nodup_cons] at hn ⊢
    refine ⟨fun m => ?_, H.2.nodup hn.2⟩
    obtain ⟨g, hg, e⟩ := List.mem_map.mp m
    obtain ⟨Lg, tg, pg, -⟩ := H.2.at g hg
    obtain ⟨Lf, tf, pf, -⟩ := H.1
    refine slot_ne Lg Lf (fun q => hn.1 ?_) pg pf e
    exact List.mem_map.mpr ⟨g, hg, q⟩
theorem Go.new (C : Cx Z x code maxL ret E) {idx n1 k' n' : Nat} {K : String} (w1 : (Cond.classLink x.cls idx K).before a0 Z = true) (w2 : (Cond.instantiable K n1).before a0 Z = true) (w3 : (Cond.initialized K).before a0 Z = true) (fs : Fs) (Lf : LaidAll Z a0 K fs) (hnd : (fs.map fun f => f.1.2.1).Nodup)
    (hd : decode code pc = .ok (.new idx, 3)) (hq : pc + 3 = q) (hc : k + 1 ≤ R.cells) (hs : n + n1 ≤ R.slots) (hk : k + 1 = k') (hn : n + n1 = n') (hr : ∀ a, Go l Z R E Q ((a, .inl (K, fs)) :: M) k' n' q Ls (.ref a :: st)) : Go l Z R E Q M k n pc Ls st := by
  intro T locs X F r
  obtain ⟨T', h', X', e', Ex, A, D, -, s'⟩ := newO X C.1 C.2.1 C.2.2.1 w1 w2 w3 rfl (g := mkF E.2.2.2.1 pc Ls st) rfl (hb C.2.2.2.1 hd) hc hs
  subst hk hn
  obtain ⟨s₂, v, L, h1, h2⟩ := hr _ T' _ X' F (by
    rw [e']
    refine r.new Ex rfl ⟨A, fun i f hf => ?_, Lf.nodup hnd⟩
    obtain ⟨La, ty, hp, hv⟩ := Lf.at f (List.mem_of_getElem? hf)
    rw [hv]
    exact D La hp)
  exact ⟨s₂, v, L, s' _ (hq ▸ h1), h2⟩
theorem Go.initO (C : Cx Z x code maxL ret E) {idx : Nat} {a : Addr} (w1 : (Cond.methodLink x.cls idx Lib.objectInit).before a0 Z = true) (w2 : (Cond.instanceMethod Lib.objectInit).before a0 Z = true) (w3 : (Cond.code Lib.objectInit ⟨#[0xb1]⟩ 1 none).before a0 Z = true) (hd : decode code pc = .ok (.invokespecial idx, 3)) (hq : pc + 3 = q) (hsz : Ls.size = maxL) (hf : 1 ≤ R.frames) {W : Nat} (hW : (st.map fun v => v.category).sum = W) (hl : W + 12 ≤ R.locals)
    (hr : Go l Z R E Q M k n q Ls st) : Go l Z R E Q M k n pc Ls (.ref a :: st) := by
  subst hW
  intro T locs X F r
  obtain ⟨T', X', e', s'⟩ := RoadKit.initO X C.1 C.2.1 C.2.2.1 w1 w2 w3 rfl (g := mkF E.2.2.2.1 pc Ls (.ref a :: st)) rfl (hsz.trans C.2.2.2.2.1.symm) rfl (hb C.2.2.2.1 hd) hf (W := (st.map fun v => v.category).sum) (by show 2 * 0 + _ ≤ _; omega) hl
  obtain ⟨s₂, v, L, h1, h2⟩ := hr T' locs X' F (by rw [e']; exact r)
  exact ⟨s₂, v, L, s' _ (hq ▸ h1), h2⟩
/-- an array that is owned, or that stood at the start -/
def ArrIs (Z : State) (h : Heap) (a : Addr) (ty : FieldType) (vs : List Value) : Prop := ∃ c : Cell, Arr Z h a c ty ∧ c.slots.toList = vs
theorem Rep.arr {h : Heap} {a : Addr} {ty : FieldType} {vs : List Value} {b : Bool} (r : Rep Z h M) (i : Nat) (hi : M[i]? = some (a, .inr (ty, vs, b))) : ArrIs Z h a ty vs := by
  obtain ⟨c, A, e, -⟩ := (r.2.1 i _ hi).2
  exact ⟨c, A, e⟩
theorem ArrIs.ext {h h' : Heap} {a : Addr} {ty : FieldType} {vs : List Value} (A : ArrIs Z h a ty vs) (E : Ext h h') : ArrIs Z h' a ty vs := by
  obtain ⟨c, A, e⟩ := A
  exact ⟨c, A.ext E, e⟩
theorem in_of {c : Cell} {vs : List Value} {j : Int32} {v : Value} (e : c.slots.toList = vs) (h0 : ¬ j < 0) (hv : vs[j.toNatClampNeg]? = some v) : ¬ (j < 0 ∨ c.slots.size ≤ j.toNatClampNeg) ∧ c.slots[j.toNatClampNeg]? = some v := by
  subst e
  rw [Array.getElem?_toList] at hv
  have := (Array.getElem?_eq_some_iff.mp hv).1
  exact ⟨fun q => q.elim h0 fun q => by omega, hv⟩
theorem Go.arraylength (C : Cx Z x code maxL ret E) {a : Addr} {ty : FieldType} {vs : List Value} {z : Int32} (H : ∀ h, Rep Z h M → ArrIs Z h a ty vs) (hz : vs.length.toInt32 = z) (hd : decode code pc = .ok (.arraylength, 1)) (hq : pc + 1 = q) (hr : Go l Z R E Q M k n q Ls (.int z :: st)) : Go l Z R E Q M k n pc Ls (.ref a :: st) := by
  intro T locs X F r
  obtain ⟨c, A, e⟩ := H _ r
  obtain ⟨s₂, v, L, h1, h2⟩ := hr T locs X F r
  refine ⟨s₂, v, L, Stand.arraylength X C.1 A.1 (State.isArrayOf_alike C.2.1.alike A.2.1) (g := mkF E.2.2.2.1 pc Ls (.ref a :: st)) rfl rfl (hb C.2.2.2.1 hd) _ ?_, h2⟩
  have : c.slots.size.toInt32 = z := by rw [← hz, ← e, Array.length_toList]
  rw [this]
  exact hq ▸ h1
theorem Go.iaload (C : Cx Z x code maxL ret E) {a : Addr} {vs : List Value} {j : Int32} {v : Value} (H : ∀ h, Rep Z h M → ArrIs Z h a .int vs) (h0 : ¬ j < 0) (hv : vs[j.toNatClampNeg]? = some v) (hd : decode code pc = .ok (.iaload, 1)) (hq : pc + 1 = q) (hr : Go l Z R E Q M k n q Ls (v :: st)) : Go l Z R E Q M k n pc Ls (.int j :: .ref a :: st) := by
  intro T locs X F r
  obtain ⟨c, A, e⟩ := H _ r
  obtain ⟨g1, g2⟩ := in_of e h0 hv
  obtain ⟨s₂, v, L, h1, h2⟩ := hr T locs X F r
  exact ⟨s₂, v, L, Stand.iaload X C.1 A.1 (State.isArrayOf_alike C.2.1.alike A.2.1) A.2.2 g1 g2 (g := mkF E.2.2.2.1 pc Ls (.int j :: .ref a :: st)) rfl rfl (hb C.2.2.2.1 hd) _ (hq ▸ h1), h2⟩
theorem Go.laload (C : Cx Z x code maxL ret E) {a : Addr} {vs : List Value} {j : Int32} {v : Value} (H : ∀ h, Rep Z h M → ArrIs Z h a .long vs) (h0 : ¬ j < 0) (hv : vs[j.toNatClampNeg]? = some v) (hd : decode code pc = .ok (.laload, 1)) (hq : pc + 1 = q) (hr : Go l Z R E Q M k n q Ls (v :: st)) : Go l Z R E Q M k n pc Ls (.int j :: .ref a :: st) := by
  intro T locs X F r
  obtain ⟨c, A, e⟩ := H _ r
  obtain ⟨g1, g2⟩ := in_of e h0 hv
  obtain ⟨s₂, v, L, h1, h2⟩ := hr T locs X F r
  exact ⟨s₂, v, L, Stand.laload X C.1 A.1 (State.isArrayOf_alike C.2.1.alike A.2.1) A.2.2 g1 g2 (g := mkF E.2.2.2.1 pc Ls (.int j :: .ref a :: st)) rfl rfl (hb C.2.2.2.1 hd) _ (hq ▸ h1), h2⟩
theorem Go.caload (C : Cx Z x code maxL ret E) {a : Addr} {vs : List Value} {j : Int32} {v : Value} (H : ∀ h, Rep Z h M → ArrIs Z h a .char vs) (h0 : ¬ j < 0) (hv : vs[j.toNatClampNeg]? = some v) (hd : decode code pc = .ok (.caload, 1)) (hq : pc + 1 = q) (hr : Go l Z R E Q M k n q Ls (v :: st)) : Go l Z R E Q M k n pc Ls (.int j :: .ref a :: st) := by
  intro T locs X F r
  obtain ⟨c, A, e⟩ := H _ r
  obtain ⟨g1, g2⟩ := in_of e h0 hv
  obtain ⟨s₂, v, L, h1, h2⟩ := hr T locs X F r
  exact ⟨s₂, v, L, Stand.caload X C.1 A.1 (State.isArrayOf_alike C.2.1.alike A.2.1) A.2.2 g1 g2 (g := mkF E.2.2.2.1 pc Ls (.int j :: .ref a :: st)) rfl rfl (hb C.2.2.2.1 hd) _ (hq ▸ h1), h2⟩
theorem Go.saload (C : Cx Z x code maxL ret E) {a : Addr} {vs : List Value} {j : Int32} {v : Value} (H : ∀ h, Rep Z h M → ArrIs Z h a .short vs) (h0 : ¬ j < 0) (hv : vs[j.toNatClampNeg]? = some v) (hd : decode code pc = .ok (.saload, 1)) (hq : pc + 1 = q) (hr : Go l Z R E Q M k n q Ls (v :: st)) : Go l Z R E Q M k n pc Ls (.int j :: .ref a :: st) := by
  intro T locs X F r
  obtain ⟨c, A, e⟩ := H _ r
  obtain ⟨g1, g2⟩ := in_of e h0 hv
  obtain ⟨s₂, v, L, h1, h2⟩ := hr T locs X F r
  exact ⟨s₂, v, L, Stand.saload X C.1 A.1 (State.isArrayOf_alike C.2.1.alike A.2.1) A.2.2 g1 g2 (g := mkF E.2.2.2.1 pc Ls (.int j :: .ref a :: st)) rfl rfl (hb C.2.2.2.1 hd) _ (hq ▸ h1), h2⟩
theorem Go.baload (C : Cx Z x code maxL ret E) {a : Addr} {vs : List Value} {j : Int32} {v : Value} (H : ∀ h, Rep Z h M → ArrIs Z h a .byte vs) (h0 : ¬ j < 0) (hv : vs[j.toNatClampNeg]? = some v) (hd : decode code pc = .ok (.baload, 1)) (hq : pc + 1 = q) (hr : Go l Z R E Q M k n q Ls (v :: st)) : Go l Z R E Q M k n pc Ls (.int j :: .ref a :: st) := by
  intro T locs X F r
  obtain ⟨c, A, e⟩ := H _ r
  obtain ⟨g1, g2⟩ := in_of e h0 hv
  obtain ⟨s₂, v, L, h1, h2⟩ := hr T locs X F r
  exact ⟨s₂, v, L, Stand.baloadBytes X C.1 A.1 (State.isArrayOf_alike C.2.1.alike A.2.1) A.2.2 g1 g2 (g := mkF E.2.2.2.1 pc Ls (.int j :: .ref a :: st)) rfl rfl (hb C.2.2.2.1 hd) _ (hq ▸ h1), h2⟩
theorem Go.zaload (C : Cx Z x code maxL ret E) {a : Addr} {vs : List Value} {j : Int32} {v : Value} (H : ∀ h, Rep Z h M → ArrIs Z h a .boolean vs) (h0 : ¬ j < 0) (hv : vs[j.toNatClampNeg]? = some v) (hd : decode code pc = .ok (.baload, 1)) (hq : pc + 1 = q) (hr : Go l Z R E Q M k n q Ls (v :: st)) : Go l Z R E Q M k n pc Ls (.int j :: .ref a :: st) := by
  intro T locs X F r
  obtain ⟨c, A, e⟩ := H _ r
  obtain ⟨g1, g2⟩ := in_of e h0 hv
  obtain ⟨s₂, v, L, h1, h2⟩ := hr T locs X F r
  exact ⟨s₂, v, L, Stand.baloadBooleans X C.1 A.1 (State.isArrayOf_alike C.2.1.alike A.2.1) A.2.2 g1 g2 (g := mkF E.2.2.2.1 pc Ls (.int j :: .ref a :: st)) rfl rfl (hb C.2.2.2.1 hd) _ (hq ▸ h1), h2⟩
theorem Go.aaload (C : Cx Z x code maxL ret E) {a : Addr} {ty : FieldType} {vs : List Value} {j : Int32} {v : Value} (H : ∀ h, Rep Z h M → ArrIs Z h a ty vs) (hty : ty.isReference = true) (h0 : ¬ j < 0) (hv : vs[j.toNatClampNeg]? = some v) (hd : decode code pc = .ok (.aaload, 1)) (hq : pc + 1 = q) (hr : Go l Z R E Q M k n q Ls (v :: st)) : Go l Z R E Q M k n pc Ls (.int j :: .ref a :: st) := by
  intro T locs X F r
  obtain ⟨c, A, e⟩ := H _ r
  obtain ⟨g1, g2⟩ := in_of e h0 hv
  obtain ⟨s₂, v, L, h1, h2⟩ := hr T locs X F r
  exact ⟨s₂, v, L, Stand.aaload X C.1 A.1 (State.isArrayOf_alike C.2.1.alike A.2.1) hty A.2.2 g1 g2 (g := mkF E.2.2.2.1 pc Ls (.int j :: .ref a :: st)) rfl rfl (hb C.2.2.2.1 hd) _ (hq ▸ h1), h2⟩
theorem Go.iastore (C : Cx Z x code maxL ret E) {a : Addr} {vs : List Value} {i : Nat} {j : Int32} {w : Int32} {w' : Value} {M' : List Ent} (hi : M[i]? = some (a, .inr (.int, vs, true))) (h0 : ¬ j < 0) (hv : j.toNatClampNeg < vs.length) (hw : .int w = w') (hd : decode code pc = .ok (.iastore, 1)) (hq : pc + 1 = q) (hM : M.set i (a, .inr (.int, vs.set j.toNatClampNeg w', true)) = M') (hr : Go l Z R E Q M' k n q Ls st) : Go l Z R E Q M k n pc Ls (.int w :: .int j :: .ref a :: st) := by
  intro T locs X F r
  subst hw
  obtain ⟨c, A, e, o⟩ := (r.2.1 i _ hi).2
  have g1 : ¬ (j < 0 ∨ c.slots.size ≤ j.toNatClampNeg) := fun q => q.elim h0 fun q => by rw [← e, Array.length_toList] at hv; omega
  obtain ⟨T', h', X', e', W, s'⟩ := stI X C.1 C.2.1 rfl A g1 (g := mkF E.2.2.2.1 pc Ls (.int w :: .int j :: .ref a :: st)) rfl rfl (hb C.2.2.2.1 hd)
  obtain ⟨s₂, v, L, h1, h2⟩ := hr T' _ X' (Fr.snoc X' F (r.fresh hi)) (by rw [e', ← hM]; exact r.wrote hi W ((r.2.1 i _ hi).2.store W))
  exact ⟨s₂, v, L, s' _ (hq ▸ h1), h2⟩
theorem Go.lastore (C : Cx Z x code maxL ret E) {a : Addr} {vs : List Value} {i : Nat} {j : Int32} {w : Int64} {w' : Value} {M' : List Ent} (hi : M[i]? = some (a, .inr (.long, vs, true))) (h0 : ¬ j < 0) (hv : j.toNatClampNeg < vs.length) (hw : .long w = w') (hd : decode code pc = .ok (.lastore, 1)) (hq : pc + 1 = q) (hM : M.set i (a, .inr (.long, vs.set j.toNatClampNeg w', true)) = M') (hr : Go l Z R E Q M' k n q Ls st) : Go l Z R E Q M k n pc Ls (.long w :: .int j :: .ref a :: st) := by
  intro T locs X F r
  subst hw
  obtain ⟨c, A, e, o⟩ := (r.2.1 i _ hi).2
  have g1 : ¬ (j < 0 ∨ c.slots.size ≤ j.toNatClampNeg) := fun q => q.elim h0 fun q => by rw [← e, Array.length_toList] at hv; omega
  obtain ⟨T', h', X', e', W, s'⟩ := stJ X C.1 C.2.1 rfl A g1 (g := mkF E.2.2.2.1 pc Ls (.long w :: .int j :: .ref a :: st)) rfl rfl (hb C.2.2.2.1 hd)
  obtain ⟨s₂, v, L, h1, h2⟩ := hr T' _ X' (Fr.snoc X' F (r.fresh hi)) (by rw [e', ← hM]; exact r.wrote hi W ((r.2.1 i _ hi).2.store W))
  exact ⟨s₂, v, L, s' _ (hq ▸ h1), h2⟩
theorem Go.castore (C : Cx Z x code maxL ret E) {a : Addr} {vs : List Value} {i : Nat} {j : Int32} {w : Int32} {w' : Value} {M' : List Ent} (hi : M[i]? = some (a, .inr (.char, vs, true))) (h0 : ¬ j < 0) (hv : j.toNatClampNeg < vs.length) (hw : .int (nar .char w) = w') (hd : decode code pc = .ok (.castore, 1)) (hq : pc + 1 = q) (hM : M.set i (a, .inr (.char, vs.set j.toNatClampNeg w', true)) = M') (hr : Go l Z R E Q M' k n q Ls st) : Go l Z R E Q M k n pc Ls (.int w :: .int j :: .ref a :: st) := by
  intro T locs X F r
  subst hw
  obtain ⟨c, A, e, o⟩ := (r.2.1 i _ hi).2
  have g1 : ¬ (j < 0 ∨ c.slots.size ≤ j.toNatClampNeg) := fun q => q.elim h0 fun q => by rw [← e, Array.length_toList] at hv; omega
  obtain ⟨T', h', X', e', W, s'⟩ := stC X C.1 C.2.1 rfl A g1 (g := mkF E.2.2.2.1 pc Ls (.int w :: .int j :: .ref a :: st)) rfl rfl (hb C.2.2.2.1 hd)
  obtain ⟨s₂, v, L, h1, h2⟩ := hr T' _ X' (Fr.snoc X' F (r.fresh hi)) (by rw [e', ← hM]; exact r.wrote hi W ((r.2.1 i _ hi).2.store W))
  exact ⟨s₂, v, L, s' _ (hq ▸ h1), h2⟩
theorem Go.bastore (C : Cx Z x code maxL ret E) {a : Addr} {vs : List Value} {i : Nat} {j : Int32} {w : Int32} {w' : Value} {M' : List Ent} (hi : M[i]? = some (a, .inr (.byte, vs, true))) (h0 : ¬ j < 0) (hv : j.toNatClampNeg < vs.length) (hw : .int (nar .byte w) = w') (hd : decode code pc = .ok (.bastore, 1)) (hq : pc + 1 = q) (hM : M.set i (a, .inr (.byte, vs.set j.toNatClampNeg w', true)) = M') (hr : Go l Z R E Q M' k n q Ls st) : Go l Z R E Q M k n pc Ls (.int w :: .int j :: .ref a :: st) := by
  intro T locs X F r
  subst hw
  obtain ⟨c, A, e, o⟩ := (r.2.1 i _ hi).2
  have g1 : ¬ (j < 0 ∨ c.slots.size ≤ j.toNatClampNeg) := fun q => q.elim h0 fun q => by rw [← e, Array.length_toList] at hv; omega
  obtain ⟨T', h', X', e', W, s'⟩ := stB X C.1 C.2.1 rfl A g1 (g := mkF E.2.2.2.1 pc Ls (.int w :: .int j :: .ref a :: st)) rfl rfl (hb C.2.2.2.1 hd)
  obtain ⟨s₂, v, L, h1, h2⟩ := hr T' _ X' (Fr.snoc X' F (r.fresh hi)) (by rw [e', ← hM]; exact r.wrote hi W ((r.2.1 i _ hi).2.store W))
  exact ⟨s₂, v, L, s' _ (hq ▸ h1), h2⟩
theorem Go.zastore (C : Cx Z x code maxL ret E) {a : Addr} {vs : List Value} {i : Nat} {j : Int32} {w : Int32} {w' : Value} {M' : List Ent} (hi : M[i]? = some (a, .inr (.boolean, vs, true))) (h0 : ¬ j < 0) (hv : j.toNatClampNeg < vs.length) (hw : .int (nar .boolean w) = w') (hd : decode code pc = .ok (.bastore, 1)) (hq : pc + 1 = q) (hM : M.set i (a, .inr (.boolean, vs.set j.toNatClampNeg w', true)) = M') (hr : Go l Z R E Q M' k n q Ls st) : Go l Z R E Q M k n pc Ls (.int w :: .int j :: .ref a :: st) := by
  intro T locs X F r
  subst hw
  obtain ⟨c, A, e, o⟩ := (r.2.1 i _ hi).2
  have g1 : ¬ (j < 0 ∨ c.slots.size ≤ j.toNatClampNeg) := fun q => q.elim h0 fun q => by rw [← e, Array.length_toList] at hv; omega
  obtain ⟨T', h', X', e', W, s'⟩ := stZ X C.1 C.2.1 rfl A g1 (g := mkF E.2.2.2.1 pc Ls (.int w :: .int j :: .ref a :: st)) rfl rfl (hb C.2.2.2.1 hd)
  obtain ⟨s₂, v, L, h1, h2⟩ := hr T' _ X' (Fr.snoc X' F (r.fresh hi)) (by rw [e', ← hM]; exact r.wrote hi W ((r.2.1 i _ hi).2.store W))
  exact ⟨s₂, v, L, s' _ (hq ▸ h1), h2⟩
/-- v may lie in an array of K -/
def Fits (Z : State) (h : Heap) (K : String) (v : Value) : Prop := v = .null ∨ ∃ y, v = .ref y ∧ Ins Z h y K true
theorem Go.aastore (C : Cx Z x code maxL ret E) {a : Addr} {K : String} {vs : List Value} {i : Nat} {j : Int32} {v : Value} {M' : List Ent} (hi : M[i]? = some (a, .inr (.object K, vs, true))) (h0 : ¬ j < 0) (hv : j.toNatClampNeg < vs.length) (S : ∀ h, Rep Z h M → Fits Z h K v) (hd : decode code pc = .ok (.aastore, 1)) (hq : pc + 1 = q) (hM : M.set i (a, .inr (.object K, vs.set j.toNatClampNeg v, true)) = M') (hr : Go l Z R E Q M' k n q Ls st) : Go l Z R E Q M k n pc Ls (v :: .int j :: .ref a :: st) := by
  intro T locs X F r
  obtain ⟨c, A, e, o⟩ := (r.2.1 i _ hi).2
  have g1 : ¬ (j < 0 ∨ c.slots.size ≤ j.toNatClampNeg) := fun q => q.elim h0 fun q => by rw [← e, Array.length_toList] at hv; omega
  have g2 : Sto Z T.heap a v := (S _ r).imp id fun ⟨y, e', I⟩ => by
    subst e'
    exact (Sto.of A (o rfl K rfl) I).elim (fun q => by cases q) id
  obtain ⟨T', h', X', e', W, s'⟩ := stR X C.1 C.2.1 rfl A g1 rfl g2 (g := mkF E.2.2.2.1 pc Ls (v :: .int j :: .ref a :: st)) rfl rfl (hb C.2.2.2.1 hd)
  obtain ⟨s₂, v, L, h1, h2⟩ := hr T' _ X' (Fr.snoc X' F (r.fresh hi)) (by rw [e', ← hM]; exact r.wrote hi W ((r.2.1 i _ hi).2.store W))
  exact ⟨s₂, v, L, s' _ (hq ▸ h1), h2⟩
theorem Go.newarray (C : Cx Z x code maxL ret E) {aty : ArrayType} {z : Int32} {cap k' n' : Nat} {ty : FieldType} {vs : List Value} (w : (Cond.arrayClass ty).before a0 Z = true) (hty : newarray.typeOf aty = ty) (hpr : ∀ C, ty ≠ .object C) (h0 : ¬ z < 0) (hcap : z.toNatClampNeg ≤ cap) (hb8 : cap * 8 ≤ 536870912) (hvs : List.replicate z.toNatClampNeg (defaultValue ty) = vs) (hd : decode code pc = .ok (.newarray aty, 2)) (hq : pc + 2 = q)
    (hc : k + 1 ≤ R.cells) (hs : n + cap ≤ R.slots) (hk : k + 1 = k') (hn : n + cap = n') (hr : ∀ a, Go l Z R E Q ((a, .inr (ty, vs, true)) :: M) k' n' q Ls (.ref a :: st)) : Go l Z R E Q M k n pc Ls (.int z :: st) := by
  intro T locs X F r
  subst hty
  obtain ⟨T', h', cA, X', e', Ex, A, s'⟩ := newP X C.1 C.2.1 w rfl (g := mkF E.2.2.2.1 pc Ls (.int z :: st)) rfl (hb C.2.2.2.1 hd) rfl h0 hcap hb8 hc hs
  subst hk hn
  obtain ⟨s₂, v, L, h1, h2⟩ := hr _ T' _ X' F (by
    rw [e']
    exact r.new Ex rfl ⟨_, A, by rw [← hvs]; simp [newA], fun _ C e => absurd e (hpr C)⟩)
  exact ⟨s₂, v, L, s' _ (hq ▸ h1), h2⟩
theorem Go.anewarray (C : Cx Z x code maxL ret E) {idx : Nat} {K : String} {z : Int32} {cap k' n' : Nat} {vs : List Value} (w1 : (Cond.classLink x.cls idx K).before a0 Z = true) (w2 : (Cond.arrayOver (.object K)).before a0 Z = true) (h0 : ¬ z < 0) (hcap : z.toNatClampNeg ≤ cap) (hb8 : cap * 8 ≤ 536870912) (hvs : List.replicate z.toNatClampNeg (.null : Value) = vs) (hd : decode code pc = .ok (.anewarray idx, 3)) (hq : pc + 3 = q)
    (hc : k + 1 ≤ R.cells) (hs : n + cap ≤ R.slots) (hk : k + 1 = k') (hn : n + cap = n') (hr : ∀ a, Go l Z R E Q ((a, .inr (.object K, vs, true)) :: M) k' n' q Ls (.ref a :: st)) : Go l Z R E Q M k n pc Ls (.int z :: st) := by
  intro T locs X F r
  obtain ⟨T', h', cA, X', e', Ex, A, O, s'⟩ := newR X C.1 C.2.1 C.2.2.1 w1 w2 rfl (g := mkF E.2.2.2.1 pc Ls (.int z :: st)) rfl (hb C.2.2.2.1 hd) rfl h0 hcap hb8 hc hs
  subst hk hn
  obtain ⟨s₂, v, L, h1, h2⟩ := hr _ T' _ X' F (by
    rw [e']
    exact r.new Ex rfl ⟨_, A, by rw [← hvs]; simp [newA, defaultValue], fun _ C e => by cases e; exact O⟩)
  exact ⟨s₂, v, L, s' _ (hq ▸ h1), h2⟩
theorem Go.castY (C : Cx Z x code maxL ret E) {idx : Nat} {K : String} {a : Addr} (w : (Cond.classLink x.cls idx K).before a0 Z = true) (H : ∀ h, Rep Z h M → Ins Z h a K true) (hd : decode code pc = .ok (.checkcast idx, 3)) (hq : pc + 3 = q) (hr : Go l Z R E Q M k n q Ls (.ref a :: st)) : Go l Z R E Q M k n pc Ls (.ref a :: st) := by
  intro T locs X F r
  obtain ⟨T', X', e', s'⟩ := RoadKit.castY X C.1 C.2.1 C.2.2.1 w rfl (H _ r) (g := mkF E.2.2.2.1 pc Ls (.ref a :: st)) rfl rfl (hb C.2.2.2.1 hd)
  obtain ⟨s₂, v, L, h1, h2⟩ := hr T' locs X' F (by rw [e']; exact r)
  exact ⟨s₂, v, L, s' _ (hq ▸ h1), h2⟩
theorem Go.instY (C : Cx Z x code maxL ret E) {idx : Nat} {K : String} {a : Addr} (w : (Cond.classLink x.cls idx K).before a0 Z = true) (H : ∀ h, Rep Z h M → Ins Z h a K true) (hd : decode code pc = .ok (.instanceof idx, 3)) (hq : pc + 3 = q) (hr : Go l Z R E Q M k n q Ls (.int 1 :: st)) : Go l Z R E Q M k n pc Ls (.ref a :: st) := by
  intro T locs X F r
  obtain ⟨T', X', e', s'⟩ := RoadKit.instY X C.1 C.2.1 C.2.2.1 w rfl (H _ r) (g := mkF E.2.2.2.1 pc Ls (.ref a :: st)) rfl rfl (hb C.2.2.2.1 hd)
  obtain ⟨s₂, v, L, h1, h2⟩ := hr T' locs X' F (by rw [e']; exact r)
  exact ⟨s₂, v, L, s' _ (hq ▸ h1), h2⟩
theorem Go.instNo (C : Cx Z x code maxL ret E) {idx : Nat} {K C' : String} {a : Addr} (w : (Cond.classLink x.cls idx K).before a0 Z = true) (H : ∀ h, Rep Z h M → Exa Z h a C') (N : ∃ c t, Z.vm.findClass C' = some c ∧ Z.vm.findClass K = some t ∧ Z.vm.assignable c t = false) (hd : decode code pc = .ok (.instanceof idx, 3)) (hq : pc + 3 = q) (hr : Go l Z R E Q M k n q Ls (.int 0 :: st)) : Go l Z R E Q M k n pc Ls (.ref a :: st) := by
  intro T locs X F r
  obtain ⟨T', X', e', s'⟩ := RoadKit.instNo X C.1 C.2.1 C.2.2.1 w rfl (H _ r) N (g := mkF E.2.2.2.1 pc Ls (.ref a :: st)) rfl rfl (hb C.2.2.2.1 hd)
  obtain ⟨s₂, v, L, h1, h2⟩ := hr T' locs X' F (by rw [e']; exact r)
  exact ⟨s₂, v, L, s' _ (hq ▸ h1), h2⟩
theorem Go.instNull (C : Cx Z x code maxL ret E) {idx : Nat} (hd : decode code pc = .ok (.instanceof idx, 3)) (hq : pc + 3 = q) (hr : Go l Z R E Q M k n q Ls (.int 0 :: st)) : Go l Z R E Q M k n pc Ls (.null :: st) :=
  Go.plain hr fun _ _ t X s => Jvm.Stand.instanceofNull X C.1 (g := mkF E.2.2.2.1 pc Ls (.null :: st)) rfl rfl (hb C.2.2.2.1 hd) t (hq ▸ s)
theorem Go.castNull (C : Cx Z x code maxL ret E) {idx : Nat} (hd : decode code pc = .ok (.checkcast idx, 3)) (hq : pc + 3 = q) (hr : Go l Z R E Q M k n q Ls (.null :: st)) : Go l Z R E Q M k n pc Ls (.null :: st) :=
  Go.plain hr fun _ _ t X s => Jvm.Stand.checkcastNull X C.1 (g := mkF E.2.2.2.1 pc Ls (.null :: st)) rfl rfl (hb C.2.2.2.1 hd) t (hq ▸ s)
theorem nsRoot {O K : String} {kk : Nat} (w : (Cond.noSuperclass O).before a0 Z = true) (wk : (Cond.instantiable K kk).before a0 Z = true) (hn : O ≠ K) : NS Z O K := by
  obtain ⟨c, k, h1, h2, h3, -, -⟩ := Cond.noSuperclass_spec w
  obtain ⟨t, _, g1, -⟩ := Cond.instantiable_spec wk
  have ne := ids_ne h1 g1 hn
  refine ⟨c, t, h1, g1, fun fuel => ?_⟩
  cases fuel with
  | zero => rfl
  | succ f => simp [Vm.isSubclassAux, ne, h2, h3]
theorem nsNo {C' S K : String} {kk : Nat} (w : (Cond.superclass C' S).before a0 Z = true) (wk : (Cond.instantiable K kk).before a0 Z = true) (n : NS Z C' K) (hn : C' ≠ K) : ∃ c t, Z.vm.findClass C' = some c ∧ Z.vm.findClass K = some t ∧ Z.vm.assignable c t = false := by
  obtain ⟨c, t, h0, g0, n3⟩ := n
  obtain ⟨p, k, kp, h1, h2, h3, h4, h5, -, h7⟩ := Cond.superclass_spec h0 w
  obtain ⟨t', k', g1, g2, g5, g7, -⟩ := Cond.instantiable_spec wk
  cases g0.symm.trans g1
  have ne := ids_ne h0 g0 hn
  have g8 : k'.isInterface = false := by cases h : k'.isInterface <;> simp [h] at g7 ⊢
  refine ⟨c, t, h0, g0, ?_⟩
  show Z.vm.assignableAux (255 + 1) c t = false
  simp [Vm.assignableAux, ne, h2, g2, h5, g5, g8, Vm.isSubclass, n3]
theorem Go.cloneCast (C : Cx Z x code maxL ret E) {idx idx2 k' n' cap p' : Nat} {ad : String} {ty : FieldType} {a : Addr} {vs : List Value} (w1 : (Cond.methodLink x.cls idx ⟨ad, "clone", "()Ljava/lang/Object;"⟩).before a0 Z = true) (w2 : (Cond.sameMethod ad "java/lang/Object" "clone" "()Ljava/lang/Object;").before a0 Z = true) (w3 : (Cond.native ⟨"java/lang/Object", "clone", "()Ljava/lang/Object;"⟩).before a0 Z = true)
    (w4 : (Cond.instanceMethod ⟨"java/lang/Object", "clone", "()Ljava/lang/Object;"⟩).before a0 Z = true) (w5 : (Cond.selects ad ⟨ad, "clone", "()Ljava/lang/Object;"⟩ ⟨"java/lang/Object", "clone", "()Ljava/lang/Object;"⟩).before a0 Z = true) (w6 : (Cond.castable ad "java/lang/Cloneable").before a0 Z = true) (w7 : (Cond.classLink x.cls idx2 ad).before a0 Z = true)
    (A : ∀ h, Rep Z h M → ArrIs Z h a ty vs) (Ex : ∀ h, Rep Z h M → Exa Z h a ad) (hfit : ∀ v ∈ vs, fits ty v = true) (hd : decode code pc = .ok (.invokevirtual idx, 3)) (hp : pc + 3 = p') (hd' : decode code p' = .ok (.checkcast idx2, 3)) (hq : p' + 3 = q) (hsz : Ls.size = maxL) (hf : 1 ≤ R.frames) {W : Nat} (hW : (st.map fun v => v.category).sum = W) (hl : W + 14 ≤ R.locals) (hcap : vs.length ≤ cap) (hc : k + 1 ≤ R.cells) (hs : n + cap ≤ R.slots) (hk : k + 1 = k') (hn : n + cap = n')
    (hr : ∀ b, Go l Z R E Q ((b, .inr (ty, vs, false)) :: M) k' n' q Ls (.ref b :: st)) : Go l Z R E Q M k n pc Ls (.ref a :: st) := by
  subst hW
  intro T locs X F r
  obtain ⟨cl, Aa, e⟩ := A _ r
  obtain ⟨T', h', X', e', Ext', A', E', s'⟩ := cloneA X C.1 C.2.1 C.2.2.1 w1 w2 w3 w4 w5 w6 rfl Aa (Ex _ r) (fitC_of Aa fun i hi v hv => hfit v (by rw [← e]; exact Array.mem_toList_iff.mpr (Array.mem_of_getElem? hv))) (g := mkF E.2.2.2.1 pc Ls (.ref a :: st)) rfl (hsz.trans C.2.2.2.2.1.symm) rfl (hb C.2.2.2.1 hd) hf (W := (st.map fun v => v.category).sum) (by show 2 * 0 + _ ≤ _; omega) hl (cap := cap) (by rw [← e, Array.length_toList] at hcap; exact hcap) hc hs
  subst hk hn hp
  obtain ⟨T2, X2, e2, s2⟩ := RoadKit.castY X' C.1 C.2.1 C.2.2.1 w7 e' (Ins.self E') (g := mkF E.2.2.2.1 (pc + 3) Ls (.ref T.heap.size :: st)) rfl rfl (hb C.2.2.2.1 hd')
  obtain ⟨s₂, v, L, h1, h2⟩ := hr _ T2 _ X2 F (by
    rw [e2]
    exact r.new Ext' rfl ⟨_, A', e, fun q => by cases q⟩)
  exact ⟨s₂, v, L, s' _ (s2 _ (hq ▸ h1)), h2⟩
/-! calls -/
theorem nf_sel {K : String} {y z : MethodName} (w : (Cond.selects K y y).before a0 Z = true) : ∀ s : State, Z.Warmed39 s.vm → NotFace s y := fun s hZ => notFace_of_selects (args := #[]) (mvT hZ w)
theorem nf_same {K : String} {y y' : MethodName} (hc : y.cls = y'.cls) (w : (Cond.selects K y' y').before a0 Z = true) : ∀ s : State, Z.Warmed39 s.vm → NotFace s y := fun s hZ r0 h0 => by
  obtain ⟨c2, r2, m2, q1, q2, q3, q4, kP, hkP, hkPi⟩ := Cond.selects_spec (mvT (args := #[]) hZ w)
  have e1 := findClass_of_methodNamed h0
  have e2 := findClass_of_methodNamed q3
  rw [hc, e2] at e1
  have e3 := Option.some.inj e1
  exact ⟨kP, e3 ▸ hkP, hkPi⟩
theorem nf_sup {y : MethodName} {S : String} (w : (Cond.superclass y.cls S).before a0 Z = true) : ∀ s : State, Z.Warmed39 s.vm → NotFace s y := fun s hZ => nf_super (args := #[]) (mvT hZ w)
theorem nf_topS {y : MethodName} (w : (Cond.noSuperclass y.cls).before a0 Z = true) : ∀ s : State, Z.Warmed39 s.vm → NotFace s y := fun s hZ => nf_top (args := #[]) (mvT hZ w)
theorem sel_priv {y : MethodName} {n1 : Nat} (w1 : (Cond.instantiable y.cls n1).before a0 Z = true) (w2 : (Cond.instanceMethod y).before a0 Z = true) (w3 : (Cond.privateMethod y).before a0 Z = true) (hy : y.cls ≠ "java/lang/invoke/MethodHandle" ∧ y.cls ≠ "java/lang/invoke/VarHandle") : (Cond.selects y.cls y y).before a0 Z = true := by
  obtain ⟨c, k, h1, h2, -, h3, -⟩ := Cond.instantiable_spec w1
  exact selects_self_of_private h1 h2 (by simp at h3; exact h3.1) (Cond.privateMethod_at w3) w2 hy
section Calls
variable {y : MethodName} {bytes : ByteArray} {mL : Nat} {rt : Option FieldType} {rm : Room} {as rest : List Value} {Qc : PQ} {idx k' n' : Nat}
theorem len_ok {d : String} (h : (parseMethodDescriptor d).map (fun s => s.parameters.length) = some as.length) : ∀ sig, parseMethodDescriptor d = some sig → as.length = sig.parameters.length := fun sig e => by
  rw [e] at h
  exact (Option.some.inj h).symm
theorem Go.callS (C : Cx Z x code maxL ret E) (w1 : (Cond.methodLink x.cls idx y).before a0 Z = true) (w2 : (Cond.static y).before a0 Z = true) (w3 : (Cond.initialized y.cls).before a0 Z = true) (w4 : (Cond.code y bytes mL rt).before a0 Z = true) (hM : Met l Z y bytes mL rt rm as.toArray M Qc) (hst : st = as.reverse ++ rest)
    (hd : decode code pc = .ok (.invokestatic idx, 3)) (hq : pc + 3 = q) (hy : y.cls ≠ "java/lang/invoke/MethodHandle" ∧ y.cls ≠ "java/lang/invoke/VarHandle") (hsz : Ls.size = maxL) {na W : Nat} (hlen : (parseMethodDescriptor y.desc).map (fun s => s.parameters.length) = some na) (hna : as.length = na) (hf : rm.frames + 1 ≤ R.frames) (hW : (rest.map fun v => v.category).sum = W) (hl : W + (mL + 11) + rm.locals ≤ R.locals) (hc : k + rm.cells ≤ R.cells) (hs : n + rm.slots ≤ R.slots) (hk : k + rm.cells = k') (hn : n + rm.slots = n')
    (hr : ∀ v M', Qc v M' → Go l Z R E Q M' k' n' q Ls (v.toList ++ rest)) : Go l Z R E Q M k n pc Ls st := by
  subst hna hW
  intro T locs X F r
  obtain ⟨v, _, ⟨T', L', c', s'⟩, -, X', ⟨Lc, hQ, l', y', z'⟩, hst'⟩ := Jvm.LawKit.callS X C.1 C.2.2.1 (mvT C.2.1 w1) (mvT C.2.1 w2) (mvT C.2.1 w3) (mvT C.2.1 w4) hy (backOf (W := (rest.map fun v => v.category).sum) (h := T.heap) (Q := fun v h L => Fr Z.heap.size L ∧ ∃ M', Qc v M' ∧ Rep Z h M') (hM [] _ r) C.2.1 w4 w3 hf hl) (g := mkF E.2.2.2.1 pc Ls st) rfl (hsz.trans C.2.2.2.2.1.symm) (argsL := as) (rest := rest) (len_ok hlen) hst (by show 2 * 0 + _ ≤ _; omega) (hb C.2.2.2.1 hd) (fun _ _ => ⟨rfl, rfl, hc, hs⟩)
  dsimp only [Pt.U, Pt.locs, Pt.cells, Pt.slots] at X' l' y' z' hst' hQ
  obtain ⟨FL, M', hQ', r'⟩ := hQ
  subst l' y' z' hk hn
  obtain ⟨s₂, v, L, h1, h2⟩ := hr v M' hQ' T' _ X' (F.app FL) r'
  exact ⟨s₂, v, L, hst' _ (hq ▸ h1), h2⟩
theorem Go.callI (C : Cx Z x code maxL ret E) {a : Addr} (w1 : (Cond.methodLink x.cls idx y).before a0 Z = true) (w2 : (Cond.instanceMethod y).before a0 Z = true) (w3 : (Cond.initialized y.cls).before a0 Z = true) (w4 : (Cond.code y bytes mL none).before a0 Z = true) (hM : Met l Z y bytes mL none rm (.ref a :: as).toArray M Qc) (hst : st = as.reverse ++ .ref a :: rest) (hy1 : y.name = "<init>")
    (hd : decode code pc = .ok (.invokespecial idx, 3)) (hq : pc + 3 = q) (hy : y.cls ≠ "java/lang/invoke/MethodHandle" ∧ y.cls ≠ "java/lang/invoke/VarHandle") (hsz : Ls.size = maxL) {na W : Nat} (hlen : (parseMethodDescriptor y.desc).map (fun s => s.parameters.length) = some na) (hna : as.length = na) (hf : rm.frames + 1 ≤ R.frames) (hW : (rest.map fun v => v.category).sum = W) (hl : W + (mL + 11) + rm.locals ≤ R.locals) (hc : k + rm.cells ≤ R.cells) (hs : n + rm.slots ≤ R.slots) (hk : k + rm.cells = k') (hn : n + rm.slots = n')
    (hr : ∀ v M', Qc v M' → Go l Z R E Q M' k' n' q Ls (v.toList ++ rest)) : Go l Z R E Q M k n pc Ls st := by
  subst hna hW
  intro T locs X F r
  obtain ⟨v, _, ⟨T', L', c', s'⟩, -, X', ⟨Lc, hQ, l', y', z'⟩, hst'⟩ := Stand.specialBack X C.1 hy1 C.2.2.1 (mvT C.2.1 w1) (mvT C.2.1 w2) (mvT C.2.1 w4) hy (backOf (W := (rest.map fun v => v.category).sum) (h := T.heap) (Q := fun v h L => Fr Z.heap.size L ∧ ∃ M', Qc v M' ∧ Rep Z h M') (hM [] _ r) C.2.1 w4 w3 hf hl) (g := mkF E.2.2.2.1 pc Ls st) rfl (hsz.trans C.2.2.2.2.1.symm) (Steps.refl _) (a := a) (argsL := as) (rest := rest) (len_ok hlen) hst (by show 2 * 0 + _ ≤ _; omega) (hb C.2.2.2.1 hd) (fun _ _ => ⟨rfl, rfl, hc, hs⟩)
  dsimp only [Pt.U, Pt.locs, Pt.cells, Pt.slots] at X' l' y' z' hst' hQ
  obtain ⟨FL, M', hQ', r'⟩ := hQ
  subst l' y' z' hk hn
  obtain ⟨s₂, v, L, h1, h2⟩ := hr v M' hQ' T' _ X' (F.app FL) r'
  exact ⟨s₂, v, L, hst'.trans (hq ▸ h1), h2⟩
theorem Go.callV (C : Cx Z x code maxL ret E) {a : Addr} {K : String} {z : MethodName} (w1 : (Cond.methodLink x.cls idx y).before a0 Z = true) (w2 : (Cond.declares y).before a0 Z = true) (nf : ∀ s : State, Z.Warmed39 s.vm → NotFace s y) (w3 : (Cond.selects K y z).before a0 Z = true) (w4 : (Cond.instanceMethod z).before a0 Z = true) (w5 : (Cond.code z bytes mL rt).before a0 Z = true) (w6 : (Cond.initialized z.cls).before a0 Z = true) (H : ∀ h, Rep Z h M → Exa Z h a K) (hM : Met l Z z bytes mL rt rm (.ref a :: as).toArray M Qc) (hst : st = as.reverse ++ .ref a :: rest)
    (hd : decode code pc = .ok (.invokevirtual idx, 3)) (hq : pc + 3 = q) (hy : y.cls ≠ "java/lang/invoke/MethodHandle" ∧ y.cls ≠ "java/lang/invoke/VarHandle") (hsz : Ls.size = maxL) {na W : Nat} (hlen : (parseMethodDescriptor y.desc).map (fun s => s.parameters.length) = some na) (hna : as.length = na) (hf : rm.frames + 1 ≤ R.frames) (hW : (rest.map fun v => v.category).sum = W) (hl : W + (mL + 11) + rm.locals ≤ R.locals) (hc : k + rm.cells ≤ R.cells) (hs : n + rm.slots ≤ R.slots) (hk : k + rm.cells = k') (hn : n + rm.slots = n')
    (hr : ∀ v M', Qc v M' → Go l Z R E Q M' k' n' q Ls (v.toList ++ rest)) : Go l Z R E Q M k n pc Ls st := by
  subst hna hW
  intro T locs X F r
  have nf' : NotFace E.2.2.1 y := nf _ C.2.1
  obtain ⟨_, _, q1, q2, q3⟩ := isOf C.2.1 (rfl : T.heap = T.heap) (H _ r)
  obtain ⟨v, _, ⟨T', L', c', s'⟩, -, X', ⟨Lc, hQ, l', y', z'⟩, hst'⟩ := Stand.virtualBack X C.1 C.2.2.1 (mvT C.2.1 w1) (mvT C.2.1 w2) nf' (mvT C.2.1 w3) (mvT C.2.1 w4) hy (backOf (W := (rest.map fun v => v.category).sum) (h := T.heap) (Q := fun v h L => Fr Z.heap.size L ∧ ∃ M', Qc v M' ∧ Rep Z h M') (hM [] _ r) C.2.1 w5 w6 hf hl) q1 q3 (g := mkF E.2.2.2.1 pc Ls st) rfl (hsz.trans C.2.2.2.2.1.symm) (Steps.refl _) (argsL := as) (rest := rest) (len_ok hlen) hst (by show 2 * 0 + _ ≤ _; omega) (hb C.2.2.2.1 hd) (fun _ _ => ⟨rfl, rfl, hc, hs⟩)
  dsimp only [Pt.U, Pt.locs, Pt.cells, Pt.slots] at X' l' y' z' hst' hQ
  obtain ⟨FL, M', hQ', r'⟩ := hQ
  subst l' y' z' hk hn
  obtain ⟨s₂, v, L, h1, h2⟩ := hr v M' hQ' T' _ X' (F.app FL) r'
  exact ⟨s₂, v, L, hst'.trans (hq ▸ h1), h2⟩
theorem Go.callU (C : Cx Z x code maxL ret E) {a : Addr} {K owner : String} {z : MethodName} (w1 : (Cond.methodLink x.cls idx y).before a0 Z = true) (w2 : (Cond.sameMethod y.cls owner y.name y.desc).before a0 Z = true) (w2' : (Cond.declares ⟨owner, y.name, y.desc⟩).before a0 Z = true) (w3 : (Cond.selects K y z).before a0 Z = true) (w4 : (Cond.instanceMethod z).before a0 Z = true) (w5 : (Cond.code z bytes mL rt).before a0 Z = true) (w6 : (Cond.initialized z.cls).before a0 Z = true) (H : ∀ h, Rep Z h M → Exa Z h a K) (hM : Met l Z z bytes mL rt rm (.ref a :: as).toArray M Qc) (hst : st = as.reverse ++ .ref a :: rest)
    (hd : decode code pc = .ok (.invokevirtual idx, 3)) (hq : pc + 3 = q) (hy : owner ≠ "java/lang/invoke/MethodHandle" ∧ owner ≠ "java/lang/invoke/VarHandle") (hsz : Ls.size = maxL) {na W : Nat} (hlen : (parseMethodDescriptor y.desc).map (fun s => s.parameters.length) = some na) (hna : as.length = na) (hf : rm.frames + 1 ≤ R.frames) (hW : (rest.map fun v => v.category).sum = W) (hl : W + (mL + 11) + rm.locals ≤ R.locals) (hc : k + rm.cells ≤ R.cells) (hs : n + rm.slots ≤ R.slots) (hk : k + rm.cells = k') (hn : n + rm.slots = n')
    (hr : ∀ v M', Qc v M' → Go l Z R E Q M' k' n' q Ls (v.toList ++ rest)) : Go l Z R E Q M k n pc Ls st := by
  subst hna hW
  intro T locs X F r
  obtain ⟨_, _, q1, q2, q3⟩ := isOf C.2.1 (rfl : T.heap = T.heap) (H _ r)
  obtain ⟨v, _, ⟨T', L', c', s'⟩, -, X', ⟨Lc, hQ, l', y', z'⟩, hst'⟩ := Stand.virtualBackUp X C.1 C.2.2.1 (mvT C.2.1 w1) (mvT C.2.1 w2) (mvT C.2.1 w2') hy (mvT C.2.1 w3) (mvT C.2.1 w4) (backOf (W := (rest.map fun v => v.category).sum) (h := T.heap) (Q := fun v h L => Fr Z.heap.size L ∧ ∃ M', Qc v M' ∧ Rep Z h M') (hM [] _ r) C.2.1 w5 w6 hf hl) q1 q3 (g := mkF E.2.2.2.1 pc Ls st) rfl (hsz.trans C.2.2.2.2.1.symm) (Steps.refl _) (argsL := as) (rest := rest) (len_ok hlen) hst (by show 2 * 0 + _ ≤ _; omega) (hb C.2.2.2.1 hd) (fun _ _ => ⟨rfl, rfl, hc, hs⟩)
  dsimp only [Pt.U, Pt.locs, Pt.cells, Pt.slots] at X' l' y' z' hst' hQ
  obtain ⟨FL, M', hQ', r'⟩ := hQ
  subst l' y' z' hk hn
  obtain ⟨s₂, v, L, h1, h2⟩ := hr v M' hQ' T' _ X' (F.app FL) r'
  exact ⟨s₂, v, L, hst'.trans (hq ▸ h1), h2⟩
theorem Go.callP (C : Cx Z x code maxL ret E) {a : Addr} {K : String} (w1 : (Cond.methodLink x.cls idx y).before a0 Z = true) (w2 : (Cond.instanceMethod y).before a0 Z = true) (w3 : (Cond.selects y.cls y y).before a0 Z = true) (w4 : (Cond.privateMethod y).before a0 Z = true) (w5 : (Cond.code y bytes mL rt).before a0 Z = true) (w6 : (Cond.initialized y.cls).before a0 Z = true) (H : ∀ h, Rep Z h M → Exa Z h a K) (hM : Met l Z y bytes mL rt rm (.ref a :: as).toArray M Qc) (hst : st = as.reverse ++ .ref a :: rest)
    (hd : decode code pc = .ok (.invokevirtual idx, 3)) (hq : pc + 3 = q) (hy : y.cls ≠ "java/lang/invoke/MethodHandle" ∧ y.cls ≠ "java/lang/invoke/VarHandle") (hsz : Ls.size = maxL) {na W : Nat} (hlen : (parseMethodDescriptor y.desc).map (fun s => s.parameters.length) = some na) (hna : as.length = na) (hf : rm.frames + 1 ≤ R.frames) (hW : (rest.map fun v => v.category).sum = W) (hl : W + (mL + 11) + rm.locals ≤ R.locals) (hc : k + rm.cells ≤ R.cells) (hs : n + rm.slots ≤ R.slots) (hk : k + rm.cells = k') (hn : n + rm.slots = n')
    (hr : ∀ v M', Qc v M' → Go l Z R E Q M' k' n' q Ls (v.toList ++ rest)) : Go l Z R E Q M k n pc Ls st := by
  subst hna hW
  intro T locs X F r
  obtain ⟨cq, q1, q2⟩ := (H _ r).cell
  obtain ⟨v, _, ⟨T', L', c', s'⟩, -, X', ⟨Lc, hQ, l', y', z'⟩, hst'⟩ := Stand.privateBack X C.1 C.2.2.1 (mvT C.2.1 w1) (mvT C.2.1 w2) (mvT C.2.1 w3) (Cond.privateMethod_at (mvP C.2.1 w4 (args := #[]))) (mvT C.2.1 w5) hy (backOf (W := (rest.map fun v => v.category).sum) (h := T.heap) (Q := fun v h L => Fr Z.heap.size L ∧ ∃ M', Qc v M' ∧ Rep Z h M') (hM [] _ r) C.2.1 w5 w6 hf hl) (g := mkF E.2.2.2.1 pc Ls st) rfl (hsz.trans C.2.2.2.2.1.symm) (Steps.refl _) q1 q2 (argsL := as) (rest := rest) (len_ok hlen) hst (by show 2 * 0 + _ ≤ _; omega) (hb C.2.2.2.1 hd) (fun _ _ => ⟨rfl, rfl, hc, hs⟩)
  dsimp only [Pt.U, Pt.locs, Pt.cells, Pt.slots] at X' l' y' z' hst' hQ
  obtain ⟨FL, M', hQ', r'⟩ := hQ
  subst l' y' z' hk hn
  obtain ⟨s₂, v, L, h1, h2⟩ := hr v M' hQ' T' _ X' (F.app FL) r'
  exact ⟨s₂, v, L, hst'.trans (hq ▸ h1), h2⟩
theorem mvF {Z s : State} {a0 args : Array Value} {r n d : String} (hr : r ≠ "java/lang/invoke/MethodHandle" ∧ r ≠ "java/lang/invoke/VarHandle") (hZ : Z.Warmed39 s.vm) (h : (Cond.interfaceMethod r r n d).before a0 Z = true) : (Cond.interfaceMethod r r n d).before args s = true :=
  mvT hZ h (by simp [Cond.onTables, Cond.keepsFace, Cond.keeps, Cond.steady, Cond.faceAtom]; exact hr)
theorem same_of_sel {K : String} {x y : MethodName} (hy : y.cls ≠ "java/lang/invoke/MethodHandle" ∧ y.cls ≠ "java/lang/invoke/VarHandle") (w : (Cond.selects K x y).before a0 Z = true) : (Cond.sameMethod y.cls y.cls y.name y.desc).before a0 Z = true := by
  obtain ⟨c, r, m, q1, q2, q3, q4, mk, h1, h2⟩ := Cond.selects_spec w
  have hf := State.methodFound?_of_named q3 hy
  have hc := findClass_of_methodNamed q3
  have q3' : Z.methodNamed? ⟨y.cls, y.name, y.desc⟩ = some m := q3
  simp only [Cond.before, Cond.holds, Cond.value, hc, hf, q3', h1]
  simp [h2]
theorem Go.callSup (C : Cx Z x code maxL ret E) {a : Addr} {K : String} (w1 : (Cond.methodLink x.cls idx y).before a0 Z = true) (w2 : (Cond.sameMethod y.cls y.cls y.name y.desc).before a0 Z = true) (w3 : (Cond.instanceMethod y).before a0 Z = true) (w4 : (Cond.superclass x.cls y.cls).before a0 Z = true) (hno : y.name ≠ "<init>") (w5 : (Cond.code y bytes mL rt).before a0 Z = true) (w6 : (Cond.initialized y.cls).before a0 Z = true) (H : ∀ h, Rep Z h M → Exa Z h a K) (hM : Met l Z y bytes mL rt rm (.ref a :: as).toArray M Qc) (hst : st = as.reverse ++ .ref a :: rest)
    (hd : decode code pc = .ok (.invokespecial idx, 3)) (hq : pc + 3 = q) (hy : y.cls ≠ "java/lang/invoke/MethodHandle" ∧ y.cls ≠ "java/lang/invoke/VarHandle") (hsz : Ls.size = maxL) {na W : Nat} (hlen : (parseMethodDescriptor y.desc).map (fun s => s.parameters.length) = some na) (hna : as.length = na) (hf : rm.frames + 1 ≤ R.frames) (hW : (rest.map fun v => v.category).sum = W) (hl : W + (mL + 11) + rm.locals ≤ R.locals) (hc : k + rm.cells ≤ R.cells) (hs : n + rm.slots ≤ R.slots) (hk : k + rm.cells = k') (hn : n + rm.slots = n')
    (hr : ∀ v M', Qc v M' → Go l Z R E Q M' k' n' q Ls (v.toList ++ rest)) : Go l Z R E Q M k n pc Ls st := by
  subst hna hW
  intro T locs X F r
  obtain ⟨v, _, ⟨T', L', c', s'⟩, -, X', ⟨Lc, hQ, l', y', z'⟩, hst'⟩ := superBack X C.1 C.2.1 C.2.2.1 w1 w2 w3 w4 hno (backOf (W := (rest.map fun v => v.category).sum) (h := T.heap) (Q := fun v h L => Fr Z.heap.size L ∧ ∃ M', Qc v M' ∧ Rep Z h M') (hM [] _ r) C.2.1 w5 w6 hf hl) rfl (Ins.self (H _ r)) (g := mkF E.2.2.2.1 pc Ls st) rfl (hsz.trans C.2.2.2.2.1.symm) w5 (argsL := as) (rest := rest) (len_ok hlen) hst (by show 2 * 0 + _ ≤ _; omega) (hb C.2.2.2.1 hd) (fun _ _ => ⟨rfl, rfl, hc, hs⟩)
  dsimp only [Pt.U, Pt.locs, Pt.cells, Pt.slots] at X' l' y' z' hst' hQ
  obtain ⟨FL, M', hQ', r'⟩ := hQ
  subst l' y' z' hk hn
  obtain ⟨s₂, v, L, h1, h2⟩ := hr v M' hQ' T' _ X' (F.app FL) r'
  exact ⟨s₂, v, L, hst'.trans (hq ▸ h1), h2⟩
theorem Go.callF (C : Cx Z x code maxL ret E) {a : Addr} {K : String} {z : MethodName} {ct : Nat} (w1 : (Cond.methodLink x.cls idx y).before a0 Z = true) (w2 : (Cond.declares y).before a0 Z = true) (w7 : (Cond.interfaceMethod y.cls y.cls y.name y.desc).before a0 Z = true) (w3 : (Cond.selects K y z).before a0 Z = true) (w4 : (Cond.instanceMethod z).before a0 Z = true) (w8 : (Cond.publicMethod z).before a0 Z = true) (w9 : (Cond.unhidden K y.name y.desc).before a0 Z = true) (w10 : (Cond.castable K y.cls).before a0 Z = true) (w5 : (Cond.code z bytes mL rt).before a0 Z = true) (w6 : (Cond.initialized z.cls).before a0 Z = true) (H : ∀ h, Rep Z h M → Exa Z h a K) (hM : Met l Z z bytes mL rt rm (.ref a :: as).toArray M Qc) (hst : st = as.reverse ++ .ref a :: rest)
    (hd : decode code pc = .ok (.invokeinterface idx ct, 5)) (hq : pc + 5 = q) (hy : y.cls ≠ "java/lang/invoke/MethodHandle" ∧ y.cls ≠ "java/lang/invoke/VarHandle") (hsz : Ls.size = maxL) {na W : Nat} (hlen : (parseMethodDescriptor y.desc).map (fun s => s.parameters.length) = some na) (hna : as.length = na) (hf : rm.frames + 1 ≤ R.frames) (hW : (rest.map fun v => v.category).sum = W) (hl : W + (mL + 11) + rm.locals ≤ R.locals) (hc : k + rm.cells ≤ R.cells) (hs : n + rm.slots ≤ R.slots) (hk : k + rm.cells = k') (hn : n + rm.slots = n')
    (hr : ∀ v M', Qc v M' → Go l Z R E Q M' k' n' q Ls (v.toList ++ rest)) : Go l Z R E Q M k n pc Ls st := by
  subst hna hW
  intro T locs X F r
  obtain ⟨_, _, q1, q2, q3⟩ := isOf C.2.1 (rfl : T.heap = T.heap) (H _ r)
  obtain ⟨v, _, ⟨T', L', c', s'⟩, -, X', ⟨Lc, hQ, l', y', z'⟩, hst'⟩ := Stand.interfaceBack X C.1 C.2.2.1 (mvT C.2.1 w1) (mvT C.2.1 w2) (mvF hy C.2.1 w7) (mvT C.2.1 w3) (mvT C.2.1 w4) (mvT C.2.1 w8) (mvT C.2.1 w9) (mvT C.2.1 w10) hy (backOf (W := (rest.map fun v => v.category).sum) (h := T.heap) (Q := fun v h L => Fr Z.heap.size L ∧ ∃ M', Qc v M' ∧ Rep Z h M') (hM [] _ r) C.2.1 w5 w6 hf hl) q1 q2 q3 (g := mkF E.2.2.2.1 pc Ls st) rfl (hsz.trans C.2.2.2.2.1.symm) (Steps.refl _) (argsL := as) (rest := rest) (len_ok hlen) hst (by show 2 * 0 + _ ≤ _; omega) (hb C.2.2.2.1 hd) (fun _ _ => ⟨rfl, rfl, hc, hs⟩)
  dsimp only [Pt.U, Pt.locs, Pt.cells, Pt.slots] at X' l' y' z' hst' hQ
  obtain ⟨FL, M', hQ', r'⟩ := hQ
  subst l' y' z' hk hn
  obtain ⟨s₂, v, L, h1, h2⟩ := hr v M' hQ' T' _ X' (F.app FL) r'
  exact ⟨s₂, v, L, hst'.trans (hq ▸ h1), h2⟩
end Calls
/-! returns -/
theorem Go.ret0 (C : Cx Z x code maxL ret E) (hret : ret = none) (hd : decode code pc = .ok (.return_, 1)) (hc : k ≤ R.cells) (hs : n ≤ R.slots) (hQ : Q none M) : Go l Z R E Q M k n pc Ls [] := by
  intro T locs X F r
  obtain ⟨fs, hr, hrun, hended, hW, hsame⟩ := Stand.leave X (v := none) (fun _ => rfl) C.2.2.2.2.2.2.1
  exact ⟨_, none, locs, Stand.returnOut X C.1 (C.2.2.2.2.2.1.trans hret) (hb C.2.2.2.1 hd) hr, hrun, hended, F, ⟨M, hQ, r⟩, ⟨_, rfl⟩, hW, hsame.mono hc hs⟩
theorem Go.retW (C : Cx Z x code maxL ret E) {t : FieldType} {i : Instr} {w : Value} (hret : ret = some t) (hn : narrow t w = w)
    (hi : (i = .ireturn ∧ (t = .int ∨ t = .boolean ∨ t = .byte ∨ t = .char ∨ t = .short) ∧ ∃ z, w = .int z) ∨ (i = .lreturn ∧ t = .long ∧ ∃ z, w = .long z) ∨ (i = .dreturn ∧ t = .double ∧ ∃ z, w = .double z) ∨ (i = .freturn ∧ t = .float ∧ ∃ z, w = .float z) ∨ (i = .areturn ∧ t.isReference = true ∧ w.isRef = true))
    (hd : decode code pc = .ok (i, 1)) (hc : k ≤ R.cells) (hs : n ≤ R.slots) (hQ : Q (some w) M) : Go l Z R E Q M k n pc Ls (w :: st) := by
  intro T locs X F r
  obtain ⟨fs, hr, hrun, hended, hW, hsame⟩ := Stand.leave X (v := some w) (fun h => by rw [C.2.2.2.2.2.1, hret] at h; cases h) C.2.2.2.2.2.2.1
  exact ⟨_, some w, locs, retOut X C.1 (C.2.2.2.2.2.1.trans hret) hn hi (hb C.2.2.2.1 hd) hr, hrun, hended, F, ⟨M, hQ, r⟩, ⟨_, rfl⟩, hW, hsame.mono hc hs⟩
theorem Go.retI (C : Cx Z x code maxL ret E) {z : Int32} (hret : ret = some .int) (hd : decode code pc = .ok (.ireturn, 1)) (hc : k ≤ R.cells) (hs : n ≤ R.slots) (hQ : Q (some (.int z)) M) : Go l Z R E Q M k n pc Ls (.int z :: st) :=
  Go.retW C hret rfl (Or.inl ⟨rfl, Or.inl rfl, _, rfl⟩) hd hc hs hQ
theorem Go.retL (C : Cx Z x code maxL ret E) {z : Int64} (hret : ret = some .long) (hd : decode code pc = .ok (.lreturn, 1)) (hc : k ≤ R.cells) (hs : n ≤ R.slots) (hQ : Q (some (.long z)) M) : Go l Z R E Q M k n pc Ls (.long z :: st) :=
  Go.retW C hret rfl (Or.inr (Or.inl ⟨rfl, rfl, _, rfl⟩)) hd hc hs hQ
theorem Go.retZ (C : Cx Z x code maxL ret E) {z : Int32} (hret : ret = some .boolean) (hz : z &&& 1 = z) (hd : decode code pc = .ok (.ireturn, 1)) (hc : k ≤ R.cells) (hs : n ≤ R.slots) (hQ : Q (some (.int z)) M) : Go l Z R E Q M k n pc Ls (.int z :: st) :=
  Go.retW C hret (congrArg Value.int hz) (Or.inl ⟨rfl, Or.inr (Or.inl rfl), _, rfl⟩) hd hc hs hQ
theorem Go.retA (C : Cx Z x code maxL ret E) {t : FieldType} {w : Value} (hret : ret = some t) (ht : t.isReference = true) (hw : w.isRef = true) (hd : decode code pc = .ok (.areturn, 1)) (hc : k ≤ R.cells) (hs : n ≤ R.slots) (hQ : Q (some w) M) : Go l Z R E Q M k n pc Ls (w :: st) :=
  Go.retW C hret (by cases t <;> first | (cases ht; done) | rfl) (Or.inr (Or.inr (Or.inr (Or.inr ⟨rfl, ht, hw⟩)))) hd hc hs hQ
end Walk
/-! entries that have been resolved already, and a private constructor of a nest mate -/
section Ready
variable {p : Program} {l : Launch} {e : Env} {R : Room} {s : State} {m : MethodId} {args : Array Value} {below : List Frame} {meth : Method} {c : Code} {T : State} {locs : List Loc} {cells slots : Nat}
theorem getReady (X : Stand p l e R s m args below meth c T locs cells slots) (hexec : p.tables.exec = Jvm.exec) {index cf : Nat} {f : Field} (hready : T.vm.fieldReady m.cls index cf f) (hst : f.isStatic = false) {a : Addr} {cell : Cell} {v : Value} (hcell : T.heap[a]? = some cell) (hknown : cell.vm ≠ .unknown) (hslot : cell.slots[f.slot]? = some v)
    {g : JFrame} (hg : g.method = m) {rest : List Value} (hstack : g.stack = .ref a :: rest) (hdg : decode c.code g.pc = .ok (.getfield index, 3)) : ∀ target, Steps p.tables e below (T.setTop { g with pc := g.pc + 3, stack := v :: rest }) target → Steps p.tables e below (T.setTop g) target := by
  intro target hrest
  subst hg
  jvm_step X.here [hexec, hdg, getfield.wp_ready (e := e) (s := T) (f := g) X.here.top hready hst hstack hcell hknown hslot]
  exact hrest
theorem virtReady (X : Stand p l e R s m args below meth c T locs cells slots) (hexec : p.tables.exec = Jvm.exec) {index : Nat} {r0 : MethodId} {r : Method} {kr : Class} (hres : namesResolved T.vm m.cls index r0.cls) (hready : T.vm.methodReady m.cls index r0) (hkr : T.vm.classes[r0.cls]? = some kr) (hni : kr.isInterface = false) (hnp : signaturePolymorphic kr r = false) (hrm : T.vm.method? r0 = some r) (hstatic : r.isStatic = false)
    {a : Addr} {cell : Cell} (hcell : T.heap[a]? = some cell) (hobj : ∀ c, cell.vm ≠ .statics c) (hsel : selectMethod e.platform T.vm cell.cls r0 = .method r0) (habs : r.isAbstract = false) {g : JFrame} (hg : g.method = m) {argsL rest : List Value} (hlen : argsL.length = r.sig.parameters.length) (hstack : g.stack = argsL.reverse ++ .ref a :: rest) (hdg : decode c.code g.pc = .ok (.invokevirtual index, 3)) :
    ∀ target, (∀ acts, Steps p.tables e below (doInvoke e (T.setTop { g with stack := rest }) acts r0 (.ref a :: argsL).toArray).1 target) → Steps p.tables e below (T.setTop g) target := by
  intro target hrest
  subst hg
  jvm_step X.here [hexec, hdg, invokevirtual.wp_named (e := e) (s := T) (f := g) (r := r0) (m := r0) (c' := r0.cls) (k := kr) (k' := kr) (mk := kr) (rmeth := r) (meth := r) (a := a) (args := argsL) (rest := rest) (cell := cell) X.here.top hres hkr hni hready hkr hrm hnp hstatic hlen hstack hcell hobj hsel hrm habs hkr hni]
  exact hrest
theorem initReady (X : Stand p l e R s m args below meth c T locs cells slots) (hexec : p.tables.exec = Jvm.exec) {index : Nat} {r0 : MethodId} {r : Method} {kr : Class} (hres : namesResolved T.vm m.cls index r0.cls) (hready : T.vm.methodReady m.cls index r0) (hkr : T.vm.classes[r0.cls]? = some kr) (hrm : T.vm.method? r0 = some r) (hname : r.name = "<init>") (hstatic : r.isStatic = false) (habs : r.isAbstract = false) (hfound : lookupSpecial T.vm r0.cls "<init>" r.desc = .method r0)
    {a : Addr} {g : JFrame} (hg : g.method = m) {argsL rest : List Value} (hlen : argsL.length = r.sig.parameters.length) (hstack : g.stack = argsL.reverse ++ .ref a :: rest) (hdg : decode c.code g.pc = .ok (.invokespecial index, 3)) :
    ∀ target, (∀ acts, Steps p.tables e below (doInvoke e (T.setTop { g with stack := rest }) acts r0 (.ref a :: argsL).toArray).1 target) → Steps p.tables e below (T.setTop g) target := by
  intro target hrest
  subst hg
  jvm_step X.here [hexec, hdg, invokespecial.wp_init (e := e) (s := T) (k := kr) (meth := r) (m := r0) (a := a) (args := argsL) (rest := rest) (f := g) X.here.top hres hready hkr hrm hname hstatic habs hfound hlen hstack]
  exact hrest
/-- what a resolved entry says where the walk stands -/
theorem ref_now (X : Stand p l e R s m args below meth c T locs cells slots) {Z : State} {a0 : Array Value} (hZ : Z.Warmed39 s.vm) {own : String} {index : Nat} {y : MethodName} (hown : s.vm.findClass own = some m.cls) (w : (Cond.methodRef own index y).before a0 Z = true) (hy : y.cls ≠ "java/lang/invoke/MethodHandle" ∧ y.cls ≠ "java/lang/invoke/VarHandle") {mk : MethodId} (hn : s.methodNamed? y = some mk) :
    T.vm.methodReady m.cls index mk ∧ namesResolved T.vm m.cls index mk.cls := by
  have hW : Z.Warmed39 T.vm := wtrans hZ X.warmed
  have hnT : T.methodNamed? y = some mk := X.named hn
  have hnZ : Z.methodNamed? y = some mk := by
    have q : (Z.setVm s.vm).methodNamed? y = some mk := hn
    rw [State.methodNamed?_setVm hZ.alike] at q
    exact q
  have w1 : (Cond.methodRef own index y).before a0 (Z.setVm T.vm) = true := Cond.methodRef_warmed39 hW hnZ hy w
  have w2 : (Cond.methodRef own index y).before a0 T = true := w1
  have hownT : T.vm.findClass own = some m.cls := by rw [X.warmed.alike.findClass]; exact hown
  obtain ⟨m', c', h1, h2, h3, h4⟩ := Cond.methodRef_named e hownT w2
  cases (State.methodFound?_of_named hnT hy).symm.trans h1
  cases (findClass_of_methodNamed hnT).symm.trans h3
  exact ⟨h2, h4⟩
end Ready
section Walk2
variable {l : Launch} {Z : State} {R : Room} {E : E0} {Q : PQ} {M : List Ent} {k n pc q : Nat} {Ls Ls' : Array Slot} {st : List Value} {x : MethodName} {code : ByteArray} {maxL : Nat} {ret : Option FieldType} {a0 : Array Value}
variable {y : MethodName} {bytes : ByteArray} {mL : Nat} {rt : Option FieldType} {rm : Room} {as rest : List Value} {Qc : PQ} {idx k' n' : Nat}
theorem Go.getR (C : Cx Z x code maxL ret E) {idx : Nat} {O nm d : String} {a : Addr} {v : Value} (w : (Cond.fieldRef x.cls idx O nm d).before a0 Z = true) (H : ∀ h, Rep Z h M → Fld Z h a O nm d v) (hd : decode code pc = .ok (.getfield idx, 3)) (hq : pc + 3 = q) (hr : Go l Z R E Q M k n q Ls (v :: st)) : Go l Z R E Q M k n pc Ls (.ref a :: st) := by
  intro T locs X F r
  have hW : Z.Warmed39 T.vm := wtrans C.2.1 X.warmed
  have w1 : (Cond.fieldRef x.cls idx O nm d).before a0 (Z.setVm T.vm) = true := Cond.fieldRef_warmed39 hW w
  have hown : (Z.setVm T.vm).vm.findClass x.cls = some E.2.2.2.1.cls := by
    show T.vm.findClass x.cls = _
    rw [X.warmed.alike.findClass]
    exact C.2.2.1
  obtain ⟨cf, kk, i, f, h1, h2⟩ := Cond.fieldRef_spec hown w1
  obtain ⟨cell, cf', k', i', f', g1, g2, g3, g4, -, -, g7⟩ := H _ r
  obtain ⟨k2, hi, -⟩ := State.fieldFound?_setVm (s := Z) hW.alike g2
  cases hi.symm.trans h1
  obtain ⟨s₂, v, L, p1, p2⟩ := hr T locs X F r
  exact ⟨s₂, v, L, getReady X C.1 (show T.vm.fieldReady E.2.2.2.1.cls idx _ _ from h2) g3 g1 g4 g7 (g := mkF E.2.2.2.1 pc Ls (.ref a :: st)) rfl rfl (hb C.2.2.2.1 hd) _ (hq ▸ p1), p2⟩
theorem Go.callPR (C : Cx Z x code maxL ret E) {a : Addr} {K : String} (w1 : (Cond.methodRef x.cls idx y).before a0 Z = true) (w2 : (Cond.instanceMethod y).before a0 Z = true) (w3 : (Cond.selects y.cls y y).before a0 Z = true) (w4 : (Cond.privateMethod y).before a0 Z = true) (w5 : (Cond.code y bytes mL rt).before a0 Z = true) (w6 : (Cond.initialized y.cls).before a0 Z = true) (H : ∀ h, Rep Z h M → Exa Z h a K) (hM : Met l Z y bytes mL rt rm (.ref a :: as).toArray M Qc) (hst : st = as.reverse ++ .ref a :: rest)
    (hd : decode code pc = .ok (.invokevirtual idx, 3)) (hq : pc + 3 = q) (hy : y.cls ≠ "java/lang/invoke/MethodHandle" ∧ y.cls ≠ "java/lang/invoke/VarHandle") (hsz : Ls.size = maxL) {na W : Nat} (hlen : (parseMethodDescriptor y.desc).map (fun s => s.parameters.length) = some na) (hna : as.length = na) (hf : rm.frames + 1 ≤ R.frames) (hW : (rest.map fun v => v.category).sum = W) (hl : W + (mL + 11) + rm.locals ≤ R.locals) (hc : k + rm.cells ≤ R.cells) (hs : n + rm.slots ≤ R.slots) (hk : k + rm.cells = k') (hn : n + rm.slots = n')
    (hr : ∀ v M', Qc v M' → Go l Z R E Q M' k' n' q Ls (v.toList ++ rest)) : Go l Z R E Q M k n pc Ls st := by
  subst hna hW
  intro T locs X F r
  obtain ⟨cell, q1, q2⟩ := (H _ r).cell
  obtain ⟨mk, methM, hnamed, hmethM, hstM, habM⟩ := Cond.instanceMethod_spec (mvT (args := E.2.2.2.2.1) C.2.1 w2)
  obtain ⟨methM', cM, hmethM', -, -, -, -, -, -, hsigM⟩ := Cond.code_spec hnamed (mvT (args := E.2.2.2.2.1) C.2.1 w5)
  cases hmethM.symm.trans hmethM'
  obtain ⟨c2, r2, m2, -, -, q3, -, kP, hkP, hkPi⟩ := Cond.selects_spec (mvT (args := E.2.2.2.2.1) C.2.1 w3)
  cases hnamed.symm.trans q3
  have hpriv := Cond.privateMethod_at (mvP C.2.1 w4 (args := #[]))
  obtain ⟨r1, r2⟩ := ref_now X C.2.1 C.2.2.1 w1 hy hnamed
  have al := X.warmed.alike
  obtain ⟨kr, hkr, her⟩ := al.2.2 _ _ hkP
  have hrmT : T.vm.method? mk = some methM := by rw [al.method?]; exact hmethM
  obtain ⟨kx, hkx, hnx⟩ := className_of_methodNamed hnamed
  cases hkP.symm.trans hkx
  have hselP : selectMethod E.2.1.platform T.vm cell.cls mk = .method mk := by
    rw [al.selectMethod]
    exact selectMethod_private hmethM (hpriv mk methM hnamed hmethM)
  have hstep := virtReady X C.1 r2 r1 hkr (by rw [her]; exact hkPi) (by
    have h1 : kr.name = y.cls := by rw [her]; exact hnx
    simp [signaturePolymorphic, h1, hy.1, hy.2]) hrmT hstM q1 q2 hselP habM (g := mkF E.2.2.2.1 pc Ls st) rfl (argsL := as) (rest := rest) (len_ok hlen _ hsigM) hst (hb C.2.2.2.1 hd)
  have hK := backOf (R := R) (p := E.1) (e := E.2.1) (below := E.2.2.2.2.2.1) (s := E.2.2.1) (args := E.2.2.2.2.1) (len := 3) (W := (rest.map fun v => v.category).sum) (h := T.heap) (Q := fun v h L => Fr Z.heap.size L ∧ ∃ M', Qc v M' ∧ Rep Z h M') (hM [] _ r) C.2.1 w5 w6 hf hl
  obtain ⟨v, ⟨T', L', c', s'⟩, X', ⟨Lc, hQ, l', y', z'⟩, hsteps⟩ := hK E.2.2.2.1 E.2.2.2.2.2.2.1 E.2.2.2.2.2.2.2 ⟨T, locs, k, n⟩ (mkF E.2.2.2.1 pc Ls rest) (.invokevirtual idx) mk (.ref a :: as).toArray X rfl (hsz.trans C.2.2.2.2.1.symm) (hb C.2.2.2.1 hd) (by show 2 * 0 + (rest.map fun v => v.category).sum ≤ _; omega) (X.named hnamed) ⟨rfl, rfl, hc, hs⟩
  dsimp only [Pt.U, Pt.locs, Pt.cells, Pt.slots] at X' l' y' z' hsteps hQ
  obtain ⟨FL, M', hQ', r'⟩ := hQ
  subst l' y' z' hk hn
  obtain ⟨s₂, v, L, h1, h2⟩ := hr v M' hQ' T' _ X' (F.app FL) r'
  exact ⟨s₂, v, L, hstep _ fun acts => by rw [doInvoke_state]; exact hsteps.trans (hq ▸ h1), h2⟩
theorem Go.callIR (C : Cx Z x code maxL ret E) {a : Addr} (w1 : (Cond.methodRef x.cls idx y).before a0 Z = true) (w2 : (Cond.instanceMethod y).before a0 Z = true) (w3 : (Cond.initialized y.cls).before a0 Z = true) (w4 : (Cond.code y bytes mL none).before a0 Z = true) (hM : Met l Z y bytes mL none rm (.ref a :: as).toArray M Qc) (hst : st = as.reverse ++ .ref a :: rest) (hy1 : y.name = "<init>")
    (hd : decode code pc = .ok (.invokespecial idx, 3)) (hq : pc + 3 = q) (hy : y.cls ≠ "java/lang/invoke/MethodHandle" ∧ y.cls ≠ "java/lang/invoke/VarHandle") (hsz : Ls.size = maxL) {na W : Nat} (hlen : (parseMethodDescriptor y.desc).map (fun s => s.parameters.length) = some na) (hna : as.length = na) (hf : rm.frames + 1 ≤ R.frames) (hW : (rest.map fun v => v.category).sum = W) (hl : W + (mL + 11) + rm.locals ≤ R.locals) (hc : k + rm.cells ≤ R.cells) (hs : n + rm.slots ≤ R.slots) (hk : k + rm.cells = k') (hn : n + rm.slots = n')
    (hr : ∀ v M', Qc v M' → Go l Z R E Q M' k' n' q Ls (v.toList ++ rest)) : Go l Z R E Q M k n pc Ls st := by
  subst hna hW
  intro T locs X F r
  obtain ⟨mk, methM, hnamed, hmethM, hstM, habM⟩ := Cond.instanceMethod_spec (mvT (args := E.2.2.2.2.1) C.2.1 w2)
  obtain ⟨methM', cM, hmethM', -, -, -, -, -, -, hsigM⟩ := Cond.code_spec hnamed (mvT (args := E.2.2.2.2.1) C.2.1 w4)
  cases hmethM.symm.trans hmethM'
  obtain ⟨kP, hkP, hnx⟩ := className_of_methodNamed hnamed
  obtain ⟨hnameM, hdescM⟩ := name_of_methodNamed hnamed hmethM
  obtain ⟨r1, r2⟩ := ref_now X C.2.1 C.2.2.1 w1 hy hnamed
  have al := X.warmed.alike
  obtain ⟨kr, hkr, her⟩ := al.2.2 _ _ hkP
  have hrmT : T.vm.method? mk = some methM := by rw [al.method?]; exact hmethM
  have hfound : lookupSpecial T.vm mk.cls "<init>" methM.desc = .method mk := by
    rw [al.lookupSpecial, hdescM, ← hy1]
    exact lookupSpecial_of_named hnamed hmethM hstM
  have hstep := initReady X C.1 r2 r1 hkr hrmT (by rw [hnameM]; exact hy1) hstM habM hfound (a := a) (g := mkF E.2.2.2.1 pc Ls st) rfl (argsL := as) (rest := rest) (len_ok hlen _ hsigM) hst (hb C.2.2.2.1 hd)
  have hK := backOf (R := R) (p := E.1) (e := E.2.1) (below := E.2.2.2.2.2.1) (s := E.2.2.1) (args := E.2.2.2.2.1) (len := 3) (W := (rest.map fun v => v.category).sum) (h := T.heap) (Q := fun v h L => Fr Z.heap.size L ∧ ∃ M', Qc v M' ∧ Rep Z h M') (hM [] _ r) C.2.1 w4 w3 hf hl
  obtain ⟨v, ⟨T', L', c', s'⟩, X', ⟨Lc, hQ, l', y', z'⟩, hsteps⟩ := hK E.2.2.2.1 E.2.2.2.2.2.2.1 E.2.2.2.2.2.2.2 ⟨T, locs, k, n⟩ (mkF E.2.2.2.1 pc Ls rest) (.invokespecial idx) mk (.ref a :: as).toArray X rfl (hsz.trans C.2.2.2.2.1.symm) (hb C.2.2.2.1 hd) (by show 2 * 0 + (rest.map fun v => v.category).sum ≤ _; omega) (X.named hnamed) ⟨rfl, rfl, hc, hs⟩
  dsimp only [Pt.U, Pt.locs, Pt.cells, Pt.slots] at X' l' y' z' hsteps hQ
  obtain ⟨FL, M', hQ', r'⟩ := hQ
  subst l' y' z' hk hn
  obtain ⟨s₂, v, L, h1, h2⟩ := hr v M' hQ' T' _ X' (F.app FL) r'
  exact ⟨s₂, v, L, hstep _ fun acts => by rw [doInvoke_state]; exact hsteps.trans (hq ▸ h1), h2⟩
theorem Go.callIN (C : Cx Z x code maxL ret E) {a : Addr} {host : String} (w1 : (Cond.methodLinkNest x.cls idx y host).before a0 Z = true) (w2 : (Cond.instanceMethod y).before a0 Z = true) (w3 : (Cond.initialized y.cls).before a0 Z = true) (w4 : (Cond.code y bytes mL none).before a0 Z = true) (hM : Met l Z y bytes mL none rm (.ref a :: as).toArray M Qc) (hst : st = as.reverse ++ .ref a :: rest) (hy1 : y.name = "<init>")
    (hd : decode code pc = .ok (.invokespecial idx, 3)) (hq : pc + 3 = q) (hy : y.cls ≠ "java/lang/invoke/MethodHandle" ∧ y.cls ≠ "java/lang/invoke/VarHandle") (hsz : Ls.size = maxL) {na W : Nat} (hlen : (parseMethodDescriptor y.desc).map (fun s => s.parameters.length) = some na) (hna : as.length = na) (hf : rm.frames + 1 ≤ R.frames) (hW : (rest.map fun v => v.category).sum = W) (hl : W + (mL + 11) + rm.locals ≤ R.locals) (hc : k + rm.cells ≤ R.cells) (hs : n + rm.slots ≤ R.slots) (hk : k + rm.cells = k') (hn : n + rm.slots = n')
    (hr : ∀ v M', Qc v M' → Go l Z R E Q M' k' n' q Ls (v.toList ++ rest)) : Go l Z R E Q M k n pc Ls st := by
  subst hna hW
  intro T locs X F r
  have w1' : (Cond.methodLinkNest x.cls idx y host).before a0 (Z.setVm E.2.2.1.vm) = true := Cond.methodLinkNest_wide C.2.1 w1
  obtain ⟨v, _, ⟨T', L', c', s'⟩, -, X', ⟨Lc, hQ, l', y', z'⟩, hst'⟩ := Stand.specialBackNest X C.1 hy1 C.2.2.1 (show (Cond.methodLinkNest x.cls idx y host).before E.2.2.2.2.1 E.2.2.1 = true from w1') (mvT C.2.1 w2) (mvT C.2.1 w4) hy (backOf (W := (rest.map fun v => v.category).sum) (h := T.heap) (Q := fun v h L => Fr Z.heap.size L ∧ ∃ M', Qc v M' ∧ Rep Z h M') (hM [] _ r) C.2.1 w4 w3 hf hl) (g := mkF E.2.2.2.1 pc Ls st) rfl (hsz.trans C.2.2.2.2.1.symm) (Steps.refl _) (a := a) (argsL := as) (rest := rest) (len_ok hlen) hst (by show 2 * 0 + _ ≤ _; omega) (hb C.2.2.2.1 hd) (fun _ _ => ⟨rfl, rfl, hc, hs⟩)
  dsimp only [Pt.U, Pt.locs, Pt.cells, Pt.slots] at X' l' y' z' hst' hQ
  obtain ⟨FL, M', hQ', r'⟩ := hQ
  subst l' y' z' hk hn
  obtain ⟨s₂, v, L, h1, h2⟩ := hr v M' hQ' T' _ X' (F.app FL) r'
  exact ⟨s₂, v, L, hst'.trans (hq ▸ h1), h2⟩
end Walk2
theorem nar_ref {t : FieldType} {v : Value} (h : v.isRef = true) : narrow t v = v := by rcases ref_cases h with rfl | ⟨a, rfl⟩ <;> cases t <;> rfl
theorem fit_obj {K : String} {v : Value} (h : v.isRef = true) : fits (.object K) v = true := by rcases ref_cases h with rfl | ⟨a, rfl⟩ <;> rfl
theorem fld_of_eq {Z : State} {args : Array Value} {t : Term} {a : Addr} {C nm d : String} {k : Int32} (ev : t.eval args Z none [] Z = some (.ref a)) (h : (Cond.eq (.field t C nm d) (.int k)).value args Z none Z [] = some true) : Fld Z Z.heap a C nm d (.int k) := by
  obtain ⟨x, y, h1, h2, h3, h4⟩ := cmp_v (Or.inl h)
  have h2' : (Term.int k).eval args Z none [] Z = some (.int k) := rfl
  have hy : y = .int k := Option.some.inj (h2.symm.trans h2')
  subst hy
  obtain ⟨z, rfl⟩ := h4
  have : z = k := by
    have h5 : (Cond.eq (.field t C nm d) (.int k)).value args Z none Z [] = some (decide (z = k)) := by simp [Cond.value, h1, h2]
    rw [h5] at h
    exact of_decide_eq_true (Option.some.inj h)
  subst this
  rw [fld_at ev] at h1
  exact Fld.start h1
theorem mask_nn (x : Int32) : ¬ (x &&& 2147483647) < 0 := fun h => absurd ((XT.and_neg32 _ _).mp h).2 (by decide)
theorem rem_mask (x d : Int32) (hd : 0 < d.toInt) : 0 ≤ ((x &&& 2147483647) % d).toInt ∧ ((x &&& 2147483647) % d).toInt < d.toInt := by
  have h := mask_nn x
  rw [XT.negI32] at h
  rw [Int32.toInt_mod, Int.tmod_eq_emod_of_nonneg (by omega)]
  exact ⟨Int.emod_nonneg _ (by omega), Int.emod_lt_of_pos _ hd⟩
theorem bool_ok {b : Int32} (h : b = 0 ∨ b = 1) : narrow .boolean (.int b) = .int b ∧ fits .boolean (.int b) = true := by rcases h with rfl | rfl <;> exact ⟨rfl, rfl⟩
theorem ite01 {P : Prop} [Decidable P] : (if P then (1 : Int32) else 0) = 0 ∨ (if P then (1 : Int32) else 0) = 1 := by split <;> simp
theorem ite10 {P : Prop} [Decidable P] : (if P then (0 : Int32) else 1) = 0 ∨ (if P then (0 : Int32) else 1) = 1 := by split <;> simp
theorem and1 {b : Int32} (h : b = 0 ∨ b = 1) : b &&& 1 = b := by rcases h with rfl | rfl <;> rfl
theorem fld_ev {Z : State} {args : Array Value} {t : Term} {a : Addr} {C nm d : String} {v : Value} (ev : t.eval args Z none [] Z = some (.ref a)) (h : (Term.field t C nm d).eval args Z none [] Z = some v) : Fld Z Z.heap a C nm d v := Fld.start ((fld_at ev).symm.trans h)
theorem eq_int {Z : State} {args : Array Value} {idx : List Nat} {t u : Term} {k : Int32} (hu : u.eval args Z none idx Z = some (.int k)) (h : (Cond.eq t u).value args Z none Z idx = some true) : t.eval args Z none idx Z = some (.int k) := by
  obtain ⟨x, y, h1, h2, h3, h4⟩ := cmp_v (Or.inl h)
  have hy : y = .int k := Option.some.inj (h2.symm.trans hu)
  subst hy
  obtain ⟨z, rfl⟩ := h4
  have : z = k := by
    have h5 : (Cond.eq t u).value args Z none Z idx = some (decide (z = k)) := by simp [Cond.value, h1, h2]
    rw [h5] at h
    exact of_decide_eq_true (Option.some.inj h)
  rw [h1, this]
theorem int_of_eq {Z : State} {args : Array Value} {idx : List Nat} {t : Term} {k : Int32} (h : (Cond.eq t (.int k)).value args Z none Z idx = some true) : t.eval args Z none idx Z = some (.int k) := by
  obtain ⟨x, y, h1, h2, h3, h4⟩ := cmp_v (Or.inl h)
  have h2' : (Term.int k).eval args Z none idx Z = some (.int k) := rfl
  have hy : y = .int k := Option.some.inj (h2.symm.trans h2')
  subst hy
  obtain ⟨z, rfl⟩ := h4
  have : z = k := by
    have h5 : (Cond.eq t (.int k)).value args Z none Z idx = some (decide (z = k)) := by simp [Cond.value, h1, h2]
    rw [h5] at h
    exact of_decide_eq_true (Option.some.inj h)
  rw [h1, this]
theorem len_of_eq {Z : State} {args : Array Value} {t : Term} {a : Addr} {c : Cell} {ty : FieldType} {k : Int32} (ev : t.eval args Z none [] Z = some (.ref a)) (A : Arr Z Z.heap a c ty) (h : (Cond.eq (.length t) (.int k)).value args Z none Z [] = some true) : c.slots.toList.length.toInt32 = k ∧ c.slots.toList.length < 2 ^ 31 := by
  have h1 := int_of_eq h
  have e5 := A.fin (Vm.Alike.refl _)
  rw [Array.length_toList]
  by_cases hl : c.slots.size < 2 ^ 31
  · rw [len_f ev e5 hl] at h1
    exact ⟨Value.int.inj (Option.some.inj h1), hl⟩
  · exfalso
    simp [Term.eval, ev, e5, hl] at h1
theorem elem_of_eq {Z : State} {args : Array Value} {t : Term} {a : Addr} {c : Cell} {ty : FieldType} {i k : Int32} (ev : t.eval args Z none [] Z = some (.ref a)) (A : Arr Z Z.heap a c ty) (h : (Cond.eq (.elem t (.int i)) (.int k)).value args Z none Z [] = some true) : c.slots.toList[i.toNatClampNeg]? = some (.int k) := by
  have h1 := int_of_eq h
  have h2 := elem_in (j := i) h1 ev rfl A.1
  rw [Array.getElem?_toList]
  exact h2.2
theorem ge0 {x : Int32} (h : 0 ≤ x.toInt) : ¬ x < 0 := fun q => by rw [XT.negI32] at q; omega
theorem rep0 (s : State) : Rep s s.heap [] := ⟨⟨Nat.le_refl _, fun _ _ q => q⟩, fun i x h => by simp at h, List.nodup_nil⟩
end Jvm.Own
namespace Jvm.Pilot.@@N@@
open Jvm Jvm.ClassFile Sem Op Lib Jvm.Free Jvm.Stand Jvm.LawKit Jvm.RoadKit Bundle Jvm.Own Jvm.Pilot.@@N@@.Jvm.D
abbrev yN0 : MethodName := ⟨"com/example/ordered_dispatch/ordereddispatch/SequenceQueue$Part", "<init>", "()V"⟩
abbrev yN1 : MethodName := ⟨"com/example/ordered_dispatch/ordereddispatch/SequenceQueue$Run", "<init>", "()V"⟩
abbrev yN2 : MethodName := ⟨"com/example/ordered_dispatch/ordereddispatch/SequenceQueue$Heap", "<init>", "()V"⟩
abbrev yN3 : MethodName := ⟨"com/example/ordered_dispatch/ordereddispatch/SequenceQueue", "<init>", "()V"⟩
abbrev yN4 : MethodName := ⟨"com/example/ordered_dispatch/ordereddispatch/SequenceQueue$Part", "clear", "()V"⟩
abbrev yN5 : MethodName := ⟨"com/example/ordered_dispatch/ordereddispatch/SequenceQueue$Run", "clear", "()V"⟩
abbrev yN6 : MethodName := ⟨"com/example/ordered_dispatch/ordereddispatch/SequenceQueue$Heap", "clear", "()V"⟩
abbrev yN7 : MethodName := ⟨"com/example/ordered_dispatch/ordereddispatch/SequenceQueue", "clear", "()V"⟩
abbrev yN8 : MethodName := ⟨"com/example/ordered_dispatch/ordereddispatch/SequenceQueue", "isEmpty", "()Z"⟩
abbrev yN9 : MethodName := ⟨"com/example/ordered_dispatch/ordereddispatch/SequenceQueue", "firstKey", "()J"⟩
abbrev yN10 : MethodName := ⟨"java/util/AbstractCollection", "<init>", "()V"⟩
abbrev yN11 : MethodName := ⟨"java/util/AbstractList", "<init>", "()V"⟩
abbrev yN12 : MethodName := ⟨"java/util/ArrayList", "<init>", "(I)V"⟩
abbrev yN13 : MethodName := ⟨"com/example/ordered_dispatch/ordereddispatch/SequenceQueue", "elements", "()Ljava/util/List;"⟩
abbrev yN14 : MethodName := ⟨"java/util/ArrayList", "size", "()I"⟩
abbrev yN15 : MethodName := ⟨"java/util/List", "size", "()I"⟩
abbrev yN16 : MethodName := ⟨"java/lang/Integer", "valueOf", "(I)Ljava/lang/Integer;"⟩
abbrev yN17 : MethodName := ⟨"com/example/ordered_dispatch/ordereddispatch/SequenceQueue", "add", "(JLjava/lang/Object;)V"⟩
abbrev yN18 : MethodName := ⟨"com/example/ordered_dispatch/ordereddispatch/SequenceQueue", "poll", "()Ljava/lang/Object;"⟩
abbrev yN19 : MethodName := ⟨"java/lang/Integer", "intValue", "()I"⟩
abbrev yN20 : MethodName := ⟨"com/example/ordered_dispatch/ordereddispatch/SequenceQueue$Part", "makeRoom", "()V"⟩
abbrev yN21 : MethodName := ⟨"com/example/ordered_dispatch/ordereddispatch/SequenceQueue$Run", "makeRoom", "()V"⟩
abbrev yN22 : MethodName := ⟨"com/example/ordered_dispatch/ordereddispatch/SequenceQueue$Run", "slot", "(I)I"⟩
abbrev yN23 : MethodName := ⟨"com/example/ordered_dispatch/ordereddispatch/SequenceQueue$Run", "add", "(JLjava/lang/Object;)V"⟩
abbrev yN24 : MethodName := ⟨"com/example/ordered_dispatch/ordereddispatch/SequenceQueue", "place", "(JLjava/lang/Object;)V"⟩
abbrev yN25 : MethodName := ⟨"com/example/ordered_dispatch/ordereddispatch/SequenceQueue$Run", "lastKey", "()J"⟩
abbrev yN26 : MethodName := ⟨"com/example/ordered_dispatch/ordereddispatch/SequenceQueue$Heap", "makeRoom", "()V"⟩
abbrev yN27 : MethodName := ⟨"com/example/ordered_dispatch/ordereddispatch/SequenceQueue$Heap", "add", "(JLjava/lang/Object;)V"⟩
theorem cache_elem {Z : State} {args : Array Value} {C nm d K : String} {cb : Addr} {c : Cell} {ty : FieldType} {D : Jvm.Cond} (ev : (Term.static C nm d).eval args Z none [] Z = some (.ref cb)) (A : Arr Z Z.heap cb c ty) (hs : c.slots.toList.length < 2 ^ 31)
    (h : (Jvm.Cond.all (.static C nm d) (.and (.exactly (.elem (.static C nm d) (.index 0)) K) D)).value args Z none Z [] = some true) :
    ∀ j : Nat, j < c.slots.toList.length → ∃ b, c.slots.toList[j]? = some (.ref b) ∧ Exa Z Z.heap b K ∧ (Term.elem (.static C nm d) (.index 0)).eval args Z none [j] Z = some (.ref b) ∧ D.value args Z none Z [j] = some true := by
  intro j hj
  rw [Array.length_toList] at hj hs
  have h1 := Cond.all_elim ev (A.fin (Vm.Alike.refl _)) h j hj
  obtain ⟨h2, h3⟩ := and_e h1
  obtain ⟨b, e1⟩ := exa_v h2
  refine ⟨b, ?_, exa_at e1 h2, e1, h3⟩
  have ev' : (Term.static C nm d).eval args Z none [j] Z = some (.ref cb) := ev
  have ej : (Term.index 0).eval args Z none [j] Z = some (.int j.toInt32) := rfl
  have h4 := (elem_in e1 ev' ej A.1).2
  rw [Array.getElem?_toList]
  have e5 : j.toInt32.toNatClampNeg = j := by
    have := Int32.toInt_ofNat_of_lt (n := j) (by omega)
    show j.toInt32.toInt.toNat = j
    have e : j.toInt32 = Int32.ofNat j := rfl
    rw [e, this]; rfl
  rw [e5] at h4
  exact h4
theorem len256 {n : Nat} (h : n.toInt32 = 256) (hl : n < 2 ^ 31) : n = 256 := by
  have := Int32.toInt_ofNat_of_lt (n := n) (by omega)
  have e : n.toInt32 = Int32.ofNat n := rfl
  rw [← e, h] at this
  have e2 : (256 : Int32).toInt = 256 := by decide
  omega
theorem cache_val {Z : State} {args : Array Value} {t : Term} {C nm d : String} {b : Addr} {j : Nat} (e1 : t.eval args Z none [j] Z = some (.ref b)) (h : (Jvm.Cond.eq (.field t C nm d) (.sub (.index 0) (.int 128))).value args Z none Z [j] = some true) : Fld Z Z.heap b C nm d (.int (j.toInt32 - 128)) := by
  have h1 := eq_int (k := j.toInt32 - 128) (by simp [Term.eval]) h
  exact Fld.start ((fld_at e1).symm.trans h1)
abbrev oQ (v0 v1 v2 v3 v4 : Value) : Own.Rec := .inl ("com/example/ordered_dispatch/ordereddispatch/SequenceQueue", [(("com/example/ordered_dispatch/ordereddispatch/SequenceQueue", "run", "Lcom/example/ordered_dispatch/ordereddispatch/SequenceQueue$Run;"), v0), (("com/example/ordered_dispatch/ordereddispatch/SequenceQueue", "heap", "Lcom/example/ordered_dispatch/ordereddispatch/SequenceQueue$Heap;"), v1), (("com/example/ordered_dispatch/ordereddispatch/SequenceQueue", "holding", "Z"), v2), (("com/example/ordered_dispatch/ordereddispatch/SequenceQueue", "heldKey", "J"), v3), (("com/example/ordered_dispatch/ordereddispatch/SequenceQueue", "heldElement", "Ljava/lang/Object;"), v4)])
abbrev oRun (v0 v1 v2 v3 : Value) : Own.Rec := .inl ("com/example/ordered_dispatch/ordereddispatch/SequenceQueue$Run", [(("com/example/ordered_dispatch/ordereddispatch/SequenceQueue$Part", "keys", "[J"), v0), (("com/example/ordered_dispatch/ordereddispatch/SequenceQueue$Part", "elements", "[Ljava/lang/Object;"), v1), (("com/example/ordered_dispatch/ordereddispatch/SequenceQueue$Part", "size", "I"), v2), (("com/example/ordered_dispatch/ordereddispatch/SequenceQueue$Run", "head", "I"), v3)])
abbrev oHeap (v0 v1 v2 : Value) : Own.Rec := .inl ("com/example/ordered_dispatch/ordereddispatch/SequenceQueue$Heap", [(("com/example/ordered_dispatch/ordereddispatch/SequenceQueue$Part", "keys", "[J"), v0), (("com/example/ordered_dispatch/ordereddispatch/SequenceQueue$Part", "elements", "[Ljava/lang/Object;"), v1), (("com/example/ordered_dispatch/ordereddispatch/SequenceQueue$Part", "size", "I"), v2)])
abbrev oK64 (v0 v1 v2 v3 v4 v5 : Value) : List Value := [v0, v1, v2, v3, v4, v5, .long (0 : Int64), .long (0 : Int64), .long (0 : Int64), .long (0 : Int64), .long (0 : Int64), .long (0 : Int64), .long (0 : Int64), .long (0 : Int64), .long (0 : Int64), .long (0 : Int64), .long (0 : Int64), .long (0 : Int64), .long (0 : Int64), .long (0 : Int64), .long (0 : Int64), .long (0 : Int64), .long (0 : Int64), .long (0 : Int64), .long (0 : Int64), .long (0 : Int64), .long (0 : Int64), .long (0 : Int64), .long (0 : Int64), .long (0 : Int64), .long (0 : Int64), .long (0 : Int64), .long (0 : Int64), .long (0 : Int64), .long (0 : Int64), .long (0 : Int64), .long (0 : Int64), .long (0 : Int64), .long (0 : Int64), .long (0 : Int64), .long (0 : Int64), .long (0 : Int64), .long (0 : Int64), .long (0 : Int64), .long (0 : Int64), .long (0 : Int64), .long (0 : Int64), .long (0 : Int64), .long (0 : Int64), .long (0 : Int64), .long (0 : Int64), .long (0 : Int64), .long (0 : Int64), .long (0 : Int64), .long (0 : Int64), .long (0 : Int64), .long (0 : Int64), .long (0 : Int64), .long (0 : Int64), .long (0 : Int64), .long (0 : Int64), .long (0 : Int64), .long (0 : Int64), .long (0 : Int64)]
abbrev oE64 (v0 v1 v2 v3 v4 v5 : Value) : List Value := [v0, v1, v2, v3, v4, v5, .null, .null, .null, .null, .null, .null, .null, .null, .null, .null, .null, .null, .null, .null, .null, .null, .null, .null, .null, .null, .null, .null, .null, .null, .null, .null, .null, .null, .null, .null, .null, .null, .null, .null, .null, .null, .null, .null, .null, .null, .null, .null, .null, .null, .null, .null, .null, .null, .null, .null, .null, .null, .null, .null, .null, .null, .null, .null]
abbrev oAL (v0 v1 v2 : Value) : Own.Rec := .inl ("java/util/ArrayList", [(("java/util/AbstractList", "modCount", "I"), v0), (("java/util/ArrayList", "elementData", "[Ljava/lang/Object;"), v1), (("java/util/ArrayList", "size", "I"), v2)])
theorem dc_prog_20_method_1_0 : decode prog_20_method_1_code 0 = .ok (.aload_n 0, 1) := by decide +kernel
theorem dc_prog_20_method_1_1 : decode prog_20_method_1_code 1 = .ok (.invokespecial 3, 3) := by decide +kernel
theorem dc_prog_20_method_1_4 : decode prog_20_method_1_code 4 = .ok (.aload_n 0, 1) := by decide +kernel
theorem dc_prog_20_method_1_5 : decode prog_20_method_1_code 5 = .ok (.new 9, 3) := by decide +kernel
theorem dc_prog_20_method_1_8 : decode prog_20_method_1_code 8 = .ok (.dup, 1) := by decide +kernel
theorem dc_prog_20_method_1_9 : decode prog_20_method_1_code 9 = .ok (.invokespecial 11, 3) := by decide +kernel
theorem dc_prog_23_method_1_0 : decode prog_23_method_1_code 0 = .ok (.aload_n 0, 1) := by decide +kernel
theorem dc_prog_23_method_1_1 : decode prog_23_method_1_code 1 = .ok (.invokespecial 1, 3) := by decide +kernel
theorem dc_prog_22_method_1_0 : decode prog_22_method_1_code 0 = .ok (.aload_n 0, 1) := by decide +kernel
theorem dc_prog_22_method_1_1 : decode prog_22_method_1_code 1 = .ok (.invokespecial 3, 3) := by decide +kernel
theorem dc_prog_22_method_1_4 : decode prog_22_method_1_code 4 = .ok (.aload_n 0, 1) := by decide +kernel
theorem dc_prog_22_method_1_5 : decode prog_22_method_1_code 5 = .ok (.bipush 64, 2) := by decide +kernel
theorem dc_prog_22_method_1_7 : decode prog_22_method_1_code 7 = .ok (.newarray .long, 2) := by decide +kernel
theorem dc_prog_22_method_1_9 : decode prog_22_method_1_code 9 = .ok (.putfield 9, 3) := by decide +kernel
theorem dc_prog_22_method_1_12 : decode prog_22_method_1_code 12 = .ok (.aload_n 0, 1) := by decide +kernel
theorem dc_prog_22_method_1_13 : decode prog_22_method_1_code 13 = .ok (.bipush 64, 2) := by decide +kernel
theorem dc_prog_22_method_1_15 : decode prog_22_method_1_code 15 = .ok (.anewarray 4, 3) := by decide +kernel
theorem dc_prog_22_method_1_18 : decode prog_22_method_1_code 18 = .ok (.putfield 15, 3) := by decide +kernel
theorem dc_prog_22_method_1_21 : decode prog_22_method_1_code 21 = .ok (.return_, 1) := by decide +kernel
theorem pn_0 : plainFor yN0 = true := by first | (apply plainFor_of_name; simp [plainName, overriddenIn]; done) | decide +kernel
set_option maxRecDepth 65536 in
set_option maxHeartbeats 40000000 in
theorem u_SequenceQueue_Part_init_2 (l : Launch) (Z : State) (a0 : Array Value) (hw : ∀ d ∈ tables_1, d.before a0 Z = true) (F : List Ent) (pA0 : Addr)  :
    Met l Z yN0 prog_22_method_1_code 1 none { frames := 1, cells := 2, slots := 128, locals := 12 } #[(.ref pA0)] ((pA0, oRun .null .null (.int (0 : Int32)) (.int (0 : Int32))) :: F) (fun r M' => (∃ sA0 sA1 : Addr, r = none ∧ M' = ((sA0, .inr (.object "java/lang/Object", (oE64 .null .null .null .null .null .null), true)) :: (sA1, .inr (.long, (oK64 (.long (0 : Int64)) (.long (0 : Int64)) (.long (0 : Int64)) (.long (0 : Int64)) (.long (0 : Int64)) (.long (0 : Int64))), true)) :: (pA0, oRun (.ref sA1) (.ref sA0) (.int (0 : Int32)) (.int (0 : Int32))) :: F))) := by
  refine Met.of_go pn_0 (Ls := #[.val (.ref pA0)]) (fun m => by first | rfl | (simp [entryFrame, mkF, argsToLocals, Value.category, maxLocals]; done)) ?_
  intro E C
  refine Go.aloadN C dc_prog_22_method_1_0 (q := 1) rfl rfl rfl ?_
  refine Go.initO C (wd hw 20 rfl) (wd hw 7 rfl) (wd hw 8 rfl) dc_prog_22_method_1_1 (q := 4) rfl rfl (by decide) (W := 0) rfl (by decide) ?_
  refine Go.aloadN C dc_prog_22_method_1_4 (q := 5) rfl rfl rfl ?_
  refine Go.bipush C dc_prog_22_method_1_5 (q := 7) rfl (v := (64 : Int32)) (by decide) ?_
  refine Go.newarray C (ty := .long) (wd hw 21 rfl) rfl (by simp) (by decide) (cap := 64) (by decide) (by decide) (vs := (oK64 (.long (0 : Int64)) (.long (0 : Int64)) (.long (0 : Int64)) (.long (0 : Int64)) (.long (0 : Int64)) (.long (0 : Int64)))) rfl dc_prog_22_method_1_7 (q := 9) rfl (by decide) (by decide) (k' := 1) (n' := 64) rfl rfl (fun o3 => ?_)
  refine Go.putF C (host := "") (i := 1) (j := 0) (Or.inl (wd hw 22 rfl)) Via.refl rfl rfl (Or.inl (wd hw 23 rfl)) (wd hw 10 rfl) (ty := (.array .long)) (by decide) rfl rfl dc_prog_22_method_1_9 (q := 12) rfl (M' := ((o3, .inr (.long, (oK64 (.long (0 : Int64)) (.long (0 : Int64)) (.long (0 : Int64)) (.long (0 : Int64)) (.long (0 : Int64)) (.long (0 : Int64))), true)) :: (pA0, oRun (.ref o3) .null (.int (0 : Int32)) (.int (0 : Int32))) :: F)) rfl ?_
  refine Go.aloadN C dc_prog_22_method_1_12 (q := 13) rfl rfl rfl ?_
  refine Go.bipush C dc_prog_22_method_1_13 (q := 15) rfl (v := (64 : Int32)) (by decide) ?_
  refine Go.anewarray C (wd hw 24 rfl) (wd hw 25 rfl) (by decide) (cap := 64) (by decide) (by decide) (vs := (oE64 .null .null .null .null .null .null)) rfl dc_prog_22_method_1_15 (q := 18) rfl (by decide) (by decide) (k' := 2) (n' := 128) rfl rfl (fun o4 => ?_)
  refine Go.putF C (host := "") (i := 2) (j := 1) (Or.inl (wd hw 26 rfl)) Via.refl rfl rfl (Or.inl (wd hw 27 rfl)) (wd hw 10 rfl) (ty := (.array (.object "java/lang/Object"))) (by decide) rfl rfl dc_prog_22_method_1_18 (q := 21) rfl (M' := ((o4, .inr (.object "java/lang/Object", (oE64 .null .null .null .null .null .null), true)) :: (o3, .inr (.long, (oK64 (.long (0 : Int64)) (.long (0 : Int64)) (.long (0 : Int64)) (.long (0 : Int64)) (.long (0 : Int64)) (.long (0 : Int64))), true)) :: (pA0, oRun (.ref o3) (.ref o4) (.int (0 : Int32)) (.int (0 : Int32))) :: F)) rfl ?_
  refine Go.ret0 C rfl dc_prog_22_method_1_21 (by decide) (by decide) ?_
  exact ⟨_, _, rfl, rfl⟩
theorem dc_prog_23_method_1_4 : decode prog_23_method_1_code 4 = .ok (.return_, 1) := by decide +kernel
theorem pn_1 : plainFor yN1 = true := by first | (apply plainFor_of_name; simp [plainName, overriddenIn]; done) | decide +kernel
set_option maxRecDepth 65536 in
set_option maxHeartbeats 40000000 in
theorem u_SequenceQueue_Run_init_1 (l : Launch) (Z : State) (a0 : Array Value) (hw : ∀ d ∈ tables_1, d.before a0 Z = true) (F : List Ent) (pA0 : Addr)  :
    Met l Z yN1 prog_23_method_1_code 1 none { frames := 2, cells := 2, slots := 128, locals := 24 } #[(.ref pA0)] ((pA0, oRun .null .null (.int (0 : Int32)) (.int (0 : Int32))) :: F) (fun r M' => (∃ sA0 sA1 : Addr, r = none ∧ M' = ((sA0, .inr (.object "java/lang/Object", (oE64 .null .null .null .null .null .null), true)) :: (sA1, .inr (.long, (oK64 (.long (0 : Int64)) (.long (0 : Int64)) (.long (0 : Int64)) (.long (0 : Int64)) (.long (0 : Int64)) (.long (0 : Int64))), true)) :: (pA0, oRun (.ref sA1) (.ref sA0) (.int (0 : Int32)) (.int (0 : Int32))) :: F))) := by
  refine Met.of_go pn_1 (Ls := #[.val (.ref pA0)]) (fun m => by first | rfl | (simp [entryFrame, mkF, argsToLocals, Value.category, maxLocals]; done)) ?_
  intro E C
  refine Go.aloadN C dc_prog_23_method_1_0 (q := 1) rfl rfl rfl ?_
  refine Go.callIN C (y := yN0) (a := pA0) (as := []) (rest := []) (wd hw 15 rfl) (wd hw 16 rfl) (wd hw 18 rfl) (wd hw 19 rfl) (u_SequenceQueue_Part_init_2 l Z a0 hw _ pA0) rfl rfl dc_prog_23_method_1_1 (q := 4) rfl (by decide) rfl (na := 0) (by decide +kernel) rfl (by decide) (W := 0) rfl (by decide) (by decide) (by decide) (k' := 2) (n' := 128) rfl rfl ?_
  rintro _ _ ⟨o3, o4, rfl, rfl⟩
  show Go _ _ _ _ _ _ _ _ _ _ []
  refine Go.ret0 C rfl dc_prog_23_method_1_4 (by decide) (by decide) ?_
  exact ⟨_, _, rfl, rfl⟩
theorem dc_prog_20_method_1_12 : decode prog_20_method_1_code 12 = .ok (.putfield 12, 3) := by decide +kernel
theorem dc_prog_20_method_1_15 : decode prog_20_method_1_code 15 = .ok (.aload_n 0, 1) := by decide +kernel
theorem dc_prog_20_method_1_16 : decode prog_20_method_1_code 16 = .ok (.new 18, 3) := by decide +kernel
theorem dc_prog_20_method_1_19 : decode prog_20_method_1_code 19 = .ok (.dup, 1) := by decide +kernel
theorem dc_prog_20_method_1_20 : decode prog_20_method_1_code 20 = .ok (.invokespecial 20, 3) := by decide +kernel
theorem dc_prog_21_method_1_0 : decode prog_21_method_1_code 0 = .ok (.aload_n 0, 1) := by decide +kernel
theorem dc_prog_21_method_1_1 : decode prog_21_method_1_code 1 = .ok (.invokespecial 1, 3) := by decide +kernel
set_option maxRecDepth 65536 in
set_option maxHeartbeats 40000000 in
theorem u_SequenceQueue_Part_init_6 (l : Launch) (Z : State) (a0 : Array Value) (hw : ∀ d ∈ tables_1, d.before a0 Z = true) (F : List Ent) (pA0 : Addr)  :
    Met l Z yN0 prog_22_method_1_code 1 none { frames := 1, cells := 2, slots := 128, locals := 12 } #[(.ref pA0)] ((pA0, oHeap .null .null (.int (0 : Int32))) :: F) (fun r M' => (∃ sA0 sA1 : Addr, r = none ∧ M' = ((sA0, .inr (.object "java/lang/Object", (oE64 .null .null .null .null .null .null), true)) :: (sA1, .inr (.long, (oK64 (.long (0 : Int64)) (.long (0 : Int64)) (.long (0 : Int64)) (.long (0 : Int64)) (.long (0 : Int64)) (.long (0 : Int64))), true)) :: (pA0, oHeap (.ref sA1) (.ref sA0) (.int (0 : Int32))) :: F))) := by
  refine Met.of_go pn_0 (Ls := #[.val (.ref pA0)]) (fun m => by first | rfl | (simp [entryFrame, mkF, argsToLocals, Value.category, maxLocals]; done)) ?_
  intro E C
  refine Go.aloadN C dc_prog_22_method_1_0 (q := 1) rfl rfl rfl ?_
  refine Go.initO C (wd hw 20 rfl) (wd hw 7 rfl) (wd hw 8 rfl) dc_prog_22_method_1_1 (q := 4) rfl rfl (by decide) (W := 0) rfl (by decide) ?_
  refine Go.aloadN C dc_prog_22_method_1_4 (q := 5) rfl rfl rfl ?_
  refine Go.bipush C dc_prog_22_method_1_5 (q := 7) rfl (v := (64 : Int32)) (by decide) ?_
  refine Go.newarray C (ty := .long) (wd hw 21 rfl) rfl (by simp) (by decide) (cap := 64) (by decide) (by decide) (vs := (oK64 (.long (0 : Int64)) (.long (0 : Int64)) (.long (0 : Int64)) (.long (0 : Int64)) (.long (0 : Int64)) (.long (0 : Int64)))) rfl dc_prog_22_method_1_7 (q := 9) rfl (by decide) (by decide) (k' := 1) (n' := 64) rfl rfl (fun o6 => ?_)
  refine Go.putF C (host := "") (i := 1) (j := 0) (Or.inl (wd hw 22 rfl)) Via.refl rfl rfl (Or.inl (wd hw 37 rfl)) (wd hw 31 rfl) (ty := (.array .long)) (by decide) rfl rfl dc_prog_22_method_1_9 (q := 12) rfl (M' := ((o6, .inr (.long, (oK64 (.long (0 : Int64)) (.long (0 : Int64)) (.long (0 : Int64)) (.long (0 : Int64)) (.long (0 : Int64)) (.long (0 : Int64))), true)) :: (pA0, oHeap (.ref o6) .null (.int (0 : Int32))) :: F)) rfl ?_
  refine Go.aloadN C dc_prog_22_method_1_12 (q := 13) rfl rfl rfl ?_
  refine Go.bipush C dc_prog_22_method_1_13 (q := 15) rfl (v := (64 : Int32)) (by decide) ?_
  refine Go.anewarray C (wd hw 24 rfl) (wd hw 25 rfl) (by decide) (cap := 64) (by decide) (by decide) (vs := (oE64 .null .null .null .null .null .null)) rfl dc_prog_22_method_1_15 (q := 18) rfl (by decide) (by decide) (k' := 2) (n' := 128) rfl rfl (fun o7 => ?_)
  refine Go.putF C (host := "") (i := 2) (j := 1) (Or.inl (wd hw 26 rfl)) Via.refl rfl rfl (Or.inl (wd hw 38 rfl)) (wd hw 31 rfl) (ty := (.array (.object "java/lang/Object"))) (by decide) rfl rfl dc_prog_22_method_1_18 (q := 21) rfl (M' := ((o7, .inr (.object "java/lang/Object", (oE64 .null .null .null .null .null .null), true)) :: (o6, .inr (.long, (oK64 (.long (0 : Int64)) (.long (0 : Int64)) (.long (0 : Int64)) (.long (0 : Int64)) (.long (0 : Int64)) (.long (0 : Int64))), true)) :: (pA0, oHeap (.ref o6) (.ref o7) (.int (0 : Int32))) :: F)) rfl ?_
  refine Go.ret0 C rfl dc_prog_22_method_1_21 (by decide) (by decide) ?_
  exact ⟨_, _, rfl, rfl⟩
theorem dc_prog_21_method_1_4 : decode prog_21_method_1_code 4 = .ok (.return_, 1) := by decide +kernel
theorem pn_2 : plainFor yN2 = true := by first | (apply plainFor_of_name; simp [plainName, overriddenIn]; done) | decide +kernel
set_option maxRecDepth 65536 in
set_option maxHeartbeats 40000000 in
theorem u_SequenceQueue_Heap_init_5 (l : Launch) (Z : State) (a0 : Array Value) (hw : ∀ d ∈ tables_1, d.before a0 Z = true) (F : List Ent) (pA0 : Addr)  :
    Met l Z yN2 prog_21_method_1_code 1 none { frames := 2, cells := 2, slots := 128, locals := 24 } #[(.ref pA0)] ((pA0, oHeap .null .null (.int (0 : Int32))) :: F) (fun r M' => (∃ sA0 sA1 : Addr, r = none ∧ M' = ((sA0, .inr (.object "java/lang/Object", (oE64 .null .null .null .null .null .null), true)) :: (sA1, .inr (.long, (oK64 (.long (0 : Int64)) (.long (0 : Int64)) (.long (0 : Int64)) (.long (0 : Int64)) (.long (0 : Int64)) (.long (0 : Int64))), true)) :: (pA0, oHeap (.ref sA1) (.ref sA0) (.int (0 : Int32))) :: F))) := by
  refine Met.of_go pn_2 (Ls := #[.val (.ref pA0)]) (fun m => by first | rfl | (simp [entryFrame, mkF, argsToLocals, Value.category, maxLocals]; done)) ?_
  intro E C
  refine Go.aloadN C dc_prog_21_method_1_0 (q := 1) rfl rfl rfl ?_
  refine Go.callIN C (y := yN0) (a := pA0) (as := []) (rest := []) (wd hw 36 rfl) (wd hw 16 rfl) (wd hw 18 rfl) (wd hw 19 rfl) (u_SequenceQueue_Part_init_6 l Z a0 hw _ pA0) rfl rfl dc_prog_21_method_1_1 (q := 4) rfl (by decide) rfl (na := 0) (by decide +kernel) rfl (by decide) (W := 0) rfl (by decide) (by decide) (by decide) (k' := 2) (n' := 128) rfl rfl ?_
  rintro _ _ ⟨o6, o7, rfl, rfl⟩
  show Go _ _ _ _ _ _ _ _ _ _ []
  refine Go.ret0 C rfl dc_prog_21_method_1_4 (by decide) (by decide) ?_
  exact ⟨_, _, rfl, rfl⟩
theorem dc_prog_20_method_1_23 : decode prog_20_method_1_code 23 = .ok (.putfield 21, 3) := by decide +kernel
theorem dc_prog_20_method_1_26 : decode prog_20_method_1_code 26 = .ok (.return_, 1) := by decide +kernel
theorem pn_3 : plainFor yN3 = true := by first | (apply plainFor_of_name; simp [plainName, overriddenIn]; done) | decide +kernel
set_option maxRecDepth 65536 in
set_option maxHeartbeats 40000000 in
theorem u_SequenceQueue_init_0 (l : Launch) (Z : State) (a0 : Array Value) (hw : ∀ d ∈ tables_1, d.before a0 Z = true) (F : List Ent) (pA0 : Addr) (kA0 : Int64)  :
    Met l Z yN3 prog_20_method_1_code 1 none { frames := 3, cells := 6, slots := 263, locals := 38 } #[(.ref pA0)] ((pA0, oQ .null .null (.int (0 : Int32)) (.long kA0) .null) :: F) (fun r M' => (∃ sA0 sA1 sA2 sA3 sA4 sA5 : Addr, r = none ∧ M' = ((sA0, .inr (.object "java/lang/Object", (oE64 .null .null .null .null .null .null), true)) :: (sA1, .inr (.long, (oK64 (.long (0 : Int64)) (.long (0 : Int64)) (.long (0 : Int64)) (.long (0 : Int64)) (.long (0 : Int64)) (.long (0 : Int64))), true)) :: (sA2, oHeap (.ref sA1) (.ref sA0) (.int (0 : Int32))) :: (sA3, .inr (.object "java/lang/Object", (oE64 .null .null .null .null .null .null), true)) :: (sA4, .inr (.long, (oK64 (.long (0 : Int64)) (.long (0 : Int64)) (.long (0 : Int64)) (.long (0 : Int64)) (.long (0 : Int64)) (.long (0 : Int64))), true)) :: (sA5, oRun (.ref sA4) (.ref sA3) (.int (0 : Int32)) (.int (0 : Int32))) :: (pA0, oQ (.ref sA5) (.ref sA2) (.int (0 : Int32)) (.long kA0) .null) :: F))) := by
  refine Met.of_go pn_3 (Ls := #[.val (.ref pA0)]) (fun m => by first | rfl | (simp [entryFrame, mkF, argsToLocals, Value.category, maxLocals]; done)) ?_
  intro E C
  refine Go.aloadN C dc_prog_20_method_1_0 (q := 1) rfl rfl rfl ?_
  refine Go.initO C (wd hw 6 rfl) (wd hw 7 rfl) (wd hw 8 rfl) dc_prog_20_method_1_1 (q := 4) rfl rfl (by decide) (W := 0) rfl (by decide) ?_
  refine Go.aloadN C dc_prog_20_method_1_4 (q := 5) rfl rfl rfl ?_
  refine Go.new C (wd hw 9 rfl) (wd hw 10 rfl) (wd hw 11 rfl) [(("com/example/ordered_dispatch/ordereddispatch/SequenceQueue$Part", "keys", "[J"), .null), (("com/example/ordered_dispatch/ordereddispatch/SequenceQueue$Part", "elements", "[Ljava/lang/Object;"), .null), (("com/example/ordered_dispatch/ordereddispatch/SequenceQueue$Part", "size", "I"), (.int (0 : Int32))), (("com/example/ordered_dispatch/ordereddispatch/SequenceQueue$Run", "head", "I"), (.int (0 : Int32)))] ⟨⟨Or.inl (wd hw 23 rfl), (.array .long), by decide, rfl⟩, ⟨Or.inl (wd hw 27 rfl), (.array (.object "java/lang/Object")), by decide, rfl⟩, ⟨Or.inl (wd hw 65 rfl), .int, by decide, rfl⟩, ⟨Or.inl (wd hw 83 rfl), .int, by decide, rfl⟩, trivial⟩ (by decide) dc_prog_20_method_1_5 (q := 8) rfl (by decide) (by decide) (k' := 1) (n' := 4) rfl rfl (fun o2 => ?_)
  refine Go.dup C dc_prog_20_method_1_8 (q := 9) rfl rfl ?_
  refine Go.callIR C (y := yN1) (a := o2) (as := []) (rest := [(.ref o2), (.ref pA0)]) (wd hw 12 rfl) (wd hw 13 rfl) (wd hw 11 rfl) (wd hw 14 rfl) (u_SequenceQueue_Run_init_1 l Z a0 hw _ o2) rfl rfl dc_prog_20_method_1_9 (q := 12) rfl (by decide) rfl (na := 0) (by decide +kernel) rfl (by decide) (W := 2) rfl (by decide) (by decide) (by decide) (k' := 3) (n' := 132) rfl rfl ?_
  rintro _ _ ⟨o3, o4, rfl, rfl⟩
  show Go _ _ _ _ _ _ _ _ _ _ [(.ref o2), (.ref pA0)]
  refine Go.putF C (host := "") (i := 3) (j := 0) (Or.inl (wd hw 28 rfl)) Via.refl rfl rfl (Or.inr ⟨(wd hw 29 rfl), rfl, rfl⟩) (wd hw 1 rfl) (ty := (.object "com/example/ordered_dispatch/ordereddispatch/SequenceQueue$Run")) (by decide) rfl rfl dc_prog_20_method_1_12 (q := 15) rfl (M' := ((o3, .inr (.object "java/lang/Object", (oE64 .null .null .null .null .null .null), true)) :: (o4, .inr (.long, (oK64 (.long (0 : Int64)) (.long (0 : Int64)) (.long (0 : Int64)) (.long (0 : Int64)) (.long (0 : Int64)) (.long (0 : Int64))), true)) :: (o2, oRun (.ref o4) (.ref o3) (.int (0 : Int32)) (.int (0 : Int32))) :: (pA0, oQ (.ref o2) .null (.int (0 : Int32)) (.long kA0) .null) :: F)) rfl ?_
  refine Go.aloadN C dc_prog_20_method_1_15 (q := 16) rfl rfl rfl ?_
  refine Go.new C (wd hw 30 rfl) (wd hw 31 rfl) (wd hw 32 rfl) [(("com/example/ordered_dispatch/ordereddispatch/SequenceQueue$Part", "keys", "[J"), .null), (("com/example/ordered_dispatch/ordereddispatch/SequenceQueue$Part", "elements", "[Ljava/lang/Object;"), .null), (("com/example/ordered_dispatch/ordereddispatch/SequenceQueue$Part", "size", "I"), (.int (0 : Int32)))] ⟨⟨Or.inl (wd hw 37 rfl), (.array .long), by decide, rfl⟩, ⟨Or.inl (wd hw 38 rfl), (.array (.object "java/lang/Object")), by decide, rfl⟩, ⟨Or.inl (wd hw 100 rfl), .int, by decide, rfl⟩, trivial⟩ (by decide) dc_prog_20_method_1_16 (q := 19) rfl (by decide) (by decide) (k' := 4) (n' := 135) rfl rfl (fun o5 => ?_)
  refine Go.dup C dc_prog_20_method_1_19 (q := 20) rfl rfl ?_
  refine Go.callIR C (y := yN2) (a := o5) (as := []) (rest := [(.ref o5), (.ref pA0)]) (wd hw 33 rfl) (wd hw 34 rfl) (wd hw 32 rfl) (wd hw 35 rfl) (u_SequenceQueue_Heap_init_5 l Z a0 hw _ o5) rfl rfl dc_prog_20_method_1_20 (q := 23) rfl (by decide) rfl (na := 0) (by decide +kernel) rfl (by decide) (W := 2) rfl (by decide) (by decide) (by decide) (k' := 6) (n' := 263) rfl rfl ?_
  rintro _ _ ⟨o6, o7, rfl, rfl⟩
  show Go _ _ _ _ _ _ _ _ _ _ [(.ref o5), (.ref pA0)]
  refine Go.putF C (host := "") (i := 6) (j := 1) (Or.inl (wd hw 39 rfl)) Via.refl rfl rfl (Or.inr ⟨(wd hw 40 rfl), rfl, rfl⟩) (wd hw 1 rfl) (ty := (.object "com/example/ordered_dispatch/ordereddispatch/SequenceQueue$Heap")) (by decide) rfl rfl dc_prog_20_method_1_23 (q := 26) rfl (M' := ((o6, .inr (.object "java/lang/Object", (oE64 .null .null .null .null .null .null), true)) :: (o7, .inr (.long, (oK64 (.long (0 : Int64)) (.long (0 : Int64)) (.long (0 : Int64)) (.long (0 : Int64)) (.long (0 : Int64)) (.long (0 : Int64))), true)) :: (o5, oHeap (.ref o7) (.ref o6) (.int (0 : Int32))) :: (o3, .inr (.object "java/lang/Object", (oE64 .null .null .null .null .null .null), true)) :: (o4, .inr (.long, (oK64 (.long (0 : Int64)) (.long (0 : Int64)) (.long (0 : Int64)) (.long (0 : Int64)) (.long (0 : Int64)) (.long (0 : Int64))), true)) :: (o2, oRun (.ref o4) (.ref o3) (.int (0 : Int32)) (.int (0 : Int32))) :: (pA0, oQ (.ref o2) (.ref o5) (.int (0 : Int32)) (.long kA0) .null) :: F)) rfl ?_
  refine Go.ret0 C rfl dc_prog_20_method_1_26 (by decide) (by decide) ?_
  exact ⟨_, _, _, _, _, _, rfl, rfl⟩
theorem dc_prog_20_method_8_0 : decode prog_20_method_8_code 0 = .ok (.aload_n 0, 1) := by decide +kernel
theorem dc_prog_20_method_8_1 : decode prog_20_method_8_code 1 = .ok (.iconst 0, 1) := by decide +kernel
theorem dc_prog_20_method_8_2 : decode prog_20_method_8_code 2 = .ok (.putfield 25, 3) := by decide +kernel
theorem dc_prog_20_method_8_5 : decode prog_20_method_8_code 5 = .ok (.aload_n 0, 1) := by decide +kernel
theorem dc_prog_20_method_8_6 : decode prog_20_method_8_code 6 = .ok (.aconst_null, 1) := by decide +kernel
theorem dc_prog_20_method_8_7 : decode prog_20_method_8_code 7 = .ok (.putfield 33, 3) := by decide +kernel
theorem dc_prog_20_method_8_10 : decode prog_20_method_8_code 10 = .ok (.aload_n 0, 1) := by decide +kernel
theorem dc_prog_20_method_8_11 : decode prog_20_method_8_code 11 = .ok (.getfield 12, 3) := by decide +kernel
theorem dc_prog_20_method_8_14 : decode prog_20_method_8_code 14 = .ok (.invokevirtual 93, 3) := by decide +kernel
theorem dc_prog_23_method_5_0 : decode prog_23_method_5_code 0 = .ok (.aload_n 0, 1) := by decide +kernel
theorem dc_prog_23_method_5_1 : decode prog_23_method_5_code 1 = .ok (.invokespecial 34, 3) := by decide +kernel
theorem dc_prog_22_method_4_0 : decode prog_22_method_4_code 0 = .ok (.aload_n 0, 1) := by decide +kernel
theorem dc_prog_22_method_4_1 : decode prog_22_method_4_code 1 = .ok (.bipush 64, 2) := by decide +kernel
theorem dc_prog_22_method_4_3 : decode prog_22_method_4_code 3 = .ok (.newarray .long, 2) := by decide +kernel
theorem dc_prog_22_method_4_5 : decode prog_22_method_4_code 5 = .ok (.putfield 9, 3) := by decide +kernel
theorem dc_prog_22_method_4_8 : decode prog_22_method_4_code 8 = .ok (.aload_n 0, 1) := by decide +kernel
theorem dc_prog_22_method_4_9 : decode prog_22_method_4_code 9 = .ok (.bipush 64, 2) := by decide +kernel
theorem dc_prog_22_method_4_11 : decode prog_22_method_4_code 11 = .ok (.anewarray 4, 3) := by decide +kernel
theorem dc_prog_22_method_4_14 : decode prog_22_method_4_code 14 = .ok (.putfield 15, 3) := by decide +kernel
theorem dc_prog_22_method_4_17 : decode prog_22_method_4_code 17 = .ok (.aload_n 0, 1) := by decide +kernel
theorem dc_prog_22_method_4_18 : decode prog_22_method_4_code 18 = .ok (.iconst 0, 1) := by decide +kernel
theorem dc_prog_22_method_4_19 : decode prog_22_method_4_code 19 = .ok (.putfield 19, 3) := by decide +kernel
theorem dc_prog_22_method_4_22 : decode prog_22_method_4_code 22 = .ok (.return_, 1) := by decide +kernel
theorem pn_4 : plainFor yN4 = true := by first | (apply plainFor_of_name; simp [plainName, overriddenIn]; done) | decide +kernel
set_option maxRecDepth 65536 in
set_option maxHeartbeats 40000000 in
theorem u_SequenceQueue_Part_clear_12 (l : Launch) (Z : State) (a0 : Array Value) (hw : ∀ d ∈ tables_1, d.before a0 Z = true) (F : List Ent) (pA0 pA1 pA2 : Addr) (kA0 kA1 kA2 kA3 kA4 kA5 : Int64)  :
    Met l Z yN4 prog_22_method_4_code 1 none { frames := 0, cells := 2, slots := 128, locals := 0 } #[(.ref pA0)] ((pA0, oRun (.ref pA1) (.ref pA2) (.int (0 : Int32)) (.int (0 : Int32))) :: (pA1, .inr (.long, (oK64 (.long kA0) (.long kA1) (.long kA2) (.long kA3) (.long kA4) (.long kA5)), true)) :: (pA2, .inr (.object "java/lang/Object", (oE64 .null .null .null .null .null .null), true)) :: F) (fun r M' => (∃ sA0 sA1 : Addr, r = none ∧ M' = ((sA0, .inr (.object "java/lang/Object", (oE64 .null .null .null .null .null .null), true)) :: (sA1, .inr (.long, (oK64 (.long (0 : Int64)) (.long (0 : Int64)) (.long (0 : Int64)) (.long (0 : Int64)) (.long (0 : Int64)) (.long (0 : Int64))), true)) :: (pA0, oRun (.ref sA1) (.ref sA0) (.int (0 : Int32)) (.int (0 : Int32))) :: (pA1, .inr (.long, (oK64 (.long kA0) (.long kA1) (.long kA2) (.long kA3) (.long kA4) (.long kA5)), true)) :: (pA2, .inr (.object "java/lang/Object", (oE64 .null .null .null .null .null .null), true)) :: F))) := by
  refine Met.of_go pn_4 (Ls := #[.val (.ref pA0)]) (fun m => by first | rfl | (simp [entryFrame, mkF, argsToLocals, Value.category, maxLocals]; done)) ?_
  intro E C
  refine Go.aloadN C dc_prog_22_method_4_0 (q := 1) rfl rfl rfl ?_
  refine Go.bipush C dc_prog_22_method_4_1 (q := 3) rfl (v := (64 : Int32)) (by decide) ?_
  refine Go.newarray C (ty := .long) (wd hw 21 rfl) rfl (by simp) (by decide) (cap := 64) (by decide) (by decide) (vs := (oK64 (.long (0 : Int64)) (.long (0 : Int64)) (.long (0 : Int64)) (.long (0 : Int64)) (.long (0 : Int64)) (.long (0 : Int64)))) rfl dc_prog_22_method_4_3 (q := 5) rfl (by decide) (by decide) (k' := 1) (n' := 64) rfl rfl (fun o8 => ?_)
  refine Go.putF C (host := "") (i := 1) (j := 0) (Or.inl (wd hw 22 rfl)) Via.refl rfl rfl (Or.inl (wd hw 23 rfl)) (wd hw 10 rfl) (ty := (.array .long)) (by decide) rfl rfl dc_prog_22_method_4_5 (q := 8) rfl (M' := ((o8, .inr (.long, (oK64 (.long (0 : Int64)) (.long (0 : Int64)) (.long (0 : Int64)) (.long (0 : Int64)) (.long (0 : Int64)) (.long (0 : Int64))), true)) :: (pA0, oRun (.ref o8) (.ref pA2) (.int (0 : Int32)) (.int (0 : Int32))) :: (pA1, .inr (.long, (oK64 (.long kA0) (.long kA1) (.long kA2) (.long kA3) (.long kA4) (.long kA5)), true)) :: (pA2, .inr (.object "java/lang/Object", (oE64 .null .null .null .null .null .null), true)) :: F)) rfl ?_
  refine Go.aloadN C dc_prog_22_method_4_8 (q := 9) rfl rfl rfl ?_
  refine Go.bipush C dc_prog_22_method_4_9 (q := 11) rfl (v := (64 : Int32)) (by decide) ?_
  refine Go.anewarray C (wd hw 24 rfl) (wd hw 25 rfl) (by decide) (cap := 64) (by decide) (by decide) (vs := (oE64 .null .null .null .null .null .null)) rfl dc_prog_22_method_4_11 (q := 14) rfl (by decide) (by decide) (k' := 2) (n' := 128) rfl rfl (fun o9 => ?_)
  refine Go.putF C (host := "") (i := 2) (j := 1) (Or.inl (wd hw 26 rfl)) Via.refl rfl rfl (Or.inl (wd hw 27 rfl)) (wd hw 10 rfl) (ty := (.array (.object "java/lang/Object"))) (by decide) rfl rfl dc_prog_22_method_4_14 (q := 17) rfl (M' := ((o9, .inr (.object "java/lang/Object", (oE64 .null .null .null .null .null .null), true)) :: (o8, .inr (.long, (oK64 (.long (0 : Int64)) (.long (0 : Int64)) (.long (0 : Int64)) (.long (0 : Int64)) (.long (0 : Int64)) (.long (0 : Int64))), true)) :: (pA0, oRun (.ref o8) (.ref o9) (.int (0 : Int32)) (.int (0 : Int32))) :: (pA1, .inr (.long, (oK64 (.long kA0) (.long kA1) (.long kA2) (.long kA3) (.long kA4) (.long kA5)), true)) :: (pA2, .inr (.object "java/lang/Object", (oE64 .null .null .null .null .null .null), true)) :: F)) rfl ?_
  refine Go.aloadN C dc_prog_22_method_4_17 (q := 18) rfl rfl rfl ?_
  refine Go.iconst C dc_prog_22_method_4_18 (q := 19) rfl (v := (0 : Int32)) rfl ?_
  refine Go.putF C (host := "") (i := 2) (j := 2) (Or.inl (wd hw 76 rfl)) Via.refl rfl rfl (Or.inl (wd hw 65 rfl)) (wd hw 10 rfl) (ty := .int) (by decide) rfl rfl dc_prog_22_method_4_19 (q := 22) rfl (M' := ((o9, .inr (.object "java/lang/Object", (oE64 .null .null .null .null .null .null), true)) :: (o8, .inr (.long, (oK64 (.long (0 : Int64)) (.long (0 : Int64)) (.long (0 : Int64)) (.long (0 : Int64)) (.long (0 : Int64)) (.long (0 : Int64))), true)) :: (pA0, oRun (.ref o8) (.ref o9) (.int (0 : Int32)) (.int (0 : Int32))) :: (pA1, .inr (.long, (oK64 (.long kA0) (.long kA1) (.long kA2) (.long kA3) (.long kA4) (.long kA5)), true)) :: (pA2, .inr (.object "java/lang/Object", (oE64 .null .null .null .null .null .null), true)) :: F)) rfl ?_
  refine Go.ret0 C rfl dc_prog_22_method_4_22 (by decide) (by decide) ?_
  exact ⟨_, _, rfl, rfl⟩
theorem dc_prog_23_method_5_4 : decode prog_23_method_5_code 4 = .ok (.aload_n 0, 1) := by decide +kernel
theorem dc_prog_23_method_5_5 : decode prog_23_method_5_code 5 = .ok (.iconst 0, 1) := by decide +kernel
theorem dc_prog_23_method_5_6 : decode prog_23_method_5_code 6 = .ok (.putfield 28, 3) := by decide +kernel
theorem dc_prog_23_method_5_9 : decode prog_23_method_5_code 9 = .ok (.return_, 1) := by decide +kernel
theorem pn_5 : plainFor yN5 = true := by first | (apply plainFor_of_name; simp [plainName, overriddenIn]; done) | decide +kernel
set_option maxRecDepth 65536 in
set_option maxHeartbeats 40000000 in
theorem u_SequenceQueue_Run_clear_11 (l : Launch) (Z : State) (a0 : Array Value) (hw : ∀ d ∈ tables_1, d.before a0 Z = true) (F : List Ent) (pA0 pA1 pA2 : Addr) (kA0 kA1 kA2 kA3 kA4 kA5 : Int64)  :
    Met l Z yN5 prog_23_method_5_code 1 none { frames := 1, cells := 2, slots := 128, locals := 12 } #[(.ref pA0)] ((pA0, oRun (.ref pA1) (.ref pA2) (.int (0 : Int32)) (.int (0 : Int32))) :: (pA1, .inr (.long, (oK64 (.long kA0) (.long kA1) (.long kA2) (.long kA3) (.long kA4) (.long kA5)), true)) :: (pA2, .inr (.object "java/lang/Object", (oE64 .null .null .null .null .null .null), true)) :: F) (fun r M' => (∃ sA0 sA1 : Addr, r = none ∧ M' = ((sA0, .inr (.object "java/lang/Object", (oE64 .null .null .null .null .null .null), true)) :: (sA1, .inr (.long, (oK64 (.long (0 : Int64)) (.long (0 : Int64)) (.long (0 : Int64)) (.long (0 : Int64)) (.long (0 : Int64)) (.long (0 : Int64))), true)) :: (pA0, oRun (.ref sA1) (.ref sA0) (.int (0 : Int32)) (.int (0 : Int32))) :: (pA1, .inr (.long, (oK64 (.long kA0) (.long kA1) (.long kA2) (.long kA3) (.long kA4) (.long kA5)), true)) :: (pA2, .inr (.object "java/lang/Object", (oE64 .null .null .null .null .null .null), true)) :: F))) := by
  refine Met.of_go pn_5 (Ls := #[.val (.ref pA0)]) (fun m => by first | rfl | (simp [entryFrame, mkF, argsToLocals, Value.category, maxLocals]; done)) ?_
  intro E C
  refine Go.aloadN C dc_prog_23_method_5_0 (q := 1) rfl rfl rfl ?_
  refine Go.callSup C (y := yN4) (a := pA0) (as := []) (rest := []) (wd hw 117 rfl) (same_of_sel (y := yN4) (by decide) (wd hw 124 rfl)) (wd hw 118 rfl) (wd hw 119 rfl) (by decide) (wd hw 121 rfl) (wd hw 18 rfl) (fun _ r => r.exa 0 rfl) (u_SequenceQueue_Part_clear_12 l Z a0 hw _ pA0 pA1 pA2 kA0 kA1 kA2 kA3 kA4 kA5) rfl dc_prog_23_method_5_1 (q := 4) rfl (by decide) rfl (na := 0) (by decide +kernel) rfl (by decide) (W := 0) rfl (by decide) (by decide) (by decide) (k' := 2) (n' := 128) rfl rfl ?_
  rintro _ _ ⟨o8, o9, rfl, rfl⟩
  show Go _ _ _ _ _ _ _ _ _ _ []
  refine Go.aloadN C dc_prog_23_method_5_4 (q := 5) rfl rfl rfl ?_
  refine Go.iconst C dc_prog_23_method_5_5 (q := 6) rfl (v := (0 : Int32)) rfl ?_
  refine Go.putF C (host := "") (i := 2) (j := 3) (Or.inl (wd hw 82 rfl)) Via.refl rfl rfl (Or.inl (wd hw 83 rfl)) (wd hw 10 rfl) (ty := .int) (by decide) rfl rfl dc_prog_23_method_5_6 (q := 9) rfl (M' := ((o8, .inr (.object "java/lang/Object", (oE64 .null .null .null .null .null .null), true)) :: (o9, .inr (.long, (oK64 (.long (0 : Int64)) (.long (0 : Int64)) (.long (0 : Int64)) (.long (0 : Int64)) (.long (0 : Int64)) (.long (0 : Int64))), true)) :: (pA0, oRun (.ref o9) (.ref o8) (.int (0 : Int32)) (.int (0 : Int32))) :: (pA1, .inr (.long, (oK64 (.long kA0) (.long kA1) (.long kA2) (.long kA3) (.long kA4) (.long kA5)), true)) :: (pA2, .inr (.object "java/lang/Object", (oE64 .null .null .null .null .null .null), true)) :: F)) rfl ?_
  refine Go.ret0 C rfl dc_prog_23_method_5_9 (by decide) (by decide) ?_
  exact ⟨_, _, rfl, rfl⟩
theorem dc_prog_20_method_8_17 : decode prog_20_method_8_code 17 = .ok (.aload_n 0, 1) := by decide +kernel
theorem dc_prog_20_method_8_18 : decode prog_20_method_8_code 18 = .ok (.getfield 21, 3) := by decide +kernel
theorem dc_prog_20_method_8_21 : decode prog_20_method_8_code 21 = .ok (.invokevirtual 96, 3) := by decide +kernel
set_option maxRecDepth 65536 in
set_option maxHeartbeats 40000000 in
theorem u_SequenceQueue_Part_clear_15 (l : Launch) (Z : State) (a0 : Array Value) (hw : ∀ d ∈ tables_1, d.before a0 Z = true) (F : List Ent) (pA0 pA1 pA2 : Addr) (kA0 kA1 kA2 kA3 kA4 kA5 : Int64)  :
    Met l Z yN4 prog_22_method_4_code 1 none { frames := 0, cells := 2, slots := 128, locals := 0 } #[(.ref pA0)] ((pA0, oHeap (.ref pA1) (.ref pA2) (.int (0 : Int32))) :: (pA1, .inr (.long, (oK64 (.long kA0) (.long kA1) (.long kA2) (.long kA3) (.long kA4) (.long kA5)), true)) :: (pA2, .inr (.object "java/lang/Object", (oE64 .null .null .null .null .null .null), true)) :: F) (fun r M' => (∃ sA0 sA1 : Addr, r = none ∧ M' = ((sA0, .inr (.object "java/lang/Object", (oE64 .null .null .null .null .null .null), true)) :: (sA1, .inr (.long, (oK64 (.long (0 : Int64)) (.long (0 : Int64)) (.long (0 : Int64)) (.long (0 : Int64)) (.long (0 : Int64)) (.long (0 : Int64))), true)) :: (pA0, oHeap (.ref sA1) (.ref sA0) (.int (0 : Int32))) :: (pA1, .inr (.long, (oK64 (.long kA0) (.long kA1) (.long kA2) (.long kA3) (.long kA4) (.long kA5)), true)) :: (pA2, .inr (.object "java/lang/Object", (oE64 .null .null .null .null .null .null), true)) :: F))) := by
  refine Met.of_go pn_4 (Ls := #[.val (.ref pA0)]) (fun m => by first | rfl | (simp [entryFrame, mkF, argsToLocals, Value.category, maxLocals]; done)) ?_
  intro E C
  refine Go.aloadN C dc_prog_22_method_4_0 (q := 1) rfl rfl rfl ?_
  refine Go.bipush C dc_prog_22_method_4_1 (q := 3) rfl (v := (64 : Int32)) (by decide) ?_
  refine Go.newarray C (ty := .long) (wd hw 21 rfl) rfl (by simp) (by decide) (cap := 64) (by decide) (by decide) (vs := (oK64 (.long (0 : Int64)) (.long (0 : Int64)) (.long (0 : Int64)) (.long (0 : Int64)) (.long (0 : Int64)) (.long (0 : Int64)))) rfl dc_prog_22_method_4_3 (q := 5) rfl (by decide) (by decide) (k' := 1) (n' := 64) rfl rfl (fun o10 => ?_)
  refine Go.putF C (host := "") (i := 1) (j := 0) (Or.inl (wd hw 22 rfl)) Via.refl rfl rfl (Or.inl (wd hw 37 rfl)) (wd hw 31 rfl) (ty := (.array .long)) (by decide) rfl rfl dc_prog_22_method_4_5 (q := 8) rfl (M' := ((o10, .inr (.long, (oK64 (.long (0 : Int64)) (.long (0 : Int64)) (.long (0 : Int64)) (.long (0 : Int64)) (.long (0 : Int64)) (.long (0 : Int64))), true)) :: (pA0, oHeap (.ref o10) (.ref pA2) (.int (0 : Int32))) :: (pA1, .inr (.long, (oK64 (.long kA0) (.long kA1) (.long kA2) (.long kA3) (.long kA4) (.long kA5)), true)) :: (pA2, .inr (.object "java/lang/Object", (oE64 .null .null .null .null .null .null), true)) :: F)) rfl ?_
  refine Go.aloadN C dc_prog_22_method_4_8 (q := 9) rfl rfl rfl ?_
  refine Go.bipush C dc_prog_22_method_4_9 (q := 11) rfl (v := (64 : Int32)) (by decide) ?_
  refine Go.anewarray C (wd hw 24 rfl) (wd hw 25 rfl) (by decide) (cap := 64) (by decide) (by decide) (vs := (oE64 .null .null .null .null .null .null)) rfl dc_prog_22_method_4_11 (q := 14) rfl (by decide) (by decide) (k' := 2) (n' := 128) rfl rfl (fun o11 => ?_)
  refine Go.putF C (host := "") (i := 2) (j := 1) (Or.inl (wd hw 26 rfl)) Via.refl rfl rfl (Or.inl (wd hw 38 rfl)) (wd hw 31 rfl) (ty := (.array (.object "java/lang/Object"))) (by decide) rfl rfl dc_prog_22_method_4_14 (q := 17) rfl (M' := ((o11, .inr (.object "java/lang/Object", (oE64 .null .null .null .null .null .null), true)) :: (o10, .inr (.long, (oK64 (.long (0 : Int64)) (.long (0 : Int64)) (.long (0 : Int64)) (.long (0 : Int64)) (.long (0 : Int64)) (.long (0 : Int64))), true)) :: (pA0, oHeap (.ref o10) (.ref o11) (.int (0 : Int32))) :: (pA1, .inr (.long, (oK64 (.long kA0) (.long kA1) (.long kA2) (.long kA3) (.long kA4) (.long kA5)), true)) :: (pA2, .inr (.object "java/lang/Object", (oE64 .null .null .null .null .null .null), true)) :: F)) rfl ?_
  refine Go.aloadN C dc_prog_22_method_4_17 (q := 18) rfl rfl rfl ?_
  refine Go.iconst C dc_prog_22_method_4_18 (q := 19) rfl (v := (0 : Int32)) rfl ?_
  refine Go.putF C (host := "") (i := 2) (j := 2) (Or.inl (wd hw 76 rfl)) Via.refl rfl rfl (Or.inl (wd hw 100 rfl)) (wd hw 31 rfl) (ty := .int) (by decide) rfl rfl dc_prog_22_method_4_19 (q := 22) rfl (M' := ((o11, .inr (.object "java/lang/Object", (oE64 .null .null .null .null .null .null), true)) :: (o10, .inr (.long, (oK64 (.long (0 : Int64)) (.long (0 : Int64)) (.long (0 : Int64)) (.long (0 : Int64)) (.long (0 : Int64)) (.long (0 : Int64))), true)) :: (pA0, oHeap (.ref o10) (.ref o11) (.int (0 : Int32))) :: (pA1, .inr (.long, (oK64 (.long kA0) (.long kA1) (.long kA2) (.long kA3) (.long kA4) (.long kA5)), true)) :: (pA2, .inr (.object "java/lang/Object", (oE64 .null .null .null .null .null .null), true)) :: F)) rfl ?_
  refine Go.ret0 C rfl dc_prog_22_method_4_22 (by decide) (by decide) ?_
  exact ⟨_, _, rfl, rfl⟩
theorem dc_prog_20_method_8_24 : decode prog_20_method_8_code 24 = .ok (.return_, 1) := by decide +kernel
theorem pn_6 : plainFor yN7 = true := by first | (apply plainFor_of_name; simp [plainName, overriddenIn]; done) | decide +kernel
set_option maxRecDepth 65536 in
set_option maxHeartbeats 40000000 in
theorem u_SequenceQueue_clear_10 (l : Launch) (Z : State) (a0 : Array Value) (hw : ∀ d ∈ tables_1, d.before a0 Z = true) (F : List Ent) (pA0 pA1 pA2 pA3 pA4 pA5 pA6 : Addr) (kA0 kA1 kA2 kA3 kA4 kA5 kA6 kA7 kA8 kA9 kA10 kA11 kA12 : Int64)  :
    Met l Z yN7 prog_20_method_8_code 1 none { frames := 2, cells := 4, slots := 256, locals := 24 } #[(.ref pA0)] ((pA0, oQ (.ref pA1) (.ref pA4) (.int (0 : Int32)) (.long kA0) .null) :: (pA1, oRun (.ref pA2) (.ref pA3) (.int (0 : Int32)) (.int (0 : Int32))) :: (pA2, .inr (.long, (oK64 (.long kA1) (.long kA2) (.long kA3) (.long kA4) (.long kA5) (.long kA6)), true)) :: (pA3, .inr (.object "java/lang/Object", (oE64 .null .null .null .null .null .null), true)) :: (pA4, oHeap (.ref pA5) (.ref pA6) (.int (0 : Int32))) :: (pA5, .inr (.long, (oK64 (.long kA7) (.long kA8) (.long kA9) (.long kA10) (.long kA11) (.long kA12)), true)) :: (pA6, .inr (.object "java/lang/Object", (oE64 .null .null .null .null .null .null), true)) :: F) (fun r M' => (∃ sA0 sA1 sA2 sA3 : Addr, r = none ∧ M' = ((sA0, .inr (.object "java/lang/Object", (oE64 .null .null .null .null .null .null), true)) :: (sA1, .inr (.long, (oK64 (.long (0 : Int64)) (.long (0 : Int64)) (.long (0 : Int64)) (.long (0 : Int64)) (.long (0 : Int64)) (.long (0 : Int64))), true)) :: (pA4, oHeap (.ref sA1) (.ref sA0) (.int (0 : Int32))) :: (pA5, .inr (.long, (oK64 (.long kA7) (.long kA8) (.long kA9) (.long kA10) (.long kA11) (.long kA12)), true)) :: (pA6, .inr (.object "java/lang/Object", (oE64 .null .null .null .null .null .null), true)) :: (sA2, .inr (.object "java/lang/Object", (oE64 .null .null .null .null .null .null), true)) :: (sA3, .inr (.long, (oK64 (.long (0 : Int64)) (.long (0 : Int64)) (.long (0 : Int64)) (.long (0 : Int64)) (.long (0 : Int64)) (.long (0 : Int64))), true)) :: (pA1, oRun (.ref sA3) (.ref sA2) (.int (0 : Int32)) (.int (0 : Int32))) :: (pA2, .inr (.long, (oK64 (.long kA1) (.long kA2) (.long kA3) (.long kA4) (.long kA5) (.long kA6)), true)) :: (pA3, .inr (.object "java/lang/Object", (oE64 .null .null .null .null .null .null), true)) :: (pA0, oQ (.ref pA1) (.ref pA4) (.int (0 : Int32)) (.long kA0) .null) :: F))) := by
  refine Met.of_go pn_6 (Ls := #[.val (.ref pA0)]) (fun m => by first | rfl | (simp [entryFrame, mkF, argsToLocals, Value.category, maxLocals]; done)) ?_
  intro E C
  refine Go.aloadN C dc_prog_20_method_8_0 (q := 1) rfl rfl rfl ?_
  refine Go.iconst C dc_prog_20_method_8_1 (q := 2) rfl (v := (0 : Int32)) rfl ?_
  refine Go.putF C (host := "") (i := 0) (j := 2) (Or.inl (wd hw 53 rfl)) Via.refl rfl rfl (Or.inl (wd hw 54 rfl)) (wd hw 1 rfl) (ty := .boolean) (by decide) rfl rfl dc_prog_20_method_8_2 (q := 5) rfl (M' := ((pA0, oQ (.ref pA1) (.ref pA4) (.int (0 : Int32)) (.long kA0) .null) :: (pA1, oRun (.ref pA2) (.ref pA3) (.int (0 : Int32)) (.int (0 : Int32))) :: (pA2, .inr (.long, (oK64 (.long kA1) (.long kA2) (.long kA3) (.long kA4) (.long kA5) (.long kA6)), true)) :: (pA3, .inr (.object "java/lang/Object", (oE64 .null .null .null .null .null .null), true)) :: (pA4, oHeap (.ref pA5) (.ref pA6) (.int (0 : Int32))) :: (pA5, .inr (.long, (oK64 (.long kA7) (.long kA8) (.long kA9) (.long kA10) (.long kA11) (.long kA12)), true)) :: (pA6, .inr (.object "java/lang/Object", (oE64 .null .null .null .null .null .null), true)) :: F)) rfl ?_
  refine Go.aloadN C dc_prog_20_method_8_5 (q := 6) rfl rfl rfl ?_
  refine Go.aconstNull C dc_prog_20_method_8_6 (q := 7) rfl ?_
  refine Go.putF C (host := "") (i := 0) (j := 4) (Or.inl (wd hw 57 rfl)) Via.refl rfl rfl (Or.inl (wd hw 58 rfl)) (wd hw 1 rfl) (ty := (.object "java/lang/Object")) (by decide) rfl rfl dc_prog_20_method_8_7 (q := 10) rfl (M' := ((pA0, oQ (.ref pA1) (.ref pA4) (.int (0 : Int32)) (.long kA0) .null) :: (pA1, oRun (.ref pA2) (.ref pA3) (.int (0 : Int32)) (.int (0 : Int32))) :: (pA2, .inr (.long, (oK64 (.long kA1) (.long kA2) (.long kA3) (.long kA4) (.long kA5) (.long kA6)), true)) :: (pA3, .inr (.object "java/lang/Object", (oE64 .null .null .null .null .null .null), true)) :: (pA4, oHeap (.ref pA5) (.ref pA6) (.int (0 : Int32))) :: (pA5, .inr (.long, (oK64 (.long kA7) (.long kA8) (.long kA9) (.long kA10) (.long kA11) (.long kA12)), true)) :: (pA6, .inr (.object "java/lang/Object", (oE64 .null .null .null .null .null .null), true)) :: F)) rfl ?_
  refine Go.aloadN C dc_prog_20_method_8_10 (q := 11) rfl rfl rfl ?_
  refine Go.getF C (host := "") (Or.inl (wd hw 28 rfl)) Via.refl (fun _ r => r.fld 0 0 rfl rfl) dc_prog_20_method_8_11 (q := 14) rfl ?_
  refine Go.pick (M' := ((pA1, oRun (.ref pA2) (.ref pA3) (.int (0 : Int32)) (.int (0 : Int32))) :: (pA2, .inr (.long, (oK64 (.long kA1) (.long kA2) (.long kA3) (.long kA4) (.long kA5) (.long kA6)), true)) :: (pA3, .inr (.object "java/lang/Object", (oE64 .null .null .null .null .null .null), true)) :: (pA0, oQ (.ref pA1) (.ref pA4) (.int (0 : Int32)) (.long kA0) .null) :: (pA4, oHeap (.ref pA5) (.ref pA6) (.int (0 : Int32))) :: (pA5, .inr (.long, (oK64 (.long kA7) (.long kA8) (.long kA9) (.long kA10) (.long kA11) (.long kA12)), true)) :: (pA6, .inr (.object "java/lang/Object", (oE64 .null .null .null .null .null .null), true)) :: F)) 7 [1, 2, 3, 0, 4, 5, 6] (by decide) (by decide) rfl ?_
  refine Go.callV C (y := yN5) (z := yN5) (a := pA1) (as := []) (rest := []) (wd hw 112 rfl) (wd hw 113 rfl) (nf_sel (z := yN5) (wd hw 115 rfl)) (wd hw 115 rfl) (wd hw 114 rfl) (wd hw 116 rfl) (wd hw 11 rfl) (fun _ r => r.exa 0 rfl) (u_SequenceQueue_Run_clear_11 l Z a0 hw _ pA1 pA2 pA3 kA1 kA2 kA3 kA4 kA5 kA6) rfl dc_prog_20_method_8_14 (q := 17) rfl (by decide) rfl (na := 0) (by decide +kernel) rfl (by decide) (W := 0) rfl (by decide) (by decide) (by decide) (k' := 2) (n' := 128) rfl rfl ?_
  rintro _ _ ⟨o8, o9, rfl, rfl⟩
  show Go _ _ _ _ _ _ _ _ _ _ []
  refine Go.aloadN C dc_prog_20_method_8_17 (q := 18) rfl rfl rfl ?_
  refine Go.getF C (host := "") (Or.inl (wd hw 39 rfl)) Via.refl (fun _ r => r.fld 5 1 rfl rfl) dc_prog_20_method_8_18 (q := 21) rfl ?_
  refine Go.pick (M' := ((pA4, oHeap (.ref pA5) (.ref pA6) (.int (0 : Int32))) :: (pA5, .inr (.long, (oK64 (.long kA7) (.long kA8) (.long kA9) (.long kA10) (.long kA11) (.long kA12)), true)) :: (pA6, .inr (.object "java/lang/Object", (oE64 .null .null .null .null .null .null), true)) :: (o8, .inr (.object "java/lang/Object", (oE64 .null .null .null .null .null .null), true)) :: (o9, .inr (.long, (oK64 (.long (0 : Int64)) (.long (0 : Int64)) (.long (0 : Int64)) (.long (0 : Int64)) (.long (0 : Int64)) (.long (0 : Int64))), true)) :: (pA1, oRun (.ref o9) (.ref o8) (.int (0 : Int32)) (.int (0 : Int32))) :: (pA2, .inr (.long, (oK64 (.long kA1) (.long kA2) (.long kA3) (.long kA4) (.long kA5) (.long kA6)), true)) :: (pA3, .inr (.object "java/lang/Object", (oE64 .null .null .null .null .null .null), true)) :: (pA0, oQ (.ref pA1) (.ref pA4) (.int (0 : Int32)) (.long kA0) .null) :: F)) 9 [6, 7, 8, 0, 1, 2, 3, 4, 5] (by decide) (by decide) rfl ?_
  refine Go.callU C (y := yN6) (z := yN4) (owner := "com/example/ordered_dispatch/ordereddispatch/SequenceQueue$Part") (a := pA4) (as := []) (rest := []) (wd hw 122 rfl) (wd hw 123 rfl) (wd hw 120 rfl) (wd hw 124 rfl) (wd hw 118 rfl) (wd hw 121 rfl) (wd hw 18 rfl) (fun _ r => r.exa 0 rfl) (u_SequenceQueue_Part_clear_15 l Z a0 hw _ pA4 pA5 pA6 kA7 kA8 kA9 kA10 kA11 kA12) rfl dc_prog_20_method_8_21 (q := 24) rfl (by decide) rfl (na := 0) (by decide +kernel) rfl (by decide) (W := 0) rfl (by decide) (by decide) (by decide) (k' := 4) (n' := 256) rfl rfl ?_
  rintro _ _ ⟨o10, o11, rfl, rfl⟩
  show Go _ _ _ _ _ _ _ _ _ _ []
  refine Go.ret0 C rfl dc_prog_20_method_8_24 (by decide) (by decide) ?_
  exact ⟨_, _, _, _, rfl, rfl⟩
theorem dc_prog_20_method_4_0 : decode prog_20_method_4_code 0 = .ok (.aload_n 0, 1) := by decide +kernel
theorem dc_prog_20_method_4_1 : decode prog_20_method_4_code 1 = .ok (.getfield 25, 3) := by decide +kernel
theorem dc_prog_20_method_4_4 : decode prog_20_method_4_code 4 = .ok (.ifCond .ne 27, 3) := by decide +kernel
theorem dc_prog_20_method_4_7 : decode prog_20_method_4_code 7 = .ok (.aload_n 0, 1) := by decide +kernel
theorem dc_prog_20_method_4_8 : decode prog_20_method_4_code 8 = .ok (.getfield 12, 3) := by decide +kernel
theorem dc_prog_20_method_4_11 : decode prog_20_method_4_code 11 = .ok (.getfield 41, 3) := by decide +kernel
theorem dc_prog_20_method_4_14 : decode prog_20_method_4_code 14 = .ok (.ifCond .ne 17, 3) := by decide +kernel
theorem dc_prog_20_method_4_17 : decode prog_20_method_4_code 17 = .ok (.aload_n 0, 1) := by decide +kernel
theorem dc_prog_20_method_4_18 : decode prog_20_method_4_code 18 = .ok (.getfield 21, 3) := by decide +kernel
theorem dc_prog_20_method_4_21 : decode prog_20_method_4_code 21 = .ok (.getfield 52, 3) := by decide +kernel
theorem dc_prog_20_method_4_24 : decode prog_20_method_4_code 24 = .ok (.ifCond .ne 7, 3) := by decide +kernel
theorem dc_prog_20_method_4_27 : decode prog_20_method_4_code 27 = .ok (.iconst 1, 1) := by decide +kernel
theorem dc_prog_20_method_4_28 : decode prog_20_method_4_code 28 = .ok (.goto 4, 3) := by decide +kernel
theorem dc_prog_20_method_4_32 : decode prog_20_method_4_code 32 = .ok (.ireturn, 1) := by decide +kernel
theorem pn_7 : plainFor yN8 = true := by first | (apply plainFor_of_name; simp [plainName, overriddenIn]; done) | decide +kernel
set_option maxRecDepth 65536 in
set_option maxHeartbeats 40000000 in
theorem u_SequenceQueue_isEmpty_18 (l : Launch) (Z : State) (a0 : Array Value) (hw : ∀ d ∈ tables_1, d.before a0 Z = true) (F : List Ent) (pA0 pA1 pA2 pA3 pA4 pA5 pA6 : Addr) (kA0 kA1 kA2 kA3 kA4 kA5 kA6 kA7 kA8 kA9 kA10 kA11 kA12 : Int64)  :
    Met l Z yN8 prog_20_method_4_code 1 (some .boolean) { frames := 0, cells := 0, slots := 0, locals := 0 } #[(.ref pA0)] ((pA0, oQ (.ref pA1) (.ref pA4) (.int (0 : Int32)) (.long kA0) .null) :: (pA1, oRun (.ref pA2) (.ref pA3) (.int (0 : Int32)) (.int (0 : Int32))) :: (pA2, .inr (.long, (oK64 (.long kA1) (.long kA2) (.long kA3) (.long kA4) (.long kA5) (.long kA6)), true)) :: (pA3, .inr (.object "java/lang/Object", (oE64 .null .null .null .null .null .null), true)) :: (pA4, oHeap (.ref pA5) (.ref pA6) (.int (0 : Int32))) :: (pA5, .inr (.long, (oK64 (.long kA7) (.long kA8) (.long kA9) (.long kA10) (.long kA11) (.long kA12)), true)) :: (pA6, .inr (.object "java/lang/Object", (oE64 .null .null .null .null .null .null), true)) :: F) (fun r M' => (r = (some (.int (1 : Int32))) ∧ M' = ((pA0, oQ (.ref pA1) (.ref pA4) (.int (0 : Int32)) (.long kA0) .null) :: (pA1, oRun (.ref pA2) (.ref pA3) (.int (0 : Int32)) (.int (0 : Int32))) :: (pA2, .inr (.long, (oK64 (.long kA1) (.long kA2) (.long kA3) (.long kA4) (.long kA5) (.long kA6)), true)) :: (pA3, .inr (.object "java/lang/Object", (oE64 .null .null .null .null .null .null), true)) :: (pA4, oHeap (.ref pA5) (.ref pA6) (.int (0 : Int32))) :: (pA5, .inr (.long, (oK64 (.long kA7) (.long kA8) (.long kA9) (.long kA10) (.long kA11) (.long kA12)), true)) :: (pA6, .inr (.object "java/lang/Object", (oE64 .null .null .null .null .null .null), true)) :: F))) := by
  refine Met.of_go pn_7 (Ls := #[.val (.ref pA0)]) (fun m => by first | rfl | (simp [entryFrame, mkF, argsToLocals, Value.category, maxLocals]; done)) ?_
  intro E C
  refine Go.aloadN C dc_prog_20_method_4_0 (q := 1) rfl rfl rfl ?_
  refine Go.getF C (host := "") (Or.inl (wd hw 53 rfl)) Via.refl (fun _ r => r.fld 0 2 rfl rfl) dc_prog_20_method_4_1 (q := 4) rfl ?_
  refine Go.ifNo C dc_prog_20_method_4_4 (q := 7) rfl (XT.i0_ne_f (by decide)) ?_
  refine Go.aloadN C dc_prog_20_method_4_7 (q := 8) rfl rfl rfl ?_
  refine Go.getF C (host := "") (Or.inl (wd hw 28 rfl)) Via.refl (fun _ r => r.fld 0 0 rfl rfl) dc_prog_20_method_4_8 (q := 11) rfl ?_
  refine Go.getF C (host := "") (Or.inl (wd hw 63 rfl)) (Via.of (wd hw 64 rfl)) (fun _ r => r.fld 1 2 rfl rfl) dc_prog_20_method_4_11 (q := 14) rfl ?_
  refine Go.ifNo C dc_prog_20_method_4_14 (q := 17) rfl (XT.i0_ne_f (by decide)) ?_
  refine Go.aloadN C dc_prog_20_method_4_17 (q := 18) rfl rfl rfl ?_
  refine Go.getF C (host := "") (Or.inl (wd hw 39 rfl)) Via.refl (fun _ r => r.fld 0 1 rfl rfl) dc_prog_20_method_4_18 (q := 21) rfl ?_
  refine Go.getF C (host := "") (Or.inl (wd hw 130 rfl)) (Via.of (wd hw 102 rfl)) (fun _ r => r.fld 4 2 rfl rfl) dc_prog_20_method_4_21 (q := 24) rfl ?_
  refine Go.ifNo C dc_prog_20_method_4_24 (q := 27) rfl (XT.i0_ne_f (by decide)) ?_
  refine Go.iconst C dc_prog_20_method_4_27 (q := 28) rfl (v := (1 : Int32)) rfl ?_
  refine Go.goto C dc_prog_20_method_4_28 (by decide) (q := 32) rfl ?_
  refine Go.retZ C rfl (by decide) dc_prog_20_method_4_32 (by decide) (by decide) ?_
  exact ⟨rfl, rfl⟩
theorem dc_prog_20_method_5_0 : decode prog_20_method_5_code 0 = .ok (.ldc2_w 61, 3) := by decide +kernel
theorem dc_prog_20_method_5_3 : decode prog_20_method_5_code 3 = .ok (.lstore_n 1, 1) := by decide +kernel
theorem dc_prog_20_method_5_4 : decode prog_20_method_5_code 4 = .ok (.aload_n 0, 1) := by decide +kernel
theorem dc_prog_20_method_5_5 : decode prog_20_method_5_code 5 = .ok (.getfield 25, 3) := by decide +kernel
theorem dc_prog_20_method_5_8 : decode prog_20_method_5_code 8 = .ok (.ifCond .eq 8, 3) := by decide +kernel
theorem dc_prog_20_method_5_16 : decode prog_20_method_5_code 16 = .ok (.aload_n 0, 1) := by decide +kernel
theorem dc_prog_20_method_5_17 : decode prog_20_method_5_code 17 = .ok (.getfield 12, 3) := by decide +kernel
theorem dc_prog_20_method_5_20 : decode prog_20_method_5_code 20 = .ok (.getfield 41, 3) := by decide +kernel
theorem dc_prog_20_method_5_23 : decode prog_20_method_5_code 23 = .ok (.ifCond .le 23, 3) := by decide +kernel
theorem dc_prog_20_method_5_46 : decode prog_20_method_5_code 46 = .ok (.aload_n 0, 1) := by decide +kernel
theorem dc_prog_20_method_5_47 : decode prog_20_method_5_code 47 = .ok (.getfield 21, 3) := by decide +kernel
theorem dc_prog_20_method_5_50 : decode prog_20_method_5_code 50 = .ok (.getfield 52, 3) := by decide +kernel
theorem dc_prog_20_method_5_53 : decode prog_20_method_5_code 53 = .ok (.ifCond .le 17, 3) := by decide +kernel
theorem dc_prog_20_method_5_70 : decode prog_20_method_5_code 70 = .ok (.lload_n 1, 1) := by decide +kernel
theorem dc_prog_20_method_5_71 : decode prog_20_method_5_code 71 = .ok (.lreturn, 1) := by decide +kernel
theorem pn_8 : plainFor yN9 = true := by first | (apply plainFor_of_name; simp [plainName, overriddenIn]; done) | decide +kernel
set_option maxRecDepth 65536 in
set_option maxHeartbeats 40000000 in
theorem u_SequenceQueue_firstKey_20 (l : Launch) (Z : State) (a0 : Array Value) (hw : ∀ d ∈ tables_1, d.before a0 Z = true) (F : List Ent) (pA0 pA1 pA2 pA3 pA4 pA5 pA6 : Addr) (kA0 kA1 kA2 kA3 kA4 kA5 kA6 kA7 kA8 kA9 kA10 kA11 kA12 : Int64)  :
    Met l Z yN9 prog_20_method_5_code 3 (some .long) { frames := 0, cells := 0, slots := 0, locals := 0 } #[(.ref pA0)] ((pA0, oQ (.ref pA1) (.ref pA4) (.int (0 : Int32)) (.long kA0) .null) :: (pA1, oRun (.ref pA2) (.ref pA3) (.int (0 : Int32)) (.int (0 : Int32))) :: (pA2, .inr (.long, (oK64 (.long kA1) (.long kA2) (.long kA3) (.long kA4) (.long kA5) (.long kA6)), true)) :: (pA3, .inr (.object "java/lang/Object", (oE64 .null .null .null .null .null .null), true)) :: (pA4, oHeap (.ref pA5) (.ref pA6) (.int (0 : Int32))) :: (pA5, .inr (.long, (oK64 (.long kA7) (.long kA8) (.long kA9) (.long kA10) (.long kA11) (.long kA12)), true)) :: (pA6, .inr (.object "java/lang/Object", (oE64 .null .null .null .null .null .null), true)) :: F) (fun r M' => (r = (some (.long (9223372036854775807 : Int64))) ∧ M' = ((pA0, oQ (.ref pA1) (.ref pA4) (.int (0 : Int32)) (.long kA0) .null) :: (pA1, oRun (.ref pA2) (.ref pA3) (.int (0 : Int32)) (.int (0 : Int32))) :: (pA2, .inr (.long, (oK64 (.long kA1) (.long kA2) (.long kA3) (.long kA4) (.long kA5) (.long kA6)), true)) :: (pA3, .inr (.object "java/lang/Object", (oE64 .null .null .null .null .null .null), true)) :: (pA4, oHeap (.ref pA5) (.ref pA6) (.int (0 : Int32))) :: (pA5, .inr (.long, (oK64 (.long kA7) (.long kA8) (.long kA9) (.long kA10) (.long kA11) (.long kA12)), true)) :: (pA6, .inr (.object "java/lang/Object", (oE64 .null .null .null .null .null .null), true)) :: F))) := by
  refine Met.of_go pn_8 (Ls := #[.val (.ref pA0), .unset, .unset]) (fun m => by first | rfl | (simp [entryFrame, mkF, argsToLocals, Value.category, maxLocals]; done)) ?_
  intro E C
  refine Go.ldc2J C (v := (9223372036854775807 : Int64)) (wd hw 136 rfl) dc_prog_20_method_5_0 (q := 3) rfl ?_
  refine Go.lstoreN C dc_prog_20_method_5_3 (q := 4) rfl (Ls' := #[.val (.ref pA0), .val (.long (9223372036854775807 : Int64)), .second]) rfl ?_
  refine Go.aloadN C dc_prog_20_method_5_4 (q := 5) rfl rfl rfl ?_
  refine Go.getF C (host := "") (Or.inl (wd hw 53 rfl)) Via.refl (fun _ r => r.fld 0 2 rfl rfl) dc_prog_20_method_5_5 (q := 8) rfl ?_
  refine Go.ifYes C dc_prog_20_method_5_8 (by decide) (q := 16) rfl (XT.i0_eq_t (by decide)) ?_
  refine Go.aloadN C dc_prog_20_method_5_16 (q := 17) rfl rfl rfl ?_
  refine Go.getF C (host := "") (Or.inl (wd hw 28 rfl)) Via.refl (fun _ r => r.fld 0 0 rfl rfl) dc_prog_20_method_5_17 (q := 20) rfl ?_
  refine Go.getF C (host := "") (Or.inl (wd hw 63 rfl)) (Via.of (wd hw 64 rfl)) (fun _ r => r.fld 1 2 rfl rfl) dc_prog_20_method_5_20 (q := 23) rfl ?_
  refine Go.ifYes C dc_prog_20_method_5_23 (by decide) (q := 46) rfl (XT.i0_le_t (by decide)) ?_
  refine Go.aloadN C dc_prog_20_method_5_46 (q := 47) rfl rfl rfl ?_
  refine Go.getF C (host := "") (Or.inl (wd hw 39 rfl)) Via.refl (fun _ r => r.fld 0 1 rfl rfl) dc_prog_20_method_5_47 (q := 50) rfl ?_
  refine Go.getF C (host := "") (Or.inl (wd hw 130 rfl)) (Via.of (wd hw 102 rfl)) (fun _ r => r.fld 4 2 rfl rfl) dc_prog_20_method_5_50 (q := 53) rfl ?_
  refine Go.ifYes C dc_prog_20_method_5_53 (by decide) (q := 70) rfl (XT.i0_le_t (by decide)) ?_
  refine Go.lloadN C dc_prog_20_method_5_70 (q := 71) rfl rfl ?_
  refine Go.retL C rfl dc_prog_20_method_5_71 (by decide) (by decide) ?_
  exact ⟨rfl, rfl⟩
theorem dc_prog_20_method_6_0 : decode prog_20_method_6_code 0 = .ok (.new 69, 3) := by decide +kernel
theorem dc_prog_20_method_6_3 : decode prog_20_method_6_code 3 = .ok (.dup, 1) := by decide +kernel
theorem dc_prog_20_method_6_4 : decode prog_20_method_6_code 4 = .ok (.aload_n 0, 1) := by decide +kernel
theorem dc_prog_20_method_6_5 : decode prog_20_method_6_code 5 = .ok (.getfield 12, 3) := by decide +kernel
theorem dc_prog_20_method_6_8 : decode prog_20_method_6_code 8 = .ok (.getfield 41, 3) := by decide +kernel
theorem dc_prog_20_method_6_11 : decode prog_20_method_6_code 11 = .ok (.aload_n 0, 1) := by decide +kernel
theorem dc_prog_20_method_6_12 : decode prog_20_method_6_code 12 = .ok (.getfield 21, 3) := by decide +kernel
theorem dc_prog_20_method_6_15 : decode prog_20_method_6_code 15 = .ok (.getfield 52, 3) := by decide +kernel
theorem dc_prog_20_method_6_18 : decode prog_20_method_6_code 18 = .ok (.iadd, 1) := by decide +kernel
theorem dc_prog_20_method_6_19 : decode prog_20_method_6_code 19 = .ok (.iconst 1, 1) := by decide +kernel
theorem dc_prog_20_method_6_20 : decode prog_20_method_6_code 20 = .ok (.iadd, 1) := by decide +kernel
theorem dc_prog_20_method_6_21 : decode prog_20_method_6_code 21 = .ok (.invokespecial 71, 3) := by decide +kernel
theorem dc_jdk_38_method_1_0 : decode jdk_38_method_1_code 0 = .ok (.aload_n 0, 1) := by decide +kernel
theorem dc_jdk_38_method_1_1 : decode jdk_38_method_1_code 1 = .ok (.invokespecial 1, 3) := by decide +kernel
theorem dc_jdk_39_method_1_0 : decode jdk_39_method_1_code 0 = .ok (.aload_n 0, 1) := by decide +kernel
theorem dc_jdk_39_method_1_1 : decode jdk_39_method_1_code 1 = .ok (.invokespecial 1, 3) := by decide +kernel
theorem dc_jdk_22_method_1_0 : decode jdk_22_method_1_code 0 = .ok (.aload_n 0, 1) := by decide +kernel
theorem dc_jdk_22_method_1_1 : decode jdk_22_method_1_code 1 = .ok (.invokespecial 1, 3) := by decide +kernel
theorem dc_jdk_22_method_1_4 : decode jdk_22_method_1_code 4 = .ok (.return_, 1) := by decide +kernel
theorem pn_9 : plainFor yN10 = true := by first | (apply plainFor_of_name; simp [plainName, overriddenIn]; done) | decide +kernel
set_option maxRecDepth 65536 in
set_option maxHeartbeats 40000000 in
theorem u_AbstractCollection_init_25 (l : Launch) (Z : State) (a0 : Array Value) (hw : ∀ d ∈ tables_1, d.before a0 Z = true) (F : List Ent) (pA0 : Addr)  :
    Met l Z yN10 jdk_22_method_1_code 1 none { frames := 1, cells := 0, slots := 0, locals := 12 } #[(.ref pA0)] ((pA0, oAL (.int (0 : Int32)) .null (.int (0 : Int32))) :: F) (fun r M' => (r = none ∧ M' = ((pA0, oAL (.int (0 : Int32)) .null (.int (0 : Int32))) :: F))) := by
  refine Met.of_go pn_9 (Ls := #[.val (.ref pA0)]) (fun m => by first | rfl | (simp [entryFrame, mkF, argsToLocals, Value.category, maxLocals]; done)) ?_
  intro E C
  refine Go.aloadN C dc_jdk_22_method_1_0 (q := 1) rfl rfl rfl ?_
  refine Go.initO C (wd hw 161 rfl) (wd hw 7 rfl) (wd hw 8 rfl) dc_jdk_22_method_1_1 (q := 4) rfl rfl (by decide) (W := 0) rfl (by decide) ?_
  refine Go.ret0 C rfl dc_jdk_22_method_1_4 (by decide) (by decide) ?_
  exact ⟨rfl, rfl⟩
theorem dc_jdk_39_method_1_4 : decode jdk_39_method_1_code 4 = .ok (.aload_n 0, 1) := by decide +kernel
theorem dc_jdk_39_method_1_5 : decode jdk_39_method_1_code 5 = .ok (.iconst 0, 1) := by decide +kernel
theorem dc_jdk_39_method_1_6 : decode jdk_39_method_1_code 6 = .ok (.putfield 7, 3) := by decide +kernel
theorem dc_jdk_39_method_1_9 : decode jdk_39_method_1_code 9 = .ok (.return_, 1) := by decide +kernel
theorem pn_10 : plainFor yN11 = true := by first | (apply plainFor_of_name; simp [plainName, overriddenIn]; done) | decide +kernel
set_option maxRecDepth 65536 in
set_option maxHeartbeats 40000000 in
theorem u_AbstractList_init_24 (l : Launch) (Z : State) (a0 : Array Value) (hw : ∀ d ∈ tables_1, d.before a0 Z = true) (F : List Ent) (pA0 : Addr)  :
    Met l Z yN11 jdk_39_method_1_code 1 none { frames := 2, cells := 0, slots := 0, locals := 24 } #[(.ref pA0)] ((pA0, oAL (.int (0 : Int32)) .null (.int (0 : Int32))) :: F) (fun r M' => (r = none ∧ M' = ((pA0, oAL (.int (0 : Int32)) .null (.int (0 : Int32))) :: F))) := by
  refine Met.of_go pn_10 (Ls := #[.val (.ref pA0)]) (fun m => by first | rfl | (simp [entryFrame, mkF, argsToLocals, Value.category, maxLocals]; done)) ?_
  intro E C
  refine Go.aloadN C dc_jdk_39_method_1_0 (q := 1) rfl rfl rfl ?_
  refine Go.callI C (y := yN10) (a := pA0) (as := []) (rest := []) (wd hw 155 rfl) (wd hw 156 rfl) (wd hw 159 rfl) (wd hw 160 rfl) (u_AbstractCollection_init_25 l Z a0 hw _ pA0) rfl rfl dc_jdk_39_method_1_1 (q := 4) rfl (by decide) rfl (na := 0) (by decide +kernel) rfl (by decide) (W := 0) rfl (by decide) (by decide) (by decide) (k' := 0) (n' := 0) rfl rfl ?_
  rintro _ _ ⟨rfl, rfl⟩
  show Go _ _ _ _ _ _ _ _ _ _ []
  refine Go.aloadN C dc_jdk_39_method_1_4 (q := 5) rfl rfl rfl ?_
  refine Go.iconst C dc_jdk_39_method_1_5 (q := 6) rfl (v := (0 : Int32)) rfl ?_
  refine Go.putF C (host := "") (i := 0) (j := 0) (Or.inl (wd hw 162 rfl)) Via.refl rfl rfl (Or.inl (wd hw 163 rfl)) (wd hw 144 rfl) (ty := .int) (by decide) rfl rfl dc_jdk_39_method_1_6 (q := 9) rfl (M' := ((pA0, oAL (.int (0 : Int32)) .null (.int (0 : Int32))) :: F)) rfl ?_
  refine Go.ret0 C rfl dc_jdk_39_method_1_9 (by decide) (by decide) ?_
  exact ⟨rfl, rfl⟩
theorem dc_jdk_38_method_1_4 : decode jdk_38_method_1_code 4 = .ok (.iload_n 1, 1) := by decide +kernel
theorem dc_jdk_38_method_1_5 : decode jdk_38_method_1_code 5 = .ok (.ifCond .le 14, 3) := by decide +kernel
theorem dc_jdk_38_method_1_8 : decode jdk_38_method_1_code 8 = .ok (.aload_n 0, 1) := by decide +kernel
theorem dc_jdk_38_method_1_9 : decode jdk_38_method_1_code 9 = .ok (.iload_n 1, 1) := by decide +kernel
theorem dc_jdk_38_method_1_10 : decode jdk_38_method_1_code 10 = .ok (.anewarray 7, 3) := by decide +kernel
theorem dc_jdk_38_method_1_13 : decode jdk_38_method_1_code 13 = .ok (.putfield 9, 3) := by decide +kernel
theorem dc_jdk_38_method_1_16 : decode jdk_38_method_1_code 16 = .ok (.goto 44, 3) := by decide +kernel
theorem dc_jdk_38_method_1_60 : decode jdk_38_method_1_code 60 = .ok (.return_, 1) := by decide +kernel
theorem pn_11 : plainFor yN12 = true := by first | (apply plainFor_of_name; simp [plainName, overriddenIn]; done) | decide +kernel
set_option maxRecDepth 65536 in
set_option maxHeartbeats 40000000 in
theorem u_ArrayList_init_23 (l : Launch) (Z : State) (a0 : Array Value) (hw : ∀ d ∈ tables_1, d.before a0 Z = true) (F : List Ent) (pA0 : Addr)  :
    Met l Z yN12 jdk_38_method_1_code 2 none { frames := 3, cells := 1, slots := 1, locals := 36 } #[(.ref pA0), (.int (1 : Int32))] ((pA0, oAL (.int (0 : Int32)) .null (.int (0 : Int32))) :: F) (fun r M' => (∃ sA0 : Addr, r = none ∧ M' = ((sA0, .inr (.object "java/lang/Object", [.null], true)) :: (pA0, oAL (.int (0 : Int32)) (.ref sA0) (.int (0 : Int32))) :: F))) := by
  refine Met.of_go pn_11 (Ls := #[.val (.ref pA0), .val (.int (1 : Int32))]) (fun m => by first | rfl | (simp [entryFrame, mkF, argsToLocals, Value.category, maxLocals]; done)) ?_
  intro E C
  refine Go.aloadN C dc_jdk_38_method_1_0 (q := 1) rfl rfl rfl ?_
  refine Go.callI C (y := yN11) (a := pA0) (as := []) (rest := []) (wd hw 149 rfl) (wd hw 150 rfl) (wd hw 153 rfl) (wd hw 154 rfl) (u_AbstractList_init_24 l Z a0 hw _ pA0) rfl rfl dc_jdk_38_method_1_1 (q := 4) rfl (by decide) rfl (na := 0) (by decide +kernel) rfl (by decide) (W := 0) rfl (by decide) (by decide) (by decide) (k' := 0) (n' := 0) rfl rfl ?_
  rintro _ _ ⟨rfl, rfl⟩
  show Go _ _ _ _ _ _ _ _ _ _ []
  refine Go.iloadN C dc_jdk_38_method_1_4 (q := 5) rfl rfl ?_
  refine Go.ifNo C dc_jdk_38_method_1_5 (q := 8) rfl (XT.i0_le_f (by decide)) ?_
  refine Go.aloadN C dc_jdk_38_method_1_8 (q := 9) rfl rfl rfl ?_
  refine Go.iloadN C dc_jdk_38_method_1_9 (q := 10) rfl rfl ?_
  refine Go.anewarray C (wd hw 164 rfl) (wd hw 25 rfl) (by decide) (cap := 1) (by decide) (by decide) (vs := [.null]) rfl dc_jdk_38_method_1_10 (q := 13) rfl (by decide) (by decide) (k' := 1) (n' := 1) rfl rfl (fun o13 => ?_)
  refine Go.putF C (host := "") (i := 1) (j := 1) (Or.inl (wd hw 165 rfl)) Via.refl rfl rfl (Or.inl (wd hw 166 rfl)) (wd hw 144 rfl) (ty := (.array (.object "java/lang/Object"))) (by decide) rfl rfl dc_jdk_38_method_1_13 (q := 16) rfl (M' := ((o13, .inr (.object "java/lang/Object", [.null], true)) :: (pA0, oAL (.int (0 : Int32)) (.ref o13) (.int (0 : Int32))) :: F)) rfl ?_
  refine Go.goto C dc_jdk_38_method_1_16 (by decide) (q := 60) rfl ?_
  refine Go.ret0 C rfl dc_jdk_38_method_1_60 (by decide) (by decide) ?_
  exact ⟨_, rfl, rfl⟩
theorem dc_prog_20_method_6_24 : decode prog_20_method_6_code 24 = .ok (.astore_n 1, 1) := by decide +kernel
theorem dc_prog_20_method_6_25 : decode prog_20_method_6_code 25 = .ok (.aload_n 0, 1) := by decide +kernel
theorem dc_prog_20_method_6_26 : decode prog_20_method_6_code 26 = .ok (.getfield 25, 3) := by decide +kernel
theorem dc_prog_20_method_6_29 : decode prog_20_method_6_code 29 = .ok (.ifCond .eq 18, 3) := by decide +kernel
theorem dc_prog_20_method_6_47 : decode prog_20_method_6_code 47 = .ok (.iconst 0, 1) := by decide +kernel
theorem dc_prog_20_method_6_48 : decode prog_20_method_6_code 48 = .ok (.istore_n 2, 1) := by decide +kernel
theorem dc_prog_20_method_6_49 : decode prog_20_method_6_code 49 = .ok (.iload_n 2, 1) := by decide +kernel
theorem dc_prog_20_method_6_50 : decode prog_20_method_6_code 50 = .ok (.aload_n 0, 1) := by decide +kernel
theorem dc_prog_20_method_6_51 : decode prog_20_method_6_code 51 = .ok (.getfield 12, 3) := by decide +kernel
theorem dc_prog_20_method_6_54 : decode prog_20_method_6_code 54 = .ok (.getfield 41, 3) := by decide +kernel
theorem dc_prog_20_method_6_57 : decode prog_20_method_6_code 57 = .ok (.if_icmp .ge 36, 3) := by decide +kernel
theorem dc_prog_20_method_6_93 : decode prog_20_method_6_code 93 = .ok (.iconst 0, 1) := by decide +kernel
theorem dc_prog_20_method_6_94 : decode prog_20_method_6_code 94 = .ok (.istore_n 2, 1) := by decide +kernel
theorem dc_prog_20_method_6_95 : decode prog_20_method_6_code 95 = .ok (.iload_n 2, 1) := by decide +kernel
theorem dc_prog_20_method_6_96 : decode prog_20_method_6_code 96 = .ok (.aload_n 0, 1) := by decide +kernel
theorem dc_prog_20_method_6_97 : decode prog_20_method_6_code 97 = .ok (.getfield 21, 3) := by decide +kernel
theorem dc_prog_20_method_6_100 : decode prog_20_method_6_code 100 = .ok (.getfield 52, 3) := by decide +kernel
theorem dc_prog_20_method_6_103 : decode prog_20_method_6_code 103 = .ok (.if_icmp .ge 29, 3) := by decide +kernel
theorem dc_prog_20_method_6_132 : decode prog_20_method_6_code 132 = .ok (.aload_n 1, 1) := by decide +kernel
theorem dc_prog_20_method_6_133 : decode prog_20_method_6_code 133 = .ok (.areturn, 1) := by decide +kernel
theorem pn_12 : plainFor yN13 = true := by first | (apply plainFor_of_name; simp [plainName, overriddenIn]; done) | decide +kernel
set_option maxRecDepth 65536 in
set_option maxHeartbeats 40000000 in
theorem u_SequenceQueue_elements_22 (l : Launch) (Z : State) (a0 : Array Value) (hw : ∀ d ∈ tables_1, d.before a0 Z = true) (F : List Ent) (pA0 pA1 pA2 pA3 pA4 pA5 pA6 : Addr) (kA0 kA1 kA2 kA3 kA4 kA5 kA6 kA7 kA8 kA9 kA10 kA11 kA12 : Int64)  :
    Met l Z yN13 prog_20_method_6_code 3 (some (.object "java/util/List")) { frames := 4, cells := 2, slots := 4, locals := 50 } #[(.ref pA0)] ((pA0, oQ (.ref pA1) (.ref pA4) (.int (0 : Int32)) (.long kA0) .null) :: (pA1, oRun (.ref pA2) (.ref pA3) (.int (0 : Int32)) (.int (0 : Int32))) :: (pA2, .inr (.long, (oK64 (.long kA1) (.long kA2) (.long kA3) (.long kA4) (.long kA5) (.long kA6)), true)) :: (pA3, .inr (.object "java/lang/Object", (oE64 .null .null .null .null .null .null), true)) :: (pA4, oHeap (.ref pA5) (.ref pA6) (.int (0 : Int32))) :: (pA5, .inr (.long, (oK64 (.long kA7) (.long kA8) (.long kA9) (.long kA10) (.long kA11) (.long kA12)), true)) :: (pA6, .inr (.object "java/lang/Object", (oE64 .null .null .null .null .null .null), true)) :: F) (fun r M' => (∃ sA0 sA1 : Addr, r = (some (.ref sA1)) ∧ M' = ((sA0, .inr (.object "java/lang/Object", [.null], true)) :: (sA1, oAL (.int (0 : Int32)) (.ref sA0) (.int (0 : Int32))) :: (pA0, oQ (.ref pA1) (.ref pA4) (.int (0 : Int32)) (.long kA0) .null) :: (pA1, oRun (.ref pA2) (.ref pA3) (.int (0 : Int32)) (.int (0 : Int32))) :: (pA2, .inr (.long, (oK64 (.long kA1) (.long kA2) (.long kA3) (.long kA4) (.long kA5) (.long kA6)), true)) :: (pA3, .inr (.object "java/lang/Object", (oE64 .null .null .null .null .null .null), true)) :: (pA4, oHeap (.ref pA5) (.ref pA6) (.int (0 : Int32))) :: (pA5, .inr (.long, (oK64 (.long kA7) (.long kA8) (.long kA9) (.long kA10) (.long kA11) (.long kA12)), true)) :: (pA6, .inr (.object "java/lang/Object", (oE64 .null .null .null .null .null .null), true)) :: F))) := by
  refine Met.of_go pn_12 (Ls := #[.val (.ref pA0), .unset, .unset]) (fun m => by first | rfl | (simp [entryFrame, mkF, argsToLocals, Value.category, maxLocals]; done)) ?_
  intro E C
  refine Go.new C (wd hw 143 rfl) (wd hw 144 rfl) (wd hw 145 rfl) [(("java/util/AbstractList", "modCount", "I"), (.int (0 : Int32))), (("java/util/ArrayList", "elementData", "[Ljava/lang/Object;"), .null), (("java/util/ArrayList", "size", "I"), (.int (0 : Int32)))] ⟨⟨Or.inl (wd hw 163 rfl), .int, by decide, rfl⟩, ⟨Or.inl (wd hw 166 rfl), (.array (.object "java/lang/Object")), by decide, rfl⟩, ⟨Or.inl (wd hw 177 rfl), .int, by decide, rfl⟩, trivial⟩ (by decide) dc_prog_20_method_6_0 (q := 3) rfl (by decide) (by decide) (k' := 1) (n' := 3) rfl rfl (fun o12 => ?_)
  refine Go.dup C dc_prog_20_method_6_3 (q := 4) rfl rfl ?_
  refine Go.aloadN C dc_prog_20_method_6_4 (q := 5) rfl rfl rfl ?_
  refine Go.getF C (host := "") (Or.inl (wd hw 28 rfl)) Via.refl (fun _ r => r.fld 1 0 rfl rfl) dc_prog_20_method_6_5 (q := 8) rfl ?_
  refine Go.getF C (host := "") (Or.inl (wd hw 63 rfl)) (Via.of (wd hw 64 rfl)) (fun _ r => r.fld 2 2 rfl rfl) dc_prog_20_method_6_8 (q := 11) rfl ?_
  refine Go.aloadN C dc_prog_20_method_6_11 (q := 12) rfl rfl rfl ?_
  refine Go.getF C (host := "") (Or.inl (wd hw 39 rfl)) Via.refl (fun _ r => r.fld 1 1 rfl rfl) dc_prog_20_method_6_12 (q := 15) rfl ?_
  refine Go.getF C (host := "") (Or.inl (wd hw 130 rfl)) (Via.of (wd hw 102 rfl)) (fun _ r => r.fld 5 2 rfl rfl) dc_prog_20_method_6_15 (q := 18) rfl ?_
  refine Go.iadd C dc_prog_20_method_6_18 (q := 19) rfl ?_
  refine Go.castI (w := (0 : Int32)) (by decide) ?_
  refine Go.iconst C dc_prog_20_method_6_19 (q := 20) rfl (v := (1 : Int32)) rfl ?_
  refine Go.iadd C dc_prog_20_method_6_20 (q := 21) rfl ?_
  refine Go.castI (w := (1 : Int32)) (by decide) ?_
  refine Go.callI C (y := yN12) (a := o12) (as := [(.int (1 : Int32))]) (rest := [(.ref o12)]) (wd hw 146 rfl) (wd hw 147 rfl) (wd hw 145 rfl) (wd hw 148 rfl) (u_ArrayList_init_23 l Z a0 hw _ o12) rfl rfl dc_prog_20_method_6_21 (q := 24) rfl (by decide) rfl (na := 1) (by decide +kernel) rfl (by decide) (W := 1) rfl (by decide) (by decide) (by decide) (k' := 2) (n' := 4) rfl rfl ?_
  rintro _ _ ⟨o13, rfl, rfl⟩
  show Go _ _ _ _ _ _ _ _ _ _ [(.ref o12)]
  refine Go.astoreN C dc_prog_20_method_6_24 (q := 25) rfl rfl (Ls' := #[.val (.ref pA0), .val (.ref o12), .unset]) rfl ?_
  refine Go.aloadN C dc_prog_20_method_6_25 (q := 26) rfl rfl rfl ?_
  refine Go.getF C (host := "") (Or.inl (wd hw 53 rfl)) Via.refl (fun _ r => r.fld 2 2 rfl rfl) dc_prog_20_method_6_26 (q := 29) rfl ?_
  refine Go.ifYes C dc_prog_20_method_6_29 (by decide) (q := 47) rfl (XT.i0_eq_t (by decide)) ?_
  refine Go.iconst C dc_prog_20_method_6_47 (q := 48) rfl (v := (0 : Int32)) rfl ?_
  refine Go.istoreN C dc_prog_20_method_6_48 (q := 49) rfl (Ls' := #[.val (.ref pA0), .val (.ref o12), .val (.int (0 : Int32))]) rfl ?_
  refine Go.iloadN C dc_prog_20_method_6_49 (q := 50) rfl rfl ?_
  refine Go.aloadN C dc_prog_20_method_6_50 (q := 51) rfl rfl rfl ?_
  refine Go.getF C (host := "") (Or.inl (wd hw 28 rfl)) Via.refl (fun _ r => r.fld 2 0 rfl rfl) dc_prog_20_method_6_51 (q := 54) rfl ?_
  refine Go.getF C (host := "") (Or.inl (wd hw 63 rfl)) (Via.of (wd hw 64 rfl)) (fun _ r => r.fld 3 2 rfl rfl) dc_prog_20_method_6_54 (q := 57) rfl ?_
  refine Go.icmpYes C dc_prog_20_method_6_57 (by decide) (q := 93) rfl (XT.ii_ge_t (by decide)) ?_
  refine Go.iconst C dc_prog_20_method_6_93 (q := 94) rfl (v := (0 : Int32)) rfl ?_
  refine Go.istoreN C dc_prog_20_method_6_94 (q := 95) rfl (Ls' := #[.val (.ref pA0), .val (.ref o12), .val (.int (0 : Int32))]) rfl ?_
  refine Go.iloadN C dc_prog_20_method_6_95 (q := 96) rfl rfl ?_
  refine Go.aloadN C dc_prog_20_method_6_96 (q := 97) rfl rfl rfl ?_
  refine Go.getF C (host := "") (Or.inl (wd hw 39 rfl)) Via.refl (fun _ r => r.fld 2 1 rfl rfl) dc_prog_20_method_6_97 (q := 100) rfl ?_
  refine Go.getF C (host := "") (Or.inl (wd hw 130 rfl)) (Via.of (wd hw 102 rfl)) (fun _ r => r.fld 6 2 rfl rfl) dc_prog_20_method_6_100 (q := 103) rfl ?_
  refine Go.icmpYes C dc_prog_20_method_6_103 (by decide) (q := 132) rfl (XT.ii_ge_t (by decide)) ?_
  refine Go.aloadN C dc_prog_20_method_6_132 (q := 133) rfl rfl rfl ?_
  refine Go.retA C rfl rfl rfl dc_prog_20_method_6_133 (by decide) (by decide) ?_
  exact ⟨_, _, rfl, rfl⟩
theorem dc_jdk_38_method_8_0 : decode jdk_38_method_8_code 0 = .ok (.aload_n 0, 1) := by decide +kernel
theorem dc_jdk_38_method_8_1 : decode jdk_38_method_8_code 1 = .ok (.getfield 48, 3) := by decide +kernel
theorem dc_jdk_38_method_8_4 : decode jdk_38_method_8_code 4 = .ok (.ireturn, 1) := by decide +kernel
theorem pn_13 : plainFor yN14 = true := by first | (apply plainFor_of_name; simp [plainName, overriddenIn]; done) | decide +kernel
set_option maxRecDepth 65536 in
set_option maxHeartbeats 40000000 in
theorem u_ArrayList_size_30 (l : Launch) (Z : State) (a0 : Array Value) (hw : ∀ d ∈ tables_1, d.before a0 Z = true) (F : List Ent) (pA0 pA1 : Addr)  :
    Met l Z yN14 jdk_38_method_8_code 1 (some .int) { frames := 0, cells := 0, slots := 0, locals := 0 } #[(.ref pA0)] ((pA0, oAL (.int (0 : Int32)) (.ref pA1) (.int (0 : Int32))) :: (pA1, .inr (.object "java/lang/Object", [.null], true)) :: F) (fun r M' => (r = (some (.int (0 : Int32))) ∧ M' = ((pA0, oAL (.int (0 : Int32)) (.ref pA1) (.int (0 : Int32))) :: (pA1, .inr (.object "java/lang/Object", [.null], true)) :: F))) := by
  refine Met.of_go pn_13 (Ls := #[.val (.ref pA0)]) (fun m => by first | rfl | (simp [entryFrame, mkF, argsToLocals, Value.category, maxLocals]; done)) ?_
  intro E C
  refine Go.aloadN C dc_jdk_38_method_8_0 (q := 1) rfl rfl rfl ?_
  refine Go.getF C (host := "") (Or.inl (wd hw 176 rfl)) Via.refl (fun _ r => r.fld 0 2 rfl rfl) dc_jdk_38_method_8_1 (q := 4) rfl ?_
  refine Go.retI C rfl dc_jdk_38_method_8_4 (by decide) (by decide) ?_
  exact ⟨rfl, rfl⟩
theorem dc_jdk_33_method_22_0 : decode jdk_33_method_22_code 0 = .ok (.iload_n 0, 1) := by decide +kernel
theorem dc_jdk_33_method_22_1 : decode jdk_33_method_22_code 1 = .ok (.bipush (-128), 2) := by decide +kernel
theorem dc_jdk_33_method_22_3 : decode jdk_33_method_22_code 3 = .ok (.if_icmp .lt 20, 3) := by decide +kernel
theorem dc_jdk_33_method_22_6 : decode jdk_33_method_22_code 6 = .ok (.iload_n 0, 1) := by decide +kernel
theorem dc_jdk_33_method_22_7 : decode jdk_33_method_22_code 7 = .ok (.getstatic 191, 3) := by decide +kernel
theorem dc_jdk_33_method_22_10 : decode jdk_33_method_22_code 10 = .ok (.if_icmp .gt 13, 3) := by decide +kernel
theorem dc_jdk_33_method_22_13 : decode jdk_33_method_22_code 13 = .ok (.getstatic 195, 3) := by decide +kernel
theorem dc_jdk_33_method_22_16 : decode jdk_33_method_22_code 16 = .ok (.iload_n 0, 1) := by decide +kernel
theorem dc_jdk_33_method_22_17 : decode jdk_33_method_22_code 17 = .ok (.sipush 128, 3) := by decide +kernel
theorem dc_jdk_33_method_22_20 : decode jdk_33_method_22_code 20 = .ok (.iadd, 1) := by decide +kernel
theorem dc_jdk_33_method_22_21 : decode jdk_33_method_22_code 21 = .ok (.aaload, 1) := by decide +kernel
theorem dc_jdk_33_method_22_22 : decode jdk_33_method_22_code 22 = .ok (.areturn, 1) := by decide +kernel
theorem pn_14 : plainFor yN16 = true := by first | (apply plainFor_of_name; simp [plainName, overriddenIn]; done) | decide +kernel
set_option maxRecDepth 65536 in
set_option maxHeartbeats 40000000 in
theorem m_valueOf4 (l : Launch) (Z : State) (a0 : Array Value) (hw : ∀ d ∈ tables_1, d.before a0 Z = true) (F : List Ent) (cb : Addr) (cs : List Value) (S_high : Sta Z Z.heap "java/lang/Integer$IntegerCache" "high" "I" (.int (127 : Int32))) (S_cache : Sta Z Z.heap "java/lang/Integer$IntegerCache" "cache" "[Ljava/lang/Integer;" (.ref cb)) (A_cache : ArrIs Z Z.heap cb (.object "java/lang/Integer") cs) (H_cache : ∀ j : Nat, j < 256 → ∃ b, cs[j]? = some (.ref b) ∧ Exa Z Z.heap b "java/lang/Integer" ∧ Fld Z Z.heap b "java/lang/Integer" "value" "I" (.int (j.toInt32 - 128))) :
    Met l Z yN16 jdk_33_method_22_code 1 (some (.object "java/lang/Integer")) { frames := 0, cells := 0, slots := 0, locals := 0 } #[(.int (4 : Int32))] (F) (fun r M' => ∃ b, r = some (.ref b) ∧ M' = F ∧ Exa Z Z.heap b "java/lang/Integer" ∧ Fld Z Z.heap b "java/lang/Integer" "value" "I" (.int (4 : Int32))) := by
  refine Met.of_go pn_14 (Ls := #[.val (.int (4 : Int32))]) (fun m => by first | rfl | (simp [entryFrame, mkF, argsToLocals, Value.category, maxLocals]; done)) ?_
  intro E C
  refine Go.iloadN C dc_jdk_33_method_22_0 (q := 1) rfl rfl ?_
  refine Go.bipush C dc_jdk_33_method_22_1 (q := 3) rfl (v := (-128 : Int32)) (by decide) ?_
  refine Go.icmpNo C dc_jdk_33_method_22_3 (q := 6) rfl (XT.ii_lt_f (by decide)) ?_
  refine Go.iloadN C dc_jdk_33_method_22_6 (q := 7) rfl rfl ?_
  refine Go.getS C (host := "") (Or.inl (wd hw 45 rfl)) Via.refl S_high dc_jdk_33_method_22_7 (q := 10) rfl ?_
  refine Go.icmpNo C dc_jdk_33_method_22_10 (q := 13) rfl (XT.ii_gt_f (by decide)) ?_
  refine Go.getS C (host := "") (Or.inl (wd hw 47 rfl)) Via.refl S_cache dc_jdk_33_method_22_13 (q := 16) rfl ?_
  refine Go.iloadN C dc_jdk_33_method_22_16 (q := 17) rfl rfl ?_
  refine Go.sipush C dc_jdk_33_method_22_17 (q := 20) rfl (v := (128 : Int32)) (by decide) ?_
  refine Go.iadd C dc_jdk_33_method_22_20 (q := 21) rfl ?_
  refine Go.castI (w := (132 : Int32)) (by decide) ?_
  obtain ⟨b, hb1, hb2, hb3⟩ := H_cache 132 (by decide)
  have e : (132 : Nat).toInt32 - 128 = (4 : Int32) := by decide
  rw [e] at hb3
  refine Go.aaload C (fun _ r => (A_cache).ext r.1) rfl (by decide) (v := (.ref b)) hb1 dc_jdk_33_method_22_21 (q := 22) rfl ?_
  refine Go.retA C rfl rfl rfl dc_jdk_33_method_22_22 (by decide) (by decide) ?_
  exact ⟨b, rfl, rfl, hb2, hb3⟩
theorem dc_prog_20_method_2_0 : decode prog_20_method_2_code 0 = .ok (.aload_n 0, 1) := by decide +kernel
theorem dc_prog_20_method_2_1 : decode prog_20_method_2_code 1 = .ok (.getfield 25, 3) := by decide +kernel
theorem dc_prog_20_method_2_4 : decode prog_20_method_2_code 4 = .ok (.ifCond .eq 15, 3) := by decide +kernel
theorem dc_prog_20_method_2_19 : decode prog_20_method_2_code 19 = .ok (.aload_n 0, 1) := by decide +kernel
theorem dc_prog_20_method_2_20 : decode prog_20_method_2_code 20 = .ok (.iconst 1, 1) := by decide +kernel
theorem dc_prog_20_method_2_21 : decode prog_20_method_2_code 21 = .ok (.putfield 25, 3) := by decide +kernel
theorem dc_prog_20_method_2_24 : decode prog_20_method_2_code 24 = .ok (.aload_n 0, 1) := by decide +kernel
theorem dc_prog_20_method_2_25 : decode prog_20_method_2_code 25 = .ok (.lload_n 1, 1) := by decide +kernel
theorem dc_prog_20_method_2_26 : decode prog_20_method_2_code 26 = .ok (.putfield 29, 3) := by decide +kernel
theorem dc_prog_20_method_2_29 : decode prog_20_method_2_code 29 = .ok (.aload_n 0, 1) := by decide +kernel
theorem dc_prog_20_method_2_30 : decode prog_20_method_2_code 30 = .ok (.aload_n 3, 1) := by decide +kernel
theorem dc_prog_20_method_2_31 : decode prog_20_method_2_code 31 = .ok (.putfield 33, 3) := by decide +kernel
theorem dc_prog_20_method_2_34 : decode prog_20_method_2_code 34 = .ok (.return_, 1) := by decide +kernel
theorem pn_15 : plainFor yN17 = true := by first | (apply plainFor_of_name; simp [plainName, overriddenIn]; done) | decide +kernel
set_option maxRecDepth 65536 in
set_option maxHeartbeats 40000000 in
theorem u_SequenceQueue_add_32 (l : Launch) (Z : State) (a0 : Array Value) (hw : ∀ d ∈ tables_1, d.before a0 Z = true) (F : List Ent) (pA0 pA1 pA2 pA3 pA4 pA5 pA6 eA0 : Addr) (kA0 kA1 kA2 kA3 kA4 kA5 kA6 kA7 kA8 kA9 kA10 kA11 kA12 kA13 : Int64) (hE_eA0 : Exa Z Z.heap eA0 "java/lang/Integer") :
    Met l Z yN17 prog_20_method_2_code 4 none { frames := 0, cells := 0, slots := 0, locals := 0 } #[(.ref pA0), (.long kA0), (.ref eA0)] ((pA0, oQ (.ref pA1) (.ref pA4) (.int (0 : Int32)) (.long kA1) .null) :: (pA1, oRun (.ref pA2) (.ref pA3) (.int (0 : Int32)) (.int (0 : Int32))) :: (pA2, .inr (.long, (oK64 (.long kA2) (.long kA3) (.long kA4) (.long kA5) (.long kA6) (.long kA7)), true)) :: (pA3, .inr (.object "java/lang/Object", (oE64 .null .null .null .null .null .null), true)) :: (pA4, oHeap (.ref pA5) (.ref pA6) (.int (0 : Int32))) :: (pA5, .inr (.long, (oK64 (.long kA8) (.long kA9) (.long kA10) (.long kA11) (.long kA12) (.long kA13)), true)) :: (pA6, .inr (.object "java/lang/Object", (oE64 .null .null .null .null .null .null), true)) :: F) (fun r M' => (r = none ∧ M' = ((pA0, oQ (.ref pA1) (.ref pA4) (.int (1 : Int32)) (.long kA0) (.ref eA0)) :: (pA1, oRun (.ref pA2) (.ref pA3) (.int (0 : Int32)) (.int (0 : Int32))) :: (pA2, .inr (.long, (oK64 (.long kA2) (.long kA3) (.long kA4) (.long kA5) (.long kA6) (.long kA7)), true)) :: (pA3, .inr (.object "java/lang/Object", (oE64 .null .null .null .null .null .null), true)) :: (pA4, oHeap (.ref pA5) (.ref pA6) (.int (0 : Int32))) :: (pA5, .inr (.long, (oK64 (.long kA8) (.long kA9) (.long kA10) (.long kA11) (.long kA12) (.long kA13)), true)) :: (pA6, .inr (.object "java/lang/Object", (oE64 .null .null .null .null .null .null), true)) :: F))) := by
  refine Met.of_go pn_15 (Ls := #[.val (.ref pA0), .val (.long kA0), .second, .val (.ref eA0)]) (fun m => by first | rfl | (simp [entryFrame, mkF, argsToLocals, Value.category, maxLocals]; done)) ?_
  intro E C
  refine Go.aloadN C dc_prog_20_method_2_0 (q := 1) rfl rfl rfl ?_
  refine Go.getF C (host := "") (Or.inl (wd hw 53 rfl)) Via.refl (fun _ r => r.fld 0 2 rfl rfl) dc_prog_20_method_2_1 (q := 4) rfl ?_
  refine Go.ifYes C dc_prog_20_method_2_4 (by decide) (q := 19) rfl (XT.i0_eq_t (by decide)) ?_
  refine Go.aloadN C dc_prog_20_method_2_19 (q := 20) rfl rfl rfl ?_
  refine Go.iconst C dc_prog_20_method_2_20 (q := 21) rfl (v := (1 : Int32)) rfl ?_
  refine Go.putF C (host := "") (i := 0) (j := 2) (Or.inl (wd hw 53 rfl)) Via.refl rfl rfl (Or.inl (wd hw 54 rfl)) (wd hw 1 rfl) (ty := .boolean) (by decide) rfl rfl dc_prog_20_method_2_21 (q := 24) rfl (M' := ((pA0, oQ (.ref pA1) (.ref pA4) (.int (1 : Int32)) (.long kA1) .null) :: (pA1, oRun (.ref pA2) (.ref pA3) (.int (0 : Int32)) (.int (0 : Int32))) :: (pA2, .inr (.long, (oK64 (.long kA2) (.long kA3) (.long kA4) (.long kA5) (.long kA6) (.long kA7)), true)) :: (pA3, .inr (.object "java/lang/Object", (oE64 .null .null .null .null .null .null), true)) :: (pA4, oHeap (.ref pA5) (.ref pA6) (.int (0 : Int32))) :: (pA5, .inr (.long, (oK64 (.long kA8) (.long kA9) (.long kA10) (.long kA11) (.long kA12) (.long kA13)), true)) :: (pA6, .inr (.object "java/lang/Object", (oE64 .null .null .null .null .null .null), true)) :: F)) rfl ?_
  refine Go.aloadN C dc_prog_20_method_2_24 (q := 25) rfl rfl rfl ?_
  refine Go.lloadN C dc_prog_20_method_2_25 (q := 26) rfl rfl ?_
  refine Go.putF C (host := "") (i := 0) (j := 3) (Or.inl (wd hw 55 rfl)) Via.refl rfl rfl (Or.inl (wd hw 56 rfl)) (wd hw 1 rfl) (ty := .long) (by decide) rfl rfl dc_prog_20_method_2_26 (q := 29) rfl (M' := ((pA0, oQ (.ref pA1) (.ref pA4) (.int (1 : Int32)) (.long kA0) .null) :: (pA1, oRun (.ref pA2) (.ref pA3) (.int (0 : Int32)) (.int (0 : Int32))) :: (pA2, .inr (.long, (oK64 (.long kA2) (.long kA3) (.long kA4) (.long kA5) (.long kA6) (.long kA7)), true)) :: (pA3, .inr (.object "java/lang/Object", (oE64 .null .null .null .null .null .null), true)) :: (pA4, oHeap (.ref pA5) (.ref pA6) (.int (0 : Int32))) :: (pA5, .inr (.long, (oK64 (.long kA8) (.long kA9) (.long kA10) (.long kA11) (.long kA12) (.long kA13)), true)) :: (pA6, .inr (.object "java/lang/Object", (oE64 .null .null .null .null .null .null), true)) :: F)) rfl ?_
  refine Go.aloadN C dc_prog_20_method_2_29 (q := 30) rfl rfl rfl ?_
  refine Go.aloadN C dc_prog_20_method_2_30 (q := 31) rfl rfl rfl ?_
  refine Go.putF C (host := "") (i := 0) (j := 4) (Or.inl (wd hw 57 rfl)) Via.refl rfl rfl (Or.inl (wd hw 58 rfl)) (wd hw 1 rfl) (ty := (.object "java/lang/Object")) (by decide) rfl rfl dc_prog_20_method_2_31 (q := 34) rfl (M' := ((pA0, oQ (.ref pA1) (.ref pA4) (.int (1 : Int32)) (.long kA0) (.ref eA0)) :: (pA1, oRun (.ref pA2) (.ref pA3) (.int (0 : Int32)) (.int (0 : Int32))) :: (pA2, .inr (.long, (oK64 (.long kA2) (.long kA3) (.long kA4) (.long kA5) (.long kA6) (.long kA7)), true)) :: (pA3, .inr (.object "java/lang/Object", (oE64 .null .null .null .null .null .null), true)) :: (pA4, oHeap (.ref pA5) (.ref pA6) (.int (0 : Int32))) :: (pA5, .inr (.long, (oK64 (.long kA8) (.long kA9) (.long kA10) (.long kA11) (.long kA12) (.long kA13)), true)) :: (pA6, .inr (.object "java/lang/Object", (oE64 .null .null .null .null .null .null), true)) :: F)) rfl ?_
  refine Go.ret0 C rfl dc_prog_20_method_2_34 (by decide) (by decide) ?_
  exact ⟨rfl, rfl⟩
theorem dc_prog_20_method_3_0 : decode prog_20_method_3_code 0 = .ok (.aload_n 0, 1) := by decide +kernel
theorem dc_prog_20_method_3_1 : decode prog_20_method_3_code 1 = .ok (.getfield 25, 3) := by decide +kernel
theorem dc_prog_20_method_3_4 : decode prog_20_method_3_code 4 = .ok (.ifCond .eq 71, 3) := by decide +kernel
theorem dc_prog_20_method_3_7 : decode prog_20_method_3_code 7 = .ok (.aload_n 0, 1) := by decide +kernel
theorem dc_prog_20_method_3_8 : decode prog_20_method_3_code 8 = .ok (.getfield 12, 3) := by decide +kernel
theorem dc_prog_20_method_3_11 : decode prog_20_method_3_code 11 = .ok (.getfield 41, 3) := by decide +kernel
theorem dc_prog_20_method_3_14 : decode prog_20_method_3_code 14 = .ok (.ifCond .eq 26, 3) := by decide +kernel
theorem dc_prog_20_method_3_40 : decode prog_20_method_3_code 40 = .ok (.aload_n 0, 1) := by decide +kernel
theorem dc_prog_20_method_3_41 : decode prog_20_method_3_code 41 = .ok (.getfield 21, 3) := by decide +kernel
theorem dc_prog_20_method_3_44 : decode prog_20_method_3_code 44 = .ok (.getfield 52, 3) := by decide +kernel
theorem dc_prog_20_method_3_47 : decode prog_20_method_3_code 47 = .ok (.ifCond .eq 20, 3) := by decide +kernel
theorem dc_prog_20_method_3_67 : decode prog_20_method_3_code 67 = .ok (.aload_n 0, 1) := by decide +kernel
theorem dc_prog_20_method_3_68 : decode prog_20_method_3_code 68 = .ok (.getfield 33, 3) := by decide +kernel
theorem dc_prog_20_method_3_71 : decode prog_20_method_3_code 71 = .ok (.astore_n 1, 1) := by decide +kernel
theorem dc_prog_20_method_3_72 : decode prog_20_method_3_code 72 = .ok (.goto 89, 3) := by decide +kernel
theorem dc_prog_20_method_3_161 : decode prog_20_method_3_code 161 = .ok (.aload_n 0, 1) := by decide +kernel
theorem dc_prog_20_method_3_162 : decode prog_20_method_3_code 162 = .ok (.iconst 0, 1) := by decide +kernel
theorem dc_prog_20_method_3_163 : decode prog_20_method_3_code 163 = .ok (.putfield 25, 3) := by decide +kernel
theorem dc_prog_20_method_3_166 : decode prog_20_method_3_code 166 = .ok (.aload_n 0, 1) := by decide +kernel
theorem dc_prog_20_method_3_167 : decode prog_20_method_3_code 167 = .ok (.aconst_null, 1) := by decide +kernel
theorem dc_prog_20_method_3_168 : decode prog_20_method_3_code 168 = .ok (.putfield 33, 3) := by decide +kernel
theorem dc_prog_20_method_3_171 : decode prog_20_method_3_code 171 = .ok (.aload_n 1, 1) := by decide +kernel
theorem dc_prog_20_method_3_172 : decode prog_20_method_3_code 172 = .ok (.astore_n 2, 1) := by decide +kernel
theorem dc_prog_20_method_3_173 : decode prog_20_method_3_code 173 = .ok (.aload_n 2, 1) := by decide +kernel
theorem dc_prog_20_method_3_174 : decode prog_20_method_3_code 174 = .ok (.areturn, 1) := by decide +kernel
theorem pn_16 : plainFor yN18 = true := by first | (apply plainFor_of_name; simp [plainName, overriddenIn]; done) | decide +kernel
set_option maxRecDepth 65536 in
set_option maxHeartbeats 40000000 in
theorem u_SequenceQueue_poll_34 (l : Launch) (Z : State) (a0 : Array Value) (hw : ∀ d ∈ tables_1, d.before a0 Z = true) (F : List Ent) (pA0 pA1 pA2 pA3 pA4 pA5 pA6 eA0 : Addr) (kA0 kA1 kA2 kA3 kA4 kA5 kA6 kA7 kA8 kA9 kA10 kA11 kA12 : Int64) (hE_eA0 : Exa Z Z.heap eA0 "java/lang/Integer") :
    Met l Z yN18 prog_20_method_3_code 3 (some (.object "java/lang/Object")) { frames := 0, cells := 0, slots := 0, locals := 0 } #[(.ref pA0)] ((pA0, oQ (.ref pA1) (.ref pA4) (.int (1 : Int32)) (.long kA0) (.ref eA0)) :: (pA1, oRun (.ref pA2) (.ref pA3) (.int (0 : Int32)) (.int (0 : Int32))) :: (pA2, .inr (.long, (oK64 (.long kA1) (.long kA2) (.long kA3) (.long kA4) (.long kA5) (.long kA6)), true)) :: (pA3, .inr (.object "java/lang/Object", (oE64 .null .null .null .null .null .null), true)) :: (pA4, oHeap (.ref pA5) (.ref pA6) (.int (0 : Int32))) :: (pA5, .inr (.long, (oK64 (.long kA7) (.long kA8) (.long kA9) (.long kA10) (.long kA11) (.long kA12)), true)) :: (pA6, .inr (.object "java/lang/Object", (oE64 .null .null .null .null .null .null), true)) :: F) (fun r M' => (r = (some (.ref eA0)) ∧ M' = ((pA0, oQ (.ref pA1) (.ref pA4) (.int (0 : Int32)) (.long kA0) .null) :: (pA1, oRun (.ref pA2) (.ref pA3) (.int (0 : Int32)) (.int (0 : Int32))) :: (pA2, .inr (.long, (oK64 (.long kA1) (.long kA2) (.long kA3) (.long kA4) (.long kA5) (.long kA6)), true)) :: (pA3, .inr (.object "java/lang/Object", (oE64 .null .null .null .null .null .null), true)) :: (pA4, oHeap (.ref pA5) (.ref pA6) (.int (0 : Int32))) :: (pA5, .inr (.long, (oK64 (.long kA7) (.long kA8) (.long kA9) (.long kA10) (.long kA11) (.long kA12)), true)) :: (pA6, .inr (.object "java/lang/Object", (oE64 .null .null .null .null .null .null), true)) :: F))) := by
  refine Met.of_go pn_16 (Ls := #[.val (.ref pA0), .unset, .unset]) (fun m => by first | rfl | (simp [entryFrame, mkF, argsToLocals, Value.category, maxLocals]; done)) ?_
  intro E C
  refine Go.aloadN C dc_prog_20_method_3_0 (q := 1) rfl rfl rfl ?_
  refine Go.getF C (host := "") (Or.inl (wd hw 53 rfl)) Via.refl (fun _ r => r.fld 0 2 rfl rfl) dc_prog_20_method_3_1 (q := 4) rfl ?_
  refine Go.ifNo C dc_prog_20_method_3_4 (q := 7) rfl (XT.i0_eq_f (by decide)) ?_
  refine Go.aloadN C dc_prog_20_method_3_7 (q := 8) rfl rfl rfl ?_
  refine Go.getF C (host := "") (Or.inl (wd hw 28 rfl)) Via.refl (fun _ r => r.fld 0 0 rfl rfl) dc_prog_20_method_3_8 (q := 11) rfl ?_
  refine Go.getF C (host := "") (Or.inl (wd hw 63 rfl)) (Via.of (wd hw 64 rfl)) (fun _ r => r.fld 1 2 rfl rfl) dc_prog_20_method_3_11 (q := 14) rfl ?_
  refine Go.ifYes C dc_prog_20_method_3_14 (by decide) (q := 40) rfl (XT.i0_eq_t (by decide)) ?_
  refine Go.aloadN C dc_prog_20_method_3_40 (q := 41) rfl rfl rfl ?_
  refine Go.getF C (host := "") (Or.inl (wd hw 39 rfl)) Via.refl (fun _ r => r.fld 0 1 rfl rfl) dc_prog_20_method_3_41 (q := 44) rfl ?_
  refine Go.getF C (host := "") (Or.inl (wd hw 130 rfl)) (Via.of (wd hw 102 rfl)) (fun _ r => r.fld 4 2 rfl rfl) dc_prog_20_method_3_44 (q := 47) rfl ?_
  refine Go.ifYes C dc_prog_20_method_3_47 (by decide) (q := 67) rfl (XT.i0_eq_t (by decide)) ?_
  refine Go.aloadN C dc_prog_20_method_3_67 (q := 68) rfl rfl rfl ?_
  refine Go.getF C (host := "") (Or.inl (wd hw 57 rfl)) Via.refl (fun _ r => r.fld 0 4 rfl rfl) dc_prog_20_method_3_68 (q := 71) rfl ?_
  refine Go.astoreN C dc_prog_20_method_3_71 (q := 72) rfl rfl (Ls' := #[.val (.ref pA0), .val (.ref eA0), .unset]) rfl ?_
  refine Go.goto C dc_prog_20_method_3_72 (by decide) (q := 161) rfl ?_
  refine Go.aloadN C dc_prog_20_method_3_161 (q := 162) rfl rfl rfl ?_
  refine Go.iconst C dc_prog_20_method_3_162 (q := 163) rfl (v := (0 : Int32)) rfl ?_
  refine Go.putF C (host := "") (i := 0) (j := 2) (Or.inl (wd hw 53 rfl)) Via.refl rfl rfl (Or.inl (wd hw 54 rfl)) (wd hw 1 rfl) (ty := .boolean) (by decide) rfl rfl dc_prog_20_method_3_163 (q := 166) rfl (M' := ((pA0, oQ (.ref pA1) (.ref pA4) (.int (0 : Int32)) (.long kA0) (.ref eA0)) :: (pA1, oRun (.ref pA2) (.ref pA3) (.int (0 : Int32)) (.int (0 : Int32))) :: (pA2, .inr (.long, (oK64 (.long kA1) (.long kA2) (.long kA3) (.long kA4) (.long kA5) (.long kA6)), true)) :: (pA3, .inr (.object "java/lang/Object", (oE64 .null .null .null .null .null .null), true)) :: (pA4, oHeap (.ref pA5) (.ref pA6) (.int (0 : Int32))) :: (pA5, .inr (.long, (oK64 (.long kA7) (.long kA8) (.long kA9) (.long kA10) (.long kA11) (.long kA12)), true)) :: (pA6, .inr (.object "java/lang/Object", (oE64 .null .null .null .null .null .null), true)) :: F)) rfl ?_
  refine Go.aloadN C dc_prog_20_method_3_166 (q := 167) rfl rfl rfl ?_
  refine Go.aconstNull C dc_prog_20_method_3_167 (q := 168) rfl ?_
  refine Go.putF C (host := "") (i := 0) (j := 4) (Or.inl (wd hw 57 rfl)) Via.refl rfl rfl (Or.inl (wd hw 58 rfl)) (wd hw 1 rfl) (ty := (.object "java/lang/Object")) (by decide) rfl rfl dc_prog_20_method_3_168 (q := 171) rfl (M' := ((pA0, oQ (.ref pA1) (.ref pA4) (.int (0 : Int32)) (.long kA0) .null) :: (pA1, oRun (.ref pA2) (.ref pA3) (.int (0 : Int32)) (.int (0 : Int32))) :: (pA2, .inr (.long, (oK64 (.long kA1) (.long kA2) (.long kA3) (.long kA4) (.long kA5) (.long kA6)), true)) :: (pA3, .inr (.object "java/lang/Object", (oE64 .null .null .null .null .null .null), true)) :: (pA4, oHeap (.ref pA5) (.ref pA6) (.int (0 : Int32))) :: (pA5, .inr (.long, (oK64 (.long kA7) (.long kA8) (.long kA9) (.long kA10) (.long kA11) (.long kA12)), true)) :: (pA6, .inr (.object "java/lang/Object", (oE64 .null .null .null .null .null .null), true)) :: F)) rfl ?_
  refine Go.aloadN C dc_prog_20_method_3_171 (q := 172) rfl rfl rfl ?_
  refine Go.astoreN C dc_prog_20_method_3_172 (q := 173) rfl rfl (Ls' := #[.val (.ref pA0), .val (.ref eA0), .val (.ref eA0)]) rfl ?_
  refine Go.aloadN C dc_prog_20_method_3_173 (q := 174) rfl rfl rfl ?_
  refine Go.retA C rfl rfl rfl dc_prog_20_method_3_174 (by decide) (by decide) ?_
  exact ⟨rfl, rfl⟩
theorem dc_jdk_33_method_27_0 : decode jdk_33_method_27_code 0 = .ok (.aload_n 0, 1) := by decide +kernel
theorem dc_jdk_33_method_27_1 : decode jdk_33_method_27_code 1 = .ok (.getfield 205, 3) := by decide +kernel
theorem dc_jdk_33_method_27_4 : decode jdk_33_method_27_code 4 = .ok (.ireturn, 1) := by decide +kernel
theorem pn_17 : plainFor yN19 = true := by first | (apply plainFor_of_name; simp [plainName, overriddenIn]; done) | decide +kernel
set_option maxRecDepth 65536 in
set_option maxHeartbeats 40000000 in
theorem u_Integer_intValue_36 (l : Launch) (Z : State) (a0 : Array Value) (hw : ∀ d ∈ tables_1, d.before a0 Z = true) (F : List Ent) (eA0 : Addr) (hE_eA0 : Exa Z Z.heap eA0 "java/lang/Integer") (hF_eA0 : Fld Z Z.heap eA0 "java/lang/Integer" "value" "I" (.int (4 : Int32))) :
    Met l Z yN19 jdk_33_method_27_code 1 (some .int) { frames := 0, cells := 0, slots := 0, locals := 0 } #[(.ref eA0)] (F) (fun r M' => (r = (some (.int (4 : Int32))) ∧ M' = (F))) := by
  refine Met.of_go pn_17 (Ls := #[.val (.ref eA0)]) (fun m => by first | rfl | (simp [entryFrame, mkF, argsToLocals, Value.category, maxLocals]; done)) ?_
  intro E C
  refine Go.aloadN C dc_jdk_33_method_27_0 (q := 1) rfl rfl rfl ?_
  refine Go.getF C (host := "") (Or.inl (wd hw 190 rfl)) Via.refl (fun _ r => (hF_eA0).ext r.1) dc_jdk_33_method_27_1 (q := 4) rfl ?_
  refine Go.retI C rfl dc_jdk_33_method_27_4 (by decide) (by decide) ?_
  exact ⟨rfl, rfl⟩
set_option maxRecDepth 65536 in
set_option maxHeartbeats 40000000 in
theorem m_valueOf3 (l : Launch) (Z : State) (a0 : Array Value) (hw : ∀ d ∈ tables_1, d.before a0 Z = true) (F : List Ent) (cb : Addr) (cs : List Value) (S_high : Sta Z Z.heap "java/lang/Integer$IntegerCache" "high" "I" (.int (127 : Int32))) (S_cache : Sta Z Z.heap "java/lang/Integer$IntegerCache" "cache" "[Ljava/lang/Integer;" (.ref cb)) (A_cache : ArrIs Z Z.heap cb (.object "java/lang/Integer") cs) (H_cache : ∀ j : Nat, j < 256 → ∃ b, cs[j]? = some (.ref b) ∧ Exa Z Z.heap b "java/lang/Integer" ∧ Fld Z Z.heap b "java/lang/Integer" "value" "I" (.int (j.toInt32 - 128))) :
    Met l Z yN16 jdk_33_method_22_code 1 (some (.object "java/lang/Integer")) { frames := 0, cells := 0, slots := 0, locals := 0 } #[(.int (3 : Int32))] (F) (fun r M' => ∃ b, r = some (.ref b) ∧ M' = F ∧ Exa Z Z.heap b "java/lang/Integer" ∧ Fld Z Z.heap b "java/lang/Integer" "value" "I" (.int (3 : Int32))) := by
  refine Met.of_go pn_14 (Ls := #[.val (.int (3 : Int32))]) (fun m => by first | rfl | (simp [entryFrame, mkF, argsToLocals, Value.category, maxLocals]; done)) ?_
  intro E C
  refine Go.iloadN C dc_jdk_33_method_22_0 (q := 1) rfl rfl ?_
  refine Go.bipush C dc_jdk_33_method_22_1 (q := 3) rfl (v := (-128 : Int32)) (by decide) ?_
  refine Go.icmpNo C dc_jdk_33_method_22_3 (q := 6) rfl (XT.ii_lt_f (by decide)) ?_
  refine Go.iloadN C dc_jdk_33_method_22_6 (q := 7) rfl rfl ?_
  refine Go.getS C (host := "") (Or.inl (wd hw 45 rfl)) Via.refl S_high dc_jdk_33_method_22_7 (q := 10) rfl ?_
  refine Go.icmpNo C dc_jdk_33_method_22_10 (q := 13) rfl (XT.ii_gt_f (by decide)) ?_
  refine Go.getS C (host := "") (Or.inl (wd hw 47 rfl)) Via.refl S_cache dc_jdk_33_method_22_13 (q := 16) rfl ?_
  refine Go.iloadN C dc_jdk_33_method_22_16 (q := 17) rfl rfl ?_
  refine Go.sipush C dc_jdk_33_method_22_17 (q := 20) rfl (v := (128 : Int32)) (by decide) ?_
  refine Go.iadd C dc_jdk_33_method_22_20 (q := 21) rfl ?_
  refine Go.castI (w := (131 : Int32)) (by decide) ?_
  obtain ⟨b, hb1, hb2, hb3⟩ := H_cache 131 (by decide)
  have e : (131 : Nat).toInt32 - 128 = (3 : Int32) := by decide
  rw [e] at hb3
  refine Go.aaload C (fun _ r => (A_cache).ext r.1) rfl (by decide) (v := (.ref b)) hb1 dc_jdk_33_method_22_21 (q := 22) rfl ?_
  refine Go.retA C rfl rfl rfl dc_jdk_33_method_22_22 (by decide) (by decide) ?_
  exact ⟨b, rfl, rfl, hb2, hb3⟩
set_option maxRecDepth 65536 in
set_option maxHeartbeats 40000000 in
theorem u_SequenceQueue_clear_38 (l : Launch) (Z : State) (a0 : Array Value) (hw : ∀ d ∈ tables_1, d.before a0 Z = true) (F : List Ent) (pA0 pA1 pA2 pA3 pA4 pA5 pA6 eA0 : Addr) (kA0 kA1 kA2 kA3 kA4 kA5 kA6 kA7 kA8 kA9 kA10 kA11 kA12 : Int64) (hE_eA0 : Exa Z Z.heap eA0 "java/lang/Integer") :
    Met l Z yN7 prog_20_method_8_code 1 none { frames := 2, cells := 4, slots := 256, locals := 24 } #[(.ref pA0)] ((pA0, oQ (.ref pA1) (.ref pA4) (.int (1 : Int32)) (.long kA0) (.ref eA0)) :: (pA1, oRun (.ref pA2) (.ref pA3) (.int (0 : Int32)) (.int (0 : Int32))) :: (pA2, .inr (.long, (oK64 (.long kA1) (.long kA2) (.long kA3) (.long kA4) (.long kA5) (.long kA6)), true)) :: (pA3, .inr (.object "java/lang/Object", (oE64 .null .null .null .null .null .null), true)) :: (pA4, oHeap (.ref pA5) (.ref pA6) (.int (0 : Int32))) :: (pA5, .inr (.long, (oK64 (.long kA7) (.long kA8) (.long kA9) (.long kA10) (.long kA11) (.long kA12)), true)) :: (pA6, .inr (.object "java/lang/Object", (oE64 .null .null .null .null .null .null), true)) :: F) (fun r M' => (∃ sA0 sA1 sA2 sA3 : Addr, r = none ∧ M' = ((sA0, .inr (.object "java/lang/Object", (oE64 .null .null .null .null .null .null), true)) :: (sA1, .inr (.long, (oK64 (.long (0 : Int64)) (.long (0 : Int64)) (.long (0 : Int64)) (.long (0 : Int64)) (.long (0 : Int64)) (.long (0 : Int64))), true)) :: (pA4, oHeap (.ref sA1) (.ref sA0) (.int (0 : Int32))) :: (pA5, .inr (.long, (oK64 (.long kA7) (.long kA8) (.long kA9) (.long kA10) (.long kA11) (.long kA12)), true)) :: (pA6, .inr (.object "java/lang/Object", (oE64 .null .null .null .null .null .null), true)) :: (sA2, .inr (.object "java/lang/Object", (oE64 .null .null .null .null .null .null), true)) :: (sA3, .inr (.long, (oK64 (.long (0 : Int64)) (.long (0 : Int64)) (.long (0 : Int64)) (.long (0 : Int64)) (.long (0 : Int64)) (.long (0 : Int64))), true)) :: (pA1, oRun (.ref sA3) (.ref sA2) (.int (0 : Int32)) (.int (0 : Int32))) :: (pA2, .inr (.long, (oK64 (.long kA1) (.long kA2) (.long kA3) (.long kA4) (.long kA5) (.long kA6)), true)) :: (pA3, .inr (.object "java/lang/Object", (oE64 .null .null .null .null .null .null), true)) :: (pA0, oQ (.ref pA1) (.ref pA4) (.int (0 : Int32)) (.long kA0) .null) :: F))) := by
  refine Met.of_go pn_6 (Ls := #[.val (.ref pA0)]) (fun m => by first | rfl | (simp [entryFrame, mkF, argsToLocals, Value.category, maxLocals]; done)) ?_
  intro E C
  refine Go.aloadN C dc_prog_20_method_8_0 (q := 1) rfl rfl rfl ?_
  refine Go.iconst C dc_prog_20_method_8_1 (q := 2) rfl (v := (0 : Int32)) rfl ?_
  refine Go.putF C (host := "") (i := 0) (j := 2) (Or.inl (wd hw 53 rfl)) Via.refl rfl rfl (Or.inl (wd hw 54 rfl)) (wd hw 1 rfl) (ty := .boolean) (by decide) rfl rfl dc_prog_20_method_8_2 (q := 5) rfl (M' := ((pA0, oQ (.ref pA1) (.ref pA4) (.int (0 : Int32)) (.long kA0) (.ref eA0)) :: (pA1, oRun (.ref pA2) (.ref pA3) (.int (0 : Int32)) (.int (0 : Int32))) :: (pA2, .inr (.long, (oK64 (.long kA1) (.long kA2) (.long kA3) (.long kA4) (.long kA5) (.long kA6)), true)) :: (pA3, .inr (.object "java/lang/Object", (oE64 .null .null .null .null .null .null), true)) :: (pA4, oHeap (.ref pA5) (.ref pA6) (.int (0 : Int32))) :: (pA5, .inr (.long, (oK64 (.long kA7) (.long kA8) (.long kA9) (.long kA10) (.long kA11) (.long kA12)), true)) :: (pA6, .inr (.object "java/lang/Object", (oE64 .null .null .null .null .null .null), true)) :: F)) rfl ?_
  refine Go.aloadN C dc_prog_20_method_8_5 (q := 6) rfl rfl rfl ?_
  refine Go.aconstNull C dc_prog_20_method_8_6 (q := 7) rfl ?_
  refine Go.putF C (host := "") (i := 0) (j := 4) (Or.inl (wd hw 57 rfl)) Via.refl rfl rfl (Or.inl (wd hw 58 rfl)) (wd hw 1 rfl) (ty := (.object "java/lang/Object")) (by decide) rfl rfl dc_prog_20_method_8_7 (q := 10) rfl (M' := ((pA0, oQ (.ref pA1) (.ref pA4) (.int (0 : Int32)) (.long kA0) .null) :: (pA1, oRun (.ref pA2) (.ref pA3) (.int (0 : Int32)) (.int (0 : Int32))) :: (pA2, .inr (.long, (oK64 (.long kA1) (.long kA2) (.long kA3) (.long kA4) (.long kA5) (.long kA6)), true)) :: (pA3, .inr (.object "java/lang/Object", (oE64 .null .null .null .null .null .null), true)) :: (pA4, oHeap (.ref pA5) (.ref pA6) (.int (0 : Int32))) :: (pA5, .inr (.long, (oK64 (.long kA7) (.long kA8) (.long kA9) (.long kA10) (.long kA11) (.long kA12)), true)) :: (pA6, .inr (.object "java/lang/Object", (oE64 .null .null .null .null .null .null), true)) :: F)) rfl ?_
  refine Go.aloadN C dc_prog_20_method_8_10 (q := 11) rfl rfl rfl ?_
  refine Go.getF C (host := "") (Or.inl (wd hw 28 rfl)) Via.refl (fun _ r => r.fld 0 0 rfl rfl) dc_prog_20_method_8_11 (q := 14) rfl ?_
  refine Go.pick (M' := ((pA1, oRun (.ref pA2) (.ref pA3) (.int (0 : Int32)) (.int (0 : Int32))) :: (pA2, .inr (.long, (oK64 (.long kA1) (.long kA2) (.long kA3) (.long kA4) (.long kA5) (.long kA6)), true)) :: (pA3, .inr (.object "java/lang/Object", (oE64 .null .null .null .null .null .null), true)) :: (pA0, oQ (.ref pA1) (.ref pA4) (.int (0 : Int32)) (.long kA0) .null) :: (pA4, oHeap (.ref pA5) (.ref pA6) (.int (0 : Int32))) :: (pA5, .inr (.long, (oK64 (.long kA7) (.long kA8) (.long kA9) (.long kA10) (.long kA11) (.long kA12)), true)) :: (pA6, .inr (.object "java/lang/Object", (oE64 .null .null .null .null .null .null), true)) :: F)) 7 [1, 2, 3, 0, 4, 5, 6] (by decide) (by decide) rfl ?_
  refine Go.callV C (y := yN5) (z := yN5) (a := pA1) (as := []) (rest := []) (wd hw 112 rfl) (wd hw 113 rfl) (nf_sel (z := yN5) (wd hw 115 rfl)) (wd hw 115 rfl) (wd hw 114 rfl) (wd hw 116 rfl) (wd hw 11 rfl) (fun _ r => r.exa 0 rfl) (u_SequenceQueue_Run_clear_11 l Z a0 hw _ pA1 pA2 pA3 kA1 kA2 kA3 kA4 kA5 kA6) rfl dc_prog_20_method_8_14 (q := 17) rfl (by decide) rfl (na := 0) (by decide +kernel) rfl (by decide) (W := 0) rfl (by decide) (by decide) (by decide) (k' := 2) (n' := 128) rfl rfl ?_
  rintro _ _ ⟨o16, o17, rfl, rfl⟩
  show Go _ _ _ _ _ _ _ _ _ _ []
  refine Go.aloadN C dc_prog_20_method_8_17 (q := 18) rfl rfl rfl ?_
  refine Go.getF C (host := "") (Or.inl (wd hw 39 rfl)) Via.refl (fun _ r => r.fld 5 1 rfl rfl) dc_prog_20_method_8_18 (q := 21) rfl ?_
  refine Go.pick (M' := ((pA4, oHeap (.ref pA5) (.ref pA6) (.int (0 : Int32))) :: (pA5, .inr (.long, (oK64 (.long kA7) (.long kA8) (.long kA9) (.long kA10) (.long kA11) (.long kA12)), true)) :: (pA6, .inr (.object "java/lang/Object", (oE64 .null .null .null .null .null .null), true)) :: (o16, .inr (.object "java/lang/Object", (oE64 .null .null .null .null .null .null), true)) :: (o17, .inr (.long, (oK64 (.long (0 : Int64)) (.long (0 : Int64)) (.long (0 : Int64)) (.long (0 : Int64)) (.long (0 : Int64)) (.long (0 : Int64))), true)) :: (pA1, oRun (.ref o17) (.ref o16) (.int (0 : Int32)) (.int (0 : Int32))) :: (pA2, .inr (.long, (oK64 (.long kA1) (.long kA2) (.long kA3) (.long kA4) (.long kA5) (.long kA6)), true)) :: (pA3, .inr (.object "java/lang/Object", (oE64 .null .null .null .null .null .null), true)) :: (pA0, oQ (.ref pA1) (.ref pA4) (.int (0 : Int32)) (.long kA0) .null) :: F)) 9 [6, 7, 8, 0, 1, 2, 3, 4, 5] (by decide) (by decide) rfl ?_
  refine Go.callU C (y := yN6) (z := yN4) (owner := "com/example/ordered_dispatch/ordereddispatch/SequenceQueue$Part") (a := pA4) (as := []) (rest := []) (wd hw 122 rfl) (wd hw 123 rfl) (wd hw 120 rfl) (wd hw 124 rfl) (wd hw 118 rfl) (wd hw 121 rfl) (wd hw 18 rfl) (fun _ r => r.exa 0 rfl) (u_SequenceQueue_Part_clear_15 l Z a0 hw _ pA4 pA5 pA6 kA7 kA8 kA9 kA10 kA11 kA12) rfl dc_prog_20_method_8_21 (q := 24) rfl (by decide) rfl (na := 0) (by decide +kernel) rfl (by decide) (W := 0) rfl (by decide) (by decide) (by decide) (k' := 4) (n' := 256) rfl rfl ?_
  rintro _ _ ⟨o18, o19, rfl, rfl⟩
  show Go _ _ _ _ _ _ _ _ _ _ []
  refine Go.ret0 C rfl dc_prog_20_method_8_24 (by decide) (by decide) ?_
  exact ⟨_, _, _, _, rfl, rfl⟩
set_option maxRecDepth 65536 in
set_option maxHeartbeats 40000000 in
theorem m_valueOf2 (l : Launch) (Z : State) (a0 : Array Value) (hw : ∀ d ∈ tables_1, d.before a0 Z = true) (F : List Ent) (cb : Addr) (cs : List Value) (S_high : Sta Z Z.heap "java/lang/Integer$IntegerCache" "high" "I" (.int (127 : Int32))) (S_cache : Sta Z Z.heap "java/lang/Integer$IntegerCache" "cache" "[Ljava/lang/Integer;" (.ref cb)) (A_cache : ArrIs Z Z.heap cb (.object "java/lang/Integer") cs) (H_cache : ∀ j : Nat, j < 256 → ∃ b, cs[j]? = some (.ref b) ∧ Exa Z Z.heap b "java/lang/Integer" ∧ Fld Z Z.heap b "java/lang/Integer" "value" "I" (.int (j.toInt32 - 128))) :
    Met l Z yN16 jdk_33_method_22_code 1 (some (.object "java/lang/Integer")) { frames := 0, cells := 0, slots := 0, locals := 0 } #[(.int (2 : Int32))] (F) (fun r M' => ∃ b, r = some (.ref b) ∧ M' = F ∧ Exa Z Z.heap b "java/lang/Integer" ∧ Fld Z Z.heap b "java/lang/Integer" "value" "I" (.int (2 : Int32))) := by
  refine Met.of_go pn_14 (Ls := #[.val (.int (2 : Int32))]) (fun m => by first | rfl | (simp [entryFrame, mkF, argsToLocals, Value.category, maxLocals]; done)) ?_
  intro E C
  refine Go.iloadN C dc_jdk_33_method_22_0 (q := 1) rfl rfl ?_
  refine Go.bipush C dc_jdk_33_method_22_1 (q := 3) rfl (v := (-128 : Int32)) (by decide) ?_
  refine Go.icmpNo C dc_jdk_33_method_22_3 (q := 6) rfl (XT.ii_lt_f (by decide)) ?_
  refine Go.iloadN C dc_jdk_33_method_22_6 (q := 7) rfl rfl ?_
  refine Go.getS C (host := "") (Or.inl (wd hw 45 rfl)) Via.refl S_high dc_jdk_33_method_22_7 (q := 10) rfl ?_
  refine Go.icmpNo C dc_jdk_33_method_22_10 (q := 13) rfl (XT.ii_gt_f (by decide)) ?_
  refine Go.getS C (host := "") (Or.inl (wd hw 47 rfl)) Via.refl S_cache dc_jdk_33_method_22_13 (q := 16) rfl ?_
  refine Go.iloadN C dc_jdk_33_method_22_16 (q := 17) rfl rfl ?_
  refine Go.sipush C dc_jdk_33_method_22_17 (q := 20) rfl (v := (128 : Int32)) (by decide) ?_
  refine Go.iadd C dc_jdk_33_method_22_20 (q := 21) rfl ?_
  refine Go.castI (w := (130 : Int32)) (by decide) ?_
  obtain ⟨b, hb1, hb2, hb3⟩ := H_cache 130 (by decide)
  have e : (130 : Nat).toInt32 - 128 = (2 : Int32) := by decide
  rw [e] at hb3
  refine Go.aaload C (fun _ r => (A_cache).ext r.1) rfl (by decide) (v := (.ref b)) hb1 dc_jdk_33_method_22_21 (q := 22) rfl ?_
  refine Go.retA C rfl rfl rfl dc_jdk_33_method_22_22 (by decide) (by decide) ?_
  exact ⟨b, rfl, rfl, hb2, hb3⟩
theorem dc_prog_20_method_2_7 : decode prog_20_method_2_code 7 = .ok (.aload_n 0, 1) := by decide +kernel
theorem dc_prog_20_method_2_8 : decode prog_20_method_2_code 8 = .ok (.aload_n 0, 1) := by decide +kernel
theorem dc_prog_20_method_2_9 : decode prog_20_method_2_code 9 = .ok (.getfield 29, 3) := by decide +kernel
theorem dc_prog_20_method_2_12 : decode prog_20_method_2_code 12 = .ok (.aload_n 0, 1) := by decide +kernel
theorem dc_prog_20_method_2_13 : decode prog_20_method_2_code 13 = .ok (.getfield 33, 3) := by decide +kernel
theorem dc_prog_20_method_2_16 : decode prog_20_method_2_code 16 = .ok (.invokevirtual 37, 3) := by decide +kernel
theorem dc_prog_20_method_9_0 : decode prog_20_method_9_code 0 = .ok (.aload_n 0, 1) := by decide +kernel
theorem dc_prog_20_method_9_1 : decode prog_20_method_9_code 1 = .ok (.getfield 12, 3) := by decide +kernel
theorem dc_prog_20_method_9_4 : decode prog_20_method_9_code 4 = .ok (.getfield 41, 3) := by decide +kernel
theorem dc_prog_20_method_9_7 : decode prog_20_method_9_code 7 = .ok (.ifCond .eq 15, 3) := by decide +kernel
theorem dc_prog_20_method_9_22 : decode prog_20_method_9_code 22 = .ok (.aload_n 0, 1) := by decide +kernel
theorem dc_prog_20_method_9_23 : decode prog_20_method_9_code 23 = .ok (.getfield 12, 3) := by decide +kernel
theorem dc_prog_20_method_9_26 : decode prog_20_method_9_code 26 = .ok (.lload_n 1, 1) := by decide +kernel
theorem dc_prog_20_method_9_27 : decode prog_20_method_9_code 27 = .ok (.aload_n 3, 1) := by decide +kernel
theorem dc_prog_20_method_9_28 : decode prog_20_method_9_code 28 = .ok (.invokevirtual 101, 3) := by decide +kernel
theorem dc_prog_23_method_3_0 : decode prog_23_method_3_code 0 = .ok (.aload_n 0, 1) := by decide +kernel
theorem dc_prog_23_method_3_1 : decode prog_23_method_3_code 1 = .ok (.invokevirtual 21, 3) := by decide +kernel
theorem dc_prog_22_method_2_0 : decode prog_22_method_2_code 0 = .ok (.aload_n 0, 1) := by decide +kernel
theorem dc_prog_22_method_2_1 : decode prog_22_method_2_code 1 = .ok (.getfield 19, 3) := by decide +kernel
theorem dc_prog_22_method_2_4 : decode prog_22_method_2_code 4 = .ok (.aload_n 0, 1) := by decide +kernel
theorem dc_prog_22_method_2_5 : decode prog_22_method_2_code 5 = .ok (.getfield 9, 3) := by decide +kernel
theorem dc_prog_22_method_2_8 : decode prog_22_method_2_code 8 = .ok (.arraylength, 1) := by decide +kernel
theorem dc_prog_22_method_2_9 : decode prog_22_method_2_code 9 = .ok (.if_icmp .ne 49, 3) := by decide +kernel
theorem dc_prog_22_method_2_58 : decode prog_22_method_2_code 58 = .ok (.return_, 1) := by decide +kernel
theorem pn_18 : plainFor yN20 = true := by first | (apply plainFor_of_name; simp [plainName, overriddenIn]; done) | decide +kernel
set_option maxRecDepth 65536 in
set_option maxHeartbeats 40000000 in
theorem u_SequenceQueue_Part_makeRoom_43 (l : Launch) (Z : State) (a0 : Array Value) (hw : ∀ d ∈ tables_1, d.before a0 Z = true) (F : List Ent) (pA0 pA1 pA2 : Addr) (kA0 kA1 kA2 kA3 kA4 kA5 : Int64)  :
    Met l Z yN20 prog_22_method_2_code 1 none { frames := 0, cells := 0, slots := 0, locals := 0 } #[(.ref pA0)] ((pA0, oRun (.ref pA1) (.ref pA2) (.int (0 : Int32)) (.int (0 : Int32))) :: (pA1, .inr (.long, (oK64 (.long kA0) (.long kA1) (.long kA2) (.long kA3) (.long kA4) (.long kA5)), true)) :: (pA2, .inr (.object "java/lang/Object", (oE64 .null .null .null .null .null .null), true)) :: F) (fun r M' => (r = none ∧ M' = ((pA0, oRun (.ref pA1) (.ref pA2) (.int (0 : Int32)) (.int (0 : Int32))) :: (pA1, .inr (.long, (oK64 (.long kA0) (.long kA1) (.long kA2) (.long kA3) (.long kA4) (.long kA5)), true)) :: (pA2, .inr (.object "java/lang/Object", (oE64 .null .null .null .null .null .null), true)) :: F))) := by
  refine Met.of_go pn_18 (Ls := #[.val (.ref pA0)]) (fun m => by first | rfl | (simp [entryFrame, mkF, argsToLocals, Value.category, maxLocals]; done)) ?_
  intro E C
  refine Go.aloadN C dc_prog_22_method_2_0 (q := 1) rfl rfl rfl ?_
  refine Go.getF C (host := "") (Or.inl (wd hw 76 rfl)) Via.refl (fun _ r => r.fld 0 2 rfl rfl) dc_prog_22_method_2_1 (q := 4) rfl ?_
  refine Go.aloadN C dc_prog_22_method_2_4 (q := 5) rfl rfl rfl ?_
  refine Go.getF C (host := "") (Or.inl (wd hw 22 rfl)) Via.refl (fun _ r => r.fld 0 0 rfl rfl) dc_prog_22_method_2_5 (q := 8) rfl ?_
  refine Go.arraylength C (fun _ r => r.arr 1 rfl) (z := (64 : Int32)) rfl dc_prog_22_method_2_8 (q := 9) rfl ?_
  refine Go.icmpYes C dc_prog_22_method_2_9 (by decide) (q := 58) rfl (XT.ii_ne_t (by decide)) ?_
  refine Go.ret0 C rfl dc_prog_22_method_2_58 (by decide) (by decide) ?_
  exact ⟨rfl, rfl⟩
theorem dc_prog_23_method_3_4 : decode prog_23_method_3_code 4 = .ok (.aload_n 0, 1) := by decide +kernel
theorem dc_prog_23_method_3_5 : decode prog_23_method_3_code 5 = .ok (.aload_n 0, 1) := by decide +kernel
theorem dc_prog_23_method_3_6 : decode prog_23_method_3_code 6 = .ok (.getfield 13, 3) := by decide +kernel
theorem dc_prog_23_method_3_9 : decode prog_23_method_3_code 9 = .ok (.invokevirtual 17, 3) := by decide +kernel
theorem dc_prog_23_method_6_0 : decode prog_23_method_6_code 0 = .ok (.aload_n 0, 1) := by decide +kernel
theorem dc_prog_23_method_6_1 : decode prog_23_method_6_code 1 = .ok (.getfield 28, 3) := by decide +kernel
theorem dc_prog_23_method_6_4 : decode prog_23_method_6_code 4 = .ok (.iload_n 1, 1) := by decide +kernel
theorem dc_prog_23_method_6_5 : decode prog_23_method_6_code 5 = .ok (.iadd, 1) := by decide +kernel
theorem dc_prog_23_method_6_6 : decode prog_23_method_6_code 6 = .ok (.istore_n 2, 1) := by decide +kernel
theorem dc_prog_23_method_6_7 : decode prog_23_method_6_code 7 = .ok (.iload_n 2, 1) := by decide +kernel
theorem dc_prog_23_method_6_8 : decode prog_23_method_6_code 8 = .ok (.aload_n 0, 1) := by decide +kernel
theorem dc_prog_23_method_6_9 : decode prog_23_method_6_code 9 = .ok (.getfield 7, 3) := by decide +kernel
theorem dc_prog_23_method_6_12 : decode prog_23_method_6_code 12 = .ok (.arraylength, 1) := by decide +kernel
theorem dc_prog_23_method_6_13 : decode prog_23_method_6_code 13 = .ok (.if_icmp .lt 11, 3) := by decide +kernel
theorem dc_prog_23_method_6_24 : decode prog_23_method_6_code 24 = .ok (.iload_n 2, 1) := by decide +kernel
theorem dc_prog_23_method_6_25 : decode prog_23_method_6_code 25 = .ok (.ireturn, 1) := by decide +kernel
theorem pn_19 : plainFor yN22 = true := by first | (apply plainFor_of_name; simp [plainName, overriddenIn]; done) | decide +kernel
set_option maxRecDepth 65536 in
set_option maxHeartbeats 40000000 in
theorem u_SequenceQueue_Run_slot_45 (l : Launch) (Z : State) (a0 : Array Value) (hw : ∀ d ∈ tables_1, d.before a0 Z = true) (F : List Ent) (pA0 pA1 pA2 : Addr) (kA0 kA1 kA2 kA3 kA4 kA5 : Int64)  :
    Met l Z yN22 prog_23_method_6_code 3 (some .int) { frames := 0, cells := 0, slots := 0, locals := 0 } #[(.ref pA0), (.int (0 : Int32))] ((pA0, oRun (.ref pA1) (.ref pA2) (.int (0 : Int32)) (.int (0 : Int32))) :: (pA1, .inr (.long, (oK64 (.long kA0) (.long kA1) (.long kA2) (.long kA3) (.long kA4) (.long kA5)), true)) :: (pA2, .inr (.object "java/lang/Object", (oE64 .null .null .null .null .null .null), true)) :: F) (fun r M' => (r = (some (.int (0 : Int32))) ∧ M' = ((pA0, oRun (.ref pA1) (.ref pA2) (.int (0 : Int32)) (.int (0 : Int32))) :: (pA1, .inr (.long, (oK64 (.long kA0) (.long kA1) (.long kA2) (.long kA3) (.long kA4) (.long kA5)), true)) :: (pA2, .inr (.object "java/lang/Object", (oE64 .null .null .null .null .null .null), true)) :: F))) := by
  refine Met.of_go pn_19 (Ls := #[.val (.ref pA0), .val (.int (0 : Int32)), .unset]) (fun m => by first | rfl | (simp [entryFrame, mkF, argsToLocals, Value.category, maxLocals]; done)) ?_
  intro E C
  refine Go.aloadN C dc_prog_23_method_6_0 (q := 1) rfl rfl rfl ?_
  refine Go.getF C (host := "") (Or.inl (wd hw 82 rfl)) Via.refl (fun _ r => r.fld 0 3 rfl rfl) dc_prog_23_method_6_1 (q := 4) rfl ?_
  refine Go.iloadN C dc_prog_23_method_6_4 (q := 5) rfl rfl ?_
  refine Go.iadd C dc_prog_23_method_6_5 (q := 6) rfl ?_
  refine Go.castI (w := (0 : Int32)) (by decide) ?_
  refine Go.istoreN C dc_prog_23_method_6_6 (q := 7) rfl (Ls' := #[.val (.ref pA0), .val (.int (0 : Int32)), .val (.int (0 : Int32))]) rfl ?_
  refine Go.iloadN C dc_prog_23_method_6_7 (q := 8) rfl rfl ?_
  refine Go.aloadN C dc_prog_23_method_6_8 (q := 9) rfl rfl rfl ?_
  refine Go.getF C (host := "") (Or.inl (wd hw 84 rfl)) (Via.of (wd hw 85 rfl)) (fun _ r => r.fld 0 0 rfl rfl) dc_prog_23_method_6_9 (q := 12) rfl ?_
  refine Go.arraylength C (fun _ r => r.arr 1 rfl) (z := (64 : Int32)) rfl dc_prog_23_method_6_12 (q := 13) rfl ?_
  refine Go.icmpYes C dc_prog_23_method_6_13 (by decide) (q := 24) rfl (XT.ii_lt_t (by decide)) ?_
  refine Go.iloadN C dc_prog_23_method_6_24 (q := 25) rfl rfl ?_
  refine Go.retI C rfl dc_prog_23_method_6_25 (by decide) (by decide) ?_
  exact ⟨rfl, rfl⟩
theorem dc_prog_23_method_3_12 : decode prog_23_method_3_code 12 = .ok (.istore 4, 2) := by decide +kernel
theorem dc_prog_23_method_3_14 : decode prog_23_method_3_code 14 = .ok (.aload_n 0, 1) := by decide +kernel
theorem dc_prog_23_method_3_15 : decode prog_23_method_3_code 15 = .ok (.getfield 7, 3) := by decide +kernel
theorem dc_prog_23_method_3_18 : decode prog_23_method_3_code 18 = .ok (.iload 4, 2) := by decide +kernel
theorem dc_prog_23_method_3_20 : decode prog_23_method_3_code 20 = .ok (.lload_n 1, 1) := by decide +kernel
theorem dc_prog_23_method_3_21 : decode prog_23_method_3_code 21 = .ok (.lastore, 1) := by decide +kernel
theorem dc_prog_23_method_3_22 : decode prog_23_method_3_code 22 = .ok (.aload_n 0, 1) := by decide +kernel
theorem dc_prog_23_method_3_23 : decode prog_23_method_3_code 23 = .ok (.getfield 24, 3) := by decide +kernel
theorem dc_prog_23_method_3_26 : decode prog_23_method_3_code 26 = .ok (.iload 4, 2) := by decide +kernel
theorem dc_prog_23_method_3_28 : decode prog_23_method_3_code 28 = .ok (.aload_n 3, 1) := by decide +kernel
theorem dc_prog_23_method_3_29 : decode prog_23_method_3_code 29 = .ok (.aastore, 1) := by decide +kernel
theorem dc_prog_23_method_3_30 : decode prog_23_method_3_code 30 = .ok (.aload_n 0, 1) := by decide +kernel
theorem dc_prog_23_method_3_31 : decode prog_23_method_3_code 31 = .ok (.dup, 1) := by decide +kernel
theorem dc_prog_23_method_3_32 : decode prog_23_method_3_code 32 = .ok (.getfield 13, 3) := by decide +kernel
theorem dc_prog_23_method_3_35 : decode prog_23_method_3_code 35 = .ok (.iconst 1, 1) := by decide +kernel
theorem dc_prog_23_method_3_36 : decode prog_23_method_3_code 36 = .ok (.iadd, 1) := by decide +kernel
theorem dc_prog_23_method_3_37 : decode prog_23_method_3_code 37 = .ok (.putfield 13, 3) := by decide +kernel
theorem dc_prog_23_method_3_40 : decode prog_23_method_3_code 40 = .ok (.return_, 1) := by decide +kernel
theorem pn_20 : plainFor yN23 = true := by first | (apply plainFor_of_name; simp [plainName, overriddenIn]; done) | decide +kernel
set_option maxRecDepth 65536 in
set_option maxHeartbeats 40000000 in
theorem u_SequenceQueue_Run_add_42 (l : Launch) (Z : State) (a0 : Array Value) (hw : ∀ d ∈ tables_1, d.before a0 Z = true) (F : List Ent) (pA0 pA1 pA2 eA0 : Addr) (kA0 kA1 kA2 kA3 kA4 kA5 kA6 : Int64) (hE_eA0 : Exa Z Z.heap eA0 "java/lang/Integer") :
    Met l Z yN23 prog_23_method_3_code 5 none { frames := 1, cells := 0, slots := 0, locals := 14 } #[(.ref pA0), (.long kA0), (.ref eA0)] ((pA0, oRun (.ref pA1) (.ref pA2) (.int (0 : Int32)) (.int (0 : Int32))) :: (pA1, .inr (.long, (oK64 (.long kA1) (.long kA2) (.long kA3) (.long kA4) (.long kA5) (.long kA6)), true)) :: (pA2, .inr (.object "java/lang/Object", (oE64 .null .null .null .null .null .null), true)) :: F) (fun r M' => (r = none ∧ M' = ((pA0, oRun (.ref pA1) (.ref pA2) (.int (1 : Int32)) (.int (0 : Int32))) :: (pA1, .inr (.long, (oK64 (.long kA0) (.long kA2) (.long kA3) (.long kA4) (.long kA5) (.long kA6)), true)) :: (pA2, .inr (.object "java/lang/Object", (oE64 (.ref eA0) .null .null .null .null .null), true)) :: F))) := by
  refine Met.of_go pn_20 (Ls := #[.val (.ref pA0), .val (.long kA0), .second, .val (.ref eA0), .unset]) (fun m => by first | rfl | (simp [entryFrame, mkF, argsToLocals, Value.category, maxLocals]; done)) ?_
  intro E C
  refine Go.aloadN C dc_prog_23_method_3_0 (q := 1) rfl rfl rfl ?_
  refine Go.callU C (y := yN21) (z := yN20) (owner := "com/example/ordered_dispatch/ordereddispatch/SequenceQueue$Part") (a := pA0) (as := []) (rest := []) (wd hw 70 rfl) (wd hw 71 rfl) (wd hw 72 rfl) (wd hw 74 rfl) (wd hw 73 rfl) (wd hw 75 rfl) (wd hw 18 rfl) (fun _ r => r.exa 0 rfl) (u_SequenceQueue_Part_makeRoom_43 l Z a0 hw _ pA0 pA1 pA2 kA1 kA2 kA3 kA4 kA5 kA6) rfl dc_prog_23_method_3_1 (q := 4) rfl (by decide) rfl (na := 0) (by decide +kernel) rfl (by decide) (W := 0) rfl (by decide) (by decide) (by decide) (k' := 0) (n' := 0) rfl rfl ?_
  rintro _ _ ⟨rfl, rfl⟩
  show Go _ _ _ _ _ _ _ _ _ _ []
  refine Go.aloadN C dc_prog_23_method_3_4 (q := 5) rfl rfl rfl ?_
  refine Go.aloadN C dc_prog_23_method_3_5 (q := 6) rfl rfl rfl ?_
  refine Go.getF C (host := "") (Or.inl (wd hw 77 rfl)) (Via.of (wd hw 64 rfl)) (fun _ r => r.fld 0 2 rfl rfl) dc_prog_23_method_3_6 (q := 9) rfl ?_
  refine Go.callP C (y := yN22) (a := pA0) (as := [(.int (0 : Int32))]) (rest := []) (wd hw 78 rfl) (wd hw 79 rfl) (sel_priv (y := yN22) (wd hw 10 rfl) (wd hw 79 rfl) (wd hw 80 rfl) (by decide)) (wd hw 80 rfl) (wd hw 81 rfl) (wd hw 11 rfl) (fun _ r => r.exa 0 rfl) (u_SequenceQueue_Run_slot_45 l Z a0 hw _ pA0 pA1 pA2 kA1 kA2 kA3 kA4 kA5 kA6) rfl dc_prog_23_method_3_9 (q := 12) rfl (by decide) rfl (na := 1) (by decide +kernel) rfl (by decide) (W := 0) rfl (by decide) (by decide) (by decide) (k' := 0) (n' := 0) rfl rfl ?_
  rintro _ _ ⟨rfl, rfl⟩
  show Go _ _ _ _ _ _ _ _ _ _ [(.int (0 : Int32))]
  refine Go.istore C dc_prog_23_method_3_12 (q := 14) rfl (Ls' := #[.val (.ref pA0), .val (.long kA0), .second, .val (.ref eA0), .val (.int (0 : Int32))]) rfl ?_
  refine Go.aloadN C dc_prog_23_method_3_14 (q := 15) rfl rfl rfl ?_
  refine Go.getF C (host := "") (Or.inl (wd hw 84 rfl)) (Via.of (wd hw 85 rfl)) (fun _ r => r.fld 0 0 rfl rfl) dc_prog_23_method_3_15 (q := 18) rfl ?_
  refine Go.iload C dc_prog_23_method_3_18 (q := 20) rfl rfl ?_
  refine Go.lloadN C dc_prog_23_method_3_20 (q := 21) rfl rfl ?_
  refine Go.lastore C (i := 1) rfl (by decide) (show (0 : Int32).toNatClampNeg < 64 from by decide) (w' := (.long kA0)) rfl dc_prog_23_method_3_21 (q := 22) rfl (M' := ((pA0, oRun (.ref pA1) (.ref pA2) (.int (0 : Int32)) (.int (0 : Int32))) :: (pA1, .inr (.long, (oK64 (.long kA0) (.long kA2) (.long kA3) (.long kA4) (.long kA5) (.long kA6)), true)) :: (pA2, .inr (.object "java/lang/Object", (oE64 .null .null .null .null .null .null), true)) :: F)) rfl ?_
  refine Go.aloadN C dc_prog_23_method_3_22 (q := 23) rfl rfl rfl ?_
  refine Go.getF C (host := "") (Or.inl (wd hw 86 rfl)) (Via.of (wd hw 87 rfl)) (fun _ r => r.fld 0 1 rfl rfl) dc_prog_23_method_3_23 (q := 26) rfl ?_
  refine Go.iload C dc_prog_23_method_3_26 (q := 28) rfl rfl ?_
  refine Go.aloadN C dc_prog_23_method_3_28 (q := 29) rfl rfl rfl ?_
  refine Go.aastore C (i := 2) rfl (by decide) (show (0 : Int32).toNatClampNeg < 64 from by decide) (fun _ r => Or.inr ⟨_, rfl, Ins.of_exa ((hE_eA0).ext r.1) (wd hw 88 rfl)⟩) dc_prog_23_method_3_29 (q := 30) rfl (M' := ((pA0, oRun (.ref pA1) (.ref pA2) (.int (0 : Int32)) (.int (0 : Int32))) :: (pA1, .inr (.long, (oK64 (.long kA0) (.long kA2) (.long kA3) (.long kA4) (.long kA5) (.long kA6)), true)) :: (pA2, .inr (.object "java/lang/Object", (oE64 (.ref eA0) .null .null .null .null .null), true)) :: F)) rfl ?_
  refine Go.aloadN C dc_prog_23_method_3_30 (q := 31) rfl rfl rfl ?_
  refine Go.dup C dc_prog_23_method_3_31 (q := 32) rfl rfl ?_
  refine Go.getF C (host := "") (Or.inl (wd hw 77 rfl)) (Via.of (wd hw 64 rfl)) (fun _ r => r.fld 0 2 rfl rfl) dc_prog_23_method_3_32 (q := 35) rfl ?_
  refine Go.iconst C dc_prog_23_method_3_35 (q := 36) rfl (v := (1 : Int32)) rfl ?_
  refine Go.iadd C dc_prog_23_method_3_36 (q := 37) rfl ?_
  refine Go.castI (w := (1 : Int32)) (by decide) ?_
  refine Go.putF C (host := "") (i := 0) (j := 2) (Or.inl (wd hw 77 rfl)) (Via.of (wd hw 64 rfl)) rfl rfl (Or.inl (wd hw 65 rfl)) (wd hw 10 rfl) (ty := .int) (by decide) rfl rfl dc_prog_23_method_3_37 (q := 40) rfl (M' := ((pA0, oRun (.ref pA1) (.ref pA2) (.int (1 : Int32)) (.int (0 : Int32))) :: (pA1, .inr (.long, (oK64 (.long kA0) (.long kA2) (.long kA3) (.long kA4) (.long kA5) (.long kA6)), true)) :: (pA2, .inr (.object "java/lang/Object", (oE64 (.ref eA0) .null .null .null .null .null), true)) :: F)) rfl ?_
  refine Go.ret0 C rfl dc_prog_23_method_3_40 (by decide) (by decide) ?_
  exact ⟨rfl, rfl⟩
theorem dc_prog_20_method_9_31 : decode prog_20_method_9_code 31 = .ok (.goto 12, 3) := by decide +kernel
theorem dc_prog_20_method_9_43 : decode prog_20_method_9_code 43 = .ok (.return_, 1) := by decide +kernel
theorem pn_21 : plainFor yN24 = true := by first | (apply plainFor_of_name; simp [plainName, overriddenIn]; done) | decide +kernel
set_option maxRecDepth 65536 in
set_option maxHeartbeats 40000000 in
theorem u_SequenceQueue_place_41 (l : Launch) (Z : State) (a0 : Array Value) (hw : ∀ d ∈ tables_1, d.before a0 Z = true) (F : List Ent) (pA0 pA1 pA2 pA3 pA4 pA5 pA6 eA0 eA1 : Addr) (kA0 kA1 kA2 kA3 kA4 kA5 kA6 kA7 kA8 kA9 kA10 kA11 kA12 kA13 : Int64) (hE_eA0 : Exa Z Z.heap eA0 "java/lang/Integer") (hE_eA1 : Exa Z Z.heap eA1 "java/lang/Integer") :
    Met l Z yN24 prog_20_method_9_code 4 none { frames := 2, cells := 0, slots := 0, locals := 30 } #[(.ref pA0), (.long kA0), (.ref eA0)] ((pA0, oQ (.ref pA1) (.ref pA4) (.int (1 : Int32)) (.long kA1) (.ref eA1)) :: (pA1, oRun (.ref pA2) (.ref pA3) (.int (0 : Int32)) (.int (0 : Int32))) :: (pA2, .inr (.long, (oK64 (.long kA2) (.long kA3) (.long kA4) (.long kA5) (.long kA6) (.long kA7)), true)) :: (pA3, .inr (.object "java/lang/Object", (oE64 .null .null .null .null .null .null), true)) :: (pA4, oHeap (.ref pA5) (.ref pA6) (.int (0 : Int32))) :: (pA5, .inr (.long, (oK64 (.long kA8) (.long kA9) (.long kA10) (.long kA11) (.long kA12) (.long kA13)), true)) :: (pA6, .inr (.object "java/lang/Object", (oE64 .null .null .null .null .null .null), true)) :: F) (fun r M' => (r = none ∧ M' = ((pA1, oRun (.ref pA2) (.ref pA3) (.int (1 : Int32)) (.int (0 : Int32))) :: (pA2, .inr (.long, (oK64 (.long kA0) (.long kA3) (.long kA4) (.long kA5) (.long kA6) (.long kA7)), true)) :: (pA3, .inr (.object "java/lang/Object", (oE64 (.ref eA0) .null .null .null .null .null), true)) :: (pA0, oQ (.ref pA1) (.ref pA4) (.int (1 : Int32)) (.long kA1) (.ref eA1)) :: (pA4, oHeap (.ref pA5) (.ref pA6) (.int (0 : Int32))) :: (pA5, .inr (.long, (oK64 (.long kA8) (.long kA9) (.long kA10) (.long kA11) (.long kA12) (.long kA13)), true)) :: (pA6, .inr (.object "java/lang/Object", (oE64 .null .null .null .null .null .null), true)) :: F))) := by
  refine Met.of_go pn_21 (Ls := #[.val (.ref pA0), .val (.long kA0), .second, .val (.ref eA0)]) (fun m => by first | rfl | (simp [entryFrame, mkF, argsToLocals, Value.category, maxLocals]; done)) ?_
  intro E C
  refine Go.aloadN C dc_prog_20_method_9_0 (q := 1) rfl rfl rfl ?_
  refine Go.getF C (host := "") (Or.inl (wd hw 28 rfl)) Via.refl (fun _ r => r.fld 0 0 rfl rfl) dc_prog_20_method_9_1 (q := 4) rfl ?_
  refine Go.getF C (host := "") (Or.inl (wd hw 63 rfl)) (Via.of (wd hw 64 rfl)) (fun _ r => r.fld 1 2 rfl rfl) dc_prog_20_method_9_4 (q := 7) rfl ?_
  refine Go.ifYes C dc_prog_20_method_9_7 (by decide) (q := 22) rfl (XT.i0_eq_t (by decide)) ?_
  refine Go.aloadN C dc_prog_20_method_9_22 (q := 23) rfl rfl rfl ?_
  refine Go.getF C (host := "") (Or.inl (wd hw 28 rfl)) Via.refl (fun _ r => r.fld 0 0 rfl rfl) dc_prog_20_method_9_23 (q := 26) rfl ?_
  refine Go.lloadN C dc_prog_20_method_9_26 (q := 27) rfl rfl ?_
  refine Go.aloadN C dc_prog_20_method_9_27 (q := 28) rfl rfl rfl ?_
  refine Go.pick (M' := ((pA1, oRun (.ref pA2) (.ref pA3) (.int (0 : Int32)) (.int (0 : Int32))) :: (pA2, .inr (.long, (oK64 (.long kA2) (.long kA3) (.long kA4) (.long kA5) (.long kA6) (.long kA7)), true)) :: (pA3, .inr (.object "java/lang/Object", (oE64 .null .null .null .null .null .null), true)) :: (pA0, oQ (.ref pA1) (.ref pA4) (.int (1 : Int32)) (.long kA1) (.ref eA1)) :: (pA4, oHeap (.ref pA5) (.ref pA6) (.int (0 : Int32))) :: (pA5, .inr (.long, (oK64 (.long kA8) (.long kA9) (.long kA10) (.long kA11) (.long kA12) (.long kA13)), true)) :: (pA6, .inr (.object "java/lang/Object", (oE64 .null .null .null .null .null .null), true)) :: F)) 7 [1, 2, 3, 0, 4, 5, 6] (by decide) (by decide) rfl ?_
  refine Go.callPR C (y := yN23) (a := pA1) (as := [(.long kA0), (.ref eA0)]) (rest := []) (wd hw 66 rfl) (wd hw 67 rfl) (sel_priv (y := yN23) (wd hw 10 rfl) (wd hw 67 rfl) (wd hw 68 rfl) (by decide)) (wd hw 68 rfl) (wd hw 69 rfl) (wd hw 11 rfl) (fun _ r => r.exa 0 rfl) (u_SequenceQueue_Run_add_42 l Z a0 hw _ pA1 pA2 pA3 eA0 kA0 kA2 kA3 kA4 kA5 kA6 kA7 hE_eA0) rfl dc_prog_20_method_9_28 (q := 31) rfl (by decide) rfl (na := 2) (by decide +kernel) rfl (by decide) (W := 0) rfl (by decide) (by decide) (by decide) (k' := 0) (n' := 0) rfl rfl ?_
  rintro _ _ ⟨rfl, rfl⟩
  show Go _ _ _ _ _ _ _ _ _ _ []
  refine Go.goto C dc_prog_20_method_9_31 (by decide) (q := 43) rfl ?_
  refine Go.ret0 C rfl dc_prog_20_method_9_43 (by decide) (by decide) ?_
  exact ⟨rfl, rfl⟩
set_option maxRecDepth 65536 in
set_option maxHeartbeats 40000000 in
theorem u_SequenceQueue_add_40 (l : Launch) (Z : State) (a0 : Array Value) (hw : ∀ d ∈ tables_1, d.before a0 Z = true) (F : List Ent) (pA0 pA1 pA2 pA3 pA4 pA5 pA6 eA0 eA1 : Addr) (kA0 kA1 kA2 kA3 kA4 kA5 kA6 kA7 kA8 kA9 kA10 kA11 kA12 kA13 : Int64) (hE_eA0 : Exa Z Z.heap eA0 "java/lang/Integer") (hE_eA1 : Exa Z Z.heap eA1 "java/lang/Integer") :
    Met l Z yN17 prog_20_method_2_code 4 none { frames := 3, cells := 0, slots := 0, locals := 45 } #[(.ref pA0), (.long kA0), (.ref eA0)] ((pA0, oQ (.ref pA1) (.ref pA4) (.int (1 : Int32)) (.long kA1) (.ref eA1)) :: (pA1, oRun (.ref pA2) (.ref pA3) (.int (0 : Int32)) (.int (0 : Int32))) :: (pA2, .inr (.long, (oK64 (.long kA2) (.long kA3) (.long kA4) (.long kA5) (.long kA6) (.long kA7)), true)) :: (pA3, .inr (.object "java/lang/Object", (oE64 .null .null .null .null .null .null), true)) :: (pA4, oHeap (.ref pA5) (.ref pA6) (.int (0 : Int32))) :: (pA5, .inr (.long, (oK64 (.long kA8) (.long kA9) (.long kA10) (.long kA11) (.long kA12) (.long kA13)), true)) :: (pA6, .inr (.object "java/lang/Object", (oE64 .null .null .null .null .null .null), true)) :: F) (fun r M' => (r = none ∧ M' = ((pA1, oRun (.ref pA2) (.ref pA3) (.int (1 : Int32)) (.int (0 : Int32))) :: (pA2, .inr (.long, (oK64 (.long kA1) (.long kA3) (.long kA4) (.long kA5) (.long kA6) (.long kA7)), true)) :: (pA3, .inr (.object "java/lang/Object", (oE64 (.ref eA1) .null .null .null .null .null), true)) :: (pA0, oQ (.ref pA1) (.ref pA4) (.int (1 : Int32)) (.long kA0) (.ref eA0)) :: (pA4, oHeap (.ref pA5) (.ref pA6) (.int (0 : Int32))) :: (pA5, .inr (.long, (oK64 (.long kA8) (.long kA9) (.long kA10) (.long kA11) (.long kA12) (.long kA13)), true)) :: (pA6, .inr (.object "java/lang/Object", (oE64 .null .null .null .null .null .null), true)) :: F))) := by
  refine Met.of_go pn_15 (Ls := #[.val (.ref pA0), .val (.long kA0), .second, .val (.ref eA0)]) (fun m => by first | rfl | (simp [entryFrame, mkF, argsToLocals, Value.category, maxLocals]; done)) ?_
  intro E C
  refine Go.aloadN C dc_prog_20_method_2_0 (q := 1) rfl rfl rfl ?_
  refine Go.getF C (host := "") (Or.inl (wd hw 53 rfl)) Via.refl (fun _ r => r.fld 0 2 rfl rfl) dc_prog_20_method_2_1 (q := 4) rfl ?_
  refine Go.ifNo C dc_prog_20_method_2_4 (q := 7) rfl (XT.i0_eq_f (by decide)) ?_
  refine Go.aloadN C dc_prog_20_method_2_7 (q := 8) rfl rfl rfl ?_
  refine Go.aloadN C dc_prog_20_method_2_8 (q := 9) rfl rfl rfl ?_
  refine Go.getF C (host := "") (Or.inl (wd hw 55 rfl)) Via.refl (fun _ r => r.fld 0 3 rfl rfl) dc_prog_20_method_2_9 (q := 12) rfl ?_
  refine Go.aloadN C dc_prog_20_method_2_12 (q := 13) rfl rfl rfl ?_
  refine Go.getF C (host := "") (Or.inl (wd hw 57 rfl)) Via.refl (fun _ r => r.fld 0 4 rfl rfl) dc_prog_20_method_2_13 (q := 16) rfl ?_
  refine Go.callP C (y := yN24) (a := pA0) (as := [(.long kA1), (.ref eA1)]) (rest := []) (wd hw 59 rfl) (wd hw 60 rfl) (sel_priv (y := yN24) (wd hw 1 rfl) (wd hw 60 rfl) (wd hw 61 rfl) (by decide)) (wd hw 61 rfl) (wd hw 62 rfl) (wd hw 2 rfl) (fun _ r => r.exa 0 rfl) (u_SequenceQueue_place_41 l Z a0 hw _ pA0 pA1 pA2 pA3 pA4 pA5 pA6 eA1 eA1 kA1 kA1 kA2 kA3 kA4 kA5 kA6 kA7 kA8 kA9 kA10 kA11 kA12 kA13 hE_eA1 hE_eA1) rfl dc_prog_20_method_2_16 (q := 19) rfl (by decide) rfl (na := 2) (by decide +kernel) rfl (by decide) (W := 0) rfl (by decide) (by decide) (by decide) (k' := 0) (n' := 0) rfl rfl ?_
  rintro _ _ ⟨rfl, rfl⟩
  show Go _ _ _ _ _ _ _ _ _ _ []
  refine Go.aloadN C dc_prog_20_method_2_19 (q := 20) rfl rfl rfl ?_
  refine Go.iconst C dc_prog_20_method_2_20 (q := 21) rfl (v := (1 : Int32)) rfl ?_
  refine Go.putF C (host := "") (i := 3) (j := 2) (Or.inl (wd hw 53 rfl)) Via.refl rfl rfl (Or.inl (wd hw 54 rfl)) (wd hw 1 rfl) (ty := .boolean) (by decide) rfl rfl dc_prog_20_method_2_21 (q := 24) rfl (M' := ((pA1, oRun (.ref pA2) (.ref pA3) (.int (1 : Int32)) (.int (0 : Int32))) :: (pA2, .inr (.long, (oK64 (.long kA1) (.long kA3) (.long kA4) (.long kA5) (.long kA6) (.long kA7)), true)) :: (pA3, .inr (.object "java/lang/Object", (oE64 (.ref eA1) .null .null .null .null .null), true)) :: (pA0, oQ (.ref pA1) (.ref pA4) (.int (1 : Int32)) (.long kA1) (.ref eA1)) :: (pA4, oHeap (.ref pA5) (.ref pA6) (.int (0 : Int32))) :: (pA5, .inr (.long, (oK64 (.long kA8) (.long kA9) (.long kA10) (.long kA11) (.long kA12) (.long kA13)), true)) :: (pA6, .inr (.object "java/lang/Object", (oE64 .null .null .null .null .null .null), true)) :: F)) rfl ?_
  refine Go.aloadN C dc_prog_20_method_2_24 (q := 25) rfl rfl rfl ?_
  refine Go.lloadN C dc_prog_20_method_2_25 (q := 26) rfl rfl ?_
  refine Go.putF C (host := "") (i := 3) (j := 3) (Or.inl (wd hw 55 rfl)) Via.refl rfl rfl (Or.inl (wd hw 56 rfl)) (wd hw 1 rfl) (ty := .long) (by decide) rfl rfl dc_prog_20_method_2_26 (q := 29) rfl (M' := ((pA1, oRun (.ref pA2) (.ref pA3) (.int (1 : Int32)) (.int (0 : Int32))) :: (pA2, .inr (.long, (oK64 (.long kA1) (.long kA3) (.long kA4) (.long kA5) (.long kA6) (.long kA7)), true)) :: (pA3, .inr (.object "java/lang/Object", (oE64 (.ref eA1) .null .null .null .null .null), true)) :: (pA0, oQ (.ref pA1) (.ref pA4) (.int (1 : Int32)) (.long kA0) (.ref eA1)) :: (pA4, oHeap (.ref pA5) (.ref pA6) (.int (0 : Int32))) :: (pA5, .inr (.long, (oK64 (.long kA8) (.long kA9) (.long kA10) (.long kA11) (.long kA12) (.long kA13)), true)) :: (pA6, .inr (.object "java/lang/Object", (oE64 .null .null .null .null .null .null), true)) :: F)) rfl ?_
  refine Go.aloadN C dc_prog_20_method_2_29 (q := 30) rfl rfl rfl ?_
  refine Go.aloadN C dc_prog_20_method_2_30 (q := 31) rfl rfl rfl ?_
  refine Go.putF C (host := "") (i := 3) (j := 4) (Or.inl (wd hw 57 rfl)) Via.refl rfl rfl (Or.inl (wd hw 58 rfl)) (wd hw 1 rfl) (ty := (.object "java/lang/Object")) (by decide) rfl rfl dc_prog_20_method_2_31 (q := 34) rfl (M' := ((pA1, oRun (.ref pA2) (.ref pA3) (.int (1 : Int32)) (.int (0 : Int32))) :: (pA2, .inr (.long, (oK64 (.long kA1) (.long kA3) (.long kA4) (.long kA5) (.long kA6) (.long kA7)), true)) :: (pA3, .inr (.object "java/lang/Object", (oE64 (.ref eA1) .null .null .null .null .null), true)) :: (pA0, oQ (.ref pA1) (.ref pA4) (.int (1 : Int32)) (.long kA0) (.ref eA0)) :: (pA4, oHeap (.ref pA5) (.ref pA6) (.int (0 : Int32))) :: (pA5, .inr (.long, (oK64 (.long kA8) (.long kA9) (.long kA10) (.long kA11) (.long kA12) (.long kA13)), true)) :: (pA6, .inr (.object "java/lang/Object", (oE64 .null .null .null .null .null .null), true)) :: F)) rfl ?_
  refine Go.ret0 C rfl dc_prog_20_method_2_34 (by decide) (by decide) ?_
  exact ⟨rfl, rfl⟩
set_option maxRecDepth 65536 in
set_option maxHeartbeats 40000000 in
theorem u_SequenceQueue_Part_clear_52 (l : Launch) (Z : State) (a0 : Array Value) (hw : ∀ d ∈ tables_1, d.before a0 Z = true) (F : List Ent) (pA0 pA1 pA2 eA0 : Addr) (kA0 kA1 kA2 kA3 kA4 kA5 : Int64) (hE_eA0 : Exa Z Z.heap eA0 "java/lang/Integer") :
    Met l Z yN4 prog_22_method_4_code 1 none { frames := 0, cells := 2, slots := 128, locals := 0 } #[(.ref pA0)] ((pA0, oRun (.ref pA1) (.ref pA2) (.int (1 : Int32)) (.int (0 : Int32))) :: (pA1, .inr (.long, (oK64 (.long kA0) (.long kA1) (.long kA2) (.long kA3) (.long kA4) (.long kA5)), true)) :: (pA2, .inr (.object "java/lang/Object", (oE64 (.ref eA0) .null .null .null .null .null), true)) :: F) (fun r M' => (∃ sA0 sA1 : Addr, r = none ∧ M' = ((sA0, .inr (.object "java/lang/Object", (oE64 .null .null .null .null .null .null), true)) :: (sA1, .inr (.long, (oK64 (.long (0 : Int64)) (.long (0 : Int64)) (.long (0 : Int64)) (.long (0 : Int64)) (.long (0 : Int64)) (.long (0 : Int64))), true)) :: (pA0, oRun (.ref sA1) (.ref sA0) (.int (0 : Int32)) (.int (0 : Int32))) :: (pA1, .inr (.long, (oK64 (.long kA0) (.long kA1) (.long kA2) (.long kA3) (.long kA4) (.long kA5)), true)) :: (pA2, .inr (.object "java/lang/Object", (oE64 (.ref eA0) .null .null .null .null .null), true)) :: F))) := by
  refine Met.of_go pn_4 (Ls := #[.val (.ref pA0)]) (fun m => by first | rfl | (simp [entryFrame, mkF, argsToLocals, Value.category, maxLocals]; done)) ?_
  intro E C
  refine Go.aloadN C dc_prog_22_method_4_0 (q := 1) rfl rfl rfl ?_
  refine Go.bipush C dc_prog_22_method_4_1 (q := 3) rfl (v := (64 : Int32)) (by decide) ?_
  refine Go.newarray C (ty := .long) (wd hw 21 rfl) rfl (by simp) (by decide) (cap := 64) (by decide) (by decide) (vs := (oK64 (.long (0 : Int64)) (.long (0 : Int64)) (.long (0 : Int64)) (.long (0 : Int64)) (.long (0 : Int64)) (.long (0 : Int64)))) rfl dc_prog_22_method_4_3 (q := 5) rfl (by decide) (by decide) (k' := 1) (n' := 64) rfl rfl (fun o32 => ?_)
  refine Go.putF C (host := "") (i := 1) (j := 0) (Or.inl (wd hw 22 rfl)) Via.refl rfl rfl (Or.inl (wd hw 23 rfl)) (wd hw 10 rfl) (ty := (.array .long)) (by decide) rfl rfl dc_prog_22_method_4_5 (q := 8) rfl (M' := ((o32, .inr (.long, (oK64 (.long (0 : Int64)) (.long (0 : Int64)) (.long (0 : Int64)) (.long (0 : Int64)) (.long (0 : Int64)) (.long (0 : Int64))), true)) :: (pA0, oRun (.ref o32) (.ref pA2) (.int (1 : Int32)) (.int (0 : Int32))) :: (pA1, .inr (.long, (oK64 (.long kA0) (.long kA1) (.long kA2) (.long kA3) (.long kA4) (.long kA5)), true)) :: (pA2, .inr (.object "java/lang/Object", (oE64 (.ref eA0) .null .null .null .null .null), true)) :: F)) rfl ?_
  refine Go.aloadN C dc_prog_22_method_4_8 (q := 9) rfl rfl rfl ?_
  refine Go.bipush C dc_prog_22_method_4_9 (q := 11) rfl (v := (64 : Int32)) (by decide) ?_
  refine Go.anewarray C (wd hw 24 rfl) (wd hw 25 rfl) (by decide) (cap := 64) (by decide) (by decide) (vs := (oE64 .null .null .null .null .null .null)) rfl dc_prog_22_method_4_11 (q := 14) rfl (by decide) (by decide) (k' := 2) (n' := 128) rfl rfl (fun o33 => ?_)
  refine Go.putF C (host := "") (i := 2) (j := 1) (Or.inl (wd hw 26 rfl)) Via.refl rfl rfl (Or.inl (wd hw 27 rfl)) (wd hw 10 rfl) (ty := (.array (.object "java/lang/Object"))) (by decide) rfl rfl dc_prog_22_method_4_14 (q := 17) rfl (M' := ((o33, .inr (.object "java/lang/Object", (oE64 .null .null .null .null .null .null), true)) :: (o32, .inr (.long, (oK64 (.long (0 : Int64)) (.long (0 : Int64)) (.long (0 : Int64)) (.long (0 : Int64)) (.long (0 : Int64)) (.long (0 : Int64))), true)) :: (pA0, oRun (.ref o32) (.ref o33) (.int (1 : Int32)) (.int (0 : Int32))) :: (pA1, .inr (.long, (oK64 (.long kA0) (.long kA1) (.long kA2) (.long kA3) (.long kA4) (.long kA5)), true)) :: (pA2, .inr (.object "java/lang/Object", (oE64 (.ref eA0) .null .null .null .null .null), true)) :: F)) rfl ?_
  refine Go.aloadN C dc_prog_22_method_4_17 (q := 18) rfl rfl rfl ?_
  refine Go.iconst C dc_prog_22_method_4_18 (q := 19) rfl (v := (0 : Int32)) rfl ?_
  refine Go.putF C (host := "") (i := 2) (j := 2) (Or.inl (wd hw 76 rfl)) Via.refl rfl rfl (Or.inl (wd hw 65 rfl)) (wd hw 10 rfl) (ty := .int) (by decide) rfl rfl dc_prog_22_method_4_19 (q := 22) rfl (M' := ((o33, .inr (.object "java/lang/Object", (oE64 .null .null .null .null .null .null), true)) :: (o32, .inr (.long, (oK64 (.long (0 : Int64)) (.long (0 : Int64)) (.long (0 : Int64)) (.long (0 : Int64)) (.long (0 : Int64)) (.long (0 : Int64))), true)) :: (pA0, oRun (.ref o32) (.ref o33) (.int (0 : Int32)) (.int (0 : Int32))) :: (pA1, .inr (.long, (oK64 (.long kA0) (.long kA1) (.long kA2) (.long kA3) (.long kA4) (.long kA5)), true)) :: (pA2, .inr (.object "java/lang/Object", (oE64 (.ref eA0) .null .null .null .null .null), true)) :: F)) rfl ?_
  refine Go.ret0 C rfl dc_prog_22_method_4_22 (by decide) (by decide) ?_
  exact ⟨_, _, rfl, rfl⟩
set_option maxRecDepth 65536 in
set_option maxHeartbeats 40000000 in
theorem u_SequenceQueue_Run_clear_51 (l : Launch) (Z : State) (a0 : Array Value) (hw : ∀ d ∈ tables_1, d.before a0 Z = true) (F : List Ent) (pA0 pA1 pA2 eA0 : Addr) (kA0 kA1 kA2 kA3 kA4 kA5 : Int64) (hE_eA0 : Exa Z Z.heap eA0 "java/lang/Integer") :
    Met l Z yN5 prog_23_method_5_code 1 none { frames := 1, cells := 2, slots := 128, locals := 12 } #[(.ref pA0)] ((pA0, oRun (.ref pA1) (.ref pA2) (.int (1 : Int32)) (.int (0 : Int32))) :: (pA1, .inr (.long, (oK64 (.long kA0) (.long kA1) (.long kA2) (.long kA3) (.long kA4) (.long kA5)), true)) :: (pA2, .inr (.object "java/lang/Object", (oE64 (.ref eA0) .null .null .null .null .null), true)) :: F) (fun r M' => (∃ sA0 sA1 : Addr, r = none ∧ M' = ((sA0, .inr (.object "java/lang/Object", (oE64 .null .null .null .null .null .null), true)) :: (sA1, .inr (.long, (oK64 (.long (0 : Int64)) (.long (0 : Int64)) (.long (0 : Int64)) (.long (0 : Int64)) (.long (0 : Int64)) (.long (0 : Int64))), true)) :: (pA0, oRun (.ref sA1) (.ref sA0) (.int (0 : Int32)) (.int (0 : Int32))) :: (pA1, .inr (.long, (oK64 (.long kA0) (.long kA1) (.long kA2) (.long kA3) (.long kA4) (.long kA5)), true)) :: (pA2, .inr (.object "java/lang/Object", (oE64 (.ref eA0) .null .null .null .null .null), true)) :: F))) := by
  refine Met.of_go pn_5 (Ls := #[.val (.ref pA0)]) (fun m => by first | rfl | (simp [entryFrame, mkF, argsToLocals, Value.category, maxLocals]; done)) ?_
  intro E C
  refine Go.aloadN C dc_prog_23_method_5_0 (q := 1) rfl rfl rfl ?_
  refine Go.callSup C (y := yN4) (a := pA0) (as := []) (rest := []) (wd hw 117 rfl) (same_of_sel (y := yN4) (by decide) (wd hw 124 rfl)) (wd hw 118 rfl) (wd hw 119 rfl) (by decide) (wd hw 121 rfl) (wd hw 18 rfl) (fun _ r => r.exa 0 rfl) (u_SequenceQueue_Part_clear_52 l Z a0 hw _ pA0 pA1 pA2 eA0 kA0 kA1 kA2 kA3 kA4 kA5 hE_eA0) rfl dc_prog_23_method_5_1 (q := 4) rfl (by decide) rfl (na := 0) (by decide +kernel) rfl (by decide) (W := 0) rfl (by decide) (by decide) (by decide) (k' := 2) (n' := 128) rfl rfl ?_
  rintro _ _ ⟨o32, o33, rfl, rfl⟩
  show Go _ _ _ _ _ _ _ _ _ _ []
  refine Go.aloadN C dc_prog_23_method_5_4 (q := 5) rfl rfl rfl ?_
  refine Go.iconst C dc_prog_23_method_5_5 (q := 6) rfl (v := (0 : Int32)) rfl ?_
  refine Go.putF C (host := "") (i := 2) (j := 3) (Or.inl (wd hw 82 rfl)) Via.refl rfl rfl (Or.inl (wd hw 83 rfl)) (wd hw 10 rfl) (ty := .int) (by decide) rfl rfl dc_prog_23_method_5_6 (q := 9) rfl (M' := ((o32, .inr (.object "java/lang/Object", (oE64 .null .null .null .null .null .null), true)) :: (o33, .inr (.long, (oK64 (.long (0 : Int64)) (.long (0 : Int64)) (.long (0 : Int64)) (.long (0 : Int64)) (.long (0 : Int64)) (.long (0 : Int64))), true)) :: (pA0, oRun (.ref o33) (.ref o32) (.int (0 : Int32)) (.int (0 : Int32))) :: (pA1, .inr (.long, (oK64 (.long kA0) (.long kA1) (.long kA2) (.long kA3) (.long kA4) (.long kA5)), true)) :: (pA2, .inr (.object "java/lang/Object", (oE64 (.ref eA0) .null .null .null .null .null), true)) :: F)) rfl ?_
  refine Go.ret0 C rfl dc_prog_23_method_5_9 (by decide) (by decide) ?_
  exact ⟨_, _, rfl, rfl⟩
set_option maxRecDepth 65536 in
set_option maxHeartbeats 40000000 in
theorem u_SequenceQueue_clear_50 (l : Launch) (Z : State) (a0 : Array Value) (hw : ∀ d ∈ tables_1, d.before a0 Z = true) (F : List Ent) (pA0 pA1 pA2 pA3 pA4 pA5 pA6 eA0 eA1 : Addr) (kA0 kA1 kA2 kA3 kA4 kA5 kA6 kA7 kA8 kA9 kA10 kA11 kA12 : Int64) (hE_eA0 : Exa Z Z.heap eA0 "java/lang/Integer") (hE_eA1 : Exa Z Z.heap eA1 "java/lang/Integer") :
    Met l Z yN7 prog_20_method_8_code 1 none { frames := 2, cells := 4, slots := 256, locals := 24 } #[(.ref pA0)] ((pA0, oQ (.ref pA1) (.ref pA4) (.int (1 : Int32)) (.long kA0) (.ref eA0)) :: (pA1, oRun (.ref pA2) (.ref pA3) (.int (1 : Int32)) (.int (0 : Int32))) :: (pA2, .inr (.long, (oK64 (.long kA1) (.long kA2) (.long kA3) (.long kA4) (.long kA5) (.long kA6)), true)) :: (pA3, .inr (.object "java/lang/Object", (oE64 (.ref eA1) .null .null .null .null .null), true)) :: (pA4, oHeap (.ref pA5) (.ref pA6) (.int (0 : Int32))) :: (pA5, .inr (.long, (oK64 (.long kA7) (.long kA8) (.long kA9) (.long kA10) (.long kA11) (.long kA12)), true)) :: (pA6, .inr (.object "java/lang/Object", (oE64 .null .null .null .null .null .null), true)) :: F) (fun r M' => (∃ sA0 sA1 sA2 sA3 : Addr, r = none ∧ M' = ((sA0, .inr (.object "java/lang/Object", (oE64 .null .null .null .null .null .null), true)) :: (sA1, .inr (.long, (oK64 (.long (0 : Int64)) (.long (0 : Int64)) (.long (0 : Int64)) (.long (0 : Int64)) (.long (0 : Int64)) (.long (0 : Int64))), true)) :: (pA4, oHeap (.ref sA1) (.ref sA0) (.int (0 : Int32))) :: (pA5, .inr (.long, (oK64 (.long kA7) (.long kA8) (.long kA9) (.long kA10) (.long kA11) (.long kA12)), true)) :: (pA6, .inr (.object "java/lang/Object", (oE64 .null .null .null .null .null .null), true)) :: (sA2, .inr (.object "java/lang/Object", (oE64 .null .null .null .null .null .null), true)) :: (sA3, .inr (.long, (oK64 (.long (0 : Int64)) (.long (0 : Int64)) (.long (0 : Int64)) (.long (0 : Int64)) (.long (0 : Int64)) (.long (0 : Int64))), true)) :: (pA1, oRun (.ref sA3) (.ref sA2) (.int (0 : Int32)) (.int (0 : Int32))) :: (pA2, .inr (.long, (oK64 (.long kA1) (.long kA2) (.long kA3) (.long kA4) (.long kA5) (.long kA6)), true)) :: (pA3, .inr (.object "java/lang/Object", (oE64 (.ref eA1) .null .null .null .null .null), true)) :: (pA0, oQ (.ref pA1) (.ref pA4) (.int (0 : Int32)) (.long kA0) .null) :: F))) := by
  refine Met.of_go pn_6 (Ls := #[.val (.ref pA0)]) (fun m => by first | rfl | (simp [entryFrame, mkF, argsToLocals, Value.category, maxLocals]; done)) ?_
  intro E C
  refine Go.aloadN C dc_prog_20_method_8_0 (q := 1) rfl rfl rfl ?_
  refine Go.iconst C dc_prog_20_method_8_1 (q := 2) rfl (v := (0 : Int32)) rfl ?_
  refine Go.putF C (host := "") (i := 0) (j := 2) (Or.inl (wd hw 53 rfl)) Via.refl rfl rfl (Or.inl (wd hw 54 rfl)) (wd hw 1 rfl) (ty := .boolean) (by decide) rfl rfl dc_prog_20_method_8_2 (q := 5) rfl (M' := ((pA0, oQ (.ref pA1) (.ref pA4) (.int (0 : Int32)) (.long kA0) (.ref eA0)) :: (pA1, oRun (.ref pA2) (.ref pA3) (.int (1 : Int32)) (.int (0 : Int32))) :: (pA2, .inr (.long, (oK64 (.long kA1) (.long kA2) (.long kA3) (.long kA4) (.long kA5) (.long kA6)), true)) :: (pA3, .inr (.object "java/lang/Object", (oE64 (.ref eA1) .null .null .null .null .null), true)) :: (pA4, oHeap (.ref pA5) (.ref pA6) (.int (0 : Int32))) :: (pA5, .inr (.long, (oK64 (.long kA7) (.long kA8) (.long kA9) (.long kA10) (.long kA11) (.long kA12)), true)) :: (pA6, .inr (.object "java/lang/Object", (oE64 .null .null .null .null .null .null), true)) :: F)) rfl ?_
  refine Go.aloadN C dc_prog_20_method_8_5 (q := 6) rfl rfl rfl ?_
  refine Go.aconstNull C dc_prog_20_method_8_6 (q := 7) rfl ?_
  refine Go.putF C (host := "") (i := 0) (j := 4) (Or.inl (wd hw 57 rfl)) Via.refl rfl rfl (Or.inl (wd hw 58 rfl)) (wd hw 1 rfl) (ty := (.object "java/lang/Object")) (by decide) rfl rfl dc_prog_20_method_8_7 (q := 10) rfl (M' := ((pA0, oQ (.ref pA1) (.ref pA4) (.int (0 : Int32)) (.long kA0) .null) :: (pA1, oRun (.ref pA2) (.ref pA3) (.int (1 : Int32)) (.int (0 : Int32))) :: (pA2, .inr (.long, (oK64 (.long kA1) (.long kA2) (.long kA3) (.long kA4) (.long kA5) (.long kA6)), true)) :: (pA3, .inr (.object "java/lang/Object", (oE64 (.ref eA1) .null .null .null .null .null), true)) :: (pA4, oHeap (.ref pA5) (.ref pA6) (.int (0 : Int32))) :: (pA5, .inr (.long, (oK64 (.long kA7) (.long kA8) (.long kA9) (.long kA10) (.long kA11) (.long kA12)), true)) :: (pA6, .inr (.object "java/lang/Object", (oE64 .null .null .null .null .null .null), true)) :: F)) rfl ?_
  refine Go.aloadN C dc_prog_20_method_8_10 (q := 11) rfl rfl rfl ?_
  refine Go.getF C (host := "") (Or.inl (wd hw 28 rfl)) Via.refl (fun _ r => r.fld 0 0 rfl rfl) dc_prog_20_method_8_11 (q := 14) rfl ?_
  refine Go.pick (M' := ((pA1, oRun (.ref pA2) (.ref pA3) (.int (1 : Int32)) (.int (0 : Int32))) :: (pA2, .inr (.long, (oK64 (.long kA1) (.long kA2) (.long kA3) (.long kA4) (.long kA5) (.long kA6)), true)) :: (pA3, .inr (.object "java/lang/Object", (oE64 (.ref eA1) .null .null .null .null .null), true)) :: (pA0, oQ (.ref pA1) (.ref pA4) (.int (0 : Int32)) (.long kA0) .null) :: (pA4, oHeap (.ref pA5) (.ref pA6) (.int (0 : Int32))) :: (pA5, .inr (.long, (oK64 (.long kA7) (.long kA8) (.long kA9) (.long kA10) (.long kA11) (.long kA12)), true)) :: (pA6, .inr (.object "java/lang/Object", (oE64 .null .null .null .null .null .null), true)) :: F)) 7 [1, 2, 3, 0, 4, 5, 6] (by decide) (by decide) rfl ?_
  refine Go.callV C (y := yN5) (z := yN5) (a := pA1) (as := []) (rest := []) (wd hw 112 rfl) (wd hw 113 rfl) (nf_sel (z := yN5) (wd hw 115 rfl)) (wd hw 115 rfl) (wd hw 114 rfl) (wd hw 116 rfl) (wd hw 11 rfl) (fun _ r => r.exa 0 rfl) (u_SequenceQueue_Run_clear_51 l Z a0 hw _ pA1 pA2 pA3 eA1 kA1 kA2 kA3 kA4 kA5 kA6 hE_eA1) rfl dc_prog_20_method_8_14 (q := 17) rfl (by decide) rfl (na := 0) (by decide +kernel) rfl (by decide) (W := 0) rfl (by decide) (by decide) (by decide) (k' := 2) (n' := 128) rfl rfl ?_
  rintro _ _ ⟨o32, o33, rfl, rfl⟩
  show Go _ _ _ _ _ _ _ _ _ _ []
  refine Go.aloadN C dc_prog_20_method_8_17 (q := 18) rfl rfl rfl ?_
  refine Go.getF C (host := "") (Or.inl (wd hw 39 rfl)) Via.refl (fun _ r => r.fld 5 1 rfl rfl) dc_prog_20_method_8_18 (q := 21) rfl ?_
  refine Go.pick (M' := ((pA4, oHeap (.ref pA5) (.ref pA6) (.int (0 : Int32))) :: (pA5, .inr (.long, (oK64 (.long kA7) (.long kA8) (.long kA9) (.long kA10) (.long kA11) (.long kA12)), true)) :: (pA6, .inr (.object "java/lang/Object", (oE64 .null .null .null .null .null .null), true)) :: (o32, .inr (.object "java/lang/Object", (oE64 .null .null .null .null .null .null), true)) :: (o33, .inr (.long, (oK64 (.long (0 : Int64)) (.long (0 : Int64)) (.long (0 : Int64)) (.long (0 : Int64)) (.long (0 : Int64)) (.long (0 : Int64))), true)) :: (pA1, oRun (.ref o33) (.ref o32) (.int (0 : Int32)) (.int (0 : Int32))) :: (pA2, .inr (.long, (oK64 (.long kA1) (.long kA2) (.long kA3) (.long kA4) (.long kA5) (.long kA6)), true)) :: (pA3, .inr (.object "java/lang/Object", (oE64 (.ref eA1) .null .null .null .null .null), true)) :: (pA0, oQ (.ref pA1) (.ref pA4) (.int (0 : Int32)) (.long kA0) .null) :: F)) 9 [6, 7, 8, 0, 1, 2, 3, 4, 5] (by decide) (by decide) rfl ?_
  refine Go.callU C (y := yN6) (z := yN4) (owner := "com/example/ordered_dispatch/ordereddispatch/SequenceQueue$Part") (a := pA4) (as := []) (rest := []) (wd hw 122 rfl) (wd hw 123 rfl) (wd hw 120 rfl) (wd hw 124 rfl) (wd hw 118 rfl) (wd hw 121 rfl) (wd hw 18 rfl) (fun _ r => r.exa 0 rfl) (u_SequenceQueue_Part_clear_15 l Z a0 hw _ pA4 pA5 pA6 kA7 kA8 kA9 kA10 kA11 kA12) rfl dc_prog_20_method_8_21 (q := 24) rfl (by decide) rfl (na := 0) (by decide +kernel) rfl (by decide) (W := 0) rfl (by decide) (by decide) (by decide) (k' := 4) (n' := 256) rfl rfl ?_
  rintro _ _ ⟨o34, o35, rfl, rfl⟩
  show Go _ _ _ _ _ _ _ _ _ _ []
  refine Go.ret0 C rfl dc_prog_20_method_8_24 (by decide) (by decide) ?_
  exact ⟨_, _, _, _, rfl, rfl⟩
set_option maxRecDepth 65536 in
set_option maxHeartbeats 40000000 in
theorem m_valueOf1 (l : Launch) (Z : State) (a0 : Array Value) (hw : ∀ d ∈ tables_1, d.before a0 Z = true) (F : List Ent) (cb : Addr) (cs : List Value) (S_high : Sta Z Z.heap "java/lang/Integer$IntegerCache" "high" "I" (.int (127 : Int32))) (S_cache : Sta Z Z.heap "java/lang/Integer$IntegerCache" "cache" "[Ljava/lang/Integer;" (.ref cb)) (A_cache : ArrIs Z Z.heap cb (.object "java/lang/Integer") cs) (H_cache : ∀ j : Nat, j < 256 → ∃ b, cs[j]? = some (.ref b) ∧ Exa Z Z.heap b "java/lang/Integer" ∧ Fld Z Z.heap b "java/lang/Integer" "value" "I" (.int (j.toInt32 - 128))) :
    Met l Z yN16 jdk_33_method_22_code 1 (some (.object "java/lang/Integer")) { frames := 0, cells := 0, slots := 0, locals := 0 } #[(.int (1 : Int32))] (F) (fun r M' => ∃ b, r = some (.ref b) ∧ M' = F ∧ Exa Z Z.heap b "java/lang/Integer" ∧ Fld Z Z.heap b "java/lang/Integer" "value" "I" (.int (1 : Int32))) := by
  refine Met.of_go pn_14 (Ls := #[.val (.int (1 : Int32))]) (fun m => by first | rfl | (simp [entryFrame, mkF, argsToLocals, Value.category, maxLocals]; done)) ?_
  intro E C
  refine Go.iloadN C dc_jdk_33_method_22_0 (q := 1) rfl rfl ?_
  refine Go.bipush C dc_jdk_33_method_22_1 (q := 3) rfl (v := (-128 : Int32)) (by decide) ?_
  refine Go.icmpNo C dc_jdk_33_method_22_3 (q := 6) rfl (XT.ii_lt_f (by decide)) ?_
  refine Go.iloadN C dc_jdk_33_method_22_6 (q := 7) rfl rfl ?_
  refine Go.getS C (host := "") (Or.inl (wd hw 45 rfl)) Via.refl S_high dc_jdk_33_method_22_7 (q := 10) rfl ?_
  refine Go.icmpNo C dc_jdk_33_method_22_10 (q := 13) rfl (XT.ii_gt_f (by decide)) ?_
  refine Go.getS C (host := "") (Or.inl (wd hw 47 rfl)) Via.refl S_cache dc_jdk_33_method_22_13 (q := 16) rfl ?_
  refine Go.iloadN C dc_jdk_33_method_22_16 (q := 17) rfl rfl ?_
  refine Go.sipush C dc_jdk_33_method_22_17 (q := 20) rfl (v := (128 : Int32)) (by decide) ?_
  refine Go.iadd C dc_jdk_33_method_22_20 (q := 21) rfl ?_
  refine Go.castI (w := (129 : Int32)) (by decide) ?_
  obtain ⟨b, hb1, hb2, hb3⟩ := H_cache 129 (by decide)
  have e : (129 : Nat).toInt32 - 128 = (1 : Int32) := by decide
  rw [e] at hb3
  refine Go.aaload C (fun _ r => (A_cache).ext r.1) rfl (by decide) (v := (.ref b)) hb1 dc_jdk_33_method_22_21 (q := 22) rfl ?_
  refine Go.retA C rfl rfl rfl dc_jdk_33_method_22_22 (by decide) (by decide) ?_
  exact ⟨b, rfl, rfl, hb2, hb3⟩
theorem dc_prog_20_method_9_10 : decode prog_20_method_9_code 10 = .ok (.lload_n 1, 1) := by decide +kernel
theorem dc_prog_20_method_9_11 : decode prog_20_method_9_code 11 = .ok (.aload_n 0, 1) := by decide +kernel
theorem dc_prog_20_method_9_12 : decode prog_20_method_9_code 12 = .ok (.getfield 12, 3) := by decide +kernel
theorem dc_prog_20_method_9_15 : decode prog_20_method_9_code 15 = .ok (.invokevirtual 97, 3) := by decide +kernel
theorem dc_prog_23_method_2_0 : decode prog_23_method_2_code 0 = .ok (.aload_n 0, 1) := by decide +kernel
theorem dc_prog_23_method_2_1 : decode prog_23_method_2_code 1 = .ok (.getfield 7, 3) := by decide +kernel
theorem dc_prog_23_method_2_4 : decode prog_23_method_2_code 4 = .ok (.aload_n 0, 1) := by decide +kernel
theorem dc_prog_23_method_2_5 : decode prog_23_method_2_code 5 = .ok (.aload_n 0, 1) := by decide +kernel
theorem dc_prog_23_method_2_6 : decode prog_23_method_2_code 6 = .ok (.getfield 13, 3) := by decide +kernel
theorem dc_prog_23_method_2_9 : decode prog_23_method_2_code 9 = .ok (.iconst 1, 1) := by decide +kernel
theorem dc_prog_23_method_2_10 : decode prog_23_method_2_code 10 = .ok (.isub, 1) := by decide +kernel
theorem dc_prog_23_method_2_11 : decode prog_23_method_2_code 11 = .ok (.invokevirtual 17, 3) := by decide +kernel
set_option maxRecDepth 65536 in
set_option maxHeartbeats 40000000 in
theorem u_SequenceQueue_Run_slot_59 (l : Launch) (Z : State) (a0 : Array Value) (hw : ∀ d ∈ tables_1, d.before a0 Z = true) (F : List Ent) (pA0 pA1 pA2 eA0 : Addr) (kA0 kA1 kA2 kA3 kA4 kA5 : Int64) (hE_eA0 : Exa Z Z.heap eA0 "java/lang/Integer") :
    Met l Z yN22 prog_23_method_6_code 3 (some .int) { frames := 0, cells := 0, slots := 0, locals := 0 } #[(.ref pA0), (.int (0 : Int32))] ((pA0, oRun (.ref pA1) (.ref pA2) (.int (1 : Int32)) (.int (0 : Int32))) :: (pA1, .inr (.long, (oK64 (.long kA0) (.long kA1) (.long kA2) (.long kA3) (.long kA4) (.long kA5)), true)) :: (pA2, .inr (.object "java/lang/Object", (oE64 (.ref eA0) .null .null .null .null .null), true)) :: F) (fun r M' => (r = (some (.int (0 : Int32))) ∧ M' = ((pA0, oRun (.ref pA1) (.ref pA2) (.int (1 : Int32)) (.int (0 : Int32))) :: (pA1, .inr (.long, (oK64 (.long kA0) (.long kA1) (.long kA2) (.long kA3) (.long kA4) (.long kA5)), true)) :: (pA2, .inr (.object "java/lang/Object", (oE64 (.ref eA0) .null .null .null .null .null), true)) :: F))) := by
  refine Met.of_go pn_19 (Ls := #[.val (.ref pA0), .val (.int (0 : Int32)), .unset]) (fun m => by first | rfl | (simp [entryFrame, mkF, argsToLocals, Value.category, maxLocals]; done)) ?_
  intro E C
  refine Go.aloadN C dc_prog_23_method_6_0 (q := 1) rfl rfl rfl ?_
  refine Go.getF C (host := "") (Or.inl (wd hw 82 rfl)) Via.refl (fun _ r => r.fld 0 3 rfl rfl) dc_prog_23_method_6_1 (q := 4) rfl ?_
  refine Go.iloadN C dc_prog_23_method_6_4 (q := 5) rfl rfl ?_
  refine Go.iadd C dc_prog_23_method_6_5 (q := 6) rfl ?_
  refine Go.castI (w := (0 : Int32)) (by decide) ?_
  refine Go.istoreN C dc_prog_23_method_6_6 (q := 7) rfl (Ls' := #[.val (.ref pA0), .val (.int (0 : Int32)), .val (.int (0 : Int32))]) rfl ?_
  refine Go.iloadN C dc_prog_23_method_6_7 (q := 8) rfl rfl ?_
  refine Go.aloadN C dc_prog_23_method_6_8 (q := 9) rfl rfl rfl ?_
  refine Go.getF C (host := "") (Or.inl (wd hw 84 rfl)) (Via.of (wd hw 85 rfl)) (fun _ r => r.fld 0 0 rfl rfl) dc_prog_23_method_6_9 (q := 12) rfl ?_
  refine Go.arraylength C (fun _ r => r.arr 1 rfl) (z := (64 : Int32)) rfl dc_prog_23_method_6_12 (q := 13) rfl ?_
  refine Go.icmpYes C dc_prog_23_method_6_13 (by decide) (q := 24) rfl (XT.ii_lt_t (by decide)) ?_
  refine Go.iloadN C dc_prog_23_method_6_24 (q := 25) rfl rfl ?_
  refine Go.retI C rfl dc_prog_23_method_6_25 (by decide) (by decide) ?_
  exact ⟨rfl, rfl⟩
theorem dc_prog_23_method_2_14 : decode prog_23_method_2_code 14 = .ok (.laload, 1) := by decide +kernel
theorem dc_prog_23_method_2_15 : decode prog_23_method_2_code 15 = .ok (.lreturn, 1) := by decide +kernel
theorem pn_22 : plainFor yN25 = true := by first | (apply plainFor_of_name; simp [plainName, overriddenIn]; done) | decide +kernel
set_option maxRecDepth 65536 in
set_option maxHeartbeats 40000000 in
theorem u_SequenceQueue_Run_lastKey_58 (l : Launch) (Z : State) (a0 : Array Value) (hw : ∀ d ∈ tables_1, d.before a0 Z = true) (F : List Ent) (pA0 pA1 pA2 eA0 : Addr) (kA0 kA1 kA2 kA3 kA4 kA5 : Int64) (hE_eA0 : Exa Z Z.heap eA0 "java/lang/Integer") :
    Met l Z yN25 prog_23_method_2_code 1 (some .long) { frames := 1, cells := 0, slots := 0, locals := 15 } #[(.ref pA0)] ((pA0, oRun (.ref pA1) (.ref pA2) (.int (1 : Int32)) (.int (0 : Int32))) :: (pA1, .inr (.long, (oK64 (.long kA0) (.long kA1) (.long kA2) (.long kA3) (.long kA4) (.long kA5)), true)) :: (pA2, .inr (.object "java/lang/Object", (oE64 (.ref eA0) .null .null .null .null .null), true)) :: F) (fun r M' => (r = (some (.long kA0)) ∧ M' = ((pA0, oRun (.ref pA1) (.ref pA2) (.int (1 : Int32)) (.int (0 : Int32))) :: (pA1, .inr (.long, (oK64 (.long kA0) (.long kA1) (.long kA2) (.long kA3) (.long kA4) (.long kA5)), true)) :: (pA2, .inr (.object "java/lang/Object", (oE64 (.ref eA0) .null .null .null .null .null), true)) :: F))) := by
  refine Met.of_go pn_22 (Ls := #[.val (.ref pA0)]) (fun m => by first | rfl | (simp [entryFrame, mkF, argsToLocals, Value.category, maxLocals]; done)) ?_
  intro E C
  refine Go.aloadN C dc_prog_23_method_2_0 (q := 1) rfl rfl rfl ?_
  refine Go.getF C (host := "") (Or.inl (wd hw 84 rfl)) (Via.of (wd hw 85 rfl)) (fun _ r => r.fld 0 0 rfl rfl) dc_prog_23_method_2_1 (q := 4) rfl ?_
  refine Go.aloadN C dc_prog_23_method_2_4 (q := 5) rfl rfl rfl ?_
  refine Go.aloadN C dc_prog_23_method_2_5 (q := 6) rfl rfl rfl ?_
  refine Go.getF C (host := "") (Or.inl (wd hw 77 rfl)) (Via.of (wd hw 64 rfl)) (fun _ r => r.fld 0 2 rfl rfl) dc_prog_23_method_2_6 (q := 9) rfl ?_
  refine Go.iconst C dc_prog_23_method_2_9 (q := 10) rfl (v := (1 : Int32)) rfl ?_
  refine Go.isub C dc_prog_23_method_2_10 (q := 11) rfl ?_
  refine Go.castI (w := (0 : Int32)) (by decide) ?_
  refine Go.callP C (y := yN22) (a := pA0) (as := [(.int (0 : Int32))]) (rest := [(.ref pA1)]) (wd hw 78 rfl) (wd hw 79 rfl) (sel_priv (y := yN22) (wd hw 10 rfl) (wd hw 79 rfl) (wd hw 80 rfl) (by decide)) (wd hw 80 rfl) (wd hw 81 rfl) (wd hw 11 rfl) (fun _ r => r.exa 0 rfl) (u_SequenceQueue_Run_slot_59 l Z a0 hw _ pA0 pA1 pA2 eA0 kA0 kA1 kA2 kA3 kA4 kA5 hE_eA0) rfl dc_prog_23_method_2_11 (q := 14) rfl (by decide) rfl (na := 1) (by decide +kernel) rfl (by decide) (W := 1) rfl (by decide) (by decide) (by decide) (k' := 0) (n' := 0) rfl rfl ?_
  rintro _ _ ⟨rfl, rfl⟩
  show Go _ _ _ _ _ _ _ _ _ _ [(.int (0 : Int32)), (.ref pA1)]
  refine Go.laload C (fun _ r => r.arr 1 rfl) (by decide) (v := (.long kA0)) rfl dc_prog_23_method_2_14 (q := 15) rfl ?_
  refine Go.retL C rfl dc_prog_23_method_2_15 (by decide) (by decide) ?_
  exact ⟨rfl, rfl⟩
theorem dc_prog_20_method_9_18 : decode prog_20_method_9_code 18 = .ok (.lcmp, 1) := by decide +kernel
theorem dc_prog_20_method_9_19 : decode prog_20_method_9_code 19 = .ok (.ifCond .lt 15, 3) := by decide +kernel
theorem dc_prog_20_method_9_34 : decode prog_20_method_9_code 34 = .ok (.aload_n 0, 1) := by decide +kernel
theorem dc_prog_20_method_9_35 : decode prog_20_method_9_code 35 = .ok (.getfield 21, 3) := by decide +kernel
theorem dc_prog_20_method_9_38 : decode prog_20_method_9_code 38 = .ok (.lload_n 1, 1) := by decide +kernel
theorem dc_prog_20_method_9_39 : decode prog_20_method_9_code 39 = .ok (.aload_n 3, 1) := by decide +kernel
theorem dc_prog_20_method_9_40 : decode prog_20_method_9_code 40 = .ok (.invokevirtual 103, 3) := by decide +kernel
theorem dc_prog_21_method_2_0 : decode prog_21_method_2_code 0 = .ok (.aload_n 0, 1) := by decide +kernel
theorem dc_prog_21_method_2_1 : decode prog_21_method_2_code 1 = .ok (.invokevirtual 7, 3) := by decide +kernel
set_option maxRecDepth 65536 in
set_option maxHeartbeats 40000000 in
theorem u_SequenceQueue_Part_makeRoom_63 (l : Launch) (Z : State) (a0 : Array Value) (hw : ∀ d ∈ tables_1, d.before a0 Z = true) (F : List Ent) (pA0 pA1 pA2 : Addr) (kA0 kA1 kA2 kA3 kA4 kA5 : Int64)  :
    Met l Z yN20 prog_22_method_2_code 1 none { frames := 0, cells := 0, slots := 0, locals := 0 } #[(.ref pA0)] ((pA0, oHeap (.ref pA1) (.ref pA2) (.int (0 : Int32))) :: (pA1, .inr (.long, (oK64 (.long kA0) (.long kA1) (.long kA2) (.long kA3) (.long kA4) (.long kA5)), true)) :: (pA2, .inr (.object "java/lang/Object", (oE64 .null .null .null .null .null .null), true)) :: F) (fun r M' => (r = none ∧ M' = ((pA0, oHeap (.ref pA1) (.ref pA2) (.int (0 : Int32))) :: (pA1, .inr (.long, (oK64 (.long kA0) (.long kA1) (.long kA2) (.long kA3) (.long kA4) (.long kA5)), true)) :: (pA2, .inr (.object "java/lang/Object", (oE64 .null .null .null .null .null .null), true)) :: F))) := by
  refine Met.of_go pn_18 (Ls := #[.val (.ref pA0)]) (fun m => by first | rfl | (simp [entryFrame, mkF, argsToLocals, Value.category, maxLocals]; done)) ?_
  intro E C
  refine Go.aloadN C dc_prog_22_method_2_0 (q := 1) rfl rfl rfl ?_
  refine Go.getF C (host := "") (Or.inl (wd hw 76 rfl)) Via.refl (fun _ r => r.fld 0 2 rfl rfl) dc_prog_22_method_2_1 (q := 4) rfl ?_
  refine Go.aloadN C dc_prog_22_method_2_4 (q := 5) rfl rfl rfl ?_
  refine Go.getF C (host := "") (Or.inl (wd hw 22 rfl)) Via.refl (fun _ r => r.fld 0 0 rfl rfl) dc_prog_22_method_2_5 (q := 8) rfl ?_
  refine Go.arraylength C (fun _ r => r.arr 1 rfl) (z := (64 : Int32)) rfl dc_prog_22_method_2_8 (q := 9) rfl ?_
  refine Go.icmpYes C dc_prog_22_method_2_9 (by decide) (q := 58) rfl (XT.ii_ne_t (by decide)) ?_
  refine Go.ret0 C rfl dc_prog_22_method_2_58 (by decide) (by decide) ?_
  exact ⟨rfl, rfl⟩
theorem dc_prog_21_method_2_4 : decode prog_21_method_2_code 4 = .ok (.aload_n 0, 1) := by decide +kernel
theorem dc_prog_21_method_2_5 : decode prog_21_method_2_code 5 = .ok (.getfield 12, 3) := by decide +kernel
theorem dc_prog_21_method_2_8 : decode prog_21_method_2_code 8 = .ok (.istore 4, 2) := by decide +kernel
theorem dc_prog_21_method_2_10 : decode prog_21_method_2_code 10 = .ok (.aload_n 0, 1) := by decide +kernel
theorem dc_prog_21_method_2_11 : decode prog_21_method_2_code 11 = .ok (.dup, 1) := by decide +kernel
theorem dc_prog_21_method_2_12 : decode prog_21_method_2_code 12 = .ok (.getfield 12, 3) := by decide +kernel
theorem dc_prog_21_method_2_15 : decode prog_21_method_2_code 15 = .ok (.iconst 1, 1) := by decide +kernel
theorem dc_prog_21_method_2_16 : decode prog_21_method_2_code 16 = .ok (.iadd, 1) := by decide +kernel
theorem dc_prog_21_method_2_17 : decode prog_21_method_2_code 17 = .ok (.putfield 12, 3) := by decide +kernel
theorem dc_prog_21_method_2_20 : decode prog_21_method_2_code 20 = .ok (.iload 4, 2) := by decide +kernel
theorem dc_prog_21_method_2_22 : decode prog_21_method_2_code 22 = .ok (.ifCond .le 61, 3) := by decide +kernel
theorem dc_prog_21_method_2_83 : decode prog_21_method_2_code 83 = .ok (.aload_n 0, 1) := by decide +kernel
theorem dc_prog_21_method_2_84 : decode prog_21_method_2_code 84 = .ok (.getfield 16, 3) := by decide +kernel
theorem dc_prog_21_method_2_87 : decode prog_21_method_2_code 87 = .ok (.iload 4, 2) := by decide +kernel
theorem dc_prog_21_method_2_89 : decode prog_21_method_2_code 89 = .ok (.lload_n 1, 1) := by decide +kernel
theorem dc_prog_21_method_2_90 : decode prog_21_method_2_code 90 = .ok (.lastore, 1) := by decide +kernel
theorem dc_prog_21_method_2_91 : decode prog_21_method_2_code 91 = .ok (.aload_n 0, 1) := by decide +kernel
theorem dc_prog_21_method_2_92 : decode prog_21_method_2_code 92 = .ok (.getfield 20, 3) := by decide +kernel
theorem dc_prog_21_method_2_95 : decode prog_21_method_2_code 95 = .ok (.iload 4, 2) := by decide +kernel
theorem dc_prog_21_method_2_97 : decode prog_21_method_2_code 97 = .ok (.aload_n 3, 1) := by decide +kernel
theorem dc_prog_21_method_2_98 : decode prog_21_method_2_code 98 = .ok (.aastore, 1) := by decide +kernel
theorem dc_prog_21_method_2_99 : decode prog_21_method_2_code 99 = .ok (.return_, 1) := by decide +kernel
theorem pn_23 : plainFor yN27 = true := by first | (apply plainFor_of_name; simp [plainName, overriddenIn]; done) | decide +kernel
set_option maxRecDepth 65536 in
set_option maxHeartbeats 40000000 in
theorem u_SequenceQueue_Heap_add_62 (l : Launch) (Z : State) (a0 : Array Value) (hw : ∀ d ∈ tables_1, d.before a0 Z = true) (F : List Ent) (pA0 pA1 pA2 eA0 : Addr) (kA0 kA1 kA2 kA3 kA4 kA5 kA6 : Int64) (hE_eA0 : Exa Z Z.heap eA0 "java/lang/Integer") :
    Met l Z yN27 prog_21_method_2_code 6 none { frames := 1, cells := 0, slots := 0, locals := 12 } #[(.ref pA0), (.long kA0), (.ref eA0)] ((pA0, oHeap (.ref pA1) (.ref pA2) (.int (0 : Int32))) :: (pA1, .inr (.long, (oK64 (.long kA1) (.long kA2) (.long kA3) (.long kA4) (.long kA5) (.long kA6)), true)) :: (pA2, .inr (.object "java/lang/Object", (oE64 .null .null .null .null .null .null), true)) :: F) (fun r M' => (r = none ∧ M' = ((pA0, oHeap (.ref pA1) (.ref pA2) (.int (1 : Int32))) :: (pA1, .inr (.long, (oK64 (.long kA0) (.long kA2) (.long kA3) (.long kA4) (.long kA5) (.long kA6)), true)) :: (pA2, .inr (.object "java/lang/Object", (oE64 (.ref eA0) .null .null .null .null .null), true)) :: F))) := by
  refine Met.of_go pn_23 (Ls := #[.val (.ref pA0), .val (.long kA0), .second, .val (.ref eA0), .unset, .unset]) (fun m => by first | rfl | (simp [entryFrame, mkF, argsToLocals, Value.category, maxLocals]; done)) ?_
  intro E C
  refine Go.aloadN C dc_prog_21_method_2_0 (q := 1) rfl rfl rfl ?_
  refine Go.callU C (y := yN26) (z := yN20) (owner := "com/example/ordered_dispatch/ordereddispatch/SequenceQueue$Part") (a := pA0) (as := []) (rest := []) (wd hw 97 rfl) (wd hw 98 rfl) (wd hw 72 rfl) (wd hw 99 rfl) (wd hw 73 rfl) (wd hw 75 rfl) (wd hw 18 rfl) (fun _ r => r.exa 0 rfl) (u_SequenceQueue_Part_makeRoom_63 l Z a0 hw _ pA0 pA1 pA2 kA1 kA2 kA3 kA4 kA5 kA6) rfl dc_prog_21_method_2_1 (q := 4) rfl (by decide) rfl (na := 0) (by decide +kernel) rfl (by decide) (W := 0) rfl (by decide) (by decide) (by decide) (k' := 0) (n' := 0) rfl rfl ?_
  rintro _ _ ⟨rfl, rfl⟩
  show Go _ _ _ _ _ _ _ _ _ _ []
  refine Go.aloadN C dc_prog_21_method_2_4 (q := 5) rfl rfl rfl ?_
  refine Go.getF C (host := "") (Or.inl (wd hw 101 rfl)) (Via.of (wd hw 102 rfl)) (fun _ r => r.fld 0 2 rfl rfl) dc_prog_21_method_2_5 (q := 8) rfl ?_
  refine Go.istore C dc_prog_21_method_2_8 (q := 10) rfl (Ls' := #[.val (.ref pA0), .val (.long kA0), .second, .val (.ref eA0), .val (.int (0 : Int32)), .unset]) rfl ?_
  refine Go.aloadN C dc_prog_21_method_2_10 (q := 11) rfl rfl rfl ?_
  refine Go.dup C dc_prog_21_method_2_11 (q := 12) rfl rfl ?_
  refine Go.getF C (host := "") (Or.inl (wd hw 101 rfl)) (Via.of (wd hw 102 rfl)) (fun _ r => r.fld 0 2 rfl rfl) dc_prog_21_method_2_12 (q := 15) rfl ?_
  refine Go.iconst C dc_prog_21_method_2_15 (q := 16) rfl (v := (1 : Int32)) rfl ?_
  refine Go.iadd C dc_prog_21_method_2_16 (q := 17) rfl ?_
  refine Go.castI (w := (1 : Int32)) (by decide) ?_
  refine Go.putF C (host := "") (i := 0) (j := 2) (Or.inl (wd hw 101 rfl)) (Via.of (wd hw 102 rfl)) rfl rfl (Or.inl (wd hw 100 rfl)) (wd hw 31 rfl) (ty := .int) (by decide) rfl rfl dc_prog_21_method_2_17 (q := 20) rfl (M' := ((pA0, oHeap (.ref pA1) (.ref pA2) (.int (1 : Int32))) :: (pA1, .inr (.long, (oK64 (.long kA1) (.long kA2) (.long kA3) (.long kA4) (.long kA5) (.long kA6)), true)) :: (pA2, .inr (.object "java/lang/Object", (oE64 .null .null .null .null .null .null), true)) :: F)) rfl ?_
  refine Go.iload C dc_prog_21_method_2_20 (q := 22) rfl rfl ?_
  refine Go.ifYes C dc_prog_21_method_2_22 (by decide) (q := 83) rfl (XT.i0_le_t (by decide)) ?_
  refine Go.aloadN C dc_prog_21_method_2_83 (q := 84) rfl rfl rfl ?_
  refine Go.getF C (host := "") (Or.inl (wd hw 103 rfl)) (Via.of (wd hw 104 rfl)) (fun _ r => r.fld 0 0 rfl rfl) dc_prog_21_method_2_84 (q := 87) rfl ?_
  refine Go.iload C dc_prog_21_method_2_87 (q := 89) rfl rfl ?_
  refine Go.lloadN C dc_prog_21_method_2_89 (q := 90) rfl rfl ?_
  refine Go.lastore C (i := 1) rfl (by decide) (show (0 : Int32).toNatClampNeg < 64 from by decide) (w' := (.long kA0)) rfl dc_prog_21_method_2_90 (q := 91) rfl (M' := ((pA0, oHeap (.ref pA1) (.ref pA2) (.int (1 : Int32))) :: (pA1, .inr (.long, (oK64 (.long kA0) (.long kA2) (.long kA3) (.long kA4) (.long kA5) (.long kA6)), true)) :: (pA2, .inr (.object "java/lang/Object", (oE64 .null .null .null .null .null .null), true)) :: F)) rfl ?_
  refine Go.aloadN C dc_prog_21_method_2_91 (q := 92) rfl rfl rfl ?_
  refine Go.getF C (host := "") (Or.inl (wd hw 105 rfl)) (Via.of (wd hw 106 rfl)) (fun _ r => r.fld 0 1 rfl rfl) dc_prog_21_method_2_92 (q := 95) rfl ?_
  refine Go.iload C dc_prog_21_method_2_95 (q := 97) rfl rfl ?_
  refine Go.aloadN C dc_prog_21_method_2_97 (q := 98) rfl rfl rfl ?_
  refine Go.aastore C (i := 2) rfl (by decide) (show (0 : Int32).toNatClampNeg < 64 from by decide) (fun _ r => Or.inr ⟨_, rfl, Ins.of_exa ((hE_eA0).ext r.1) (wd hw 88 rfl)⟩) dc_prog_21_method_2_98 (q := 99) rfl (M' := ((pA0, oHeap (.ref pA1) (.ref pA2) (.int (1 : Int32))) :: (pA1, .inr (.long, (oK64 (.long kA0) (.long kA2) (.long kA3) (.long kA4) (.long kA5) (.long kA6)), true)) :: (pA2, .inr (.object "java/lang/Object", (oE64 (.ref eA0) .null .null .null .null .null), true)) :: F)) rfl ?_
  refine Go.ret0 C rfl dc_prog_21_method_2_99 (by decide) (by decide) ?_
  exact ⟨rfl, rfl⟩
set_option maxRecDepth 65536 in
set_option maxHeartbeats 40000000 in
theorem u_SequenceQueue_Part_makeRoom_67 (l : Launch) (Z : State) (a0 : Array Value) (hw : ∀ d ∈ tables_1, d.before a0 Z = true) (F : List Ent) (pA0 pA1 pA2 eA0 : Addr) (kA0 kA1 kA2 kA3 kA4 kA5 : Int64) (hE_eA0 : Exa Z Z.heap eA0 "java/lang/Integer") :
    Met l Z yN20 prog_22_method_2_code 1 none { frames := 0, cells := 0, slots := 0, locals := 0 } #[(.ref pA0)] ((pA0, oRun (.ref pA1) (.ref pA2) (.int (1 : Int32)) (.int (0 : Int32))) :: (pA1, .inr (.long, (oK64 (.long kA0) (.long kA1) (.long kA2) (.long kA3) (.long kA4) (.long kA5)), true)) :: (pA2, .inr (.object "java/lang/Object", (oE64 (.ref eA0) .null .null .null .null .null), true)) :: F) (fun r M' => (r = none ∧ M' = ((pA0, oRun (.ref pA1) (.ref pA2) (.int (1 : Int32)) (.int (0 : Int32))) :: (pA1, .inr (.long, (oK64 (.long kA0) (.long kA1) (.long kA2) (.long kA3) (.long kA4) (.long kA5)), true)) :: (pA2, .inr (.object "java/lang/Object", (oE64 (.ref eA0) .null .null .null .null .null), true)) :: F))) := by
  refine Met.of_go pn_18 (Ls := #[.val (.ref pA0)]) (fun m => by first | rfl | (simp [entryFrame, mkF, argsToLocals, Value.category, maxLocals]; done)) ?_
  intro E C
  refine Go.aloadN C dc_prog_22_method_2_0 (q := 1) rfl rfl rfl ?_
  refine Go.getF C (host := "") (Or.inl (wd hw 76 rfl)) Via.refl (fun _ r => r.fld 0 2 rfl rfl) dc_prog_22_method_2_1 (q := 4) rfl ?_
  refine Go.aloadN C dc_prog_22_method_2_4 (q := 5) rfl rfl rfl ?_
  refine Go.getF C (host := "") (Or.inl (wd hw 22 rfl)) Via.refl (fun _ r => r.fld 0 0 rfl rfl) dc_prog_22_method_2_5 (q := 8) rfl ?_
  refine Go.arraylength C (fun _ r => r.arr 1 rfl) (z := (64 : Int32)) rfl dc_prog_22_method_2_8 (q := 9) rfl ?_
  refine Go.icmpYes C dc_prog_22_method_2_9 (by decide) (q := 58) rfl (XT.ii_ne_t (by decide)) ?_
  refine Go.ret0 C rfl dc_prog_22_method_2_58 (by decide) (by decide) ?_
  exact ⟨rfl, rfl⟩
set_option maxRecDepth 65536 in
set_option maxHeartbeats 40000000 in
theorem u_SequenceQueue_Run_slot_69 (l : Launch) (Z : State) (a0 : Array Value) (hw : ∀ d ∈ tables_1, d.before a0 Z = true) (F : List Ent) (pA0 pA1 pA2 eA0 : Addr) (kA0 kA1 kA2 kA3 kA4 kA5 : Int64) (hE_eA0 : Exa Z Z.heap eA0 "java/lang/Integer") :
    Met l Z yN22 prog_23_method_6_code 3 (some .int) { frames := 0, cells := 0, slots := 0, locals := 0 } #[(.ref pA0), (.int (1 : Int32))] ((pA0, oRun (.ref pA1) (.ref pA2) (.int (1 : Int32)) (.int (0 : Int32))) :: (pA1, .inr (.long, (oK64 (.long kA0) (.long kA1) (.long kA2) (.long kA3) (.long kA4) (.long kA5)), true)) :: (pA2, .inr (.object "java/lang/Object", (oE64 (.ref eA0) .null .null .null .null .null), true)) :: F) (fun r M' => (r = (some (.int (1 : Int32))) ∧ M' = ((pA0, oRun (.ref pA1) (.ref pA2) (.int (1 : Int32)) (.int (0 : Int32))) :: (pA1, .inr (.long, (oK64 (.long kA0) (.long kA1) (.long kA2) (.long kA3) (.long kA4) (.long kA5)), true)) :: (pA2, .inr (.object "java/lang/Object", (oE64 (.ref eA0) .null .null .null .null .null), true)) :: F))) := by
  refine Met.of_go pn_19 (Ls := #[.val (.ref pA0), .val (.int (1 : Int32)), .unset]) (fun m => by first | rfl | (simp [entryFrame, mkF, argsToLocals, Value.category, maxLocals]; done)) ?_
  intro E C
  refine Go.aloadN C dc_prog_23_method_6_0 (q := 1) rfl rfl rfl ?_
  refine Go.getF C (host := "") (Or.inl (wd hw 82 rfl)) Via.refl (fun _ r => r.fld 0 3 rfl rfl) dc_prog_23_method_6_1 (q := 4) rfl ?_
  refine Go.iloadN C dc_prog_23_method_6_4 (q := 5) rfl rfl ?_
  refine Go.iadd C dc_prog_23_method_6_5 (q := 6) rfl ?_
  refine Go.castI (w := (1 : Int32)) (by decide) ?_
  refine Go.istoreN C dc_prog_23_method_6_6 (q := 7) rfl (Ls' := #[.val (.ref pA0), .val (.int (1 : Int32)), .val (.int (1 : Int32))]) rfl ?_
  refine Go.iloadN C dc_prog_23_method_6_7 (q := 8) rfl rfl ?_
  refine Go.aloadN C dc_prog_23_method_6_8 (q := 9) rfl rfl rfl ?_
  refine Go.getF C (host := "") (Or.inl (wd hw 84 rfl)) (Via.of (wd hw 85 rfl)) (fun _ r => r.fld 0 0 rfl rfl) dc_prog_23_method_6_9 (q := 12) rfl ?_
  refine Go.arraylength C (fun _ r => r.arr 1 rfl) (z := (64 : Int32)) rfl dc_prog_23_method_6_12 (q := 13) rfl ?_
  refine Go.icmpYes C dc_prog_23_method_6_13 (by decide) (q := 24) rfl (XT.ii_lt_t (by decide)) ?_
  refine Go.iloadN C dc_prog_23_method_6_24 (q := 25) rfl rfl ?_
  refine Go.retI C rfl dc_prog_23_method_6_25 (by decide) (by decide) ?_
  exact ⟨rfl, rfl⟩
set_option maxRecDepth 65536 in
set_option maxHeartbeats 40000000 in
theorem u_SequenceQueue_Run_add_66 (l : Launch) (Z : State) (a0 : Array Value) (hw : ∀ d ∈ tables_1, d.before a0 Z = true) (F : List Ent) (pA0 pA1 pA2 eA0 eA1 : Addr) (kA0 kA1 kA2 kA3 kA4 kA5 kA6 : Int64) (hE_eA0 : Exa Z Z.heap eA0 "java/lang/Integer") (hE_eA1 : Exa Z Z.heap eA1 "java/lang/Integer") :
    Met l Z yN23 prog_23_method_3_code 5 none { frames := 1, cells := 0, slots := 0, locals := 14 } #[(.ref pA0), (.long kA0), (.ref eA0)] ((pA0, oRun (.ref pA1) (.ref pA2) (.int (1 : Int32)) (.int (0 : Int32))) :: (pA1, .inr (.long, (oK64 (.long kA1) (.long kA2) (.long kA3) (.long kA4) (.long kA5) (.long kA6)), true)) :: (pA2, .inr (.object "java/lang/Object", (oE64 (.ref eA1) .null .null .null .null .null), true)) :: F) (fun r M' => (r = none ∧ M' = ((pA0, oRun (.ref pA1) (.ref pA2) (.int (2 : Int32)) (.int (0 : Int32))) :: (pA1, .inr (.long, (oK64 (.long kA1) (.long kA0) (.long kA3) (.long kA4) (.long kA5) (.long kA6)), true)) :: (pA2, .inr (.object "java/lang/Object", (oE64 (.ref eA1) (.ref eA0) .null .null .null .null), true)) :: F))) := by
  refine Met.of_go pn_20 (Ls := #[.val (.ref pA0), .val (.long kA0), .second, .val (.ref eA0), .unset]) (fun m => by first | rfl | (simp [entryFrame, mkF, argsToLocals, Value.category, maxLocals]; done)) ?_
  intro E C
  refine Go.aloadN C dc_prog_23_method_3_0 (q := 1) rfl rfl rfl ?_
  refine Go.callU C (y := yN21) (z := yN20) (owner := "com/example/ordered_dispatch/ordereddispatch/SequenceQueue$Part") (a := pA0) (as := []) (rest := []) (wd hw 70 rfl) (wd hw 71 rfl) (wd hw 72 rfl) (wd hw 74 rfl) (wd hw 73 rfl) (wd hw 75 rfl) (wd hw 18 rfl) (fun _ r => r.exa 0 rfl) (u_SequenceQueue_Part_makeRoom_67 l Z a0 hw _ pA0 pA1 pA2 eA1 kA1 kA2 kA3 kA4 kA5 kA6 hE_eA1) rfl dc_prog_23_method_3_1 (q := 4) rfl (by decide) rfl (na := 0) (by decide +kernel) rfl (by decide) (W := 0) rfl (by decide) (by decide) (by decide) (k' := 0) (n' := 0) rfl rfl ?_
  rintro _ _ ⟨rfl, rfl⟩
  show Go _ _ _ _ _ _ _ _ _ _ []
  refine Go.aloadN C dc_prog_23_method_3_4 (q := 5) rfl rfl rfl ?_
  refine Go.aloadN C dc_prog_23_method_3_5 (q := 6) rfl rfl rfl ?_
  refine Go.getF C (host := "") (Or.inl (wd hw 77 rfl)) (Via.of (wd hw 64 rfl)) (fun _ r => r.fld 0 2 rfl rfl) dc_prog_23_method_3_6 (q := 9) rfl ?_
  refine Go.callP C (y := yN22) (a := pA0) (as := [(.int (1 : Int32))]) (rest := []) (wd hw 78 rfl) (wd hw 79 rfl) (sel_priv (y := yN22) (wd hw 10 rfl) (wd hw 79 rfl) (wd hw 80 rfl) (by decide)) (wd hw 80 rfl) (wd hw 81 rfl) (wd hw 11 rfl) (fun _ r => r.exa 0 rfl) (u_SequenceQueue_Run_slot_69 l Z a0 hw _ pA0 pA1 pA2 eA1 kA1 kA2 kA3 kA4 kA5 kA6 hE_eA1) rfl dc_prog_23_method_3_9 (q := 12) rfl (by decide) rfl (na := 1) (by decide +kernel) rfl (by decide) (W := 0) rfl (by decide) (by decide) (by decide) (k' := 0) (n' := 0) rfl rfl ?_
  rintro _ _ ⟨rfl, rfl⟩
  show Go _ _ _ _ _ _ _ _ _ _ [(.int (1 : Int32))]
  refine Go.istore C dc_prog_23_method_3_12 (q := 14) rfl (Ls' := #[.val (.ref pA0), .val (.long kA0), .second, .val (.ref eA0), .val (.int (1 : Int32))]) rfl ?_
  refine Go.aloadN C dc_prog_23_method_3_14 (q := 15) rfl rfl rfl ?_
  refine Go.getF C (host := "") (Or.inl (wd hw 84 rfl)) (Via.of (wd hw 85 rfl)) (fun _ r => r.fld 0 0 rfl rfl) dc_prog_23_method_3_15 (q := 18) rfl ?_
  refine Go.iload C dc_prog_23_method_3_18 (q := 20) rfl rfl ?_
  refine Go.lloadN C dc_prog_23_method_3_20 (q := 21) rfl rfl ?_
  refine Go.lastore C (i := 1) rfl (by decide) (show (1 : Int32).toNatClampNeg < 64 from by decide) (w' := (.long kA0)) rfl dc_prog_23_method_3_21 (q := 22) rfl (M' := ((pA0, oRun (.ref pA1) (.ref pA2) (.int (1 : Int32)) (.int (0 : Int32))) :: (pA1, .inr (.long, (oK64 (.long kA1) (.long kA0) (.long kA3) (.long kA4) (.long kA5) (.long kA6)), true)) :: (pA2, .inr (.object "java/lang/Object", (oE64 (.ref eA1) .null .null .null .null .null), true)) :: F)) rfl ?_
  refine Go.aloadN C dc_prog_23_method_3_22 (q := 23) rfl rfl rfl ?_
  refine Go.getF C (host := "") (Or.inl (wd hw 86 rfl)) (Via.of (wd hw 87 rfl)) (fun _ r => r.fld 0 1 rfl rfl) dc_prog_23_method_3_23 (q := 26) rfl ?_
  refine Go.iload C dc_prog_23_method_3_26 (q := 28) rfl rfl ?_
  refine Go.aloadN C dc_prog_23_method_3_28 (q := 29) rfl rfl rfl ?_
  refine Go.aastore C (i := 2) rfl (by decide) (show (1 : Int32).toNatClampNeg < 64 from by decide) (fun _ r => Or.inr ⟨_, rfl, Ins.of_exa ((hE_eA0).ext r.1) (wd hw 88 rfl)⟩) dc_prog_23_method_3_29 (q := 30) rfl (M' := ((pA0, oRun (.ref pA1) (.ref pA2) (.int (1 : Int32)) (.int (0 : Int32))) :: (pA1, .inr (.long, (oK64 (.long kA1) (.long kA0) (.long kA3) (.long kA4) (.long kA5) (.long kA6)), true)) :: (pA2, .inr (.object "java/lang/Object", (oE64 (.ref eA1) (.ref eA0) .null .null .null .null), true)) :: F)) rfl ?_
  refine Go.aloadN C dc_prog_23_method_3_30 (q := 31) rfl rfl rfl ?_
  refine Go.dup C dc_prog_23_method_3_31 (q := 32) rfl rfl ?_
  refine Go.getF C (host := "") (Or.inl (wd hw 77 rfl)) (Via.of (wd hw 64 rfl)) (fun _ r => r.fld 0 2 rfl rfl) dc_prog_23_method_3_32 (q := 35) rfl ?_
  refine Go.iconst C dc_prog_23_method_3_35 (q := 36) rfl (v := (1 : Int32)) rfl ?_
  refine Go.iadd C dc_prog_23_method_3_36 (q := 37) rfl ?_
  refine Go.castI (w := (2 : Int32)) (by decide) ?_
  refine Go.putF C (host := "") (i := 0) (j := 2) (Or.inl (wd hw 77 rfl)) (Via.of (wd hw 64 rfl)) rfl rfl (Or.inl (wd hw 65 rfl)) (wd hw 10 rfl) (ty := .int) (by decide) rfl rfl dc_prog_23_method_3_37 (q := 40) rfl (M' := ((pA0, oRun (.ref pA1) (.ref pA2) (.int (2 : Int32)) (.int (0 : Int32))) :: (pA1, .inr (.long, (oK64 (.long kA1) (.long kA0) (.long kA3) (.long kA4) (.long kA5) (.long kA6)), true)) :: (pA2, .inr (.object "java/lang/Object", (oE64 (.ref eA1) (.ref eA0) .null .null .null .null), true)) :: F)) rfl ?_
  refine Go.ret0 C rfl dc_prog_23_method_3_40 (by decide) (by decide) ?_
  exact ⟨rfl, rfl⟩
set_option maxRecDepth 65536 in
set_option maxHeartbeats 40000000 in
theorem u_SequenceQueue_place_57 (l : Launch) (Z : State) (a0 : Array Value) (hw : ∀ d ∈ tables_1, d.before a0 Z = true) (F : List Ent) (pA0 pA1 pA2 pA3 pA4 pA5 pA6 eA0 eA1 eA2 : Addr) (kA0 kA1 kA2 kA3 kA4 kA5 kA6 kA7 kA8 kA9 kA10 kA11 kA12 kA13 : Int64) (hE_eA0 : Exa Z Z.heap eA0 "java/lang/Integer") (hE_eA1 : Exa Z Z.heap eA1 "java/lang/Integer") (hE_eA2 : Exa Z Z.heap eA2 "java/lang/Integer") :
    Met l Z yN24 prog_20_method_9_code 4 none { frames := 2, cells := 0, slots := 0, locals := 30 } #[(.ref pA0), (.long kA0), (.ref eA0)] ((pA0, oQ (.ref pA1) (.ref pA4) (.int (1 : Int32)) (.long kA1) (.ref eA1)) :: (pA1, oRun (.ref pA2) (.ref pA3) (.int (1 : Int32)) (.int (0 : Int32))) :: (pA2, .inr (.long, (oK64 (.long kA2) (.long kA3) (.long kA4) (.long kA5) (.long kA6) (.long kA7)), true)) :: (pA3, .inr (.object "java/lang/Object", (oE64 (.ref eA2) .null .null .null .null .null), true)) :: (pA4, oHeap (.ref pA5) (.ref pA6) (.int (0 : Int32))) :: (pA5, .inr (.long, (oK64 (.long kA8) (.long kA9) (.long kA10) (.long kA11) (.long kA12) (.long kA13)), true)) :: (pA6, .inr (.object "java/lang/Object", (oE64 .null .null .null .null .null .null), true)) :: F) (fun r M' => (r = none ∧ M' = ((pA4, oHeap (.ref pA5) (.ref pA6) (.int (1 : Int32))) :: (pA5, .inr (.long, (oK64 (.long kA0) (.long kA9) (.long kA10) (.long kA11) (.long kA12) (.long kA13)), true)) :: (pA6, .inr (.object "java/lang/Object", (oE64 (.ref eA0) .null .null .null .null .null), true)) :: (pA1, oRun (.ref pA2) (.ref pA3) (.int (1 : Int32)) (.int (0 : Int32))) :: (pA2, .inr (.long, (oK64 (.long kA2) (.long kA3) (.long kA4) (.long kA5) (.long kA6) (.long kA7)), true)) :: (pA3, .inr (.object "java/lang/Object", (oE64 (.ref eA2) .null .null .null .null .null), true)) :: (pA0, oQ (.ref pA1) (.ref pA4) (.int (1 : Int32)) (.long kA1) (.ref eA1)) :: F)) ∨ (r = none ∧ M' = ((pA1, oRun (.ref pA2) (.ref pA3) (.int (2 : Int32)) (.int (0 : Int32))) :: (pA2, .inr (.long, (oK64 (.long kA2) (.long kA0) (.long kA4) (.long kA5) (.long kA6) (.long kA7)), true)) :: (pA3, .inr (.object "java/lang/Object", (oE64 (.ref eA2) (.ref eA0) .null .null .null .null), true)) :: (pA0, oQ (.ref pA1) (.ref pA4) (.int (1 : Int32)) (.long kA1) (.ref eA1)) :: (pA4, oHeap (.ref pA5) (.ref pA6) (.int (0 : Int32))) :: (pA5, .inr (.long, (oK64 (.long kA8) (.long kA9) (.long kA10) (.long kA11) (.long kA12) (.long kA13)), true)) :: (pA6, .inr (.object "java/lang/Object", (oE64 .null .null .null .null .null .null), true)) :: F))) := by
  refine Met.of_go pn_21 (Ls := #[.val (.ref pA0), .val (.long kA0), .second, .val (.ref eA0)]) (fun m => by first | rfl | (simp [entryFrame, mkF, argsToLocals, Value.category, maxLocals]; done)) ?_
  intro E C
  refine Go.aloadN C dc_prog_20_method_9_0 (q := 1) rfl rfl rfl ?_
  refine Go.getF C (host := "") (Or.inl (wd hw 28 rfl)) Via.refl (fun _ r => r.fld 0 0 rfl rfl) dc_prog_20_method_9_1 (q := 4) rfl ?_
  refine Go.getF C (host := "") (Or.inl (wd hw 63 rfl)) (Via.of (wd hw 64 rfl)) (fun _ r => r.fld 1 2 rfl rfl) dc_prog_20_method_9_4 (q := 7) rfl ?_
  refine Go.ifNo C dc_prog_20_method_9_7 (q := 10) rfl (XT.i0_eq_f (by decide)) ?_
  refine Go.lloadN C dc_prog_20_method_9_10 (q := 11) rfl rfl ?_
  refine Go.aloadN C dc_prog_20_method_9_11 (q := 12) rfl rfl rfl ?_
  refine Go.getF C (host := "") (Or.inl (wd hw 28 rfl)) Via.refl (fun _ r => r.fld 0 0 rfl rfl) dc_prog_20_method_9_12 (q := 15) rfl ?_
  refine Go.pick (M' := ((pA1, oRun (.ref pA2) (.ref pA3) (.int (1 : Int32)) (.int (0 : Int32))) :: (pA2, .inr (.long, (oK64 (.long kA2) (.long kA3) (.long kA4) (.long kA5) (.long kA6) (.long kA7)), true)) :: (pA3, .inr (.object "java/lang/Object", (oE64 (.ref eA2) .null .null .null .null .null), true)) :: (pA0, oQ (.ref pA1) (.ref pA4) (.int (1 : Int32)) (.long kA1) (.ref eA1)) :: (pA4, oHeap (.ref pA5) (.ref pA6) (.int (0 : Int32))) :: (pA5, .inr (.long, (oK64 (.long kA8) (.long kA9) (.long kA10) (.long kA11) (.long kA12) (.long kA13)), true)) :: (pA6, .inr (.object "java/lang/Object", (oE64 .null .null .null .null .null .null), true)) :: F)) 7 [1, 2, 3, 0, 4, 5, 6] (by decide) (by decide) rfl ?_
  refine Go.callPR C (y := yN25) (a := pA1) (as := []) (rest := [(.long kA0)]) (wd hw 89 rfl) (wd hw 90 rfl) (sel_priv (y := yN25) (wd hw 10 rfl) (wd hw 90 rfl) (wd hw 91 rfl) (by decide)) (wd hw 91 rfl) (wd hw 92 rfl) (wd hw 11 rfl) (fun _ r => r.exa 0 rfl) (u_SequenceQueue_Run_lastKey_58 l Z a0 hw _ pA1 pA2 pA3 eA2 kA2 kA3 kA4 kA5 kA6 kA7 hE_eA2) rfl dc_prog_20_method_9_15 (q := 18) rfl (by decide) rfl (na := 0) (by decide +kernel) rfl (by decide) (W := 2) rfl (by decide) (by decide) (by decide) (k' := 0) (n' := 0) rfl rfl ?_
  rintro _ _ ⟨rfl, rfl⟩
  show Go _ _ _ _ _ _ _ _ _ _ [(.long kA2), (.long kA0)]
  refine Go.lcmpif C dc_prog_20_method_9_18 rfl dc_prog_20_method_9_19 (by decide) (q := 34) rfl (q' := 22) rfl (fun (h18_1 : kA0 < kA2) => ?_) (fun (h18_1 : ¬ kA0 < kA2) => ?_)
  · refine Go.aloadN C dc_prog_20_method_9_34 (q := 35) rfl rfl rfl ?_
    refine Go.getF C (host := "") (Or.inl (wd hw 39 rfl)) Via.refl (fun _ r => r.fld 3 1 rfl rfl) dc_prog_20_method_9_35 (q := 38) rfl ?_
    refine Go.lloadN C dc_prog_20_method_9_38 (q := 39) rfl rfl ?_
    refine Go.aloadN C dc_prog_20_method_9_39 (q := 40) rfl rfl rfl ?_
    refine Go.pick (M' := ((pA4, oHeap (.ref pA5) (.ref pA6) (.int (0 : Int32))) :: (pA5, .inr (.long, (oK64 (.long kA8) (.long kA9) (.long kA10) (.long kA11) (.long kA12) (.long kA13)), true)) :: (pA6, .inr (.object "java/lang/Object", (oE64 .null .null .null .null .null .null), true)) :: (pA1, oRun (.ref pA2) (.ref pA3) (.int (1 : Int32)) (.int (0 : Int32))) :: (pA2, .inr (.long, (oK64 (.long kA2) (.long kA3) (.long kA4) (.long kA5) (.long kA6) (.long kA7)), true)) :: (pA3, .inr (.object "java/lang/Object", (oE64 (.ref eA2) .null .null .null .null .null), true)) :: (pA0, oQ (.ref pA1) (.ref pA4) (.int (1 : Int32)) (.long kA1) (.ref eA1)) :: F)) 7 [4, 5, 6, 0, 1, 2, 3] (by decide) (by decide) rfl ?_
    refine Go.callPR C (y := yN27) (a := pA4) (as := [(.long kA0), (.ref eA0)]) (rest := []) (wd hw 93 rfl) (wd hw 94 rfl) (sel_priv (y := yN27) (wd hw 31 rfl) (wd hw 94 rfl) (wd hw 95 rfl) (by decide)) (wd hw 95 rfl) (wd hw 96 rfl) (wd hw 32 rfl) (fun _ r => r.exa 0 rfl) (u_SequenceQueue_Heap_add_62 l Z a0 hw _ pA4 pA5 pA6 eA0 kA0 kA8 kA9 kA10 kA11 kA12 kA13 hE_eA0) rfl dc_prog_20_method_9_40 (q := 43) rfl (by decide) rfl (na := 2) (by decide +kernel) rfl (by decide) (W := 0) rfl (by decide) (by decide) (by decide) (k' := 0) (n' := 0) rfl rfl ?_
    rintro _ _ ⟨rfl, rfl⟩
    show Go _ _ _ _ _ _ _ _ _ _ []
    refine Go.ret0 C rfl dc_prog_20_method_9_43 (by decide) (by decide) ?_
    exact Or.inl ⟨rfl, rfl⟩
  · refine Go.aloadN C dc_prog_20_method_9_22 (q := 23) rfl rfl rfl ?_
    refine Go.getF C (host := "") (Or.inl (wd hw 28 rfl)) Via.refl (fun _ r => r.fld 3 0 rfl rfl) dc_prog_20_method_9_23 (q := 26) rfl ?_
    refine Go.lloadN C dc_prog_20_method_9_26 (q := 27) rfl rfl ?_
    refine Go.aloadN C dc_prog_20_method_9_27 (q := 28) rfl rfl rfl ?_
    refine Go.callPR C (y := yN23) (a := pA1) (as := [(.long kA0), (.ref eA0)]) (rest := []) (wd hw 66 rfl) (wd hw 67 rfl) (sel_priv (y := yN23) (wd hw 10 rfl) (wd hw 67 rfl) (wd hw 68 rfl) (by decide)) (wd hw 68 rfl) (wd hw 69 rfl) (wd hw 11 rfl) (fun _ r => r.exa 0 rfl) (u_SequenceQueue_Run_add_66 l Z a0 hw _ pA1 pA2 pA3 eA0 eA2 kA0 kA2 kA3 kA4 kA5 kA6 kA7 hE_eA0 hE_eA2) rfl dc_prog_20_method_9_28 (q := 31) rfl (by decide) rfl (na := 2) (by decide +kernel) rfl (by decide) (W := 0) rfl (by decide) (by decide) (by decide) (k' := 0) (n' := 0) rfl rfl ?_
    rintro _ _ ⟨rfl, rfl⟩
    show Go _ _ _ _ _ _ _ _ _ _ []
    refine Go.goto C dc_prog_20_method_9_31 (by decide) (q := 43) rfl ?_
    refine Go.ret0 C rfl dc_prog_20_method_9_43 (by decide) (by decide) ?_
    exact Or.inr (⟨rfl, rfl⟩)
set_option maxRecDepth 65536 in
set_option maxHeartbeats 40000000 in
theorem u_SequenceQueue_add_56 (l : Launch) (Z : State) (a0 : Array Value) (hw : ∀ d ∈ tables_1, d.before a0 Z = true) (F : List Ent) (pA0 pA1 pA2 pA3 pA4 pA5 pA6 eA0 eA1 eA2 : Addr) (kA0 kA1 kA2 kA3 kA4 kA5 kA6 kA7 kA8 kA9 kA10 kA11 kA12 kA13 : Int64) (hE_eA0 : Exa Z Z.heap eA0 "java/lang/Integer") (hE_eA1 : Exa Z Z.heap eA1 "java/lang/Integer") (hE_eA2 : Exa Z Z.heap eA2 "java/lang/Integer") :
    Met l Z yN17 prog_20_method_2_code 4 none { frames := 3, cells := 0, slots := 0, locals := 45 } #[(.ref pA0), (.long kA0), (.ref eA0)] ((pA0, oQ (.ref pA1) (.ref pA4) (.int (1 : Int32)) (.long kA1) (.ref eA1)) :: (pA1, oRun (.ref pA2) (.ref pA3) (.int (1 : Int32)) (.int (0 : Int32))) :: (pA2, .inr (.long, (oK64 (.long kA2) (.long kA3) (.long kA4) (.long kA5) (.long kA6) (.long kA7)), true)) :: (pA3, .inr (.object "java/lang/Object", (oE64 (.ref eA2) .null .null .null .null .null), true)) :: (pA4, oHeap (.ref pA5) (.ref pA6) (.int (0 : Int32))) :: (pA5, .inr (.long, (oK64 (.long kA8) (.long kA9) (.long kA10) (.long kA11) (.long kA12) (.long kA13)), true)) :: (pA6, .inr (.object "java/lang/Object", (oE64 .null .null .null .null .null .null), true)) :: F) (fun r M' => (r = none ∧ M' = ((pA4, oHeap (.ref pA5) (.ref pA6) (.int (1 : Int32))) :: (pA5, .inr (.long, (oK64 (.long kA1) (.long kA9) (.long kA10) (.long kA11) (.long kA12) (.long kA13)), true)) :: (pA6, .inr (.object "java/lang/Object", (oE64 (.ref eA1) .null .null .null .null .null), true)) :: (pA1, oRun (.ref pA2) (.ref pA3) (.int (1 : Int32)) (.int (0 : Int32))) :: (pA2, .inr (.long, (oK64 (.long kA2) (.long kA3) (.long kA4) (.long kA5) (.long kA6) (.long kA7)), true)) :: (pA3, .inr (.object "java/lang/Object", (oE64 (.ref eA2) .null .null .null .null .null), true)) :: (pA0, oQ (.ref pA1) (.ref pA4) (.int (1 : Int32)) (.long kA0) (.ref eA0)) :: F)) ∨ (r = none ∧ M' = ((pA1, oRun (.ref pA2) (.ref pA3) (.int (2 : Int32)) (.int (0 : Int32))) :: (pA2, .inr (.long, (oK64 (.long kA2) (.long kA1) (.long kA4) (.long kA5) (.long kA6) (.long kA7)), true)) :: (pA3, .inr (.object "java/lang/Object", (oE64 (.ref eA2) (.ref eA1) .null .null .null .null), true)) :: (pA0, oQ (.ref pA1) (.ref pA4) (.int (1 : Int32)) (.long kA0) (.ref eA0)) :: (pA4, oHeap (.ref pA5) (.ref pA6) (.int (0 : Int32))) :: (pA5, .inr (.long, (oK64 (.long kA8) (.long kA9) (.long kA10) (.long kA11) (.long kA12) (.long kA13)), true)) :: (pA6, .inr (.object "java/lang/Object", (oE64 .null .null .null .null .null .null), true)) :: F))) := by
  refine Met.of_go pn_15 (Ls := #[.val (.ref pA0), .val (.long kA0), .second, .val (.ref eA0)]) (fun m => by first | rfl | (simp [entryFrame, mkF, argsToLocals, Value.category, maxLocals]; done)) ?_
  intro E C
  refine Go.aloadN C dc_prog_20_method_2_0 (q := 1) rfl rfl rfl ?_
  refine Go.getF C (host := "") (Or.inl (wd hw 53 rfl)) Via.refl (fun _ r => r.fld 0 2 rfl rfl) dc_prog_20_method_2_1 (q := 4) rfl ?_
  refine Go.ifNo C dc_prog_20_method_2_4 (q := 7) rfl (XT.i0_eq_f (by decide)) ?_
  refine Go.aloadN C dc_prog_20_method_2_7 (q := 8) rfl rfl rfl ?_
  refine Go.aloadN C dc_prog_20_method_2_8 (q := 9) rfl rfl rfl ?_
  refine Go.getF C (host := "") (Or.inl (wd hw 55 rfl)) Via.refl (fun _ r => r.fld 0 3 rfl rfl) dc_prog_20_method_2_9 (q := 12) rfl ?_
  refine Go.aloadN C dc_prog_20_method_2_12 (q := 13) rfl rfl rfl ?_
  refine Go.getF C (host := "") (Or.inl (wd hw 57 rfl)) Via.refl (fun _ r => r.fld 0 4 rfl rfl) dc_prog_20_method_2_13 (q := 16) rfl ?_
  refine Go.callP C (y := yN24) (a := pA0) (as := [(.long kA1), (.ref eA1)]) (rest := []) (wd hw 59 rfl) (wd hw 60 rfl) (sel_priv (y := yN24) (wd hw 1 rfl) (wd hw 60 rfl) (wd hw 61 rfl) (by decide)) (wd hw 61 rfl) (wd hw 62 rfl) (wd hw 2 rfl) (fun _ r => r.exa 0 rfl) (u_SequenceQueue_place_57 l Z a0 hw _ pA0 pA1 pA2 pA3 pA4 pA5 pA6 eA1 eA1 eA2 kA1 kA1 kA2 kA3 kA4 kA5 kA6 kA7 kA8 kA9 kA10 kA11 kA12 kA13 hE_eA1 hE_eA1 hE_eA2) rfl dc_prog_20_method_2_16 (q := 19) rfl (by decide) rfl (na := 2) (by decide +kernel) rfl (by decide) (W := 0) rfl (by decide) (by decide) (by decide) (k' := 0) (n' := 0) rfl rfl ?_
  rintro _ _ (⟨rfl, rfl⟩ | ⟨rfl, rfl⟩)
  · show Go _ _ _ _ _ _ _ _ _ _ []
    refine Go.aloadN C dc_prog_20_method_2_19 (q := 20) rfl rfl rfl ?_
    refine Go.iconst C dc_prog_20_method_2_20 (q := 21) rfl (v := (1 : Int32)) rfl ?_
    refine Go.putF C (host := "") (i := 6) (j := 2) (Or.inl (wd hw 53 rfl)) Via.refl rfl rfl (Or.inl (wd hw 54 rfl)) (wd hw 1 rfl) (ty := .boolean) (by decide) rfl rfl dc_prog_20_method_2_21 (q := 24) rfl (M' := ((pA4, oHeap (.ref pA5) (.ref pA6) (.int (1 : Int32))) :: (pA5, .inr (.long, (oK64 (.long kA1) (.long kA9) (.long kA10) (.long kA11) (.long kA12) (.long kA13)), true)) :: (pA6, .inr (.object "java/lang/Object", (oE64 (.ref eA1) .null .null .null .null .null), true)) :: (pA1, oRun (.ref pA2) (.ref pA3) (.int (1 : Int32)) (.int (0 : Int32))) :: (pA2, .inr (.long, (oK64 (.long kA2) (.long kA3) (.long kA4) (.long kA5) (.long kA6) (.long kA7)), true)) :: (pA3, .inr (.object "java/lang/Object", (oE64 (.ref eA2) .null .null .null .null .null), true)) :: (pA0, oQ (.ref pA1) (.ref pA4) (.int (1 : Int32)) (.long kA1) (.ref eA1)) :: F)) rfl ?_
    refine Go.aloadN C dc_prog_20_method_2_24 (q := 25) rfl rfl rfl ?_
    refine Go.lloadN C dc_prog_20_method_2_25 (q := 26) rfl rfl ?_
    refine Go.putF C (host := "") (i := 6) (j := 3) (Or.inl (wd hw 55 rfl)) Via.refl rfl rfl (Or.inl (wd hw 56 rfl)) (wd hw 1 rfl) (ty := .long) (by decide) rfl rfl dc_prog_20_method_2_26 (q := 29) rfl (M' := ((pA4, oHeap (.ref pA5) (.ref pA6) (.int (1 : Int32))) :: (pA5, .inr (.long, (oK64 (.long kA1) (.long kA9) (.long kA10) (.long kA11) (.long kA12) (.long kA13)), true)) :: (pA6, .inr (.object "java/lang/Object", (oE64 (.ref eA1) .null .null .null .null .null), true)) :: (pA1, oRun (.ref pA2) (.ref pA3) (.int (1 : Int32)) (.int (0 : Int32))) :: (pA2, .inr (.long, (oK64 (.long kA2) (.long kA3) (.long kA4) (.long kA5) (.long kA6) (.long kA7)), true)) :: (pA3, .inr (.object "java/lang/Object", (oE64 (.ref eA2) .null .null .null .null .null), true)) :: (pA0, oQ (.ref pA1) (.ref pA4) (.int (1 : Int32)) (.long kA0) (.ref eA1)) :: F)) rfl ?_
    refine Go.aloadN C dc_prog_20_method_2_29 (q := 30) rfl rfl rfl ?_
    refine Go.aloadN C dc_prog_20_method_2_30 (q := 31) rfl rfl rfl ?_
    refine Go.putF C (host := "") (i := 6) (j := 4) (Or.inl (wd hw 57 rfl)) Via.refl rfl rfl (Or.inl (wd hw 58 rfl)) (wd hw 1 rfl) (ty := (.object "java/lang/Object")) (by decide) rfl rfl dc_prog_20_method_2_31 (q := 34) rfl (M' := ((pA4, oHeap (.ref pA5) (.ref pA6) (.int (1 : Int32))) :: (pA5, .inr (.long, (oK64 (.long kA1) (.long kA9) (.long kA10) (.long kA11) (.long kA12) (.long kA13)), true)) :: (pA6, .inr (.object "java/lang/Object", (oE64 (.ref eA1) .null .null .null .null .null), true)) :: (pA1, oRun (.ref pA2) (.ref pA3) (.int (1 : Int32)) (.int (0 : Int32))) :: (pA2, .inr (.long, (oK64 (.long kA2) (.long kA3) (.long kA4) (.long kA5) (.long kA6) (.long kA7)), true)) :: (pA3, .inr (.object "java/lang/Object", (oE64 (.ref eA2) .null .null .null .null .null), true)) :: (pA0, oQ (.ref pA1) (.ref pA4) (.int (1 : Int32)) (.long kA0) (.ref eA0)) :: F)) rfl ?_
    refine Go.ret0 C rfl dc_prog_20_method_2_34 (by decide) (by decide) ?_
    exact Or.inl ⟨rfl, rfl⟩
  · show Go _ _ _ _ _ _ _ _ _ _ []
    refine Go.aloadN C dc_prog_20_method_2_19 (q := 20) rfl rfl rfl ?_
    refine Go.iconst C dc_prog_20_method_2_20 (q := 21) rfl (v := (1 : Int32)) rfl ?_
    refine Go.putF C (host := "") (i := 3) (j := 2) (Or.inl (wd hw 53 rfl)) Via.refl rfl rfl (Or.inl (wd hw 54 rfl)) (wd hw 1 rfl) (ty := .boolean) (by decide) rfl rfl dc_prog_20_method_2_21 (q := 24) rfl (M' := ((pA1, oRun (.ref pA2) (.ref pA3) (.int (2 : Int32)) (.int (0 : Int32))) :: (pA2, .inr (.long, (oK64 (.long kA2) (.long kA1) (.long kA4) (.long kA5) (.long kA6) (.long kA7)), true)) :: (pA3, .inr (.object "java/lang/Object", (oE64 (.ref eA2) (.ref eA1) .null .null .null .null), true)) :: (pA0, oQ (.ref pA1) (.ref pA4) (.int (1 : Int32)) (.long kA1) (.ref eA1)) :: (pA4, oHeap (.ref pA5) (.ref pA6) (.int (0 : Int32))) :: (pA5, .inr (.long, (oK64 (.long kA8) (.long kA9) (.long kA10) (.long kA11) (.long kA12) (.long kA13)), true)) :: (pA6, .inr (.object "java/lang/Object", (oE64 .null .null .null .null .null .null), true)) :: F)) rfl ?_
    refine Go.aloadN C dc_prog_20_method_2_24 (q := 25) rfl rfl rfl ?_
    refine Go.lloadN C dc_prog_20_method_2_25 (q := 26) rfl rfl ?_
    refine Go.putF C (host := "") (i := 3) (j := 3) (Or.inl (wd hw 55 rfl)) Via.refl rfl rfl (Or.inl (wd hw 56 rfl)) (wd hw 1 rfl) (ty := .long) (by decide) rfl rfl dc_prog_20_method_2_26 (q := 29) rfl (M' := ((pA1, oRun (.ref pA2) (.ref pA3) (.int (2 : Int32)) (.int (0 : Int32))) :: (pA2, .inr (.long, (oK64 (.long kA2) (.long kA1) (.long kA4) (.long kA5) (.long kA6) (.long kA7)), true)) :: (pA3, .inr (.object "java/lang/Object", (oE64 (.ref eA2) (.ref eA1) .null .null .null .null), true)) :: (pA0, oQ (.ref pA1) (.ref pA4) (.int (1 : Int32)) (.long kA0) (.ref eA1)) :: (pA4, oHeap (.ref pA5) (.ref pA6) (.int (0 : Int32))) :: (pA5, .inr (.long, (oK64 (.long kA8) (.long kA9) (.long kA10) (.long kA11) (.long kA12) (.long kA13)), true)) :: (pA6, .inr (.object "java/lang/Object", (oE64 .null .null .null .null .null .null), true)) :: F)) rfl ?_
    refine Go.aloadN C dc_prog_20_method_2_29 (q := 30) rfl rfl rfl ?_
    refine Go.aloadN C dc_prog_20_method_2_30 (q := 31) rfl rfl rfl ?_
    refine Go.putF C (host := "") (i := 3) (j := 4) (Or.inl (wd hw 57 rfl)) Via.refl rfl rfl (Or.inl (wd hw 58 rfl)) (wd hw 1 rfl) (ty := (.object "java/lang/Object")) (by decide) rfl rfl dc_prog_20_method_2_31 (q := 34) rfl (M' := ((pA1, oRun (.ref pA2) (.ref pA3) (.int (2 : Int32)) (.int (0 : Int32))) :: (pA2, .inr (.long, (oK64 (.long kA2) (.long kA1) (.long kA4) (.long kA5) (.long kA6) (.long kA7)), true)) :: (pA3, .inr (.object "java/lang/Object", (oE64 (.ref eA2) (.ref eA1) .null .null .null .null), true)) :: (pA0, oQ (.ref pA1) (.ref pA4) (.int (1 : Int32)) (.long kA0) (.ref eA0)) :: (pA4, oHeap (.ref pA5) (.ref pA6) (.int (0 : Int32))) :: (pA5, .inr (.long, (oK64 (.long kA8) (.long kA9) (.long kA10) (.long kA11) (.long kA12) (.long kA13)), true)) :: (pA6, .inr (.object "java/lang/Object", (oE64 .null .null .null .null .null .null), true)) :: F)) rfl ?_
    refine Go.ret0 C rfl dc_prog_20_method_2_34 (by decide) (by decide) ?_
    exact Or.inr (⟨rfl, rfl⟩)
set_option maxRecDepth 65536 in
set_option maxHeartbeats 40000000 in
theorem u_SequenceQueue_Part_clear_75 (l : Launch) (Z : State) (a0 : Array Value) (hw : ∀ d ∈ tables_1, d.before a0 Z = true) (F : List Ent) (pA0 pA1 pA2 eA0 : Addr) (kA0 kA1 kA2 kA3 kA4 kA5 : Int64) (hE_eA0 : Exa Z Z.heap eA0 "java/lang/Integer") :
    Met l Z yN4 prog_22_method_4_code 1 none { frames := 0, cells := 2, slots := 128, locals := 0 } #[(.ref pA0)] ((pA0, oHeap (.ref pA1) (.ref pA2) (.int (1 : Int32))) :: (pA1, .inr (.long, (oK64 (.long kA0) (.long kA1) (.long kA2) (.long kA3) (.long kA4) (.long kA5)), true)) :: (pA2, .inr (.object "java/lang/Object", (oE64 (.ref eA0) .null .null .null .null .null), true)) :: F) (fun r M' => (∃ sA0 sA1 : Addr, r = none ∧ M' = ((sA0, .inr (.object "java/lang/Object", (oE64 .null .null .null .null .null .null), true)) :: (sA1, .inr (.long, (oK64 (.long (0 : Int64)) (.long (0 : Int64)) (.long (0 : Int64)) (.long (0 : Int64)) (.long (0 : Int64)) (.long (0 : Int64))), true)) :: (pA0, oHeap (.ref sA1) (.ref sA0) (.int (0 : Int32))) :: (pA1, .inr (.long, (oK64 (.long kA0) (.long kA1) (.long kA2) (.long kA3) (.long kA4) (.long kA5)), true)) :: (pA2, .inr (.object "java/lang/Object", (oE64 (.ref eA0) .null .null .null .null .null), true)) :: F))) := by
  refine Met.of_go pn_4 (Ls := #[.val (.ref pA0)]) (fun m => by first | rfl | (simp [entryFrame, mkF, argsToLocals, Value.category, maxLocals]; done)) ?_
  intro E C
  refine Go.aloadN C dc_prog_22_method_4_0 (q := 1) rfl rfl rfl ?_
  refine Go.bipush C dc_prog_22_method_4_1 (q := 3) rfl (v := (64 : Int32)) (by decide) ?_
  refine Go.newarray C (ty := .long) (wd hw 21 rfl) rfl (by simp) (by decide) (cap := 64) (by decide) (by decide) (vs := (oK64 (.long (0 : Int64)) (.long (0 : Int64)) (.long (0 : Int64)) (.long (0 : Int64)) (.long (0 : Int64)) (.long (0 : Int64)))) rfl dc_prog_22_method_4_3 (q := 5) rfl (by decide) (by decide) (k' := 1) (n' := 64) rfl rfl (fun o66 => ?_)
  refine Go.putF C (host := "") (i := 1) (j := 0) (Or.inl (wd hw 22 rfl)) Via.refl rfl rfl (Or.inl (wd hw 37 rfl)) (wd hw 31 rfl) (ty := (.array .long)) (by decide) rfl rfl dc_prog_22_method_4_5 (q := 8) rfl (M' := ((o66, .inr (.long, (oK64 (.long (0 : Int64)) (.long (0 : Int64)) (.long (0 : Int64)) (.long (0 : Int64)) (.long (0 : Int64)) (.long (0 : Int64))), true)) :: (pA0, oHeap (.ref o66) (.ref pA2) (.int (1 : Int32))) :: (pA1, .inr (.long, (oK64 (.long kA0) (.long kA1) (.long kA2) (.long kA3) (.long kA4) (.long kA5)), true)) :: (pA2, .inr (.object "java/lang/Object", (oE64 (.ref eA0) .null .null .null .null .null), true)) :: F)) rfl ?_
  refine Go.aloadN C dc_prog_22_method_4_8 (q := 9) rfl rfl rfl ?_
  refine Go.bipush C dc_prog_22_method_4_9 (q := 11) rfl (v := (64 : Int32)) (by decide) ?_
  refine Go.anewarray C (wd hw 24 rfl) (wd hw 25 rfl) (by decide) (cap := 64) (by decide) (by decide) (vs := (oE64 .null .null .null .null .null .null)) rfl dc_prog_22_method_4_11 (q := 14) rfl (by decide) (by decide) (k' := 2) (n' := 128) rfl rfl (fun o67 => ?_)
  refine Go.putF C (host := "") (i := 2) (j := 1) (Or.inl (wd hw 26 rfl)) Via.refl rfl rfl (Or.inl (wd hw 38 rfl)) (wd hw 31 rfl) (ty := (.array (.object "java/lang/Object"))) (by decide) rfl rfl dc_prog_22_method_4_14 (q := 17) rfl (M' := ((o67, .inr (.object "java/lang/Object", (oE64 .null .null .null .null .null .null), true)) :: (o66, .inr (.long, (oK64 (.long (0 : Int64)) (.long (0 : Int64)) (.long (0 : Int64)) (.long (0 : Int64)) (.long (0 : Int64)) (.long (0 : Int64))), true)) :: (pA0, oHeap (.ref o66) (.ref o67) (.int (1 : Int32))) :: (pA1, .inr (.long, (oK64 (.long kA0) (.long kA1) (.long kA2) (.long kA3) (.long kA4) (.long kA5)), true)) :: (pA2, .inr (.object "java/lang/Object", (oE64 (.ref eA0) .null .null .null .null .null), true)) :: F)) rfl ?_
  refine Go.aloadN C dc_prog_22_method_4_17 (q := 18) rfl rfl rfl ?_
  refine Go.iconst C dc_prog_22_method_4_18 (q := 19) rfl (v := (0 : Int32)) rfl ?_
  refine Go.putF C (host := "") (i := 2) (j := 2) (Or.inl (wd hw 76 rfl)) Via.refl rfl rfl (Or.inl (wd hw 100 rfl)) (wd hw 31 rfl) (ty := .int) (by decide) rfl rfl dc_prog_22_method_4_19 (q := 22) rfl (M' := ((o67, .inr (.object "java/lang/Object", (oE64 .null .null .null .null .null .null), true)) :: (o66, .inr (.long, (oK64 (.long (0 : Int64)) (.long (0 : Int64)) (.long (0 : Int64)) (.long (0 : Int64)) (.long (0 : Int64)) (.long (0 : Int64))), true)) :: (pA0, oHeap (.ref o66) (.ref o67) (.int (0 : Int32))) :: (pA1, .inr (.long, (oK64 (.long kA0) (.long kA1) (.long kA2) (.long kA3) (.long kA4) (.long kA5)), true)) :: (pA2, .inr (.object "java/lang/Object", (oE64 (.ref eA0) .null .null .null .null .null), true)) :: F)) rfl ?_
  refine Go.ret0 C rfl dc_prog_22_method_4_22 (by decide) (by decide) ?_
  exact ⟨_, _, rfl, rfl⟩
set_option maxRecDepth 65536 in
set_option maxHeartbeats 40000000 in
theorem u_SequenceQueue_clear_74 (l : Launch) (Z : State) (a0 : Array Value) (hw : ∀ d ∈ tables_1, d.before a0 Z = true) (F : List Ent) (pA0 pA1 pA2 pA3 pA4 pA5 pA6 eA0 eA1 eA2 : Addr) (kA0 kA1 kA2 kA3 kA4 kA5 kA6 kA7 kA8 kA9 kA10 kA11 kA12 : Int64) (hE_eA0 : Exa Z Z.heap eA0 "java/lang/Integer") (hE_eA1 : Exa Z Z.heap eA1 "java/lang/Integer") (hE_eA2 : Exa Z Z.heap eA2 "java/lang/Integer") :
    Met l Z yN7 prog_20_method_8_code 1 none { frames := 2, cells := 4, slots := 256, locals := 24 } #[(.ref pA0)] ((pA0, oQ (.ref pA1) (.ref pA4) (.int (1 : Int32)) (.long kA0) (.ref eA0)) :: (pA1, oRun (.ref pA2) (.ref pA3) (.int (1 : Int32)) (.int (0 : Int32))) :: (pA2, .inr (.long, (oK64 (.long kA1) (.long kA2) (.long kA3) (.long kA4) (.long kA5) (.long kA6)), true)) :: (pA3, .inr (.object "java/lang/Object", (oE64 (.ref eA1) .null .null .null .null .null), true)) :: (pA4, oHeap (.ref pA5) (.ref pA6) (.int (1 : Int32))) :: (pA5, .inr (.long, (oK64 (.long kA7) (.long kA8) (.long kA9) (.long kA10) (.long kA11) (.long kA12)), true)) :: (pA6, .inr (.object "java/lang/Object", (oE64 (.ref eA2) .null .null .null .null .null), true)) :: F) (fun r M' => (∃ sA0 sA1 sA2 sA3 : Addr, r = none ∧ M' = ((sA0, .inr (.object "java/lang/Object", (oE64 .null .null .null .null .null .null), true)) :: (sA1, .inr (.long, (oK64 (.long (0 : Int64)) (.long (0 : Int64)) (.long (0 : Int64)) (.long (0 : Int64)) (.long (0 : Int64)) (.long (0 : Int64))), true)) :: (pA4, oHeap (.ref sA1) (.ref sA0) (.int (0 : Int32))) :: (pA5, .inr (.long, (oK64 (.long kA7) (.long kA8) (.long kA9) (.long kA10) (.long kA11) (.long kA12)), true)) :: (pA6, .inr (.object "java/lang/Object", (oE64 (.ref eA2) .null .null .null .null .null), true)) :: (sA2, .inr (.object "java/lang/Object", (oE64 .null .null .null .null .null .null), true)) :: (sA3, .inr (.long, (oK64 (.long (0 : Int64)) (.long (0 : Int64)) (.long (0 : Int64)) (.long (0 : Int64)) (.long (0 : Int64)) (.long (0 : Int64))), true)) :: (pA1, oRun (.ref sA3) (.ref sA2) (.int (0 : Int32)) (.int (0 : Int32))) :: (pA2, .inr (.long, (oK64 (.long kA1) (.long kA2) (.long kA3) (.long kA4) (.long kA5) (.long kA6)), true)) :: (pA3, .inr (.object "java/lang/Object", (oE64 (.ref eA1) .null .null .null .null .null), true)) :: (pA0, oQ (.ref pA1) (.ref pA4) (.int (0 : Int32)) (.long kA0) .null) :: F))) := by
  refine Met.of_go pn_6 (Ls := #[.val (.ref pA0)]) (fun m => by first | rfl | (simp [entryFrame, mkF, argsToLocals, Value.category, maxLocals]; done)) ?_
  intro E C
  refine Go.aloadN C dc_prog_20_method_8_0 (q := 1) rfl rfl rfl ?_
  refine Go.iconst C dc_prog_20_method_8_1 (q := 2) rfl (v := (0 : Int32)) rfl ?_
  refine Go.putF C (host := "") (i := 0) (j := 2) (Or.inl (wd hw 53 rfl)) Via.refl rfl rfl (Or.inl (wd hw 54 rfl)) (wd hw 1 rfl) (ty := .boolean) (by decide) rfl rfl dc_prog_20_method_8_2 (q := 5) rfl (M' := ((pA0, oQ (.ref pA1) (.ref pA4) (.int (0 : Int32)) (.long kA0) (.ref eA0)) :: (pA1, oRun (.ref pA2) (.ref pA3) (.int (1 : Int32)) (.int (0 : Int32))) :: (pA2, .inr (.long, (oK64 (.long kA1) (.long kA2) (.long kA3) (.long kA4) (.long kA5) (.long kA6)), true)) :: (pA3, .inr (.object "java/lang/Object", (oE64 (.ref eA1) .null .null .null .null .null), true)) :: (pA4, oHeap (.ref pA5) (.ref pA6) (.int (1 : Int32))) :: (pA5, .inr (.long, (oK64 (.long kA7) (.long kA8) (.long kA9) (.long kA10) (.long kA11) (.long kA12)), true)) :: (pA6, .inr (.object "java/lang/Object", (oE64 (.ref eA2) .null .null .null .null .null), true)) :: F)) rfl ?_
  refine Go.aloadN C dc_prog_20_method_8_5 (q := 6) rfl rfl rfl ?_
  refine Go.aconstNull C dc_prog_20_method_8_6 (q := 7) rfl ?_
  refine Go.putF C (host := "") (i := 0) (j := 4) (Or.inl (wd hw 57 rfl)) Via.refl rfl rfl (Or.inl (wd hw 58 rfl)) (wd hw 1 rfl) (ty := (.object "java/lang/Object")) (by decide) rfl rfl dc_prog_20_method_8_7 (q := 10) rfl (M' := ((pA0, oQ (.ref pA1) (.ref pA4) (.int (0 : Int32)) (.long kA0) .null) :: (pA1, oRun (.ref pA2) (.ref pA3) (.int (1 : Int32)) (.int (0 : Int32))) :: (pA2, .inr (.long, (oK64 (.long kA1) (.long kA2) (.long kA3) (.long kA4) (.long kA5) (.long kA6)), true)) :: (pA3, .inr (.object "java/lang/Object", (oE64 (.ref eA1) .null .null .null .null .null), true)) :: (pA4, oHeap (.ref pA5) (.ref pA6) (.int (1 : Int32))) :: (pA5, .inr (.long, (oK64 (.long kA7) (.long kA8) (.long kA9) (.long kA10) (.long kA11) (.long kA12)), true)) :: (pA6, .inr (.object "java/lang/Object", (oE64 (.ref eA2) .null .null .null .null .null), true)) :: F)) rfl ?_
  refine Go.aloadN C dc_prog_20_method_8_10 (q := 11) rfl rfl rfl ?_
  refine Go.getF C (host := "") (Or.inl (wd hw 28 rfl)) Via.refl (fun _ r => r.fld 0 0 rfl rfl) dc_prog_20_method_8_11 (q := 14) rfl ?_
  refine Go.pick (M' := ((pA1, oRun (.ref pA2) (.ref pA3) (.int (1 : Int32)) (.int (0 : Int32))) :: (pA2, .inr (.long, (oK64 (.long kA1) (.long kA2) (.long kA3) (.long kA4) (.long kA5) (.long kA6)), true)) :: (pA3, .inr (.object "java/lang/Object", (oE64 (.ref eA1) .null .null .null .null .null), true)) :: (pA0, oQ (.ref pA1) (.ref pA4) (.int (0 : Int32)) (.long kA0) .null) :: (pA4, oHeap (.ref pA5) (.ref pA6) (.int (1 : Int32))) :: (pA5, .inr (.long, (oK64 (.long kA7) (.long kA8) (.long kA9) (.long kA10) (.long kA11) (.long kA12)), true)) :: (pA6, .inr (.object "java/lang/Object", (oE64 (.ref eA2) .null .null .null .null .null), true)) :: F)) 7 [1, 2, 3, 0, 4, 5, 6] (by decide) (by decide) rfl ?_
  refine Go.callV C (y := yN5) (z := yN5) (a := pA1) (as := []) (rest := []) (wd hw 112 rfl) (wd hw 113 rfl) (nf_sel (z := yN5) (wd hw 115 rfl)) (wd hw 115 rfl) (wd hw 114 rfl) (wd hw 116 rfl) (wd hw 11 rfl) (fun _ r => r.exa 0 rfl) (u_SequenceQueue_Run_clear_51 l Z a0 hw _ pA1 pA2 pA3 eA1 kA1 kA2 kA3 kA4 kA5 kA6 hE_eA1) rfl dc_prog_20_method_8_14 (q := 17) rfl (by decide) rfl (na := 0) (by decide +kernel) rfl (by decide) (W := 0) rfl (by decide) (by decide) (by decide) (k' := 2) (n' := 128) rfl rfl ?_
  rintro _ _ ⟨o64, o65, rfl, rfl⟩
  show Go _ _ _ _ _ _ _ _ _ _ []
  refine Go.aloadN C dc_prog_20_method_8_17 (q := 18) rfl rfl rfl ?_
  refine Go.getF C (host := "") (Or.inl (wd hw 39 rfl)) Via.refl (fun _ r => r.fld 5 1 rfl rfl) dc_prog_20_method_8_18 (q := 21) rfl ?_
  refine Go.pick (M' := ((pA4, oHeap (.ref pA5) (.ref pA6) (.int (1 : Int32))) :: (pA5, .inr (.long, (oK64 (.long kA7) (.long kA8) (.long kA9) (.long kA10) (.long kA11) (.long kA12)), true)) :: (pA6, .inr (.object "java/lang/Object", (oE64 (.ref eA2) .null .null .null .null .null), true)) :: (o64, .inr (.object "java/lang/Object", (oE64 .null .null .null .null .null .null), true)) :: (o65, .inr (.long, (oK64 (.long (0 : Int64)) (.long (0 : Int64)) (.long (0 : Int64)) (.long (0 : Int64)) (.long (0 : Int64)) (.long (0 : Int64))), true)) :: (pA1, oRun (.ref o65) (.ref o64) (.int (0 : Int32)) (.int (0 : Int32))) :: (pA2, .inr (.long, (oK64 (.long kA1) (.long kA2) (.long kA3) (.long kA4) (.long kA5) (.long kA6)), true)) :: (pA3, .inr (.object "java/lang/Object", (oE64 (.ref eA1) .null .null .null .null .null), true)) :: (pA0, oQ (.ref pA1) (.ref pA4) (.int (0 : Int32)) (.long kA0) .null) :: F)) 9 [6, 7, 8, 0, 1, 2, 3, 4, 5] (by decide) (by decide) rfl ?_
  refine Go.callU C (y := yN6) (z := yN4) (owner := "com/example/ordered_dispatch/ordereddispatch/SequenceQueue$Part") (a := pA4) (as := []) (rest := []) (wd hw 122 rfl) (wd hw 123 rfl) (wd hw 120 rfl) (wd hw 124 rfl) (wd hw 118 rfl) (wd hw 121 rfl) (wd hw 18 rfl) (fun _ r => r.exa 0 rfl) (u_SequenceQueue_Part_clear_75 l Z a0 hw _ pA4 pA5 pA6 eA2 kA7 kA8 kA9 kA10 kA11 kA12 hE_eA2) rfl dc_prog_20_method_8_21 (q := 24) rfl (by decide) rfl (na := 0) (by decide +kernel) rfl (by decide) (W := 0) rfl (by decide) (by decide) (by decide) (k' := 4) (n' := 256) rfl rfl ?_
  rintro _ _ ⟨o66, o67, rfl, rfl⟩
  show Go _ _ _ _ _ _ _ _ _ _ []
  refine Go.ret0 C rfl dc_prog_20_method_8_24 (by decide) (by decide) ?_
  exact ⟨_, _, _, _, rfl, rfl⟩
set_option maxRecDepth 65536 in
set_option maxHeartbeats 40000000 in
theorem u_SequenceQueue_Part_clear_80 (l : Launch) (Z : State) (a0 : Array Value) (hw : ∀ d ∈ tables_1, d.before a0 Z = true) (F : List Ent) (pA0 pA1 pA2 eA0 eA1 : Addr) (kA0 kA1 kA2 kA3 kA4 kA5 : Int64) (hE_eA0 : Exa Z Z.heap eA0 "java/lang/Integer") (hE_eA1 : Exa Z Z.heap eA1 "java/lang/Integer") :
    Met l Z yN4 prog_22_method_4_code 1 none { frames := 0, cells := 2, slots := 128, locals := 0 } #[(.ref pA0)] ((pA0, oRun (.ref pA1) (.ref pA2) (.int (2 : Int32)) (.int (0 : Int32))) :: (pA1, .inr (.long, (oK64 (.long kA0) (.long kA1) (.long kA2) (.long kA3) (.long kA4) (.long kA5)), true)) :: (pA2, .inr (.object "java/lang/Object", (oE64 (.ref eA0) (.ref eA1) .null .null .null .null), true)) :: F) (fun r M' => (∃ sA0 sA1 : Addr, r = none ∧ M' = ((sA0, .inr (.object "java/lang/Object", (oE64 .null .null .null .null .null .null), true)) :: (sA1, .inr (.long, (oK64 (.long (0 : Int64)) (.long (0 : Int64)) (.long (0 : Int64)) (.long (0 : Int64)) (.long (0 : Int64)) (.long (0 : Int64))), true)) :: (pA0, oRun (.ref sA1) (.ref sA0) (.int (0 : Int32)) (.int (0 : Int32))) :: (pA1, .inr (.long, (oK64 (.long kA0) (.long kA1) (.long kA2) (.long kA3) (.long kA4) (.long kA5)), true)) :: (pA2, .inr (.object "java/lang/Object", (oE64 (.ref eA0) (.ref eA1) .null .null .null .null), true)) :: F))) := by
  refine Met.of_go pn_4 (Ls := #[.val (.ref pA0)]) (fun m => by first | rfl | (simp [entryFrame, mkF, argsToLocals, Value.category, maxLocals]; done)) ?_
  intro E C
  refine Go.aloadN C dc_prog_22_method_4_0 (q := 1) rfl rfl rfl ?_
  refine Go.bipush C dc_prog_22_method_4_1 (q := 3) rfl (v := (64 : Int32)) (by decide) ?_
  refine Go.newarray C (ty := .long) (wd hw 21 rfl) rfl (by simp) (by decide) (cap := 64) (by decide) (by decide) (vs := (oK64 (.long (0 : Int64)) (.long (0 : Int64)) (.long (0 : Int64)) (.long (0 : Int64)) (.long (0 : Int64)) (.long (0 : Int64)))) rfl dc_prog_22_method_4_3 (q := 5) rfl (by decide) (by decide) (k' := 1) (n' := 64) rfl rfl (fun o71 => ?_)
  refine Go.putF C (host := "") (i := 1) (j := 0) (Or.inl (wd hw 22 rfl)) Via.refl rfl rfl (Or.inl (wd hw 23 rfl)) (wd hw 10 rfl) (ty := (.array .long)) (by decide) rfl rfl dc_prog_22_method_4_5 (q := 8) rfl (M' := ((o71, .inr (.long, (oK64 (.long (0 : Int64)) (.long (0 : Int64)) (.long (0 : Int64)) (.long (0 : Int64)) (.long (0 : Int64)) (.long (0 : Int64))), true)) :: (pA0, oRun (.ref o71) (.ref pA2) (.int (2 : Int32)) (.int (0 : Int32))) :: (pA1, .inr (.long, (oK64 (.long kA0) (.long kA1) (.long kA2) (.long kA3) (.long kA4) (.long kA5)), true)) :: (pA2, .inr (.object "java/lang/Object", (oE64 (.ref eA0) (.ref eA1) .null .null .null .null), true)) :: F)) rfl ?_
  refine Go.aloadN C dc_prog_22_method_4_8 (q := 9) rfl rfl rfl ?_
  refine Go.bipush C dc_prog_22_method_4_9 (q := 11) rfl (v := (64 : Int32)) (by decide) ?_
  refine Go.anewarray C (wd hw 24 rfl) (wd hw 25 rfl) (by decide) (cap := 64) (by decide) (by decide) (vs := (oE64 .null .null .null .null .null .null)) rfl dc_prog_22_method_4_11 (q := 14) rfl (by decide) (by decide) (k' := 2) (n' := 128) rfl rfl (fun o72 => ?_)
  refine Go.putF C (host := "") (i := 2) (j := 1) (Or.inl (wd hw 26 rfl)) Via.refl rfl rfl (Or.inl (wd hw 27 rfl)) (wd hw 10 rfl) (ty := (.array (.object "java/lang/Object"))) (by decide) rfl rfl dc_prog_22_method_4_14 (q := 17) rfl (M' := ((o72, .inr (.object "java/lang/Object", (oE64 .null .null .null .null .null .null), true)) :: (o71, .inr (.long, (oK64 (.long (0 : Int64)) (.long (0 : Int64)) (.long (0 : Int64)) (.long (0 : Int64)) (.long (0 : Int64)) (.long (0 : Int64))), true)) :: (pA0, oRun (.ref o71) (.ref o72) (.int (2 : Int32)) (.int (0 : Int32))) :: (pA1, .inr (.long, (oK64 (.long kA0) (.long kA1) (.long kA2) (.long kA3) (.long kA4) (.long kA5)), true)) :: (pA2, .inr (.object "java/lang/Object", (oE64 (.ref eA0) (.ref eA1) .null .null .null .null), true)) :: F)) rfl ?_
  refine Go.aloadN C dc_prog_22_method_4_17 (q := 18) rfl rfl rfl ?_
  refine Go.iconst C dc_prog_22_method_4_18 (q := 19) rfl (v := (0 : Int32)) rfl ?_
  refine Go.putF C (host := "") (i := 2) (j := 2) (Or.inl (wd hw 76 rfl)) Via.refl rfl rfl (Or.inl (wd hw 65 rfl)) (wd hw 10 rfl) (ty := .int) (by decide) rfl rfl dc_prog_22_method_4_19 (q := 22) rfl (M' := ((o72, .inr (.object "java/lang/Object", (oE64 .null .null .null .null .null .null), true)) :: (o71, .inr (.long, (oK64 (.long (0 : Int64)) (.long (0 : Int64)) (.long (0 : Int64)) (.long (0 : Int64)) (.long (0 : Int64)) (.long (0 : Int64))), true)) :: (pA0, oRun (.ref o71) (.ref o72) (.int (0 : Int32)) (.int (0 : Int32))) :: (pA1, .inr (.long, (oK64 (.long kA0) (.long kA1) (.long kA2) (.long kA3) (.long kA4) (.long kA5)), true)) :: (pA2, .inr (.object "java/lang/Object", (oE64 (.ref eA0) (.ref eA1) .null .null .null .null), true)) :: F)) rfl ?_
  refine Go.ret0 C rfl dc_prog_22_method_4_22 (by decide) (by decide) ?_
  exact ⟨_, _, rfl, rfl⟩
set_option maxRecDepth 65536 in
set_option maxHeartbeats 40000000 in
theorem u_SequenceQueue_Run_clear_79 (l : Launch) (Z : State) (a0 : Array Value) (hw : ∀ d ∈ tables_1, d.before a0 Z = true) (F : List Ent) (pA0 pA1 pA2 eA0 eA1 : Addr) (kA0 kA1 kA2 kA3 kA4 kA5 : Int64) (hE_eA0 : Exa Z Z.heap eA0 "java/lang/Integer") (hE_eA1 : Exa Z Z.heap eA1 "java/lang/Integer") :
    Met l Z yN5 prog_23_method_5_code 1 none { frames := 1, cells := 2, slots := 128, locals := 12 } #[(.ref pA0)] ((pA0, oRun (.ref pA1) (.ref pA2) (.int (2 : Int32)) (.int (0 : Int32))) :: (pA1, .inr (.long, (oK64 (.long kA0) (.long kA1) (.long kA2) (.long kA3) (.long kA4) (.long kA5)), true)) :: (pA2, .inr (.object "java/lang/Object", (oE64 (.ref eA0) (.ref eA1) .null .null .null .null), true)) :: F) (fun r M' => (∃ sA0 sA1 : Addr, r = none ∧ M' = ((sA0, .inr (.object "java/lang/Object", (oE64 .null .null .null .null .null .null), true)) :: (sA1, .inr (.long, (oK64 (.long (0 : Int64)) (.long (0 : Int64)) (.long (0 : Int64)) (.long (0 : Int64)) (.long (0 : Int64)) (.long (0 : Int64))), true)) :: (pA0, oRun (.ref sA1) (.ref sA0) (.int (0 : Int32)) (.int (0 : Int32))) :: (pA1, .inr (.long, (oK64 (.long kA0) (.long kA1) (.long kA2) (.long kA3) (.long kA4) (.long kA5)), true)) :: (pA2, .inr (.object "java/lang/Object", (oE64 (.ref eA0) (.ref eA1) .null .null .null .null), true)) :: F))) := by
  refine Met.of_go pn_5 (Ls := #[.val (.ref pA0)]) (fun m => by first | rfl | (simp [entryFrame, mkF, argsToLocals, Value.category, maxLocals]; done)) ?_
  intro E C
  refine Go.aloadN C dc_prog_23_method_5_0 (q := 1) rfl rfl rfl ?_
  refine Go.callSup C (y := yN4) (a := pA0) (as := []) (rest := []) (wd hw 117 rfl) (same_of_sel (y := yN4) (by decide) (wd hw 124 rfl)) (wd hw 118 rfl) (wd hw 119 rfl) (by decide) (wd hw 121 rfl) (wd hw 18 rfl) (fun _ r => r.exa 0 rfl) (u_SequenceQueue_Part_clear_80 l Z a0 hw _ pA0 pA1 pA2 eA0 eA1 kA0 kA1 kA2 kA3 kA4 kA5 hE_eA0 hE_eA1) rfl dc_prog_23_method_5_1 (q := 4) rfl (by decide) rfl (na := 0) (by decide +kernel) rfl (by decide) (W := 0) rfl (by decide) (by decide) (by decide) (k' := 2) (n' := 128) rfl rfl ?_
  rintro _ _ ⟨o71, o72, rfl, rfl⟩
  show Go _ _ _ _ _ _ _ _ _ _ []
  refine Go.aloadN C dc_prog_23_method_5_4 (q := 5) rfl rfl rfl ?_
  refine Go.iconst C dc_prog_23_method_5_5 (q := 6) rfl (v := (0 : Int32)) rfl ?_
  refine Go.putF C (host := "") (i := 2) (j := 3) (Or.inl (wd hw 82 rfl)) Via.refl rfl rfl (Or.inl (wd hw 83 rfl)) (wd hw 10 rfl) (ty := .int) (by decide) rfl rfl dc_prog_23_method_5_6 (q := 9) rfl (M' := ((o71, .inr (.object "java/lang/Object", (oE64 .null .null .null .null .null .null), true)) :: (o72, .inr (.long, (oK64 (.long (0 : Int64)) (.long (0 : Int64)) (.long (0 : Int64)) (.long (0 : Int64)) (.long (0 : Int64)) (.long (0 : Int64))), true)) :: (pA0, oRun (.ref o72) (.ref o71) (.int (0 : Int32)) (.int (0 : Int32))) :: (pA1, .inr (.long, (oK64 (.long kA0) (.long kA1) (.long kA2) (.long kA3) (.long kA4) (.long kA5)), true)) :: (pA2, .inr (.object "java/lang/Object", (oE64 (.ref eA0) (.ref eA1) .null .null .null .null), true)) :: F)) rfl ?_
  refine Go.ret0 C rfl dc_prog_23_method_5_9 (by decide) (by decide) ?_
  exact ⟨_, _, rfl, rfl⟩
set_option maxRecDepth 65536 in
set_option maxHeartbeats 40000000 in
theorem u_SequenceQueue_clear_78 (l : Launch) (Z : State) (a0 : Array Value) (hw : ∀ d ∈ tables_1, d.before a0 Z = true) (F : List Ent) (pA0 pA1 pA2 pA3 pA4 pA5 pA6 eA0 eA1 eA2 : Addr) (kA0 kA1 kA2 kA3 kA4 kA5 kA6 kA7 kA8 kA9 kA10 kA11 kA12 : Int64) (hE_eA0 : Exa Z Z.heap eA0 "java/lang/Integer") (hE_eA1 : Exa Z Z.heap eA1 "java/lang/Integer") (hE_eA2 : Exa Z Z.heap eA2 "java/lang/Integer") :
    Met l Z yN7 prog_20_method_8_code 1 none { frames := 2, cells := 4, slots := 256, locals := 24 } #[(.ref pA0)] ((pA0, oQ (.ref pA1) (.ref pA4) (.int (1 : Int32)) (.long kA0) (.ref eA0)) :: (pA1, oRun (.ref pA2) (.ref pA3) (.int (2 : Int32)) (.int (0 : Int32))) :: (pA2, .inr (.long, (oK64 (.long kA1) (.long kA2) (.long kA3) (.long kA4) (.long kA5) (.long kA6)), true)) :: (pA3, .inr (.object "java/lang/Object", (oE64 (.ref eA1) (.ref eA2) .null .null .null .null), true)) :: (pA4, oHeap (.ref pA5) (.ref pA6) (.int (0 : Int32))) :: (pA5, .inr (.long, (oK64 (.long kA7) (.long kA8) (.long kA9) (.long kA10) (.long kA11) (.long kA12)), true)) :: (pA6, .inr (.object "java/lang/Object", (oE64 .null .null .null .null .null .null), true)) :: F) (fun r M' => (∃ sA0 sA1 sA2 sA3 : Addr, r = none ∧ M' = ((sA0, .inr (.object "java/lang/Object", (oE64 .null .null .null .null .null .null), true)) :: (sA1, .inr (.long, (oK64 (.long (0 : Int64)) (.long (0 : Int64)) (.long (0 : Int64)) (.long (0 : Int64)) (.long (0 : Int64)) (.long (0 : Int64))), true)) :: (pA4, oHeap (.ref sA1) (.ref sA0) (.int (0 : Int32))) :: (pA5, .inr (.long, (oK64 (.long kA7) (.long kA8) (.long kA9) (.long kA10) (.long kA11) (.long kA12)), true)) :: (pA6, .inr (.object "java/lang/Object", (oE64 .null .null .null .null .null .null), true)) :: (sA2, .inr (.object "java/lang/Object", (oE64 .null .null .null .null .null .null), true)) :: (sA3, .inr (.long, (oK64 (.long (0 : Int64)) (.long (0 : Int64)) (.long (0 : Int64)) (.long (0 : Int64)) (.long (0 : Int64)) (.long (0 : Int64))), true)) :: (pA1, oRun (.ref sA3) (.ref sA2) (.int (0 : Int32)) (.int (0 : Int32))) :: (pA2, .inr (.long, (oK64 (.long kA1) (.long kA2) (.long kA3) (.long kA4) (.long kA5) (.long kA6)), true)) :: (pA3, .inr (.object "java/lang/Object", (oE64 (.ref eA1) (.ref eA2) .null .null .null .null), true)) :: (pA0, oQ (.ref pA1) (.ref pA4) (.int (0 : Int32)) (.long kA0) .null) :: F))) := by
  refine Met.of_go pn_6 (Ls := #[.val (.ref pA0)]) (fun m => by first | rfl | (simp [entryFrame, mkF, argsToLocals, Value.category, maxLocals]; done)) ?_
  intro E C
  refine Go.aloadN C dc_prog_20_method_8_0 (q := 1) rfl rfl rfl ?_
  refine Go.iconst C dc_prog_20_method_8_1 (q := 2) rfl (v := (0 : Int32)) rfl ?_
  refine Go.putF C (host := "") (i := 0) (j := 2) (Or.inl (wd hw 53 rfl)) Via.refl rfl rfl (Or.inl (wd hw 54 rfl)) (wd hw 1 rfl) (ty := .boolean) (by decide) rfl rfl dc_prog_20_method_8_2 (q := 5) rfl (M' := ((pA0, oQ (.ref pA1) (.ref pA4) (.int (0 : Int32)) (.long kA0) (.ref eA0)) :: (pA1, oRun (.ref pA2) (.ref pA3) (.int (2 : Int32)) (.int (0 : Int32))) :: (pA2, .inr (.long, (oK64 (.long kA1) (.long kA2) (.long kA3) (.long kA4) (.long kA5) (.long kA6)), true)) :: (pA3, .inr (.object "java/lang/Object", (oE64 (.ref eA1) (.ref eA2) .null .null .null .null), true)) :: (pA4, oHeap (.ref pA5) (.ref pA6) (.int (0 : Int32))) :: (pA5, .inr (.long, (oK64 (.long kA7) (.long kA8) (.long kA9) (.long kA10) (.long kA11) (.long kA12)), true)) :: (pA6, .inr (.object "java/lang/Object", (oE64 .null .null .null .null .null .null), true)) :: F)) rfl ?_
  refine Go.aloadN C dc_prog_20_method_8_5 (q := 6) rfl rfl rfl ?_
  refine Go.aconstNull C dc_prog_20_method_8_6 (q := 7) rfl ?_
  refine Go.putF C (host := "") (i := 0) (j := 4) (Or.inl (wd hw 57 rfl)) Via.refl rfl rfl (Or.inl (wd hw 58 rfl)) (wd hw 1 rfl) (ty := (.object "java/lang/Object")) (by decide) rfl rfl dc_prog_20_method_8_7 (q := 10) rfl (M' := ((pA0, oQ (.ref pA1) (.ref pA4) (.int (0 : Int32)) (.long kA0) .null) :: (pA1, oRun (.ref pA2) (.ref pA3) (.int (2 : Int32)) (.int (0 : Int32))) :: (pA2, .inr (.long, (oK64 (.long kA1) (.long kA2) (.long kA3) (.long kA4) (.long kA5) (.long kA6)), true)) :: (pA3, .inr (.object "java/lang/Object", (oE64 (.ref eA1) (.ref eA2) .null .null .null .null), true)) :: (pA4, oHeap (.ref pA5) (.ref pA6) (.int (0 : Int32))) :: (pA5, .inr (.long, (oK64 (.long kA7) (.long kA8) (.long kA9) (.long kA10) (.long kA11) (.long kA12)), true)) :: (pA6, .inr (.object "java/lang/Object", (oE64 .null .null .null .null .null .null), true)) :: F)) rfl ?_
  refine Go.aloadN C dc_prog_20_method_8_10 (q := 11) rfl rfl rfl ?_
  refine Go.getF C (host := "") (Or.inl (wd hw 28 rfl)) Via.refl (fun _ r => r.fld 0 0 rfl rfl) dc_prog_20_method_8_11 (q := 14) rfl ?_
  refine Go.pick (M' := ((pA1, oRun (.ref pA2) (.ref pA3) (.int (2 : Int32)) (.int (0 : Int32))) :: (pA2, .inr (.long, (oK64 (.long kA1) (.long kA2) (.long kA3) (.long kA4) (.long kA5) (.long kA6)), true)) :: (pA3, .inr (.object "java/lang/Object", (oE64 (.ref eA1) (.ref eA2) .null .null .null .null), true)) :: (pA0, oQ (.ref pA1) (.ref pA4) (.int (0 : Int32)) (.long kA0) .null) :: (pA4, oHeap (.ref pA5) (.ref pA6) (.int (0 : Int32))) :: (pA5, .inr (.long, (oK64 (.long kA7) (.long kA8) (.long kA9) (.long kA10) (.long kA11) (.long kA12)), true)) :: (pA6, .inr (.object "java/lang/Object", (oE64 .null .null .null .null .null .null), true)) :: F)) 7 [1, 2, 3, 0, 4, 5, 6] (by decide) (by decide) rfl ?_
  refine Go.callV C (y := yN5) (z := yN5) (a := pA1) (as := []) (rest := []) (wd hw 112 rfl) (wd hw 113 rfl) (nf_sel (z := yN5) (wd hw 115 rfl)) (wd hw 115 rfl) (wd hw 114 rfl) (wd hw 116 rfl) (wd hw 11 rfl) (fun _ r => r.exa 0 rfl) (u_SequenceQueue_Run_clear_79 l Z a0 hw _ pA1 pA2 pA3 eA1 eA2 kA1 kA2 kA3 kA4 kA5 kA6 hE_eA1 hE_eA2) rfl dc_prog_20_method_8_14 (q := 17) rfl (by decide) rfl (na := 0) (by decide +kernel) rfl (by decide) (W := 0) rfl (by decide) (by decide) (by decide) (k' := 2) (n' := 128) rfl rfl ?_
  rintro _ _ ⟨o71, o72, rfl, rfl⟩
  show Go _ _ _ _ _ _ _ _ _ _ []
  refine Go.aloadN C dc_prog_20_method_8_17 (q := 18) rfl rfl rfl ?_
  refine Go.getF C (host := "") (Or.inl (wd hw 39 rfl)) Via.refl (fun _ r => r.fld 5 1 rfl rfl) dc_prog_20_method_8_18 (q := 21) rfl ?_
  refine Go.pick (M' := ((pA4, oHeap (.ref pA5) (.ref pA6) (.int (0 : Int32))) :: (pA5, .inr (.long, (oK64 (.long kA7) (.long kA8) (.long kA9) (.long kA10) (.long kA11) (.long kA12)), true)) :: (pA6, .inr (.object "java/lang/Object", (oE64 .null .null .null .null .null .null), true)) :: (o71, .inr (.object "java/lang/Object", (oE64 .null .null .null .null .null .null), true)) :: (o72, .inr (.long, (oK64 (.long (0 : Int64)) (.long (0 : Int64)) (.long (0 : Int64)) (.long (0 : Int64)) (.long (0 : Int64)) (.long (0 : Int64))), true)) :: (pA1, oRun (.ref o72) (.ref o71) (.int (0 : Int32)) (.int (0 : Int32))) :: (pA2, .inr (.long, (oK64 (.long kA1) (.long kA2) (.long kA3) (.long kA4) (.long kA5) (.long kA6)), true)) :: (pA3, .inr (.object "java/lang/Object", (oE64 (.ref eA1) (.ref eA2) .null .null .null .null), true)) :: (pA0, oQ (.ref pA1) (.ref pA4) (.int (0 : Int32)) (.long kA0) .null) :: F)) 9 [6, 7, 8, 0, 1, 2, 3, 4, 5] (by decide) (by decide) rfl ?_
  refine Go.callU C (y := yN6) (z := yN4) (owner := "com/example/ordered_dispatch/ordereddispatch/SequenceQueue$Part") (a := pA4) (as := []) (rest := []) (wd hw 122 rfl) (wd hw 123 rfl) (wd hw 120 rfl) (wd hw 124 rfl) (wd hw 118 rfl) (wd hw 121 rfl) (wd hw 18 rfl) (fun _ r => r.exa 0 rfl) (u_SequenceQueue_Part_clear_15 l Z a0 hw _ pA4 pA5 pA6 kA7 kA8 kA9 kA10 kA11 kA12) rfl dc_prog_20_method_8_21 (q := 24) rfl (by decide) rfl (na := 0) (by decide +kernel) rfl (by decide) (W := 0) rfl (by decide) (by decide) (by decide) (k' := 4) (n' := 256) rfl rfl ?_
  rintro _ _ ⟨o73, o74, rfl, rfl⟩
  show Go _ _ _ _ _ _ _ _ _ _ []
  refine Go.ret0 C rfl dc_prog_20_method_8_24 (by decide) (by decide) ?_
  exact ⟨_, _, _, _, rfl, rfl⟩
theorem pn_24 : plainFor x = true := by first | (apply plainFor_of_name; simp [plainName, overriddenIn]; done) | decide +kernel
set_option maxRecDepth 65536 in
set_option maxHeartbeats 40000000 in
theorem m_law (l : Launch) (Z : State) (a0 : Array Value) (hw : ∀ d ∈ tables_1, d.before a0 Z = true) (ka kb kc kd : Int64) (fl : Int32) (cb : Addr) (cs : List Value) (S_high : Sta Z Z.heap "java/lang/Integer$IntegerCache" "high" "I" (.int (127 : Int32))) (S_cache : Sta Z Z.heap "java/lang/Integer$IntegerCache" "cache" "[Ljava/lang/Integer;" (.ref cb)) (A_cache : ArrIs Z Z.heap cb (.object "java/lang/Integer") cs) (H_cache : ∀ j : Nat, j < 256 → ∃ b, cs[j]? = some (.ref b) ∧ Exa Z Z.heap b "java/lang/Integer" ∧ Fld Z Z.heap b "java/lang/Integer" "value" "I" (.int (j.toInt32 - 128))) :
    Met l Z x code maxLocals ret room_1 #[(.long ka), (.long kb), (.long kc), (.long kd), (.int fl)] ([]) (fun v _ => v = some (.int 1)) := by
  refine Met.of_go pn_24 (Ls := #[.val (.long ka), .second, .val (.long kb), .second, .val (.long kc), .second, .val (.long kd), .second, .val (.int fl), .unset, .unset, .unset, .unset, .unset, .unset, .unset]) (fun m => by first | rfl | (simp [entryFrame, mkF, argsToLocals, Value.category, maxLocals]; done)) ?_
  intro E C
  refine Go.new C (wd hw 0 rfl) (wd hw 1 rfl) (wd hw 2 rfl) [(("com/example/ordered_dispatch/ordereddispatch/SequenceQueue", "run", "Lcom/example/ordered_dispatch/ordereddispatch/SequenceQueue$Run;"), .null), (("com/example/ordered_dispatch/ordereddispatch/SequenceQueue", "heap", "Lcom/example/ordered_dispatch/ordereddispatch/SequenceQueue$Heap;"), .null), (("com/example/ordered_dispatch/ordereddispatch/SequenceQueue", "holding", "Z"), (.int (0 : Int32))), (("com/example/ordered_dispatch/ordereddispatch/SequenceQueue", "heldKey", "J"), (.long (0 : Int64))), (("com/example/ordered_dispatch/ordereddispatch/SequenceQueue", "heldElement", "Ljava/lang/Object;"), .null)] ⟨⟨Or.inr (wd hw 29 rfl), (.object "com/example/ordered_dispatch/ordereddispatch/SequenceQueue$Run"), by decide, rfl⟩, ⟨Or.inr (wd hw 40 rfl), (.object "com/example/ordered_dispatch/ordereddispatch/SequenceQueue$Heap"), by decide, rfl⟩, ⟨Or.inl (wd hw 54 rfl), .boolean, by decide, rfl⟩, ⟨Or.inl (wd hw 56 rfl), .long, by decide, rfl⟩, ⟨Or.inl (wd hw 58 rfl), (.object "java/lang/Object"), by decide, rfl⟩, trivial⟩ (by decide) at_0 (q := 3) rfl (by decide) (by decide) (k' := 1) (n' := 5) rfl rfl (fun o1 => ?_)
  refine Go.dup C at_3 (q := 4) rfl rfl ?_
  refine Go.callI C (y := yN3) (a := o1) (as := []) (rest := [(.ref o1)]) (wd hw 3 rfl) (wd hw 4 rfl) (wd hw 2 rfl) (wd hw 5 rfl) (u_SequenceQueue_init_0 l Z a0 hw _ o1 (0 : Int64)) rfl rfl at_4 (q := 7) rfl (by decide) rfl (na := 0) (by decide +kernel) rfl (by decide) (W := 1) rfl (by decide) (by decide) (by decide) (k' := 7) (n' := 268) rfl rfl ?_
  rintro _ _ ⟨o2, o3, o4, o5, o6, o7, rfl, rfl⟩
  show Go _ _ _ _ _ _ _ _ _ _ [(.ref o1)]
  refine Go.astore C at_7 (q := 9) rfl rfl (Ls' := #[.val (.long ka), .second, .val (.long kb), .second, .val (.long kc), .second, .val (.long kd), .second, .val (.int fl), .val (.ref o1), .unset, .unset, .unset, .unset, .unset, .unset]) rfl ?_
  refine Go.iload C at_9 (q := 11) rfl rfl ?_
  refine Go.iconst C at_11 (q := 12) rfl (v := (3 : Int32)) rfl ?_
  refine Go.iand C at_12 (q := 13) rfl ?_
  refine Go.istore C at_13 (q := 15) rfl (Ls' := #[.val (.long ka), .second, .val (.long kb), .second, .val (.long kc), .second, .val (.long kd), .second, .val (.int fl), .val (.ref o1), .val (.int (fl &&& (3 : Int32))), .unset, .unset, .unset, .unset, .unset]) rfl ?_
  refine Go.iload C at_15 (q := 17) rfl rfl ?_
  refine Go.iconst C at_17 (q := 18) rfl (v := (1 : Int32)) rfl ?_
  refine Go.icmp C at_18 (by decide) (q := 31) rfl (q' := 21) rfl (fun (h18_1 : (fl &&& (3 : Int32)) < (1 : Int32)) => ?_) (fun (h18_1 : ¬ (fl &&& (3 : Int32)) < (1 : Int32)) => ?_)
  · refine Go.iload C at_31 (q := 33) rfl rfl ?_
    refine Go.iconst C at_33 (q := 34) rfl (v := (2 : Int32)) rfl ?_
    refine Go.icmp C at_34 (by decide) (q := 47) rfl (q' := 37) rfl (fun (h34_2 : (fl &&& (3 : Int32)) < (2 : Int32)) => ?_) (fun (h34_2 : ¬ (fl &&& (3 : Int32)) < (2 : Int32)) => ?_)
    · refine Go.iload C at_47 (q := 49) rfl rfl ?_
      refine Go.iconst C at_49 (q := 50) rfl (v := (3 : Int32)) rfl ?_
      refine Go.icmp C at_50 (by decide) (q := 64) rfl (q' := 53) rfl (fun (h50_3 : (fl &&& (3 : Int32)) < (3 : Int32)) => ?_) (fun (h50_3 : ¬ (fl &&& (3 : Int32)) < (3 : Int32)) => ?_)
      · refine Go.aload C at_64 (q := 66) rfl rfl rfl ?_
        refine Go.pick (M' := ((o1, oQ (.ref o7) (.ref o4) (.int (0 : Int32)) (.long (0 : Int64)) .null) :: (o7, oRun (.ref o6) (.ref o5) (.int (0 : Int32)) (.int (0 : Int32))) :: (o6, .inr (.long, (oK64 (.long (0 : Int64)) (.long (0 : Int64)) (.long (0 : Int64)) (.long (0 : Int64)) (.long (0 : Int64)) (.long (0 : Int64))), true)) :: (o5, .inr (.object "java/lang/Object", (oE64 .null .null .null .null .null .null), true)) :: (o4, oHeap (.ref o3) (.ref o2) (.int (0 : Int32))) :: (o3, .inr (.long, (oK64 (.long (0 : Int64)) (.long (0 : Int64)) (.long (0 : Int64)) (.long (0 : Int64)) (.long (0 : Int64)) (.long (0 : Int64))), true)) :: (o2, .inr (.object "java/lang/Object", (oE64 .null .null .null .null .null .null), true)) :: [])) 7 [6, 5, 4, 3, 2, 1, 0] (by decide) (by decide) rfl ?_
        refine Go.callV C (y := yN7) (z := yN7) (a := o1) (as := []) (rest := []) (wd hw 107 rfl) (wd hw 108 rfl) (nf_sel (z := yN7) (wd hw 110 rfl)) (wd hw 110 rfl) (wd hw 109 rfl) (wd hw 111 rfl) (wd hw 2 rfl) (fun _ r => r.exa 0 rfl) (u_SequenceQueue_clear_10 l Z a0 hw _ o1 o7 o6 o5 o4 o3 o2 (0 : Int64) (0 : Int64) (0 : Int64) (0 : Int64) (0 : Int64) (0 : Int64) (0 : Int64) (0 : Int64) (0 : Int64) (0 : Int64) (0 : Int64) (0 : Int64) (0 : Int64)) rfl at_66 (q := 69) rfl (by decide) rfl (na := 0) (by decide +kernel) rfl (by decide) (W := 0) rfl (by decide) (by decide) (by decide) (k' := 11) (n' := 524) rfl rfl ?_
        rintro _ _ ⟨o8, o9, o10, o11, rfl, rfl⟩
        show Go _ _ _ _ _ _ _ _ _ _ []
        refine Go.aload C at_69 (q := 71) rfl rfl rfl ?_
        refine Go.pick (M' := ((o1, oQ (.ref o7) (.ref o4) (.int (0 : Int32)) (.long (0 : Int64)) .null) :: (o7, oRun (.ref o11) (.ref o10) (.int (0 : Int32)) (.int (0 : Int32))) :: (o11, .inr (.long, (oK64 (.long (0 : Int64)) (.long (0 : Int64)) (.long (0 : Int64)) (.long (0 : Int64)) (.long (0 : Int64)) (.long (0 : Int64))), true)) :: (o10, .inr (.object "java/lang/Object", (oE64 .null .null .null .null .null .null), true)) :: (o4, oHeap (.ref o9) (.ref o8) (.int (0 : Int32))) :: (o9, .inr (.long, (oK64 (.long (0 : Int64)) (.long (0 : Int64)) (.long (0 : Int64)) (.long (0 : Int64)) (.long (0 : Int64)) (.long (0 : Int64))), true)) :: (o8, .inr (.object "java/lang/Object", (oE64 .null .null .null .null .null .null), true)) :: (o3, .inr (.long, (oK64 (.long (0 : Int64)) (.long (0 : Int64)) (.long (0 : Int64)) (.long (0 : Int64)) (.long (0 : Int64)) (.long (0 : Int64))), true)) :: (o2, .inr (.object "java/lang/Object", (oE64 .null .null .null .null .null .null), true)) :: (o6, .inr (.long, (oK64 (.long (0 : Int64)) (.long (0 : Int64)) (.long (0 : Int64)) (.long (0 : Int64)) (.long (0 : Int64)) (.long (0 : Int64))), true)) :: (o5, .inr (.object "java/lang/Object", (oE64 .null .null .null .null .null .null), true)) :: [])) 11 [10, 7, 6, 5, 2, 1, 0, 3, 4, 8, 9] (by decide) (by decide) rfl ?_
        refine Go.callV C (y := yN8) (z := yN8) (a := o1) (as := []) (rest := []) (wd hw 125 rfl) (wd hw 126 rfl) (nf_sel (z := yN8) (wd hw 128 rfl)) (wd hw 128 rfl) (wd hw 127 rfl) (wd hw 129 rfl) (wd hw 2 rfl) (fun _ r => r.exa 0 rfl) (u_SequenceQueue_isEmpty_18 l Z a0 hw _ o1 o7 o11 o10 o4 o9 o8 (0 : Int64) (0 : Int64) (0 : Int64) (0 : Int64) (0 : Int64) (0 : Int64) (0 : Int64) (0 : Int64) (0 : Int64) (0 : Int64) (0 : Int64) (0 : Int64) (0 : Int64)) rfl at_71 (q := 74) rfl (by decide) rfl (na := 0) (by decide +kernel) rfl (by decide) (W := 0) rfl (by decide) (by decide) (by decide) (k' := 11) (n' := 524) rfl rfl ?_
        rintro _ _ ⟨rfl, rfl⟩
        show Go _ _ _ _ _ _ _ _ _ _ [(.int (1 : Int32))]
        refine Go.istore C at_74 (q := 76) rfl (Ls' := #[.val (.long ka), .second, .val (.long kb), .second, .val (.long kc), .second, .val (.long kd), .second, .val (.int fl), .val (.ref o1), .val (.int (fl &&& (3 : Int32))), .val (.int (1 : Int32)), .unset, .unset, .unset, .unset]) rfl ?_
        refine Go.aload C at_76 (q := 78) rfl rfl rfl ?_
        refine Go.callV C (y := yN9) (z := yN9) (a := o1) (as := []) (rest := []) (wd hw 131 rfl) (wd hw 132 rfl) (nf_sel (z := yN9) (wd hw 134 rfl)) (wd hw 134 rfl) (wd hw 133 rfl) (wd hw 135 rfl) (wd hw 2 rfl) (fun _ r => r.exa 0 rfl) (u_SequenceQueue_firstKey_20 l Z a0 hw _ o1 o7 o11 o10 o4 o9 o8 (0 : Int64) (0 : Int64) (0 : Int64) (0 : Int64) (0 : Int64) (0 : Int64) (0 : Int64) (0 : Int64) (0 : Int64) (0 : Int64) (0 : Int64) (0 : Int64) (0 : Int64)) rfl at_78 (q := 81) rfl (by decide) rfl (na := 0) (by decide +kernel) rfl (by decide) (W := 0) rfl (by decide) (by decide) (by decide) (k' := 11) (n' := 524) rfl rfl ?_
        rintro _ _ ⟨rfl, rfl⟩
        show Go _ _ _ _ _ _ _ _ _ _ [(.long (9223372036854775807 : Int64))]
        refine Go.ldc2J C (v := (9223372036854775807 : Int64)) (wd hw 137 rfl) at_81 (q := 84) rfl ?_
        refine Go.lcmp C at_84 rfl ?_
        refine Go.ifNo C at_85 (q := 88) rfl (XT.ll_ne_f (by decide)) ?_
        refine Go.iconst C at_88 (q := 89) rfl (v := (1 : Int32)) rfl ?_
        refine Go.goto C at_89 (by decide) (q := 93) rfl ?_
        refine Go.istore C at_93 (q := 95) rfl (Ls' := #[.val (.long ka), .second, .val (.long kb), .second, .val (.long kc), .second, .val (.long kd), .second, .val (.int fl), .val (.ref o1), .val (.int (fl &&& (3 : Int32))), .val (.int (1 : Int32)), .val (.int (1 : Int32)), .unset, .unset, .unset]) rfl ?_
        refine Go.aload C at_95 (q := 97) rfl rfl rfl ?_
        refine Go.callV C (y := yN13) (z := yN13) (a := o1) (as := []) (rest := []) (wd hw 138 rfl) (wd hw 139 rfl) (nf_sel (z := yN13) (wd hw 141 rfl)) (wd hw 141 rfl) (wd hw 140 rfl) (wd hw 142 rfl) (wd hw 2 rfl) (fun _ r => r.exa 0 rfl) (u_SequenceQueue_elements_22 l Z a0 hw _ o1 o7 o11 o10 o4 o9 o8 (0 : Int64) (0 : Int64) (0 : Int64) (0 : Int64) (0 : Int64) (0 : Int64) (0 : Int64) (0 : Int64) (0 : Int64) (0 : Int64) (0 : Int64) (0 : Int64) (0 : Int64)) rfl at_97 (q := 100) rfl (by decide) rfl (na := 0) (by decide +kernel) rfl (by decide) (W := 0) rfl (by decide) (by decide) (by decide) (k' := 13) (n' := 528) rfl rfl ?_
        rintro _ _ ⟨o12, o13, rfl, rfl⟩
        show Go _ _ _ _ _ _ _ _ _ _ [(.ref o13)]
        refine Go.pick (M' := ((o13, oAL (.int (0 : Int32)) (.ref o12) (.int (0 : Int32))) :: (o12, .inr (.object "java/lang/Object", [.null], true)) :: (o1, oQ (.ref o7) (.ref o4) (.int (0 : Int32)) (.long (0 : Int64)) .null) :: (o7, oRun (.ref o11) (.ref o10) (.int (0 : Int32)) (.int (0 : Int32))) :: (o11, .inr (.long, (oK64 (.long (0 : Int64)) (.long (0 : Int64)) (.long (0 : Int64)) (.long (0 : Int64)) (.long (0 : Int64)) (.long (0 : Int64))), true)) :: (o10, .inr (.object "java/lang/Object", (oE64 .null .null .null .null .null .null), true)) :: (o4, oHeap (.ref o9) (.ref o8) (.int (0 : Int32))) :: (o9, .inr (.long, (oK64 (.long (0 : Int64)) (.long (0 : Int64)) (.long (0 : Int64)) (.long (0 : Int64)) (.long (0 : Int64)) (.long (0 : Int64))), true)) :: (o8, .inr (.object "java/lang/Object", (oE64 .null .null .null .null .null .null), true)) :: (o3, .inr (.long, (oK64 (.long (0 : Int64)) (.long (0 : Int64)) (.long (0 : Int64)) (.long (0 : Int64)) (.long (0 : Int64)) (.long (0 : Int64))), true)) :: (o2, .inr (.object "java/lang/Object", (oE64 .null .null .null .null .null .null), true)) :: (o6, .inr (.long, (oK64 (.long (0 : Int64)) (.long (0 : Int64)) (.long (0 : Int64)) (.long (0 : Int64)) (.long (0 : Int64)) (.long (0 : Int64))), true)) :: (o5, .inr (.object "java/lang/Object", (oE64 .null .null .null .null .null .null), true)) :: [])) 13 [1, 0, 2, 3, 4, 5, 6, 7, 8, 9, 10, 11, 12] (by decide) (by decide) rfl ?_
        refine Go.callF C (y := yN15) (z := yN14) (a := o13) (as := []) (rest := []) (wd hw 167 rfl) (wd hw 168 rfl) (wd hw 169 rfl) (wd hw 170 rfl) (wd hw 171 rfl) (wd hw 172 rfl) (wd hw 173 rfl) (wd hw 174 rfl) (wd hw 175 rfl) (wd hw 145 rfl) (fun _ r => r.exa 0 rfl) (u_ArrayList_size_30 l Z a0 hw _ o13 o12) rfl at_100 (q := 105) rfl (by decide) rfl (na := 0) (by decide +kernel) rfl (by decide) (W := 0) rfl (by decide) (by decide) (by decide) (k' := 13) (n' := 528) rfl rfl ?_
        rintro _ _ ⟨rfl, rfl⟩
        show Go _ _ _ _ _ _ _ _ _ _ [(.int (0 : Int32))]
        refine Go.ifNo C at_105 (q := 108) rfl (XT.i0_ne_f (by decide)) ?_
        refine Go.iconst C at_108 (q := 109) rfl (v := (1 : Int32)) rfl ?_
        refine Go.goto C at_109 (by decide) (q := 113) rfl ?_
        refine Go.istore C at_113 (q := 115) rfl (Ls' := #[.val (.long ka), .second, .val (.long kb), .second, .val (.long kc), .second, .val (.long kd), .second, .val (.int fl), .val (.ref o1), .val (.int (fl &&& (3 : Int32))), .val (.int (1 : Int32)), .val (.int (1 : Int32)), .val (.int (1 : Int32)), .unset, .unset]) rfl ?_
        refine Go.aload C at_115 (q := 117) rfl rfl rfl ?_
        refine Go.lload C at_117 (q := 119) rfl rfl ?_
        refine Go.iconst C at_119 (q := 120) rfl (v := (4 : Int32)) rfl ?_
        refine Go.callS C (y := yN16) (as := [(.int (4 : Int32))]) (rest := [(.long kd), (.ref o1)]) (wd hw 41 rfl) (wd hw 42 rfl) (wd hw 43 rfl) (wd hw 44 rfl) (m_valueOf4 l Z a0 hw _ cb cs S_high S_cache A_cache H_cache) rfl at_120 (q := 123) rfl (by decide) rfl (na := 1) (by decide +kernel) rfl (by decide) (W := 3) rfl (by decide) (by decide) (by decide) (k' := 13) (n' := 528) rfl rfl ?_
        rintro _ _ ⟨bx14, rfl, rfl, hE_bx14, hF_bx14⟩
        show Go _ _ _ _ _ _ _ _ _ _ [(.ref bx14), (.long kd), (.ref o1)]
        refine Go.pick (M' := ((o1, oQ (.ref o7) (.ref o4) (.int (0 : Int32)) (.long (0 : Int64)) .null) :: (o7, oRun (.ref o11) (.ref o10) (.int (0 : Int32)) (.int (0 : Int32))) :: (o11, .inr (.long, (oK64 (.long (0 : Int64)) (.long (0 : Int64)) (.long (0 : Int64)) (.long (0 : Int64)) (.long (0 : Int64)) (.long (0 : Int64))), true)) :: (o10, .inr (.object "java/lang/Object", (oE64 .null .null .null .null .null .null), true)) :: (o4, oHeap (.ref o9) (.ref o8) (.int (0 : Int32))) :: (o9, .inr (.long, (oK64 (.long (0 : Int64)) (.long (0 : Int64)) (.long (0 : Int64)) (.long (0 : Int64)) (.long (0 : Int64)) (.long (0 : Int64))), true)) :: (o8, .inr (.object "java/lang/Object", (oE64 .null .null .null .null .null .null), true)) :: (o13, oAL (.int (0 : Int32)) (.ref o12) (.int (0 : Int32))) :: (o12, .inr (.object "java/lang/Object", [.null], true)) :: (o3, .inr (.long, (oK64 (.long (0 : Int64)) (.long (0 : Int64)) (.long (0 : Int64)) (.long (0 : Int64)) (.long (0 : Int64)) (.long (0 : Int64))), true)) :: (o2, .inr (.object "java/lang/Object", (oE64 .null .null .null .null .null .null), true)) :: (o6, .inr (.long, (oK64 (.long (0 : Int64)) (.long (0 : Int64)) (.long (0 : Int64)) (.long (0 : Int64)) (.long (0 : Int64)) (.long (0 : Int64))), true)) :: (o5, .inr (.object "java/lang/Object", (oE64 .null .null .null .null .null .null), true)) :: [])) 13 [2, 3, 4, 5, 6, 7, 8, 0, 1, 9, 10, 11, 12] (by decide) (by decide) rfl ?_
        refine Go.callV C (y := yN17) (z := yN17) (a := o1) (as := [(.long kd), (.ref bx14)]) (rest := []) (wd hw 48 rfl) (wd hw 49 rfl) (nf_sel (z := yN17) (wd hw 51 rfl)) (wd hw 51 rfl) (wd hw 50 rfl) (wd hw 52 rfl) (wd hw 2 rfl) (fun _ r => r.exa 0 rfl) (u_SequenceQueue_add_32 l Z a0 hw _ o1 o7 o11 o10 o4 o9 o8 bx14 kd (0 : Int64) (0 : Int64) (0 : Int64) (0 : Int64) (0 : Int64) (0 : Int64) (0 : Int64) (0 : Int64) (0 : Int64) (0 : Int64) (0 : Int64) (0 : Int64) (0 : Int64) hE_bx14) rfl at_123 (q := 126) rfl (by decide) rfl (na := 2) (by decide +kernel) rfl (by decide) (W := 0) rfl (by decide) (by decide) (by decide) (k' := 13) (n' := 528) rfl rfl ?_
        rintro _ _ ⟨rfl, rfl⟩
        show Go _ _ _ _ _ _ _ _ _ _ []
        refine Go.aload C at_126 (q := 128) rfl rfl rfl ?_
        refine Go.callV C (y := yN18) (z := yN18) (a := o1) (as := []) (rest := []) (wd hw 178 rfl) (wd hw 179 rfl) (nf_sel (z := yN18) (wd hw 181 rfl)) (wd hw 181 rfl) (wd hw 180 rfl) (wd hw 182 rfl) (wd hw 2 rfl) (fun _ r => r.exa 0 rfl) (u_SequenceQueue_poll_34 l Z a0 hw _ o1 o7 o11 o10 o4 o9 o8 bx14 kd (0 : Int64) (0 : Int64) (0 : Int64) (0 : Int64) (0 : Int64) (0 : Int64) (0 : Int64) (0 : Int64) (0 : Int64) (0 : Int64) (0 : Int64) (0 : Int64) hE_bx14) rfl at_128 (q := 131) rfl (by decide) rfl (na := 0) (by decide +kernel) rfl (by decide) (W := 0) rfl (by decide) (by decide) (by decide) (k' := 13) (n' := 528) rfl rfl ?_
        rintro _ _ ⟨rfl, rfl⟩
        show Go _ _ _ _ _ _ _ _ _ _ [(.ref bx14)]
        refine Go.castY C (wd hw 183 rfl) (fun _ r => Ins.self ((hE_bx14).ext r.1)) at_131 (q := 134) rfl ?_
        refine Go.astore C at_134 (q := 136) rfl rfl (Ls' := #[.val (.long ka), .second, .val (.long kb), .second, .val (.long kc), .second, .val (.long kd), .second, .val (.int fl), .val (.ref o1), .val (.int (fl &&& (3 : Int32))), .val (.int (1 : Int32)), .val (.int (1 : Int32)), .val (.int (1 : Int32)), .val (.ref bx14), .unset]) rfl ?_
        refine Go.aload C at_136 (q := 138) rfl rfl rfl ?_
        refine Go.nullNo C at_138 (q := 141) rfl rfl (by simp) ?_
        refine Go.aload C at_141 (q := 143) rfl rfl rfl ?_
        refine Go.callV C (y := yN19) (z := yN19) (a := bx14) (as := []) (rest := []) (wd hw 185 rfl) (wd hw 186 rfl) (nf_sel (z := yN19) (wd hw 188 rfl)) (wd hw 188 rfl) (wd hw 187 rfl) (wd hw 189 rfl) (wd hw 43 rfl) (fun _ r => (hE_bx14).ext r.1) (u_Integer_intValue_36 l Z a0 hw _ bx14 hE_bx14 hF_bx14) rfl at_143 (q := 146) rfl (by decide) rfl (na := 0) (by decide +kernel) rfl (by decide) (W := 0) rfl (by decide) (by decide) (by decide) (k' := 13) (n' := 528) rfl rfl ?_
        rintro _ _ ⟨rfl, rfl⟩
        show Go _ _ _ _ _ _ _ _ _ _ [(.int (4 : Int32))]
        refine Go.iconst C at_146 (q := 147) rfl (v := (4 : Int32)) rfl ?_
        refine Go.icmpNo C at_147 (q := 150) rfl (XT.ii_ne_f (by decide)) ?_
        refine Go.aload C at_150 (q := 152) rfl rfl rfl ?_
        refine Go.callV C (y := yN8) (z := yN8) (a := o1) (as := []) (rest := []) (wd hw 125 rfl) (wd hw 126 rfl) (nf_sel (z := yN8) (wd hw 128 rfl)) (wd hw 128 rfl) (wd hw 127 rfl) (wd hw 129 rfl) (wd hw 2 rfl) (fun _ r => r.exa 0 rfl) (u_SequenceQueue_isEmpty_18 l Z a0 hw _ o1 o7 o11 o10 o4 o9 o8 kd (0 : Int64) (0 : Int64) (0 : Int64) (0 : Int64) (0 : Int64) (0 : Int64) (0 : Int64) (0 : Int64) (0 : Int64) (0 : Int64) (0 : Int64) (0 : Int64)) rfl at_152 (q := 155) rfl (by decide) rfl (na := 0) (by decide +kernel) rfl (by decide) (W := 0) rfl (by decide) (by decide) (by decide) (k' := 13) (n' := 528) rfl rfl ?_
        rintro _ _ ⟨rfl, rfl⟩
        show Go _ _ _ _ _ _ _ _ _ _ [(.int (1 : Int32))]
        refine Go.ifNo C at_155 (q := 158) rfl (XT.i0_eq_f (by decide)) ?_
        refine Go.iconst C at_158 (q := 159) rfl (v := (1 : Int32)) rfl ?_
        refine Go.goto C at_159 (by decide) (q := 163) rfl ?_
        refine Go.istore C at_163 (q := 165) rfl (Ls' := #[.val (.long ka), .second, .val (.long kb), .second, .val (.long kc), .second, .val (.long kd), .second, .val (.int fl), .val (.ref o1), .val (.int (fl &&& (3 : Int32))), .val (.int (1 : Int32)), .val (.int (1 : Int32)), .val (.int (1 : Int32)), .val (.ref bx14), .val (.int (1 : Int32))]) rfl ?_
        refine Go.iload C at_165 (q := 167) rfl rfl ?_
        refine Go.ifNo C at_167 (q := 170) rfl (XT.i0_eq_f (by decide)) ?_
        refine Go.iload C at_170 (q := 172) rfl rfl ?_
        refine Go.ifNo C at_172 (q := 175) rfl (XT.i0_eq_f (by decide)) ?_
        refine Go.iload C at_175 (q := 177) rfl rfl ?_
        refine Go.ifNo C at_177 (q := 180) rfl (XT.i0_eq_f (by decide)) ?_
        refine Go.iload C at_180 (q := 182) rfl rfl ?_
        refine Go.ifNo C at_182 (q := 185) rfl (XT.i0_eq_f (by decide)) ?_
        refine Go.iconst C at_185 (q := 186) rfl (v := (1 : Int32)) rfl ?_
        refine Go.goto C at_186 (by decide) (q := 190) rfl ?_
        refine Go.retZ C rfl (by decide) at_190 (by decide) (by decide) ?_
        exact rfl
      · refine Go.aload C at_53 (q := 55) rfl rfl rfl ?_
        refine Go.lload C at_55 (q := 57) rfl rfl ?_
        refine Go.iconst C at_57 (q := 58) rfl (v := (3 : Int32)) rfl ?_
        refine Go.callS C (y := yN16) (as := [(.int (3 : Int32))]) (rest := [(.long kc), (.ref o1)]) (wd hw 41 rfl) (wd hw 42 rfl) (wd hw 43 rfl) (wd hw 44 rfl) (m_valueOf3 l Z a0 hw _ cb cs S_high S_cache A_cache H_cache) rfl at_58 (q := 61) rfl (by decide) rfl (na := 1) (by decide +kernel) rfl (by decide) (W := 3) rfl (by decide) (by decide) (by decide) (k' := 7) (n' := 268) rfl rfl ?_
        rintro _ _ ⟨bx15, rfl, rfl, hE_bx15, hF_bx15⟩
        show Go _ _ _ _ _ _ _ _ _ _ [(.ref bx15), (.long kc), (.ref o1)]
        refine Go.pick (M' := ((o1, oQ (.ref o7) (.ref o4) (.int (0 : Int32)) (.long (0 : Int64)) .null) :: (o7, oRun (.ref o6) (.ref o5) (.int (0 : Int32)) (.int (0 : Int32))) :: (o6, .inr (.long, (oK64 (.long (0 : Int64)) (.long (0 : Int64)) (.long (0 : Int64)) (.long (0 : Int64)) (.long (0 : Int64)) (.long (0 : Int64))), true)) :: (o5, .inr (.object "java/lang/Object", (oE64 .null .null .null .null .null .null), true)) :: (o4, oHeap (.ref o3) (.ref o2) (.int (0 : Int32))) :: (o3, .inr (.long, (oK64 (.long (0 : Int64)) (.long (0 : Int64)) (.long (0 : Int64)) (.long (0 : Int64)) (.long (0 : Int64)) (.long (0 : Int64))), true)) :: (o2, .inr (.object "java/lang/Object", (oE64 .null .null .null .null .null .null), true)) :: [])) 7 [6, 5, 4, 3, 2, 1, 0] (by decide) (by decide) rfl ?_
        refine Go.callV C (y := yN17) (z := yN17) (a := o1) (as := [(.long kc), (.ref bx15)]) (rest := []) (wd hw 48 rfl) (wd hw 49 rfl) (nf_sel (z := yN17) (wd hw 51 rfl)) (wd hw 51 rfl) (wd hw 50 rfl) (wd hw 52 rfl) (wd hw 2 rfl) (fun _ r => r.exa 0 rfl) (u_SequenceQueue_add_32 l Z a0 hw _ o1 o7 o6 o5 o4 o3 o2 bx15 kc (0 : Int64) (0 : Int64) (0 : Int64) (0 : Int64) (0 : Int64) (0 : Int64) (0 : Int64) (0 : Int64) (0 : Int64) (0 : Int64) (0 : Int64) (0 : Int64) (0 : Int64) hE_bx15) rfl at_61 (q := 64) rfl (by decide) rfl (na := 2) (by decide +kernel) rfl (by decide) (W := 0) rfl (by decide) (by decide) (by decide) (k' := 7) (n' := 268) rfl rfl ?_
        rintro _ _ ⟨rfl, rfl⟩
        show Go _ _ _ _ _ _ _ _ _ _ []
        refine Go.aload C at_64 (q := 66) rfl rfl rfl ?_
        refine Go.callV C (y := yN7) (z := yN7) (a := o1) (as := []) (rest := []) (wd hw 107 rfl) (wd hw 108 rfl) (nf_sel (z := yN7) (wd hw 110 rfl)) (wd hw 110 rfl) (wd hw 109 rfl) (wd hw 111 rfl) (wd hw 2 rfl) (fun _ r => r.exa 0 rfl) (u_SequenceQueue_clear_38 l Z a0 hw _ o1 o7 o6 o5 o4 o3 o2 bx15 kc (0 : Int64) (0 : Int64) (0 : Int64) (0 : Int64) (0 : Int64) (0 : Int64) (0 : Int64) (0 : Int64) (0 : Int64) (0 : Int64) (0 : Int64) (0 : Int64) hE_bx15) rfl at_66 (q := 69) rfl (by decide) rfl (na := 0) (by decide +kernel) rfl (by decide) (W := 0) rfl (by decide) (by decide) (by decide) (k' := 11) (n' := 524) rfl rfl ?_
        rintro _ _ ⟨o16, o17, o18, o19, rfl, rfl⟩
        show Go _ _ _ _ _ _ _ _ _ _ []
        refine Go.aload C at_69 (q := 71) rfl rfl rfl ?_
        refine Go.pick (M' := ((o1, oQ (.ref o7) (.ref o4) (.int (0 : Int32)) (.long kc) .null) :: (o7, oRun (.ref o19) (.ref o18) (.int (0 : Int32)) (.int (0 : Int32))) :: (o19, .inr (.long, (oK64 (.long (0 : Int64)) (.long (0 : Int64)) (.long (0 : Int64)) (.long (0 : Int64)) (.long (0 : Int64)) (.long (0 : Int64))), true)) :: (o18, .inr (.object "java/lang/Object", (oE64 .null .null .null .null .null .null), true)) :: (o4, oHeap (.ref o17) (.ref o16) (.int (0 : Int32))) :: (o17, .inr (.long, (oK64 (.long (0 : Int64)) (.long (0 : Int64)) (.long (0 : Int64)) (.long (0 : Int64)) (.long (0 : Int64)) (.long (0 : Int64))), true)) :: (o16, .inr (.object "java/lang/Object", (oE64 .null .null .null .null .null .null), true)) :: (o3, .inr (.long, (oK64 (.long (0 : Int64)) (.long (0 : Int64)) (.long (0 : Int64)) (.long (0 : Int64)) (.long (0 : Int64)) (.long (0 : Int64))), true)) :: (o2, .inr (.object "java/lang/Object", (oE64 .null .null .null .null .null .null), true)) :: (o6, .inr (.long, (oK64 (.long (0 : Int64)) (.long (0 : Int64)) (.long (0 : Int64)) (.long (0 : Int64)) (.long (0 : Int64)) (.long (0 : Int64))), true)) :: (o5, .inr (.object "java/lang/Object", (oE64 .null .null .null .null .null .null), true)) :: [])) 11 [10, 7, 6, 5, 2, 1, 0, 3, 4, 8, 9] (by decide) (by decide) rfl ?_
        refine Go.callV C (y := yN8) (z := yN8) (a := o1) (as := []) (rest := []) (wd hw 125 rfl) (wd hw 126 rfl) (nf_sel (z := yN8) (wd hw 128 rfl)) (wd hw 128 rfl) (wd hw 127 rfl) (wd hw 129 rfl) (wd hw 2 rfl) (fun _ r => r.exa 0 rfl) (u_SequenceQueue_isEmpty_18 l Z a0 hw _ o1 o7 o19 o18 o4 o17 o16 kc (0 : Int64) (0 : Int64) (0 : Int64) (0 : Int64) (0 : Int64) (0 : Int64) (0 : Int64) (0 : Int64) (0 : Int64) (0 : Int64) (0 : Int64) (0 : Int64)) rfl at_71 (q := 74) rfl (by decide) rfl (na := 0) (by decide +kernel) rfl (by decide) (W := 0) rfl (by decide) (by decide) (by decide) (k' := 11) (n' := 524) rfl rfl ?_
        rintro _ _ ⟨rfl, rfl⟩
        show Go _ _ _ _ _ _ _ _ _ _ [(.int (1 : Int32))]
        refine Go.istore C at_74 (q := 76) rfl (Ls' := #[.val (.long ka), .second, .val (.long kb), .second, .val (.long kc), .second, .val (.long kd), .second, .val (.int fl), .val (.ref o1), .val (.int (fl &&& (3 : Int32))), .val (.int (1 : Int32)), .unset, .unset, .unset, .unset]) rfl ?_
        refine Go.aload C at_76 (q := 78) rfl rfl rfl ?_
        refine Go.callV C (y := yN9) (z := yN9) (a := o1) (as := []) (rest := []) (wd hw 131 rfl) (wd hw 132 rfl) (nf_sel (z := yN9) (wd hw 134 rfl)) (wd hw 134 rfl) (wd hw 133 rfl) (wd hw 135 rfl) (wd hw 2 rfl) (fun _ r => r.exa 0 rfl) (u_SequenceQueue_firstKey_20 l Z a0 hw _ o1 o7 o19 o18 o4 o17 o16 kc (0 : Int64) (0 : Int64) (0 : Int64) (0 : Int64) (0 : Int64) (0 : Int64) (0 : Int64) (0 : Int64) (0 : Int64) (0 : Int64) (0 : Int64) (0 : Int64)) rfl at_78 (q := 81) rfl (by decide) rfl (na := 0) (by decide +kernel) rfl (by decide) (W := 0) rfl (by decide) (by decide) (by decide) (k' := 11) (n' := 524) rfl rfl ?_
        rintro _ _ ⟨rfl, rfl⟩
        show Go _ _ _ _ _ _ _ _ _ _ [(.long (9223372036854775807 : Int64))]
        refine Go.ldc2J C (v := (9223372036854775807 : Int64)) (wd hw 137 rfl) at_81 (q := 84) rfl ?_
        refine Go.lcmp C at_84 rfl ?_
        refine Go.ifNo C at_85 (q := 88) rfl (XT.ll_ne_f (by decide)) ?_
        refine Go.iconst C at_88 (q := 89) rfl (v := (1 : Int32)) rfl ?_
        refine Go.goto C at_89 (by decide) (q := 93) rfl ?_
        refine Go.istore C at_93 (q := 95) rfl (Ls' := #[.val (.long ka), .second, .val (.long kb), .second, .val (.long kc), .second, .val (.long kd), .second, .val (.int fl), .val (.ref o1), .val (.int (fl &&& (3 : Int32))), .val (.int (1 : Int32)), .val (.int (1 : Int32)), .unset, .unset, .unset]) rfl ?_
        refine Go.aload C at_95 (q := 97) rfl rfl rfl ?_
        refine Go.callV C (y := yN13) (z := yN13) (a := o1) (as := []) (rest := []) (wd hw 138 rfl) (wd hw 139 rfl) (nf_sel (z := yN13) (wd hw 141 rfl)) (wd hw 141 rfl) (wd hw 140 rfl) (wd hw 142 rfl) (wd hw 2 rfl) (fun _ r => r.exa 0 rfl) (u_SequenceQueue_elements_22 l Z a0 hw _ o1 o7 o19 o18 o4 o17 o16 kc (0 : Int64) (0 : Int64) (0 : Int64) (0 : Int64) (0 : Int64) (0 : Int64) (0 : Int64) (0 : Int64) (0 : Int64) (0 : Int64) (0 : Int64) (0 : Int64)) rfl at_97 (q := 100) rfl (by decide) rfl (na := 0) (by decide +kernel) rfl (by decide) (W := 0) rfl (by decide) (by decide) (by decide) (k' := 13) (n' := 528) rfl rfl ?_
        rintro _ _ ⟨o20, o21, rfl, rfl⟩
        show Go _ _ _ _ _ _ _ _ _ _ [(.ref o21)]
        refine Go.pick (M' := ((o21, oAL (.int (0 : Int32)) (.ref o20) (.int (0 : Int32))) :: (o20, .inr (.object "java/lang/Object", [.null], true)) :: (o1, oQ (.ref o7) (.ref o4) (.int (0 : Int32)) (.long kc) .null) :: (o7, oRun (.ref o19) (.ref o18) (.int (0 : Int32)) (.int (0 : Int32))) :: (o19, .inr (.long, (oK64 (.long (0 : Int64)) (.long (0 : Int64)) (.long (0 : Int64)) (.long (0 : Int64)) (.long (0 : Int64)) (.long (0 : Int64))), true)) :: (o18, .inr (.object "java/lang/Object", (oE64 .null .null .null .null .null .null), true)) :: (o4, oHeap (.ref o17) (.ref o16) (.int (0 : Int32))) :: (o17, .inr (.long, (oK64 (.long (0 : Int64)) (.long (0 : Int64)) (.long (0 : Int64)) (.long (0 : Int64)) (.long (0 : Int64)) (.long (0 : Int64))), true)) :: (o16, .inr (.object "java/lang/Object", (oE64 .null .null .null .null .null .null), true)) :: (o3, .inr (.long, (oK64 (.long (0 : Int64)) (.long (0 : Int64)) (.long (0 : Int64)) (.long (0 : Int64)) (.long (0 : Int64)) (.long (0 : Int64))), true)) :: (o2, .inr (.object "java/lang/Object", (oE64 .null .null .null .null .null .null), true)) :: (o6, .inr (.long, (oK64 (.long (0 : Int64)) (.long (0 : Int64)) (.long (0 : Int64)) (.long (0 : Int64)) (.long (0 : Int64)) (.long (0 : Int64))), true)) :: (o5, .inr (.object "java/lang/Object", (oE64 .null .null .null .null .null .null), true)) :: [])) 13 [1, 0, 2, 3, 4, 5, 6, 7, 8, 9, 10, 11, 12] (by decide) (by decide) rfl ?_
        refine Go.callF C (y := yN15) (z := yN14) (a := o21) (as := []) (rest := []) (wd hw 167 rfl) (wd hw 168 rfl) (wd hw 169 rfl) (wd hw 170 rfl) (wd hw 171 rfl) (wd hw 172 rfl) (wd hw 173 rfl) (wd hw 174 rfl) (wd hw 175 rfl) (wd hw 145 rfl) (fun _ r => r.exa 0 rfl) (u_ArrayList_size_30 l Z a0 hw _ o21 o20) rfl at_100 (q := 105) rfl (by decide) rfl (na := 0) (by decide +kernel) rfl (by decide) (W := 0) rfl (by decide) (by decide) (by decide) (k' := 13) (n' := 528) rfl rfl ?_
        rintro _ _ ⟨rfl, rfl⟩
        show Go _ _ _ _ _ _ _ _ _ _ [(.int (0 : Int32))]
        refine Go.ifNo C at_105 (q := 108) rfl (XT.i0_ne_f (by decide)) ?_
        refine Go.iconst C at_108 (q := 109) rfl (v := (1 : Int32)) rfl ?_
        refine Go.goto C at_109 (by decide) (q := 113) rfl ?_
        refine Go.istore C at_113 (q := 115) rfl (Ls' := #[.val (.long ka), .second, .val (.long kb), .second, .val (.long kc), .second, .val (.long kd), .second, .val (.int fl), .val (.ref o1), .val (.int (fl &&& (3 : Int32))), .val (.int (1 : Int32)), .val (.int (1 : Int32)), .val (.int (1 : Int32)), .unset, .unset]) rfl ?_
        refine Go.aload C at_115 (q := 117) rfl rfl rfl ?_
        refine Go.lload C at_117 (q := 119) rfl rfl ?_
        refine Go.iconst C at_119 (q := 120) rfl (v := (4 : Int32)) rfl ?_
        refine Go.callS C (y := yN16) (as := [(.int (4 : Int32))]) (rest := [(.long kd), (.ref o1)]) (wd hw 41 rfl) (wd hw 42 rfl) (wd hw 43 rfl) (wd hw 44 rfl) (m_valueOf4 l Z a0 hw _ cb cs S_high S_cache A_cache H_cache) rfl at_120 (q := 123) rfl (by decide) rfl (na := 1) (by decide +kernel) rfl (by decide) (W := 3) rfl (by decide) (by decide) (by decide) (k' := 13) (n' := 528) rfl rfl ?_
        rintro _ _ ⟨bx22, rfl, rfl, hE_bx22, hF_bx22⟩
        show Go _ _ _ _ _ _ _ _ _ _ [(.ref bx22), (.long kd), (.ref o1)]
        refine Go.pick (M' := ((o1, oQ (.ref o7) (.ref o4) (.int (0 : Int32)) (.long kc) .null) :: (o7, oRun (.ref o19) (.ref o18) (.int (0 : Int32)) (.int (0 : Int32))) :: (o19, .inr (.long, (oK64 (.long (0 : Int64)) (.long (0 : Int64)) (.long (0 : Int64)) (.long (0 : Int64)) (.long (0 : Int64)) (.long (0 : Int64))), true)) :: (o18, .inr (.object "java/lang/Object", (oE64 .null .null .null .null .null .null), true)) :: (o4, oHeap (.ref o17) (.ref o16) (.int (0 : Int32))) :: (o17, .inr (.long, (oK64 (.long (0 : Int64)) (.long (0 : Int64)) (.long (0 : Int64)) (.long (0 : Int64)) (.long (0 : Int64)) (.long (0 : Int64))), true)) :: (o16, .inr (.object "java/lang/Object", (oE64 .null .null .null .null .null .null), true)) :: (o21, oAL (.int (0 : Int32)) (.ref o20) (.int (0 : Int32))) :: (o20, .inr (.object "java/lang/Object", [.null], true)) :: (o3, .inr (.long, (oK64 (.long (0 : Int64)) (.long (0 : Int64)) (.long (0 : Int64)) (.long (0 : Int64)) (.long (0 : Int64)) (.long (0 : Int64))), true)) :: (o2, .inr (.object "java/lang/Object", (oE64 .null .null .null .null .null .null), true)) :: (o6, .inr (.long, (oK64 (.long (0 : Int64)) (.long (0 : Int64)) (.long (0 : Int64)) (.long (0 : Int64)) (.long (0 : Int64)) (.long (0 : Int64))), true)) :: (o5, .inr (.object "java/lang/Object", (oE64 .null .null .null .null .null .null), true)) :: [])) 13 [2, 3, 4, 5, 6, 7, 8, 0, 1, 9, 10, 11, 12] (by decide) (by decide) rfl ?_
        refine Go.callV C (y := yN17) (z := yN17) (a := o1) (as := [(.long kd), (.ref bx22)]) (rest := []) (wd hw 48 rfl) (wd hw 49 rfl) (nf_sel (z := yN17) (wd hw 51 rfl)) (wd hw 51 rfl) (wd hw 50 rfl) (wd hw 52 rfl) (wd hw 2 rfl) (fun _ r => r.exa 0 rfl) (u_SequenceQueue_add_32 l Z a0 hw _ o1 o7 o19 o18 o4 o17 o16 bx22 kd kc (0 : Int64) (0 : Int64) (0 : Int64) (0 : Int64) (0 : Int64) (0 : Int64) (0 : Int64) (0 : Int64) (0 : Int64) (0 : Int64) (0 : Int64) (0 : Int64) hE_bx22) rfl at_123 (q := 126) rfl (by decide) rfl (na := 2) (by decide +kernel) rfl (by decide) (W := 0) rfl (by decide) (by decide) (by decide) (k' := 13) (n' := 528) rfl rfl ?_
        rintro _ _ ⟨rfl, rfl⟩
        show Go _ _ _ _ _ _ _ _ _ _ []
        refine Go.aload C at_126 (q := 128) rfl rfl rfl ?_
        refine Go.callV C (y := yN18) (z := yN18) (a := o1) (as := []) (rest := []) (wd hw 178 rfl) (wd hw 179 rfl) (nf_sel (z := yN18) (wd hw 181 rfl)) (wd hw 181 rfl) (wd hw 180 rfl) (wd hw 182 rfl) (wd hw 2 rfl) (fun _ r => r.exa 0 rfl) (u_SequenceQueue_poll_34 l Z a0 hw _ o1 o7 o19 o18 o4 o17 o16 bx22 kd (0 : Int64) (0 : Int64) (0 : Int64) (0 : Int64) (0 : Int64) (0 : Int64) (0 : Int64) (0 : Int64) (0 : Int64) (0 : Int64) (0 : Int64) (0 : Int64) hE_bx22) rfl at_128 (q := 131) rfl (by decide) rfl (na := 0) (by decide +kernel) rfl (by decide) (W := 0) rfl (by decide) (by decide) (by decide) (k' := 13) (n' := 528) rfl rfl ?_
        rintro _ _ ⟨rfl, rfl⟩
        show Go _ _ _ _ _ _ _ _ _ _ [(.ref bx22)]
        refine Go.castY C (wd hw 183 rfl) (fun _ r => Ins.self ((hE_bx22).ext r.1)) at_131 (q := 134) rfl ?_
        refine Go.astore C at_134 (q := 136) rfl rfl (Ls' := #[.val (.long ka), .second, .val (.long kb), .second, .val (.long kc), .second, .val (.long kd), .second, .val (.int fl), .val (.ref o1), .val (.int (fl &&& (3 : Int32))), .val (.int (1 : Int32)), .val (.int (1 : Int32)), .val (.int (1 : Int32)), .val (.ref bx22), .unset]) rfl ?_
        refine Go.aload C at_136 (q := 138) rfl rfl rfl ?_
        refine Go.nullNo C at_138 (q := 141) rfl rfl (by simp) ?_
        refine Go.aload C at_141 (q := 143) rfl rfl rfl ?_
        refine Go.callV C (y := yN19) (z := yN19) (a := bx22) (as := []) (rest := []) (wd hw 185 rfl) (wd hw 186 rfl) (nf_sel (z := yN19) (wd hw 188 rfl)) (wd hw 188 rfl) (wd hw 187 rfl) (wd hw 189 rfl) (wd hw 43 rfl) (fun _ r => (hE_bx22).ext r.1) (u_Integer_intValue_36 l Z a0 hw _ bx22 hE_bx22 hF_bx22) rfl at_143 (q := 146) rfl (by decide) rfl (na := 0) (by decide +kernel) rfl (by decide) (W := 0) rfl (by decide) (by decide) (by decide) (k' := 13) (n' := 528) rfl rfl ?_
        rintro _ _ ⟨rfl, rfl⟩
        show Go _ _ _ _ _ _ _ _ _ _ [(.int (4 : Int32))]
        refine Go.iconst C at_146 (q := 147) rfl (v := (4 : Int32)) rfl ?_
        refine Go.icmpNo C at_147 (q := 150) rfl (XT.ii_ne_f (by decide)) ?_
        refine Go.aload C at_150 (q := 152) rfl rfl rfl ?_
        refine Go.callV C (y := yN8) (z := yN8) (a := o1) (as := []) (rest := []) (wd hw 125 rfl) (wd hw 126 rfl) (nf_sel (z := yN8) (wd hw 128 rfl)) (wd hw 128 rfl) (wd hw 127 rfl) (wd hw 129 rfl) (wd hw 2 rfl) (fun _ r => r.exa 0 rfl) (u_SequenceQueue_isEmpty_18 l Z a0 hw _ o1 o7 o19 o18 o4 o17 o16 kd (0 : Int64) (0 : Int64) (0 : Int64) (0 : Int64) (0 : Int64) (0 : Int64) (0 : Int64) (0 : Int64) (0 : Int64) (0 : Int64) (0 : Int64) (0 : Int64)) rfl at_152 (q := 155) rfl (by decide) rfl (na := 0) (by decide +kernel) rfl (by decide) (W := 0) rfl (by decide) (by decide) (by decide) (k' := 13) (n' := 528) rfl rfl ?_
        rintro _ _ ⟨rfl, rfl⟩
        show Go _ _ _ _ _ _ _ _ _ _ [(.int (1 : Int32))]
        refine Go.ifNo C at_155 (q := 158) rfl (XT.i0_eq_f (by decide)) ?_
        refine Go.iconst C at_158 (q := 159) rfl (v := (1 : Int32)) rfl ?_
        refine Go.goto C at_159 (by decide) (q := 163) rfl ?_
        refine Go.istore C at_163 (q := 165) rfl (Ls' := #[.val (.long ka), .second, .val (.long kb), .second, .val (.long kc), .second, .val (.long kd), .second, .val (.int fl), .val (.ref o1), .val (.int (fl &&& (3 : Int32))), .val (.int (1 : Int32)), .val (.int (1 : Int32)), .val (.int (1 : Int32)), .val (.ref bx22), .val (.int (1 : Int32))]) rfl ?_
        refine Go.iload C at_165 (q := 167) rfl rfl ?_
        refine Go.ifNo C at_167 (q := 170) rfl (XT.i0_eq_f (by decide)) ?_
        refine Go.iload C at_170 (q := 172) rfl rfl ?_
        refine Go.ifNo C at_172 (q := 175) rfl (XT.i0_eq_f (by decide)) ?_
        refine Go.iload C at_175 (q := 177) rfl rfl ?_
        refine Go.ifNo C at_177 (q := 180) rfl (XT.i0_eq_f (by decide)) ?_
        refine Go.iload C at_180 (q := 182) rfl rfl ?_
        refine Go.ifNo C at_182 (q := 185) rfl (XT.i0_eq_f (by decide)) ?_
        refine Go.iconst C at_185 (q := 186) rfl (v := (1 : Int32)) rfl ?_
        refine Go.goto C at_186 (by decide) (q := 190) rfl ?_
        refine Go.retZ C rfl (by decide) at_190 (by decide) (by decide) ?_
        exact rfl
    · refine Go.aload C at_37 (q := 39) rfl rfl rfl ?_
      refine Go.lloadN C at_39 (q := 40) rfl rfl ?_
      refine Go.iconst C at_40 (q := 41) rfl (v := (2 : Int32)) rfl ?_
      refine Go.callS C (y := yN16) (as := [(.int (2 : Int32))]) (rest := [(.long kb), (.ref o1)]) (wd hw 41 rfl) (wd hw 42 rfl) (wd hw 43 rfl) (wd hw 44 rfl) (m_valueOf2 l Z a0 hw _ cb cs S_high S_cache A_cache H_cache) rfl at_41 (q := 44) rfl (by decide) rfl (na := 1) (by decide +kernel) rfl (by decide) (W := 3) rfl (by decide) (by decide) (by decide) (k' := 7) (n' := 268) rfl rfl ?_
      rintro _ _ ⟨bx23, rfl, rfl, hE_bx23, hF_bx23⟩
      show Go _ _ _ _ _ _ _ _ _ _ [(.ref bx23), (.long kb), (.ref o1)]
      refine Go.pick (M' := ((o1, oQ (.ref o7) (.ref o4) (.int (0 : Int32)) (.long (0 : Int64)) .null) :: (o7, oRun (.ref o6) (.ref o5) (.int (0 : Int32)) (.int (0 : Int32))) :: (o6, .inr (.long, (oK64 (.long (0 : Int64)) (.long (0 : Int64)) (.long (0 : Int64)) (.long (0 : Int64)) (.long (0 : Int64)) (.long (0 : Int64))), true)) :: (o5, .inr (.object "java/lang/Object", (oE64 .null .null .null .null .null .null), true)) :: (o4, oHeap (.ref o3) (.ref o2) (.int (0 : Int32))) :: (o3, .inr (.long, (oK64 (.long (0 : Int64)) (.long (0 : Int64)) (.long (0 : Int64)) (.long (0 : Int64)) (.long (0 : Int64)) (.long (0 : Int64))), true)) :: (o2, .inr (.object "java/lang/Object", (oE64 .null .null .null .null .null .null), true)) :: [])) 7 [6, 5, 4, 3, 2, 1, 0] (by decide) (by decide) rfl ?_
      refine Go.callV C (y := yN17) (z := yN17) (a := o1) (as := [(.long kb), (.ref bx23)]) (rest := []) (wd hw 48 rfl) (wd hw 49 rfl) (nf_sel (z := yN17) (wd hw 51 rfl)) (wd hw 51 rfl) (wd hw 50 rfl) (wd hw 52 rfl) (wd hw 2 rfl) (fun _ r => r.exa 0 rfl) (u_SequenceQueue_add_32 l Z a0 hw _ o1 o7 o6 o5 o4 o3 o2 bx23 kb (0 : Int64) (0 : Int64) (0 : Int64) (0 : Int64) (0 : Int64) (0 : Int64) (0 : Int64) (0 : Int64) (0 : Int64) (0 : Int64) (0 : Int64) (0 : Int64) (0 : Int64) hE_bx23) rfl at_44 (q := 47) rfl (by decide) rfl (na := 2) (by decide +kernel) rfl (by decide) (W := 0) rfl (by decide) (by decide) (by decide) (k' := 7) (n' := 268) rfl rfl ?_
      rintro _ _ ⟨rfl, rfl⟩
      show Go _ _ _ _ _ _ _ _ _ _ []
      refine Go.iload C at_47 (q := 49) rfl rfl ?_
      refine Go.iconst C at_49 (q := 50) rfl (v := (3 : Int32)) rfl ?_
      refine Go.icmp C at_50 (by decide) (q := 64) rfl (q' := 53) rfl (fun (h50_4 : (fl &&& (3 : Int32)) < (3 : Int32)) => ?_) (fun (h50_4 : ¬ (fl &&& (3 : Int32)) < (3 : Int32)) => ?_)
      · refine Go.aload C at_64 (q := 66) rfl rfl rfl ?_
        refine Go.callV C (y := yN7) (z := yN7) (a := o1) (as := []) (rest := []) (wd hw 107 rfl) (wd hw 108 rfl) (nf_sel (z := yN7) (wd hw 110 rfl)) (wd hw 110 rfl) (wd hw 109 rfl) (wd hw 111 rfl) (wd hw 2 rfl) (fun _ r => r.exa 0 rfl) (u_SequenceQueue_clear_38 l Z a0 hw _ o1 o7 o6 o5 o4 o3 o2 bx23 kb (0 : Int64) (0 : Int64) (0 : Int64) (0 : Int64) (0 : Int64) (0 : Int64) (0 : Int64) (0 : Int64) (0 : Int64) (0 : Int64) (0 : Int64) (0 : Int64) hE_bx23) rfl at_66 (q := 69) rfl (by decide) rfl (na := 0) (by decide +kernel) rfl (by decide) (W := 0) rfl (by decide) (by decide) (by decide) (k' := 11) (n' := 524) rfl rfl ?_
        rintro _ _ ⟨o24, o25, o26, o27, rfl, rfl⟩
        show Go _ _ _ _ _ _ _ _ _ _ []
        refine Go.aload C at_69 (q := 71) rfl rfl rfl ?_
        refine Go.pick (M' := ((o1, oQ (.ref o7) (.ref o4) (.int (0 : Int32)) (.long kb) .null) :: (o7, oRun (.ref o27) (.ref o26) (.int (0 : Int32)) (.int (0 : Int32))) :: (o27, .inr (.long, (oK64 (.long (0 : Int64)) (.long (0 : Int64)) (.long (0 : Int64)) (.long (0 : Int64)) (.long (0 : Int64)) (.long (0 : Int64))), true)) :: (o26, .inr (.object "java/lang/Object", (oE64 .null .null .null .null .null .null), true)) :: (o4, oHeap (.ref o25) (.ref o24) (.int (0 : Int32))) :: (o25, .inr (.long, (oK64 (.long (0 : Int64)) (.long (0 : Int64)) (.long (0 : Int64)) (.long (0 : Int64)) (.long (0 : Int64)) (.long (0 : Int64))), true)) :: (o24, .inr (.object "java/lang/Object", (oE64 .null .null .null .null .null .null), true)) :: (o3, .inr (.long, (oK64 (.long (0 : Int64)) (.long (0 : Int64)) (.long (0 : Int64)) (.long (0 : Int64)) (.long (0 : Int64)) (.long (0 : Int64))), true)) :: (o2, .inr (.object "java/lang/Object", (oE64 .null .null .null .null .null .null), true)) :: (o6, .inr (.long, (oK64 (.long (0 : Int64)) (.long (0 : Int64)) (.long (0 : Int64)) (.long (0 : Int64)) (.long (0 : Int64)) (.long (0 : Int64))), true)) :: (o5, .inr (.object "java/lang/Object", (oE64 .null .null .null .null .null .null), true)) :: [])) 11 [10, 7, 6, 5, 2, 1, 0, 3, 4, 8, 9] (by decide) (by decide) rfl ?_
        refine Go.callV C (y := yN8) (z := yN8) (a := o1) (as := []) (rest := []) (wd hw 125 rfl) (wd hw 126 rfl) (nf_sel (z := yN8) (wd hw 128 rfl)) (wd hw 128 rfl) (wd hw 127 rfl) (wd hw 129 rfl) (wd hw 2 rfl) (fun _ r => r.exa 0 rfl) (u_SequenceQueue_isEmpty_18 l Z a0 hw _ o1 o7 o27 o26 o4 o25 o24 kb (0 : Int64) (0 : Int64) (0 : Int64) (0 : Int64) (0 : Int64) (0 : Int64) (0 : Int64) (0 : Int64) (0 : Int64) (0 : Int64) (0 : Int64) (0 : Int64)) rfl at_71 (q := 74) rfl (by decide) rfl (na := 0) (by decide +kernel) rfl (by decide) (W := 0) rfl (by decide) (by decide) (by decide) (k' := 11) (n' := 524) rfl rfl ?_
        rintro _ _ ⟨rfl, rfl⟩
        show Go _ _ _ _ _ _ _ _ _ _ [(.int (1 : Int32))]
        refine Go.istore C at_74 (q := 76) rfl (Ls' := #[.val (.long ka), .second, .val (.long kb), .second, .val (.long kc), .second, .val (.long kd), .second, .val (.int fl), .val (.ref o1), .val (.int (fl &&& (3 : Int32))), .val (.int (1 : Int32)), .unset, .unset, .unset, .unset]) rfl ?_
        refine Go.aload C at_76 (q := 78) rfl rfl rfl ?_
        refine Go.callV C (y := yN9) (z := yN9) (a := o1) (as := []) (rest := []) (wd hw 131 rfl) (wd hw 132 rfl) (nf_sel (z := yN9) (wd hw 134 rfl)) (wd hw 134 rfl) (wd hw 133 rfl) (wd hw 135 rfl) (wd hw 2 rfl) (fun _ r => r.exa 0 rfl) (u_SequenceQueue_firstKey_20 l Z a0 hw _ o1 o7 o27 o26 o4 o25 o24 kb (0 : Int64) (0 : Int64) (0 : Int64) (0 : Int64) (0 : Int64) (0 : Int64) (0 : Int64) (0 : Int64) (0 : Int64) (0 : Int64) (0 : Int64) (0 : Int64)) rfl at_78 (q := 81) rfl (by decide) rfl (na := 0) (by decide +kernel) rfl (by decide) (W := 0) rfl (by decide) (by decide) (by decide) (k' := 11) (n' := 524) rfl rfl ?_
        rintro _ _ ⟨rfl, rfl⟩
        show Go _ _ _ _ _ _ _ _ _ _ [(.long (9223372036854775807 : Int64))]
        refine Go.ldc2J C (v := (9223372036854775807 : Int64)) (wd hw 137 rfl) at_81 (q := 84) rfl ?_
        refine Go.lcmp C at_84 rfl ?_
        refine Go.ifNo C at_85 (q := 88) rfl (XT.ll_ne_f (by decide)) ?_
        refine Go.iconst C at_88 (q := 89) rfl (v := (1 : Int32)) rfl ?_
        refine Go.goto C at_89 (by decide) (q := 93) rfl ?_
        refine Go.istore C at_93 (q := 95) rfl (Ls' := #[.val (.long ka), .second, .val (.long kb), .second, .val (.long kc), .second, .val (.long kd), .second, .val (.int fl), .val (.ref o1), .val (.int (fl &&& (3 : Int32))), .val (.int (1 : Int32)), .val (.int (1 : Int32)), .unset, .unset, .unset]) rfl ?_
        refine Go.aload C at_95 (q := 97) rfl rfl rfl ?_
        refine Go.callV C (y := yN13) (z := yN13) (a := o1) (as := []) (rest := []) (wd hw 138 rfl) (wd hw 139 rfl) (nf_sel (z := yN13) (wd hw 141 rfl)) (wd hw 141 rfl) (wd hw 140 rfl) (wd hw 142 rfl) (wd hw 2 rfl) (fun _ r => r.exa 0 rfl) (u_SequenceQueue_elements_22 l Z a0 hw _ o1 o7 o27 o26 o4 o25 o24 kb (0 : Int64) (0 : Int64) (0 : Int64) (0 : Int64) (0 : Int64) (0 : Int64) (0 : Int64) (0 : Int64) (0 : Int64) (0 : Int64) (0 : Int64) (0 : Int64)) rfl at_97 (q := 100) rfl (by decide) rfl (na := 0) (by decide +kernel) rfl (by decide) (W := 0) rfl (by decide) (by decide) (by decide) (k' := 13) (n' := 528) rfl rfl ?_
        rintro _ _ ⟨o28, o29, rfl, rfl⟩
        show Go _ _ _ _ _ _ _ _ _ _ [(.ref o29)]
        refine Go.pick (M' := ((o29, oAL (.int (0 : Int32)) (.ref o28) (.int (0 : Int32))) :: (o28, .inr (.object "java/lang/Object", [.null], true)) :: (o1, oQ (.ref o7) (.ref o4) (.int (0 : Int32)) (.long kb) .null) :: (o7, oRun (.ref o27) (.ref o26) (.int (0 : Int32)) (.int (0 : Int32))) :: (o27, .inr (.long, (oK64 (.long (0 : Int64)) (.long (0 : Int64)) (.long (0 : Int64)) (.long (0 : Int64)) (.long (0 : Int64)) (.long (0 : Int64))), true)) :: (o26, .inr (.object "java/lang/Object", (oE64 .null .null .null .null .null .null), true)) :: (o4, oHeap (.ref o25) (.ref o24) (.int (0 : Int32))) :: (o25, .inr (.long, (oK64 (.long (0 : Int64)) (.long (0 : Int64)) (.long (0 : Int64)) (.long (0 : Int64)) (.long (0 : Int64)) (.long (0 : Int64))), true)) :: (o24, .inr (.object "java/lang/Object", (oE64 .null .null .null .null .null .null), true)) :: (o3, .inr (.long, (oK64 (.long (0 : Int64)) (.long (0 : Int64)) (.long (0 : Int64)) (.long (0 : Int64)) (.long (0 : Int64)) (.long (0 : Int64))), true)) :: (o2, .inr (.object "java/lang/Object", (oE64 .null .null .null .null .null .null), true)) :: (o6, .inr (.long, (oK64 (.long (0 : Int64)) (.long (0 : Int64)) (.long (0 : Int64)) (.long (0 : Int64)) (.long (0 : Int64)) (.long (0 : Int64))), true)) :: (o5, .inr (.object "java/lang/Object", (oE64 .null .null .null .null .null .null), true)) :: [])) 13 [1, 0, 2, 3, 4, 5, 6, 7, 8, 9, 10, 11, 12] (by decide) (by decide) rfl ?_
        refine Go.callF C (y := yN15) (z := yN14) (a := o29) (as := []) (rest := []) (wd hw 167 rfl) (wd hw 168 rfl) (wd hw 169 rfl) (wd hw 170 rfl) (wd hw 171 rfl) (wd hw 172 rfl) (wd hw 173 rfl) (wd hw 174 rfl) (wd hw 175 rfl) (wd hw 145 rfl) (fun _ r => r.exa 0 rfl) (u_ArrayList_size_30 l Z a0 hw _ o29 o28) rfl at_100 (q := 105) rfl (by decide) rfl (na := 0) (by decide +kernel) rfl (by decide) (W := 0) rfl (by decide) (by decide) (by decide) (k' := 13) (n' := 528) rfl rfl ?_
        rintro _ _ ⟨rfl, rfl⟩
        show Go _ _ _ _ _ _ _ _ _ _ [(.int (0 : Int32))]
        refine Go.ifNo C at_105 (q := 108) rfl (XT.i0_ne_f (by decide)) ?_
        refine Go.iconst C at_108 (q := 109) rfl (v := (1 : Int32)) rfl ?_
        refine Go.goto C at_109 (by decide) (q := 113) rfl ?_
        refine Go.istore C at_113 (q := 115) rfl (Ls' := #[.val (.long ka), .second, .val (.long kb), .second, .val (.long kc), .second, .val (.long kd), .second, .val (.int fl), .val (.ref o1), .val (.int (fl &&& (3 : Int32))), .val (.int (1 : Int32)), .val (.int (1 : Int32)), .val (.int (1 : Int32)), .unset, .unset]) rfl ?_
        refine Go.aload C at_115 (q := 117) rfl rfl rfl ?_
        refine Go.lload C at_117 (q := 119) rfl rfl ?_
        refine Go.iconst C at_119 (q := 120) rfl (v := (4 : Int32)) rfl ?_
        refine Go.callS C (y := yN16) (as := [(.int (4 : Int32))]) (rest := [(.long kd), (.ref o1)]) (wd hw 41 rfl) (wd hw 42 rfl) (wd hw 43 rfl) (wd hw 44 rfl) (m_valueOf4 l Z a0 hw _ cb cs S_high S_cache A_cache H_cache) rfl at_120 (q := 123) rfl (by decide) rfl (na := 1) (by decide +kernel) rfl (by decide) (W := 3) rfl (by decide) (by decide) (by decide) (k' := 13) (n' := 528) rfl rfl ?_
        rintro _ _ ⟨bx30, rfl, rfl, hE_bx30, hF_bx30⟩
        show Go _ _ _ _ _ _ _ _ _ _ [(.ref bx30), (.long kd), (.ref o1)]
        refine Go.pick (M' := ((o1, oQ (.ref o7) (.ref o4) (.int (0 : Int32)) (.long kb) .null) :: (o7, oRun (.ref o27) (.ref o26) (.int (0 : Int32)) (.int (0 : Int32))) :: (o27, .inr (.long, (oK64 (.long (0 : Int64)) (.long (0 : Int64)) (.long (0 : Int64)) (.long (0 : Int64)) (.long (0 : Int64)) (.long (0 : Int64))), true)) :: (o26, .inr (.object "java/lang/Object", (oE64 .null .null .null .null .null .null), true)) :: (o4, oHeap (.ref o25) (.ref o24) (.int (0 : Int32))) :: (o25, .inr (.long, (oK64 (.long (0 : Int64)) (.long (0 : Int64)) (.long (0 : Int64)) (.long (0 : Int64)) (.long (0 : Int64)) (.long (0 : Int64))), true)) :: (o24, .inr (.object "java/lang/Object", (oE64 .null .null .null .null .null .null), true)) :: (o29, oAL (.int (0 : Int32)) (.ref o28) (.int (0 : Int32))) :: (o28, .inr (.object "java/lang/Object", [.null], true)) :: (o3, .inr (.long, (oK64 (.long (0 : Int64)) (.long (0 : Int64)) (.long (0 : Int64)) (.long (0 : Int64)) (.long (0 : Int64)) (.long (0 : Int64))), true)) :: (o2, .inr (.object "java/lang/Object", (oE64 .null .null .null .null .null .null), true)) :: (o6, .inr (.long, (oK64 (.long (0 : Int64)) (.long (0 : Int64)) (.long (0 : Int64)) (.long (0 : Int64)) (.long (0 : Int64)) (.long (0 : Int64))), true)) :: (o5, .inr (.object "java/lang/Object", (oE64 .null .null .null .null .null .null), true)) :: [])) 13 [2, 3, 4, 5, 6, 7, 8, 0, 1, 9, 10, 11, 12] (by decide) (by decide) rfl ?_
        refine Go.callV C (y := yN17) (z := yN17) (a := o1) (as := [(.long kd), (.ref bx30)]) (rest := []) (wd hw 48 rfl) (wd hw 49 rfl) (nf_sel (z := yN17) (wd hw 51 rfl)) (wd hw 51 rfl) (wd hw 50 rfl) (wd hw 52 rfl) (wd hw 2 rfl) (fun _ r => r.exa 0 rfl) (u_SequenceQueue_add_32 l Z a0 hw _ o1 o7 o27 o26 o4 o25 o24 bx30 kd kb (0 : Int64) (0 : Int64) (0 : Int64) (0 : Int64) (0 : Int64) (0 : Int64) (0 : Int64) (0 : Int64) (0 : Int64) (0 : Int64) (0 : Int64) (0 : Int64) hE_bx30) rfl at_123 (q := 126) rfl (by decide) rfl (na := 2) (by decide +kernel) rfl (by decide) (W := 0) rfl (by decide) (by decide) (by decide) (k' := 13) (n' := 528) rfl rfl ?_
        rintro _ _ ⟨rfl, rfl⟩
        show Go _ _ _ _ _ _ _ _ _ _ []
        refine Go.aload C at_126 (q := 128) rfl rfl rfl ?_
        refine Go.callV C (y := yN18) (z := yN18) (a := o1) (as := []) (rest := []) (wd hw 178 rfl) (wd hw 179 rfl) (nf_sel (z := yN18) (wd hw 181 rfl)) (wd hw 181 rfl) (wd hw 180 rfl) (wd hw 182 rfl) (wd hw 2 rfl) (fun _ r => r.exa 0 rfl) (u_SequenceQueue_poll_34 l Z a0 hw _ o1 o7 o27 o26 o4 o25 o24 bx30 kd (0 : Int64) (0 : Int64) (0 : Int64) (0 : Int64) (0 : Int64) (0 : Int64) (0 : Int64) (0 : Int64) (0 : Int64) (0 : Int64) (0 : Int64) (0 : Int64) hE_bx30) rfl at_128 (q := 131) rfl (by decide) rfl (na := 0) (by decide +kernel) rfl (by decide) (W := 0) rfl (by decide) (by decide) (by decide) (k' := 13) (n' := 528) rfl rfl ?_
        rintro _ _ ⟨rfl, rfl⟩
        show Go _ _ _ _ _ _ _ _ _ _ [(.ref bx30)]
        refine Go.castY C (wd hw 183 rfl) (fun _ r => Ins.self ((hE_bx30).ext r.1)) at_131 (q := 134) rfl ?_
        refine Go.astore C at_134 (q := 136) rfl rfl (Ls' := #[.val (.long ka), .second, .val (.long kb), .second, .val (.long kc), .second, .val (.long kd), .second, .val (.int fl), .val (.ref o1), .val (.int (fl &&& (3 : Int32))), .val (.int (1 : Int32)), .val (.int (1 : Int32)), .val (.int (1 : Int32)), .val (.ref bx30), .unset]) rfl ?_
        refine Go.aload C at_136 (q := 138) rfl rfl rfl ?_
        refine Go.nullNo C at_138 (q := 141) rfl rfl (by simp) ?_
        refine Go.aload C at_141 (q := 143) rfl rfl rfl ?_
        refine Go.callV C (y := yN19) (z := yN19) (a := bx30) (as := []) (rest := []) (wd hw 185 rfl) (wd hw 186 rfl) (nf_sel (z := yN19) (wd hw 188 rfl)) (wd hw 188 rfl) (wd hw 187 rfl) (wd hw 189 rfl) (wd hw 43 rfl) (fun _ r => (hE_bx30).ext r.1) (u_Integer_intValue_36 l Z a0 hw _ bx30 hE_bx30 hF_bx30) rfl at_143 (q := 146) rfl (by decide) rfl (na := 0) (by decide +kernel) rfl (by decide) (W := 0) rfl (by decide) (by decide) (by decide) (k' := 13) (n' := 528) rfl rfl ?_
        rintro _ _ ⟨rfl, rfl⟩
        show Go _ _ _ _ _ _ _ _ _ _ [(.int (4 : Int32))]
        refine Go.iconst C at_146 (q := 147) rfl (v := (4 : Int32)) rfl ?_
        refine Go.icmpNo C at_147 (q := 150) rfl (XT.ii_ne_f (by decide)) ?_
        refine Go.aload C at_150 (q := 152) rfl rfl rfl ?_
        refine Go.callV C (y := yN8) (z := yN8) (a := o1) (as := []) (rest := []) (wd hw 125 rfl) (wd hw 126 rfl) (nf_sel (z := yN8) (wd hw 128 rfl)) (wd hw 128 rfl) (wd hw 127 rfl) (wd hw 129 rfl) (wd hw 2 rfl) (fun _ r => r.exa 0 rfl) (u_SequenceQueue_isEmpty_18 l Z a0 hw _ o1 o7 o27 o26 o4 o25 o24 kd (0 : Int64) (0 : Int64) (0 : Int64) (0 : Int64) (0 : Int64) (0 : Int64) (0 : Int64) (0 : Int64) (0 : Int64) (0 : Int64) (0 : Int64) (0 : Int64)) rfl at_152 (q := 155) rfl (by decide) rfl (na := 0) (by decide +kernel) rfl (by decide) (W := 0) rfl (by decide) (by decide) (by decide) (k' := 13) (n' := 528) rfl rfl ?_
        rintro _ _ ⟨rfl, rfl⟩
        show Go _ _ _ _ _ _ _ _ _ _ [(.int (1 : Int32))]
        refine Go.ifNo C at_155 (q := 158) rfl (XT.i0_eq_f (by decide)) ?_
        refine Go.iconst C at_158 (q := 159) rfl (v := (1 : Int32)) rfl ?_
        refine Go.goto C at_159 (by decide) (q := 163) rfl ?_
        refine Go.istore C at_163 (q := 165) rfl (Ls' := #[.val (.long ka), .second, .val (.long kb), .second, .val (.long kc), .second, .val (.long kd), .second, .val (.int fl), .val (.ref o1), .val (.int (fl &&& (3 : Int32))), .val (.int (1 : Int32)), .val (.int (1 : Int32)), .val (.int (1 : Int32)), .val (.ref bx30), .val (.int (1 : Int32))]) rfl ?_
        refine Go.iload C at_165 (q := 167) rfl rfl ?_
        refine Go.ifNo C at_167 (q := 170) rfl (XT.i0_eq_f (by decide)) ?_
        refine Go.iload C at_170 (q := 172) rfl rfl ?_
        refine Go.ifNo C at_172 (q := 175) rfl (XT.i0_eq_f (by decide)) ?_
        refine Go.iload C at_175 (q := 177) rfl rfl ?_
        refine Go.ifNo C at_177 (q := 180) rfl (XT.i0_eq_f (by decide)) ?_
        refine Go.iload C at_180 (q := 182) rfl rfl ?_
        refine Go.ifNo C at_182 (q := 185) rfl (XT.i0_eq_f (by decide)) ?_
        refine Go.iconst C at_185 (q := 186) rfl (v := (1 : Int32)) rfl ?_
        refine Go.goto C at_186 (by decide) (q := 190) rfl ?_
        refine Go.retZ C rfl (by decide) at_190 (by decide) (by decide) ?_
        exact rfl
      · refine Go.aload C at_53 (q := 55) rfl rfl rfl ?_
        refine Go.lload C at_55 (q := 57) rfl rfl ?_
        refine Go.iconst C at_57 (q := 58) rfl (v := (3 : Int32)) rfl ?_
        refine Go.callS C (y := yN16) (as := [(.int (3 : Int32))]) (rest := [(.long kc), (.ref o1)]) (wd hw 41 rfl) (wd hw 42 rfl) (wd hw 43 rfl) (wd hw 44 rfl) (m_valueOf3 l Z a0 hw _ cb cs S_high S_cache A_cache H_cache) rfl at_58 (q := 61) rfl (by decide) rfl (na := 1) (by decide +kernel) rfl (by decide) (W := 3) rfl (by decide) (by decide) (by decide) (k' := 7) (n' := 268) rfl rfl ?_
        rintro _ _ ⟨bx31, rfl, rfl, hE_bx31, hF_bx31⟩
        show Go _ _ _ _ _ _ _ _ _ _ [(.ref bx31), (.long kc), (.ref o1)]
        refine Go.callV C (y := yN17) (z := yN17) (a := o1) (as := [(.long kc), (.ref bx31)]) (rest := []) (wd hw 48 rfl) (wd hw 49 rfl) (nf_sel (z := yN17) (wd hw 51 rfl)) (wd hw 51 rfl) (wd hw 50 rfl) (wd hw 52 rfl) (wd hw 2 rfl) (fun _ r => r.exa 0 rfl) (u_SequenceQueue_add_40 l Z a0 hw _ o1 o7 o6 o5 o4 o3 o2 bx31 bx23 kc kb (0 : Int64) (0 : Int64) (0 : Int64) (0 : Int64) (0 : Int64) (0 : Int64) (0 : Int64) (0 : Int64) (0 : Int64) (0 : Int64) (0 : Int64) (0 : Int64) hE_bx31 hE_bx23) rfl at_61 (q := 64) rfl (by decide) rfl (na := 2) (by decide +kernel) rfl (by decide) (W := 0) rfl (by decide) (by decide) (by decide) (k' := 7) (n' := 268) rfl rfl ?_
        rintro _ _ ⟨rfl, rfl⟩
        show Go _ _ _ _ _ _ _ _ _ _ []
        refine Go.aload C at_64 (q := 66) rfl rfl rfl ?_
        refine Go.pick (M' := ((o1, oQ (.ref o7) (.ref o4) (.int (1 : Int32)) (.long kc) (.ref bx31)) :: (o7, oRun (.ref o6) (.ref o5) (.int (1 : Int32)) (.int (0 : Int32))) :: (o6, .inr (.long, (oK64 (.long kb) (.long (0 : Int64)) (.long (0 : Int64)) (.long (0 : Int64)) (.long (0 : Int64)) (.long (0 : Int64))), true)) :: (o5, .inr (.object "java/lang/Object", (oE64 (.ref bx23) .null .null .null .null .null), true)) :: (o4, oHeap (.ref o3) (.ref o2) (.int (0 : Int32))) :: (o3, .inr (.long, (oK64 (.long (0 : Int64)) (.long (0 : Int64)) (.long (0 : Int64)) (.long (0 : Int64)) (.long (0 : Int64)) (.long (0 : Int64))), true)) :: (o2, .inr (.object "java/lang/Object", (oE64 .null .null .null .null .null .null), true)) :: [])) 7 [3, 0, 1, 2, 4, 5, 6] (by decide) (by decide) rfl ?_
        refine Go.callV C (y := yN7) (z := yN7) (a := o1) (as := []) (rest := []) (wd hw 107 rfl) (wd hw 108 rfl) (nf_sel (z := yN7) (wd hw 110 rfl)) (wd hw 110 rfl) (wd hw 109 rfl) (wd hw 111 rfl) (wd hw 2 rfl) (fun _ r => r.exa 0 rfl) (u_SequenceQueue_clear_50 l Z a0 hw _ o1 o7 o6 o5 o4 o3 o2 bx31 bx23 kc kb (0 : Int64) (0 : Int64) (0 : Int64) (0 : Int64) (0 : Int64) (0 : Int64) (0 : Int64) (0 : Int64) (0 : Int64) (0 : Int64) (0 : Int64) hE_bx31 hE_bx23) rfl at_66 (q := 69) rfl (by decide) rfl (na := 0) (by decide +kernel) rfl (by decide) (W := 0) rfl (by decide) (by decide) (by decide) (k' := 11) (n' := 524) rfl rfl ?_
        rintro _ _ ⟨o32, o33, o34, o35, rfl, rfl⟩
        show Go _ _ _ _ _ _ _ _ _ _ []
        refine Go.aload C at_69 (q := 71) rfl rfl rfl ?_
        refine Go.pick (M' := ((o1, oQ (.ref o7) (.ref o4) (.int (0 : Int32)) (.long kc) .null) :: (o7, oRun (.ref o35) (.ref o34) (.int (0 : Int32)) (.int (0 : Int32))) :: (o35, .inr (.long, (oK64 (.long (0 : Int64)) (.long (0 : Int64)) (.long (0 : Int64)) (.long (0 : Int64)) (.long (0 : Int64)) (.long (0 : Int64))), true)) :: (o34, .inr (.object "java/lang/Object", (oE64 .null .null .null .null .null .null), true)) :: (o4, oHeap (.ref o33) (.ref o32) (.int (0 : Int32))) :: (o33, .inr (.long, (oK64 (.long (0 : Int64)) (.long (0 : Int64)) (.long (0 : Int64)) (.long (0 : Int64)) (.long (0 : Int64)) (.long (0 : Int64))), true)) :: (o32, .inr (.object "java/lang/Object", (oE64 .null .null .null .null .null .null), true)) :: (o3, .inr (.long, (oK64 (.long (0 : Int64)) (.long (0 : Int64)) (.long (0 : Int64)) (.long (0 : Int64)) (.long (0 : Int64)) (.long (0 : Int64))), true)) :: (o2, .inr (.object "java/lang/Object", (oE64 .null .null .null .null .null .null), true)) :: (o6, .inr (.long, (oK64 (.long kb) (.long (0 : Int64)) (.long (0 : Int64)) (.long (0 : Int64)) (.long (0 : Int64)) (.long (0 : Int64))), true)) :: (o5, .inr (.object "java/lang/Object", (oE64 (.ref bx23) .null .null .null .null .null), true)) :: [])) 11 [10, 7, 6, 5, 2, 1, 0, 3, 4, 8, 9] (by decide) (by decide) rfl ?_
        refine Go.callV C (y := yN8) (z := yN8) (a := o1) (as := []) (rest := []) (wd hw 125 rfl) (wd hw 126 rfl) (nf_sel (z := yN8) (wd hw 128 rfl)) (wd hw 128 rfl) (wd hw 127 rfl) (wd hw 129 rfl) (wd hw 2 rfl) (fun _ r => r.exa 0 rfl) (u_SequenceQueue_isEmpty_18 l Z a0 hw _ o1 o7 o35 o34 o4 o33 o32 kc (0 : Int64) (0 : Int64) (0 : Int64) (0 : Int64) (0 : Int64) (0 : Int64) (0 : Int64) (0 : Int64) (0 : Int64) (0 : Int64) (0 : Int64) (0 : Int64)) rfl at_71 (q := 74) rfl (by decide) rfl (na := 0) (by decide +kernel) rfl (by decide) (W := 0) rfl (by decide) (by decide) (by decide) (k' := 11) (n' := 524) rfl rfl ?_
        rintro _ _ ⟨rfl, rfl⟩
        show Go _ _ _ _ _ _ _ _ _ _ [(.int (1 : Int32))]
        refine Go.istore C at_74 (q := 76) rfl (Ls' := #[.val (.long ka), .second, .val (.long kb), .second, .val (.long kc), .second, .val (.long kd), .second, .val (.int fl), .val (.ref o1), .val (.int (fl &&& (3 : Int32))), .val (.int (1 : Int32)), .unset, .unset, .unset, .unset]) rfl ?_
        refine Go.aload C at_76 (q := 78) rfl rfl rfl ?_
        refine Go.callV C (y := yN9) (z := yN9) (a := o1) (as := []) (rest := []) (wd hw 131 rfl) (wd hw 132 rfl) (nf_sel (z := yN9) (wd hw 134 rfl)) (wd hw 134 rfl) (wd hw 133 rfl) (wd hw 135 rfl) (wd hw 2 rfl) (fun _ r => r.exa 0 rfl) (u_SequenceQueue_firstKey_20 l Z a0 hw _ o1 o7 o35 o34 o4 o33 o32 kc (0 : Int64) (0 : Int64) (0 : Int64) (0 : Int64) (0 : Int64) (0 : Int64) (0 : Int64) (0 : Int64) (0 : Int64) (0 : Int64) (0 : Int64) (0 : Int64)) rfl at_78 (q := 81) rfl (by decide) rfl (na := 0) (by decide +kernel) rfl (by decide) (W := 0) rfl (by decide) (by decide) (by decide) (k' := 11) (n' := 524) rfl rfl ?_
        rintro _ _ ⟨rfl, rfl⟩
        show Go _ _ _ _ _ _ _ _ _ _ [(.long (9223372036854775807 : Int64))]
        refine Go.ldc2J C (v := (9223372036854775807 : Int64)) (wd hw 137 rfl) at_81 (q := 84) rfl ?_
        refine Go.lcmp C at_84 rfl ?_
        refine Go.ifNo C at_85 (q := 88) rfl (XT.ll_ne_f (by decide)) ?_
        refine Go.iconst C at_88 (q := 89) rfl (v := (1 : Int32)) rfl ?_
        refine Go.goto C at_89 (by decide) (q := 93) rfl ?_
        refine Go.istore C at_93 (q := 95) rfl (Ls' := #[.val (.long ka), .second, .val (.long kb), .second, .val (.long kc), .second, .val (.long kd), .second, .val (.int fl), .val (.ref o1), .val (.int (fl &&& (3 : Int32))), .val (.int (1 : Int32)), .val (.int (1 : Int32)), .unset, .unset, .unset]) rfl ?_
        refine Go.aload C at_95 (q := 97) rfl rfl rfl ?_
        refine Go.callV C (y := yN13) (z := yN13) (a := o1) (as := []) (rest := []) (wd hw 138 rfl) (wd hw 139 rfl) (nf_sel (z := yN13) (wd hw 141 rfl)) (wd hw 141 rfl) (wd hw 140 rfl) (wd hw 142 rfl) (wd hw 2 rfl) (fun _ r => r.exa 0 rfl) (u_SequenceQueue_elements_22 l Z a0 hw _ o1 o7 o35 o34 o4 o33 o32 kc (0 : Int64) (0 : Int64) (0 : Int64) (0 : Int64) (0 : Int64) (0 : Int64) (0 : Int64) (0 : Int64) (0 : Int64) (0 : Int64) (0 : Int64) (0 : Int64)) rfl at_97 (q := 100) rfl (by decide) rfl (na := 0) (by decide +kernel) rfl (by decide) (W := 0) rfl (by decide) (by decide) (by decide) (k' := 13) (n' := 528) rfl rfl ?_
        rintro _ _ ⟨o36, o37, rfl, rfl⟩
        show Go _ _ _ _ _ _ _ _ _ _ [(.ref o37)]
        refine Go.pick (M' := ((o37, oAL (.int (0 : Int32)) (.ref o36) (.int (0 : Int32))) :: (o36, .inr (.object "java/lang/Object", [.null], true)) :: (o1, oQ (.ref o7) (.ref o4) (.int (0 : Int32)) (.long kc) .null) :: (o7, oRun (.ref o35) (.ref o34) (.int (0 : Int32)) (.int (0 : Int32))) :: (o35, .inr (.long, (oK64 (.long (0 : Int64)) (.long (0 : Int64)) (.long (0 : Int64)) (.long (0 : Int64)) (.long (0 : Int64)) (.long (0 : Int64))), true)) :: (o34, .inr (.object "java/lang/Object", (oE64 .null .null .null .null .null .null), true)) :: (o4, oHeap (.ref o33) (.ref o32) (.int (0 : Int32))) :: (o33, .inr (.long, (oK64 (.long (0 : Int64)) (.long (0 : Int64)) (.long (0 : Int64)) (.long (0 : Int64)) (.long (0 : Int64)) (.long (0 : Int64))), true)) :: (o32, .inr (.object "java/lang/Object", (oE64 .null .null .null .null .null .null), true)) :: (o3, .inr (.long, (oK64 (.long (0 : Int64)) (.long (0 : Int64)) (.long (0 : Int64)) (.long (0 : Int64)) (.long (0 : Int64)) (.long (0 : Int64))), true)) :: (o2, .inr (.object "java/lang/Object", (oE64 .null .null .null .null .null .null), true)) :: (o6, .inr (.long, (oK64 (.long kb) (.long (0 : Int64)) (.long (0 : Int64)) (.long (0 : Int64)) (.long (0 : Int64)) (.long (0 : Int64))), true)) :: (o5, .inr (.object "java/lang/Object", (oE64 (.ref bx23) .null .null .null .null .null), true)) :: [])) 13 [1, 0, 2, 3, 4, 5, 6, 7, 8, 9, 10, 11, 12] (by decide) (by decide) rfl ?_
        refine Go.callF C (y := yN15) (z := yN14) (a := o37) (as := []) (rest := []) (wd hw 167 rfl) (wd hw 168 rfl) (wd hw 169 rfl) (wd hw 170 rfl) (wd hw 171 rfl) (wd hw 172 rfl) (wd hw 173 rfl) (wd hw 174 rfl) (wd hw 175 rfl) (wd hw 145 rfl) (fun _ r => r.exa 0 rfl) (u_ArrayList_size_30 l Z a0 hw _ o37 o36) rfl at_100 (q := 105) rfl (by decide) rfl (na := 0) (by decide +kernel) rfl (by decide) (W := 0) rfl (by decide) (by decide) (by decide) (k' := 13) (n' := 528) rfl rfl ?_
        rintro _ _ ⟨rfl, rfl⟩
        show Go _ _ _ _ _ _ _ _ _ _ [(.int (0 : Int32))]
        refine Go.ifNo C at_105 (q := 108) rfl (XT.i0_ne_f (by decide)) ?_
        refine Go.iconst C at_108 (q := 109) rfl (v := (1 : Int32)) rfl ?_
        refine Go.goto C at_109 (by decide) (q := 113) rfl ?_
        refine Go.istore C at_113 (q := 115) rfl (Ls' := #[.val (.long ka), .second, .val (.long kb), .second, .val (.long kc), .second, .val (.long kd), .second, .val (.int fl), .val (.ref o1), .val (.int (fl &&& (3 : Int32))), .val (.int (1 : Int32)), .val (.int (1 : Int32)), .val (.int (1 : Int32)), .unset, .unset]) rfl ?_
        refine Go.aload C at_115 (q := 117) rfl rfl rfl ?_
        refine Go.lload C at_117 (q := 119) rfl rfl ?_
        refine Go.iconst C at_119 (q := 120) rfl (v := (4 : Int32)) rfl ?_
        refine Go.callS C (y := yN16) (as := [(.int (4 : Int32))]) (rest := [(.long kd), (.ref o1)]) (wd hw 41 rfl) (wd hw 42 rfl) (wd hw 43 rfl) (wd hw 44 rfl) (m_valueOf4 l Z a0 hw _ cb cs S_high S_cache A_cache H_cache) rfl at_120 (q := 123) rfl (by decide) rfl (na := 1) (by decide +kernel) rfl (by decide) (W := 3) rfl (by decide) (by decide) (by decide) (k' := 13) (n' := 528) rfl rfl ?_
        rintro _ _ ⟨bx38, rfl, rfl, hE_bx38, hF_bx38⟩
        show Go _ _ _ _ _ _ _ _ _ _ [(.ref bx38), (.long kd), (.ref o1)]
        refine Go.pick (M' := ((o1, oQ (.ref o7) (.ref o4) (.int (0 : Int32)) (.long kc) .null) :: (o7, oRun (.ref o35) (.ref o34) (.int (0 : Int32)) (.int (0 : Int32))) :: (o35, .inr (.long, (oK64 (.long (0 : Int64)) (.long (0 : Int64)) (.long (0 : Int64)) (.long (0 : Int64)) (.long (0 : Int64)) (.long (0 : Int64))), true)) :: (o34, .inr (.object "java/lang/Object", (oE64 .null .null .null .null .null .null), true)) :: (o4, oHeap (.ref o33) (.ref o32) (.int (0 : Int32))) :: (o33, .inr (.long, (oK64 (.long (0 : Int64)) (.long (0 : Int64)) (.long (0 : Int64)) (.long (0 : Int64)) (.long (0 : Int64)) (.long (0 : Int64))), true)) :: (o32, .inr (.object "java/lang/Object", (oE64 .null .null .null .null .null .null), true)) :: (o37, oAL (.int (0 : Int32)) (.ref o36) (.int (0 : Int32))) :: (o36, .inr (.object "java/lang/Object", [.null], true)) :: (o3, .inr (.long, (oK64 (.long (0 : Int64)) (.long (0 : Int64)) (.long (0 : Int64)) (.long (0 : Int64)) (.long (0 : Int64)) (.long (0 : Int64))), true)) :: (o2, .inr (.object "java/lang/Object", (oE64 .null .null .null .null .null .null), true)) :: (o6, .inr (.long, (oK64 (.long kb) (.long (0 : Int64)) (.long (0 : Int64)) (.long (0 : Int64)) (.long (0 : Int64)) (.long (0 : Int64))), true)) :: (o5, .inr (.object "java/lang/Object", (oE64 (.ref bx23) .null .null .null .null .null), true)) :: [])) 13 [2, 3, 4, 5, 6, 7, 8, 0, 1, 9, 10, 11, 12] (by decide) (by decide) rfl ?_
        refine Go.callV C (y := yN17) (z := yN17) (a := o1) (as := [(.long kd), (.ref bx38)]) (rest := []) (wd hw 48 rfl) (wd hw 49 rfl) (nf_sel (z := yN17) (wd hw 51 rfl)) (wd hw 51 rfl) (wd hw 50 rfl) (wd hw 52 rfl) (wd hw 2 rfl) (fun _ r => r.exa 0 rfl) (u_SequenceQueue_add_32 l Z a0 hw _ o1 o7 o35 o34 o4 o33 o32 bx38 kd kc (0 : Int64) (0 : Int64) (0 : Int64) (0 : Int64) (0 : Int64) (0 : Int64) (0 : Int64) (0 : Int64) (0 : Int64) (0 : Int64) (0 : Int64) (0 : Int64) hE_bx38) rfl at_123 (q := 126) rfl (by decide) rfl (na := 2) (by decide +kernel) rfl (by decide) (W := 0) rfl (by decide) (by decide) (by decide) (k' := 13) (n' := 528) rfl rfl ?_
        rintro _ _ ⟨rfl, rfl⟩
        show Go _ _ _ _ _ _ _ _ _ _ []
        refine Go.aload C at_126 (q := 128) rfl rfl rfl ?_
        refine Go.callV C (y := yN18) (z := yN18) (a := o1) (as := []) (rest := []) (wd hw 178 rfl) (wd hw 179 rfl) (nf_sel (z := yN18) (wd hw 181 rfl)) (wd hw 181 rfl) (wd hw 180 rfl) (wd hw 182 rfl) (wd hw 2 rfl) (fun _ r => r.exa 0 rfl) (u_SequenceQueue_poll_34 l Z a0 hw _ o1 o7 o35 o34 o4 o33 o32 bx38 kd (0 : Int64) (0 : Int64) (0 : Int64) (0 : Int64) (0 : Int64) (0 : Int64) (0 : Int64) (0 : Int64) (0 : Int64) (0 : Int64) (0 : Int64) (0 : Int64) hE_bx38) rfl at_128 (q := 131) rfl (by decide) rfl (na := 0) (by decide +kernel) rfl (by decide) (W := 0) rfl (by decide) (by decide) (by decide) (k' := 13) (n' := 528) rfl rfl ?_
        rintro _ _ ⟨rfl, rfl⟩
        show Go _ _ _ _ _ _ _ _ _ _ [(.ref bx38)]
        refine Go.castY C (wd hw 183 rfl) (fun _ r => Ins.self ((hE_bx38).ext r.1)) at_131 (q := 134) rfl ?_
        refine Go.astore C at_134 (q := 136) rfl rfl (Ls' := #[.val (.long ka), .second, .val (.long kb), .second, .val (.long kc), .second, .val (.long kd), .second, .val (.int fl), .val (.ref o1), .val (.int (fl &&& (3 : Int32))), .val (.int (1 : Int32)), .val (.int (1 : Int32)), .val (.int (1 : Int32)), .val (.ref bx38), .unset]) rfl ?_
        refine Go.aload C at_136 (q := 138) rfl rfl rfl ?_
        refine Go.nullNo C at_138 (q := 141) rfl rfl (by simp) ?_
        refine Go.aload C at_141 (q := 143) rfl rfl rfl ?_
        refine Go.callV C (y := yN19) (z := yN19) (a := bx38) (as := []) (rest := []) (wd hw 185 rfl) (wd hw 186 rfl) (nf_sel (z := yN19) (wd hw 188 rfl)) (wd hw 188 rfl) (wd hw 187 rfl) (wd hw 189 rfl) (wd hw 43 rfl) (fun _ r => (hE_bx38).ext r.1) (u_Integer_intValue_36 l Z a0 hw _ bx38 hE_bx38 hF_bx38) rfl at_143 (q := 146) rfl (by decide) rfl (na := 0) (by decide +kernel) rfl (by decide) (W := 0) rfl (by decide) (by decide) (by decide) (k' := 13) (n' := 528) rfl rfl ?_
        rintro _ _ ⟨rfl, rfl⟩
        show Go _ _ _ _ _ _ _ _ _ _ [(.int (4 : Int32))]
        refine Go.iconst C at_146 (q := 147) rfl (v := (4 : Int32)) rfl ?_
        refine Go.icmpNo C at_147 (q := 150) rfl (XT.ii_ne_f (by decide)) ?_
        refine Go.aload C at_150 (q := 152) rfl rfl rfl ?_
        refine Go.callV C (y := yN8) (z := yN8) (a := o1) (as := []) (rest := []) (wd hw 125 rfl) (wd hw 126 rfl) (nf_sel (z := yN8) (wd hw 128 rfl)) (wd hw 128 rfl) (wd hw 127 rfl) (wd hw 129 rfl) (wd hw 2 rfl) (fun _ r => r.exa 0 rfl) (u_SequenceQueue_isEmpty_18 l Z a0 hw _ o1 o7 o35 o34 o4 o33 o32 kd (0 : Int64) (0 : Int64) (0 : Int64) (0 : Int64) (0 : Int64) (0 : Int64) (0 : Int64) (0 : Int64) (0 : Int64) (0 : Int64) (0 : Int64) (0 : Int64)) rfl at_152 (q := 155) rfl (by decide) rfl (na := 0) (by decide +kernel) rfl (by decide) (W := 0) rfl (by decide) (by decide) (by decide) (k' := 13) (n' := 528) rfl rfl ?_
        rintro _ _ ⟨rfl, rfl⟩
        show Go _ _ _ _ _ _ _ _ _ _ [(.int (1 : Int32))]
        refine Go.ifNo C at_155 (q := 158) rfl (XT.i0_eq_f (by decide)) ?_
        refine Go.iconst C at_158 (q := 159) rfl (v := (1 : Int32)) rfl ?_
        refine Go.goto C at_159 (by decide) (q := 163) rfl ?_
        refine Go.istore C at_163 (q := 165) rfl (Ls' := #[.val (.long ka), .second, .val (.long kb), .second, .val (.long kc), .second, .val (.long kd), .second, .val (.int fl), .val (.ref o1), .val (.int (fl &&& (3 : Int32))), .val (.int (1 : Int32)), .val (.int (1 : Int32)), .val (.int (1 : Int32)), .val (.ref bx38), .val (.int (1 : Int32))]) rfl ?_
        refine Go.iload C at_165 (q := 167) rfl rfl ?_
        refine Go.ifNo C at_167 (q := 170) rfl (XT.i0_eq_f (by decide)) ?_
        refine Go.iload C at_170 (q := 172) rfl rfl ?_
        refine Go.ifNo C at_172 (q := 175) rfl (XT.i0_eq_f (by decide)) ?_
        refine Go.iload C at_175 (q := 177) rfl rfl ?_
        refine Go.ifNo C at_177 (q := 180) rfl (XT.i0_eq_f (by decide)) ?_
        refine Go.iload C at_180 (q := 182) rfl rfl ?_
        refine Go.ifNo C at_182 (q := 185) rfl (XT.i0_eq_f (by decide)) ?_
        refine Go.iconst C at_185 (q := 186) rfl (v := (1 : Int32)) rfl ?_
        refine Go.goto C at_186 (by decide) (q := 190) rfl ?_
        refine Go.retZ C rfl (by decide) at_190 (by decide) (by decide) ?_
        exact rfl
  · refine Go.aload C at_21 (q := 23) rfl rfl rfl ?_
    refine Go.lloadN C at_23 (q := 24) rfl rfl ?_
    refine Go.iconst C at_24 (q := 25) rfl (v := (1 : Int32)) rfl ?_
    refine Go.callS C (y := yN16) (as := [(.int (1 : Int32))]) (rest := [(.long ka), (.ref o1)]) (wd hw 41 rfl) (wd hw 42 rfl) (wd hw 43 rfl) (wd hw 44 rfl) (m_valueOf1 l Z a0 hw _ cb cs S_high S_cache A_cache H_cache) rfl at_25 (q := 28) rfl (by decide) rfl (na := 1) (by decide +kernel) rfl (by decide) (W := 3) rfl (by decide) (by decide) (by decide) (k' := 7) (n' := 268) rfl rfl ?_
    rintro _ _ ⟨bx39, rfl, rfl, hE_bx39, hF_bx39⟩
    show Go _ _ _ _ _ _ _ _ _ _ [(.ref bx39), (.long ka), (.ref o1)]
    refine Go.pick (M' := ((o1, oQ (.ref o7) (.ref o4) (.int (0 : Int32)) (.long (0 : Int64)) .null) :: (o7, oRun (.ref o6) (.ref o5) (.int (0 : Int32)) (.int (0 : Int32))) :: (o6, .inr (.long, (oK64 (.long (0 : Int64)) (.long (0 : Int64)) (.long (0 : Int64)) (.long (0 : Int64)) (.long (0 : Int64)) (.long (0 : Int64))), true)) :: (o5, .inr (.object "java/lang/Object", (oE64 .null .null .null .null .null .null), true)) :: (o4, oHeap (.ref o3) (.ref o2) (.int (0 : Int32))) :: (o3, .inr (.long, (oK64 (.long (0 : Int64)) (.long (0 : Int64)) (.long (0 : Int64)) (.long (0 : Int64)) (.long (0 : Int64)) (.long (0 : Int64))), true)) :: (o2, .inr (.object "java/lang/Object", (oE64 .null .null .null .null .null .null), true)) :: [])) 7 [6, 5, 4, 3, 2, 1, 0] (by decide) (by decide) rfl ?_
    refine Go.callV C (y := yN17) (z := yN17) (a := o1) (as := [(.long ka), (.ref bx39)]) (rest := []) (wd hw 48 rfl) (wd hw 49 rfl) (nf_sel (z := yN17) (wd hw 51 rfl)) (wd hw 51 rfl) (wd hw 50 rfl) (wd hw 52 rfl) (wd hw 2 rfl) (fun _ r => r.exa 0 rfl) (u_SequenceQueue_add_32 l Z a0 hw _ o1 o7 o6 o5 o4 o3 o2 bx39 ka (0 : Int64) (0 : Int64) (0 : Int64) (0 : Int64) (0 : Int64) (0 : Int64) (0 : Int64) (0 : Int64) (0 : Int64) (0 : Int64) (0 : Int64) (0 : Int64) (0 : Int64) hE_bx39) rfl at_28 (q := 31) rfl (by decide) rfl (na := 2) (by decide +kernel) rfl (by decide) (W := 0) rfl (by decide) (by decide) (by decide) (k' := 7) (n' := 268) rfl rfl ?_
    rintro _ _ ⟨rfl, rfl⟩
    show Go _ _ _ _ _ _ _ _ _ _ []
    refine Go.iload C at_31 (q := 33) rfl rfl ?_
    refine Go.iconst C at_33 (q := 34) rfl (v := (2 : Int32)) rfl ?_
    refine Go.icmp C at_34 (by decide) (q := 47) rfl (q' := 37) rfl (fun (h34_5 : (fl &&& (3 : Int32)) < (2 : Int32)) => ?_) (fun (h34_5 : ¬ (fl &&& (3 : Int32)) < (2 : Int32)) => ?_)
    · refine Go.iload C at_47 (q := 49) rfl rfl ?_
      refine Go.iconst C at_49 (q := 50) rfl (v := (3 : Int32)) rfl ?_
      refine Go.icmp C at_50 (by decide) (q := 64) rfl (q' := 53) rfl (fun (h50_6 : (fl &&& (3 : Int32)) < (3 : Int32)) => ?_) (fun (h50_6 : ¬ (fl &&& (3 : Int32)) < (3 : Int32)) => ?_)
      · refine Go.aload C at_64 (q := 66) rfl rfl rfl ?_
        refine Go.callV C (y := yN7) (z := yN7) (a := o1) (as := []) (rest := []) (wd hw 107 rfl) (wd hw 108 rfl) (nf_sel (z := yN7) (wd hw 110 rfl)) (wd hw 110 rfl) (wd hw 109 rfl) (wd hw 111 rfl) (wd hw 2 rfl) (fun _ r => r.exa 0 rfl) (u_SequenceQueue_clear_38 l Z a0 hw _ o1 o7 o6 o5 o4 o3 o2 bx39 ka (0 : Int64) (0 : Int64) (0 : Int64) (0 : Int64) (0 : Int64) (0 : Int64) (0 : Int64) (0 : Int64) (0 : Int64) (0 : Int64) (0 : Int64) (0 : Int64) hE_bx39) rfl at_66 (q := 69) rfl (by decide) rfl (na := 0) (by decide +kernel) rfl (by decide) (W := 0) rfl (by decide) (by decide) (by decide) (k' := 11) (n' := 524) rfl rfl ?_
        rintro _ _ ⟨o40, o41, o42, o43, rfl, rfl⟩
        show Go _ _ _ _ _ _ _ _ _ _ []
        refine Go.aload C at_69 (q := 71) rfl rfl rfl ?_
        refine Go.pick (M' := ((o1, oQ (.ref o7) (.ref o4) (.int (0 : Int32)) (.long ka) .null) :: (o7, oRun (.ref o43) (.ref o42) (.int (0 : Int32)) (.int (0 : Int32))) :: (o43, .inr (.long, (oK64 (.long (0 : Int64)) (.long (0 : Int64)) (.long (0 : Int64)) (.long (0 : Int64)) (.long (0 : Int64)) (.long (0 : Int64))), true)) :: (o42, .inr (.object "java/lang/Object", (oE64 .null .null .null .null .null .null), true)) :: (o4, oHeap (.ref o41) (.ref o40) (.int (0 : Int32))) :: (o41, .inr (.long, (oK64 (.long (0 : Int64)) (.long (0 : Int64)) (.long (0 : Int64)) (.long (0 : Int64)) (.long (0 : Int64)) (.long (0 : Int64))), true)) :: (o40, .inr (.object "java/lang/Object", (oE64 .null .null .null .null .null .null), true)) :: (o3, .inr (.long, (oK64 (.long (0 : Int64)) (.long (0 : Int64)) (.long (0 : Int64)) (.long (0 : Int64)) (.long (0 : Int64)) (.long (0 : Int64))), true)) :: (o2, .inr (.object "java/lang/Object", (oE64 .null .null .null .null .null .null), true)) :: (o6, .inr (.long, (oK64 (.long (0 : Int64)) (.long (0 : Int64)) (.long (0 : Int64)) (.long (0 : Int64)) (.long (0 : Int64)) (.long (0 : Int64))), true)) :: (o5, .inr (.object "java/lang/Object", (oE64 .null .null .null .null .null .null), true)) :: [])) 11 [10, 7, 6, 5, 2, 1, 0, 3, 4, 8, 9] (by decide) (by decide) rfl ?_
        refine Go.callV C (y := yN8) (z := yN8) (a := o1) (as := []) (rest := []) (wd hw 125 rfl) (wd hw 126 rfl) (nf_sel (z := yN8) (wd hw 128 rfl)) (wd hw 128 rfl) (wd hw 127 rfl) (wd hw 129 rfl) (wd hw 2 rfl) (fun _ r => r.exa 0 rfl) (u_SequenceQueue_isEmpty_18 l Z a0 hw _ o1 o7 o43 o42 o4 o41 o40 ka (0 : Int64) (0 : Int64) (0 : Int64) (0 : Int64) (0 : Int64) (0 : Int64) (0 : Int64) (0 : Int64) (0 : Int64) (0 : Int64) (0 : Int64) (0 : Int64)) rfl at_71 (q := 74) rfl (by decide) rfl (na := 0) (by decide +kernel) rfl (by decide) (W := 0) rfl (by decide) (by decide) (by decide) (k' := 11) (n' := 524) rfl rfl ?_
        rintro _ _ ⟨rfl, rfl⟩
        show Go _ _ _ _ _ _ _ _ _ _ [(.int (1 : Int32))]
        refine Go.istore C at_74 (q := 76) rfl (Ls' := #[.val (.long ka), .second, .val (.long kb), .second, .val (.long kc), .second, .val (.long kd), .second, .val (.int fl), .val (.ref o1), .val (.int (fl &&& (3 : Int32))), .val (.int (1 : Int32)), .unset, .unset, .unset, .unset]) rfl ?_
        refine Go.aload C at_76 (q := 78) rfl rfl rfl ?_
        refine Go.callV C (y := yN9) (z := yN9) (a := o1) (as := []) (rest := []) (wd hw 131 rfl) (wd hw 132 rfl) (nf_sel (z := yN9) (wd hw 134 rfl)) (wd hw 134 rfl) (wd hw 133 rfl) (wd hw 135 rfl) (wd hw 2 rfl) (fun _ r => r.exa 0 rfl) (u_SequenceQueue_firstKey_20 l Z a0 hw _ o1 o7 o43 o42 o4 o41 o40 ka (0 : Int64) (0 : Int64) (0 : Int64) (0 : Int64) (0 : Int64) (0 : Int64) (0 : Int64) (0 : Int64) (0 : Int64) (0 : Int64) (0 : Int64) (0 : Int64)) rfl at_78 (q := 81) rfl (by decide) rfl (na := 0) (by decide +kernel) rfl (by decide) (W := 0) rfl (by decide) (by decide) (by decide) (k' := 11) (n' := 524) rfl rfl ?_
        rintro _ _ ⟨rfl, rfl⟩
        show Go _ _ _ _ _ _ _ _ _ _ [(.long (9223372036854775807 : Int64))]
        refine Go.ldc2J C (v := (9223372036854775807 : Int64)) (wd hw 137 rfl) at_81 (q := 84) rfl ?_
        refine Go.lcmp C at_84 rfl ?_
        refine Go.ifNo C at_85 (q := 88) rfl (XT.ll_ne_f (by decide)) ?_
        refine Go.iconst C at_88 (q := 89) rfl (v := (1 : Int32)) rfl ?_
        refine Go.goto C at_89 (by decide) (q := 93) rfl ?_
        refine Go.istore C at_93 (q := 95) rfl (Ls' := #[.val (.long ka), .second, .val (.long kb), .second, .val (.long kc), .second, .val (.long kd), .second, .val (.int fl), .val (.ref o1), .val (.int (fl &&& (3 : Int32))), .val (.int (1 : Int32)), .val (.int (1 : Int32)), .unset, .unset, .unset]) rfl ?_
        refine Go.aload C at_95 (q := 97) rfl rfl rfl ?_
        refine Go.callV C (y := yN13) (z := yN13) (a := o1) (as := []) (rest := []) (wd hw 138 rfl) (wd hw 139 rfl) (nf_sel (z := yN13) (wd hw 141 rfl)) (wd hw 141 rfl) (wd hw 140 rfl) (wd hw 142 rfl) (wd hw 2 rfl) (fun _ r => r.exa 0 rfl) (u_SequenceQueue_elements_22 l Z a0 hw _ o1 o7 o43 o42 o4 o41 o40 ka (0 : Int64) (0 : Int64) (0 : Int64) (0 : Int64) (0 : Int64) (0 : Int64) (0 : Int64) (0 : Int64) (0 : Int64) (0 : Int64) (0 : Int64) (0 : Int64)) rfl at_97 (q := 100) rfl (by decide) rfl (na := 0) (by decide +kernel) rfl (by decide) (W := 0) rfl (by decide) (by decide) (by decide) (k' := 13) (n' := 528) rfl rfl ?_
        rintro _ _ ⟨o44, o45, rfl, rfl⟩
        show Go _ _ _ _ _ _ _ _ _ _ [(.ref o45)]
        refine Go.pick (M' := ((o45, oAL (.int (0 : Int32)) (.ref o44) (.int (0 : Int32))) :: (o44, .inr (.object "java/lang/Object", [.null], true)) :: (o1, oQ (.ref o7) (.ref o4) (.int (0 : Int32)) (.long ka) .null) :: (o7, oRun (.ref o43) (.ref o42) (.int (0 : Int32)) (.int (0 : Int32))) :: (o43, .inr (.long, (oK64 (.long (0 : Int64)) (.long (0 : Int64)) (.long (0 : Int64)) (.long (0 : Int64)) (.long (0 : Int64)) (.long (0 : Int64))), true)) :: (o42, .inr (.object "java/lang/Object", (oE64 .null .null .null .null .null .null), true)) :: (o4, oHeap (.ref o41) (.ref o40) (.int (0 : Int32))) :: (o41, .inr (.long, (oK64 (.long (0 : Int64)) (.long (0 : Int64)) (.long (0 : Int64)) (.long (0 : Int64)) (.long (0 : Int64)) (.long (0 : Int64))), true)) :: (o40, .inr (.object "java/lang/Object", (oE64 .null .null .null .null .null .null), true)) :: (o3, .inr (.long, (oK64 (.long (0 : Int64)) (.long (0 : Int64)) (.long (0 : Int64)) (.long (0 : Int64)) (.long (0 : Int64)) (.long (0 : Int64))), true)) :: (o2, .inr (.object "java/lang/Object", (oE64 .null .null .null .null .null .null), true)) :: (o6, .inr (.long, (oK64 (.long (0 : Int64)) (.long (0 : Int64)) (.long (0 : Int64)) (.long (0 : Int64)) (.long (0 : Int64)) (.long (0 : Int64))), true)) :: (o5, .inr (.object "java/lang/Object", (oE64 .null .null .null .null .null .null), true)) :: [])) 13 [1, 0, 2, 3, 4, 5, 6, 7, 8, 9, 10, 11, 12] (by decide) (by decide) rfl ?_
        refine Go.callF C (y := yN15) (z := yN14) (a := o45) (as := []) (rest := []) (wd hw 167 rfl) (wd hw 168 rfl) (wd hw 169 rfl) (wd hw 170 rfl) (wd hw 171 rfl) (wd hw 172 rfl) (wd hw 173 rfl) (wd hw 174 rfl) (wd hw 175 rfl) (wd hw 145 rfl) (fun _ r => r.exa 0 rfl) (u_ArrayList_size_30 l Z a0 hw _ o45 o44) rfl at_100 (q := 105) rfl (by decide) rfl (na := 0) (by decide +kernel) rfl (by decide) (W := 0) rfl (by decide) (by decide) (by decide) (k' := 13) (n' := 528) rfl rfl ?_
        rintro _ _ ⟨rfl, rfl⟩
        show Go _ _ _ _ _ _ _ _ _ _ [(.int (0 : Int32))]
        refine Go.ifNo C at_105 (q := 108) rfl (XT.i0_ne_f (by decide)) ?_
        refine Go.iconst C at_108 (q := 109) rfl (v := (1 : Int32)) rfl ?_
        refine Go.goto C at_109 (by decide) (q := 113) rfl ?_
        refine Go.istore C at_113 (q := 115) rfl (Ls' := #[.val (.long ka), .second, .val (.long kb), .second, .val (.long kc), .second, .val (.long kd), .second, .val (.int fl), .val (.ref o1), .val (.int (fl &&& (3 : Int32))), .val (.int (1 : Int32)), .val (.int (1 : Int32)), .val (.int (1 : Int32)), .unset, .unset]) rfl ?_
        refine Go.aload C at_115 (q := 117) rfl rfl rfl ?_
        refine Go.lload C at_117 (q := 119) rfl rfl ?_
        refine Go.iconst C at_119 (q := 120) rfl (v := (4 : Int32)) rfl ?_
        refine Go.callS C (y := yN16) (as := [(.int (4 : Int32))]) (rest := [(.long kd), (.ref o1)]) (wd hw 41 rfl) (wd hw 42 rfl) (wd hw 43 rfl) (wd hw 44 rfl) (m_valueOf4 l Z a0 hw _ cb cs S_high S_cache A_cache H_cache) rfl at_120 (q := 123) rfl (by decide) rfl (na := 1) (by decide +kernel) rfl (by decide) (W := 3) rfl (by decide) (by decide) (by decide) (k' := 13) (n' := 528) rfl rfl ?_
        rintro _ _ ⟨bx46, rfl, rfl, hE_bx46, hF_bx46⟩
        show Go _ _ _ _ _ _ _ _ _ _ [(.ref bx46), (.long kd), (.ref o1)]
        refine Go.pick (M' := ((o1, oQ (.ref o7) (.ref o4) (.int (0 : Int32)) (.long ka) .null) :: (o7, oRun (.ref o43) (.ref o42) (.int (0 : Int32)) (.int (0 : Int32))) :: (o43, .inr (.long, (oK64 (.long (0 : Int64)) (.long (0 : Int64)) (.long (0 : Int64)) (.long (0 : Int64)) (.long (0 : Int64)) (.long (0 : Int64))), true)) :: (o42, .inr (.object "java/lang/Object", (oE64 .null .null .null .null .null .null), true)) :: (o4, oHeap (.ref o41) (.ref o40) (.int (0 : Int32))) :: (o41, .inr (.long, (oK64 (.long (0 : Int64)) (.long (0 : Int64)) (.long (0 : Int64)) (.long (0 : Int64)) (.long (0 : Int64)) (.long (0 : Int64))), true)) :: (o40, .inr (.object "java/lang/Object", (oE64 .null .null .null .null .null .null), true)) :: (o45, oAL (.int (0 : Int32)) (.ref o44) (.int (0 : Int32))) :: (o44, .inr (.object "java/lang/Object", [.null], true)) :: (o3, .inr (.long, (oK64 (.long (0 : Int64)) (.long (0 : Int64)) (.long (0 : Int64)) (.long (0 : Int64)) (.long (0 : Int64)) (.long (0 : Int64))), true)) :: (o2, .inr (.object "java/lang/Object", (oE64 .null .null .null .null .null .null), true)) :: (o6, .inr (.long, (oK64 (.long (0 : Int64)) (.long (0 : Int64)) (.long (0 : Int64)) (.long (0 : Int64)) (.long (0 : Int64)) (.long (0 : Int64))), true)) :: (o5, .inr (.object "java/lang/Object", (oE64 .null .null .null .null .null .null), true)) :: [])) 13 [2, 3, 4, 5, 6, 7, 8, 0, 1, 9, 10, 11, 12] (by decide) (by decide) rfl ?_
        refine Go.callV C (y := yN17) (z := yN17) (a := o1) (as := [(.long kd), (.ref bx46)]) (rest := []) (wd hw 48 rfl) (wd hw 49 rfl) (nf_sel (z := yN17) (wd hw 51 rfl)) (wd hw 51 rfl) (wd hw 50 rfl) (wd hw 52 rfl) (wd hw 2 rfl) (fun _ r => r.exa 0 rfl) (u_SequenceQueue_add_32 l Z a0 hw _ o1 o7 o43 o42 o4 o41 o40 bx46 kd ka (0 : Int64) (0 : Int64) (0 : Int64) (0 : Int64) (0 : Int64) (0 : Int64) (0 : Int64) (0 : Int64) (0 : Int64) (0 : Int64) (0 : Int64) (0 : Int64) hE_bx46) rfl at_123 (q := 126) rfl (by decide) rfl (na := 2) (by decide +kernel) rfl (by decide) (W := 0) rfl (by decide) (by decide) (by decide) (k' := 13) (n' := 528) rfl rfl ?_
        rintro _ _ ⟨rfl, rfl⟩
        show Go _ _ _ _ _ _ _ _ _ _ []
        refine Go.aload C at_126 (q := 128) rfl rfl rfl ?_
        refine Go.callV C (y := yN18) (z := yN18) (a := o1) (as := []) (rest := []) (wd hw 178 rfl) (wd hw 179 rfl) (nf_sel (z := yN18) (wd hw 181 rfl)) (wd hw 181 rfl) (wd hw 180 rfl) (wd hw 182 rfl) (wd hw 2 rfl) (fun _ r => r.exa 0 rfl) (u_SequenceQueue_poll_34 l Z a0 hw _ o1 o7 o43 o42 o4 o41 o40 bx46 kd (0 : Int64) (0 : Int64) (0 : Int64) (0 : Int64) (0 : Int64) (0 : Int64) (0 : Int64) (0 : Int64) (0 : Int64) (0 : Int64) (0 : Int64) (0 : Int64) hE_bx46) rfl at_128 (q := 131) rfl (by decide) rfl (na := 0) (by decide +kernel) rfl (by decide) (W := 0) rfl (by decide) (by decide) (by decide) (k' := 13) (n' := 528) rfl rfl ?_
        rintro _ _ ⟨rfl, rfl⟩
        show Go _ _ _ _ _ _ _ _ _ _ [(.ref bx46)]
        refine Go.castY C (wd hw 183 rfl) (fun _ r => Ins.self ((hE_bx46).ext r.1)) at_131 (q := 134) rfl ?_
        refine Go.astore C at_134 (q := 136) rfl rfl (Ls' := #[.val (.long ka), .second, .val (.long kb), .second, .val (.long kc), .second, .val (.long kd), .second, .val (.int fl), .val (.ref o1), .val (.int (fl &&& (3 : Int32))), .val (.int (1 : Int32)), .val (.int (1 : Int32)), .val (.int (1 : Int32)), .val (.ref bx46), .unset]) rfl ?_
        refine Go.aload C at_136 (q := 138) rfl rfl rfl ?_
        refine Go.nullNo C at_138 (q := 141) rfl rfl (by simp) ?_
        refine Go.aload C at_141 (q := 143) rfl rfl rfl ?_
        refine Go.callV C (y := yN19) (z := yN19) (a := bx46) (as := []) (rest := []) (wd hw 185 rfl) (wd hw 186 rfl) (nf_sel (z := yN19) (wd hw 188 rfl)) (wd hw 188 rfl) (wd hw 187 rfl) (wd hw 189 rfl) (wd hw 43 rfl) (fun _ r => (hE_bx46).ext r.1) (u_Integer_intValue_36 l Z a0 hw _ bx46 hE_bx46 hF_bx46) rfl at_143 (q := 146) rfl (by decide) rfl (na := 0) (by decide +kernel) rfl (by decide) (W := 0) rfl (by decide) (by decide) (by decide) (k' := 13) (n' := 528) rfl rfl ?_
        rintro _ _ ⟨rfl, rfl⟩
        show Go _ _ _ _ _ _ _ _ _ _ [(.int (4 : Int32))]
        refine Go.iconst C at_146 (q := 147) rfl (v := (4 : Int32)) rfl ?_
        refine Go.icmpNo C at_147 (q := 150) rfl (XT.ii_ne_f (by decide)) ?_
        refine Go.aload C at_150 (q := 152) rfl rfl rfl ?_
        refine Go.callV C (y := yN8) (z := yN8) (a := o1) (as := []) (rest := []) (wd hw 125 rfl) (wd hw 126 rfl) (nf_sel (z := yN8) (wd hw 128 rfl)) (wd hw 128 rfl) (wd hw 127 rfl) (wd hw 129 rfl) (wd hw 2 rfl) (fun _ r => r.exa 0 rfl) (u_SequenceQueue_isEmpty_18 l Z a0 hw _ o1 o7 o43 o42 o4 o41 o40 kd (0 : Int64) (0 : Int64) (0 : Int64) (0 : Int64) (0 : Int64) (0 : Int64) (0 : Int64) (0 : Int64) (0 : Int64) (0 : Int64) (0 : Int64) (0 : Int64)) rfl at_152 (q := 155) rfl (by decide) rfl (na := 0) (by decide +kernel) rfl (by decide) (W := 0) rfl (by decide) (by decide) (by decide) (k' := 13) (n' := 528) rfl rfl ?_
        rintro _ _ ⟨rfl, rfl⟩
        show Go _ _ _ _ _ _ _ _ _ _ [(.int (1 : Int32))]
        refine Go.ifNo C at_155 (q := 158) rfl (XT.i0_eq_f (by decide)) ?_
        refine Go.iconst C at_158 (q := 159) rfl (v := (1 : Int32)) rfl ?_
        refine Go.goto C at_159 (by decide) (q := 163) rfl ?_
        refine Go.istore C at_163 (q := 165) rfl (Ls' := #[.val (.long ka), .second, .val (.long kb), .second, .val (.long kc), .second, .val (.long kd), .second, .val (.int fl), .val (.ref o1), .val (.int (fl &&& (3 : Int32))), .val (.int (1 : Int32)), .val (.int (1 : Int32)), .val (.int (1 : Int32)), .val (.ref bx46), .val (.int (1 : Int32))]) rfl ?_
        refine Go.iload C at_165 (q := 167) rfl rfl ?_
        refine Go.ifNo C at_167 (q := 170) rfl (XT.i0_eq_f (by decide)) ?_
        refine Go.iload C at_170 (q := 172) rfl rfl ?_
        refine Go.ifNo C at_172 (q := 175) rfl (XT.i0_eq_f (by decide)) ?_
        refine Go.iload C at_175 (q := 177) rfl rfl ?_
        refine Go.ifNo C at_177 (q := 180) rfl (XT.i0_eq_f (by decide)) ?_
        refine Go.iload C at_180 (q := 182) rfl rfl ?_
        refine Go.ifNo C at_182 (q := 185) rfl (XT.i0_eq_f (by decide)) ?_
        refine Go.iconst C at_185 (q := 186) rfl (v := (1 : Int32)) rfl ?_
        refine Go.goto C at_186 (by decide) (q := 190) rfl ?_
        refine Go.retZ C rfl (by decide) at_190 (by decide) (by decide) ?_
        exact rfl
      · refine Go.aload C at_53 (q := 55) rfl rfl rfl ?_
        refine Go.lload C at_55 (q := 57) rfl rfl ?_
        refine Go.iconst C at_57 (q := 58) rfl (v := (3 : Int32)) rfl ?_
        refine Go.callS C (y := yN16) (as := [(.int (3 : Int32))]) (rest := [(.long kc), (.ref o1)]) (wd hw 41 rfl) (wd hw 42 rfl) (wd hw 43 rfl) (wd hw 44 rfl) (m_valueOf3 l Z a0 hw _ cb cs S_high S_cache A_cache H_cache) rfl at_58 (q := 61) rfl (by decide) rfl (na := 1) (by decide +kernel) rfl (by decide) (W := 3) rfl (by decide) (by decide) (by decide) (k' := 7) (n' := 268) rfl rfl ?_
        rintro _ _ ⟨bx47, rfl, rfl, hE_bx47, hF_bx47⟩
        show Go _ _ _ _ _ _ _ _ _ _ [(.ref bx47), (.long kc), (.ref o1)]
        refine Go.callV C (y := yN17) (z := yN17) (a := o1) (as := [(.long kc), (.ref bx47)]) (rest := []) (wd hw 48 rfl) (wd hw 49 rfl) (nf_sel (z := yN17) (wd hw 51 rfl)) (wd hw 51 rfl) (wd hw 50 rfl) (wd hw 52 rfl) (wd hw 2 rfl) (fun _ r => r.exa 0 rfl) (u_SequenceQueue_add_40 l Z a0 hw _ o1 o7 o6 o5 o4 o3 o2 bx47 bx39 kc ka (0 : Int64) (0 : Int64) (0 : Int64) (0 : Int64) (0 : Int64) (0 : Int64) (0 : Int64) (0 : Int64) (0 : Int64) (0 : Int64) (0 : Int64) (0 : Int64) hE_bx47 hE_bx39) rfl at_61 (q := 64) rfl (by decide) rfl (na := 2) (by decide +kernel) rfl (by decide) (W := 0) rfl (by decide) (by decide) (by decide) (k' := 7) (n' := 268) rfl rfl ?_
        rintro _ _ ⟨rfl, rfl⟩
        show Go _ _ _ _ _ _ _ _ _ _ []
        refine Go.aload C at_64 (q := 66) rfl rfl rfl ?_
        refine Go.pick (M' := ((o1, oQ (.ref o7) (.ref o4) (.int (1 : Int32)) (.long kc) (.ref bx47)) :: (o7, oRun (.ref o6) (.ref o5) (.int (1 : Int32)) (.int (0 : Int32))) :: (o6, .inr (.long, (oK64 (.long ka) (.long (0 : Int64)) (.long (0 : Int64)) (.long (0 : Int64)) (.long (0 : Int64)) (.long (0 : Int64))), true)) :: (o5, .inr (.object "java/lang/Object", (oE64 (.ref bx39) .null .null .null .null .null), true)) :: (o4, oHeap (.ref o3) (.ref o2) (.int (0 : Int32))) :: (o3, .inr (.long, (oK64 (.long (0 : Int64)) (.long (0 : Int64)) (.long (0 : Int64)) (.long (0 : Int64)) (.long (0 : Int64)) (.long (0 : Int64))), true)) :: (o2, .inr (.object "java/lang/Object", (oE64 .null .null .null .null .null .null), true)) :: [])) 7 [3, 0, 1, 2, 4, 5, 6] (by decide) (by decide) rfl ?_
        refine Go.callV C (y := yN7) (z := yN7) (a := o1) (as := []) (rest := []) (wd hw 107 rfl) (wd hw 108 rfl) (nf_sel (z := yN7) (wd hw 110 rfl)) (wd hw 110 rfl) (wd hw 109 rfl) (wd hw 111 rfl) (wd hw 2 rfl) (fun _ r => r.exa 0 rfl) (u_SequenceQueue_clear_50 l Z a0 hw _ o1 o7 o6 o5 o4 o3 o2 bx47 bx39 kc ka (0 : Int64) (0 : Int64) (0 : Int64) (0 : Int64) (0 : Int64) (0 : Int64) (0 : Int64) (0 : Int64) (0 : Int64) (0 : Int64) (0 : Int64) hE_bx47 hE_bx39) rfl at_66 (q := 69) rfl (by decide) rfl (na := 0) (by decide +kernel) rfl (by decide) (W := 0) rfl (by decide) (by decide) (by decide) (k' := 11) (n' := 524) rfl rfl ?_
        rintro _ _ ⟨o48, o49, o50, o51, rfl, rfl⟩
        show Go _ _ _ _ _ _ _ _ _ _ []
        refine Go.aload C at_69 (q := 71) rfl rfl rfl ?_
        refine Go.pick (M' := ((o1, oQ (.ref o7) (.ref o4) (.int (0 : Int32)) (.long kc) .null) :: (o7, oRun (.ref o51) (.ref o50) (.int (0 : Int32)) (.int (0 : Int32))) :: (o51, .inr (.long, (oK64 (.long (0 : Int64)) (.long (0 : Int64)) (.long (0 : Int64)) (.long (0 : Int64)) (.long (0 : Int64)) (.long (0 : Int64))), true)) :: (o50, .inr (.object "java/lang/Object", (oE64 .null .null .null .null .null .null), true)) :: (o4, oHeap (.ref o49) (.ref o48) (.int (0 : Int32))) :: (o49, .inr (.long, (oK64 (.long (0 : Int64)) (.long (0 : Int64)) (.long (0 : Int64)) (.long (0 : Int64)) (.long (0 : Int64)) (.long (0 : Int64))), true)) :: (o48, .inr (.object "java/lang/Object", (oE64 .null .null .null .null .null .null), true)) :: (o3, .inr (.long, (oK64 (.long (0 : Int64)) (.long (0 : Int64)) (.long (0 : Int64)) (.long (0 : Int64)) (.long (0 : Int64)) (.long (0 : Int64))), true)) :: (o2, .inr (.object "java/lang/Object", (oE64 .null .null .null .null .null .null), true)) :: (o6, .inr (.long, (oK64 (.long ka) (.long (0 : Int64)) (.long (0 : Int64)) (.long (0 : Int64)) (.long (0 : Int64)) (.long (0 : Int64))), true)) :: (o5, .inr (.object "java/lang/Object", (oE64 (.ref bx39) .null .null .null .null .null), true)) :: [])) 11 [10, 7, 6, 5, 2, 1, 0, 3, 4, 8, 9] (by decide) (by decide) rfl ?_
        refine Go.callV C (y := yN8) (z := yN8) (a := o1) (as := []) (rest := []) (wd hw 125 rfl) (wd hw 126 rfl) (nf_sel (z := yN8) (wd hw 128 rfl)) (wd hw 128 rfl) (wd hw 127 rfl) (wd hw 129 rfl) (wd hw 2 rfl) (fun _ r => r.exa 0 rfl) (u_SequenceQueue_isEmpty_18 l Z a0 hw _ o1 o7 o51 o50 o4 o49 o48 kc (0 : Int64) (0 : Int64) (0 : Int64) (0 : Int64) (0 : Int64) (0 : Int64) (0 : Int64) (0 : Int64) (0 : Int64) (0 : Int64) (0 : Int64) (0 : Int64)) rfl at_71 (q := 74) rfl (by decide) rfl (na := 0) (by decide +kernel) rfl (by decide) (W := 0) rfl (by decide) (by decide) (by decide) (k' := 11) (n' := 524) rfl rfl ?_
        rintro _ _ ⟨rfl, rfl⟩
        show Go _ _ _ _ _ _ _ _ _ _ [(.int (1 : Int32))]
        refine Go.istore C at_74 (q := 76) rfl (Ls' := #[.val (.long ka), .second, .val (.long kb), .second, .val (.long kc), .second, .val (.long kd), .second, .val (.int fl), .val (.ref o1), .val (.int (fl &&& (3 : Int32))), .val (.int (1 : Int32)), .unset, .unset, .unset, .unset]) rfl ?_
        refine Go.aload C at_76 (q := 78) rfl rfl rfl ?_
        refine Go.callV C (y := yN9) (z := yN9) (a := o1) (as := []) (rest := []) (wd hw 131 rfl) (wd hw 132 rfl) (nf_sel (z := yN9) (wd hw 134 rfl)) (wd hw 134 rfl) (wd hw 133 rfl) (wd hw 135 rfl) (wd hw 2 rfl) (fun _ r => r.exa 0 rfl) (u_SequenceQueue_firstKey_20 l Z a0 hw _ o1 o7 o51 o50 o4 o49 o48 kc (0 : Int64) (0 : Int64) (0 : Int64) (0 : Int64) (0 : Int64) (0 : Int64) (0 : Int64) (0 : Int64) (0 : Int64) (0 : Int64) (0 : Int64) (0 : Int64)) rfl at_78 (q := 81) rfl (by decide) rfl (na := 0) (by decide +kernel) rfl (by decide) (W := 0) rfl (by decide) (by decide) (by decide) (k' := 11) (n' := 524) rfl rfl ?_
        rintro _ _ ⟨rfl, rfl⟩
        show Go _ _ _ _ _ _ _ _ _ _ [(.long (9223372036854775807 : Int64))]
        refine Go.ldc2J C (v := (9223372036854775807 : Int64)) (wd hw 137 rfl) at_81 (q := 84) rfl ?_
        refine Go.lcmp C at_84 rfl ?_
        refine Go.ifNo C at_85 (q := 88) rfl (XT.ll_ne_f (by decide)) ?_
        refine Go.iconst C at_88 (q := 89) rfl (v := (1 : Int32)) rfl ?_
        refine Go.goto C at_89 (by decide) (q := 93) rfl ?_
        refine Go.istore C at_93 (q := 95) rfl (Ls' := #[.val (.long ka), .second, .val (.long kb), .second, .val (.long kc), .second, .val (.long kd), .second, .val (.int fl), .val (.ref o1), .val (.int (fl &&& (3 : Int32))), .val (.int (1 : Int32)), .val (.int (1 : Int32)), .unset, .unset, .unset]) rfl ?_
        refine Go.aload C at_95 (q := 97) rfl rfl rfl ?_
        refine Go.callV C (y := yN13) (z := yN13) (a := o1) (as := []) (rest := []) (wd hw 138 rfl) (wd hw 139 rfl) (nf_sel (z := yN13) (wd hw 141 rfl)) (wd hw 141 rfl) (wd hw 140 rfl) (wd hw 142 rfl) (wd hw 2 rfl) (fun _ r => r.exa 0 rfl) (u_SequenceQueue_elements_22 l Z a0 hw _ o1 o7 o51 o50 o4 o49 o48 kc (0 : Int64) (0 : Int64) (0 : Int64) (0 : Int64) (0 : Int64) (0 : Int64) (0 : Int64) (0 : Int64) (0 : Int64) (0 : Int64) (0 : Int64) (0 : Int64)) rfl at_97 (q := 100) rfl (by decide) rfl (na := 0) (by decide +kernel) rfl (by decide) (W := 0) rfl (by decide) (by decide) (by decide) (k' := 13) (n' := 528) rfl rfl ?_
        rintro _ _ ⟨o52, o53, rfl, rfl⟩
        show Go _ _ _ _ _ _ _ _ _ _ [(.ref o53)]
        refine Go.pick (M' := ((o53, oAL (.int (0 : Int32)) (.ref o52) (.int (0 : Int32))) :: (o52, .inr (.object "java/lang/Object", [.null], true)) :: (o1, oQ (.ref o7) (.ref o4) (.int (0 : Int32)) (.long kc) .null) :: (o7, oRun (.ref o51) (.ref o50) (.int (0 : Int32)) (.int (0 : Int32))) :: (o51, .inr (.long, (oK64 (.long (0 : Int64)) (.long (0 : Int64)) (.long (0 : Int64)) (.long (0 : Int64)) (.long (0 : Int64)) (.long (0 : Int64))), true)) :: (o50, .inr (.object "java/lang/Object", (oE64 .null .null .null .null .null .null), true)) :: (o4, oHeap (.ref o49) (.ref o48) (.int (0 : Int32))) :: (o49, .inr (.long, (oK64 (.long (0 : Int64)) (.long (0 : Int64)) (.long (0 : Int64)) (.long (0 : Int64)) (.long (0 : Int64)) (.long (0 : Int64))), true)) :: (o48, .inr (.object "java/lang/Object", (oE64 .null .null .null .null .null .null), true)) :: (o3, .inr (.long, (oK64 (.long (0 : Int64)) (.long (0 : Int64)) (.long (0 : Int64)) (.long (0 : Int64)) (.long (0 : Int64)) (.long (0 : Int64))), true)) :: (o2, .inr (.object "java/lang/Object", (oE64 .null .null .null .null .null .null), true)) :: (o6, .inr (.long, (oK64 (.long ka) (.long (0 : Int64)) (.long (0 : Int64)) (.long (0 : Int64)) (.long (0 : Int64)) (.long (0 : Int64))), true)) :: (o5, .inr (.object "java/lang/Object", (oE64 (.ref bx39) .null .null .null .null .null), true)) :: [])) 13 [1, 0, 2, 3, 4, 5, 6, 7, 8, 9, 10, 11, 12] (by decide) (by decide) rfl ?_
        refine Go.callF C (y := yN15) (z := yN14) (a := o53) (as := []) (rest := []) (wd hw 167 rfl) (wd hw 168 rfl) (wd hw 169 rfl) (wd hw 170 rfl) (wd hw 171 rfl) (wd hw 172 rfl) (wd hw 173 rfl) (wd hw 174 rfl) (wd hw 175 rfl) (wd hw 145 rfl) (fun _ r => r.exa 0 rfl) (u_ArrayList_size_30 l Z a0 hw _ o53 o52) rfl at_100 (q := 105) rfl (by decide) rfl (na := 0) (by decide +kernel) rfl (by decide) (W := 0) rfl (by decide) (by decide) (by decide) (k' := 13) (n' := 528) rfl rfl ?_
        rintro _ _ ⟨rfl, rfl⟩
        show Go _ _ _ _ _ _ _ _ _ _ [(.int (0 : Int32))]
        refine Go.ifNo C at_105 (q := 108) rfl (XT.i0_ne_f (by decide)) ?_
        refine Go.iconst C at_108 (q := 109) rfl (v := (1 : Int32)) rfl ?_
        refine Go.goto C at_109 (by decide) (q := 113) rfl ?_
        refine Go.istore C at_113 (q := 115) rfl (Ls' := #[.val (.long ka), .second, .val (.long kb), .second, .val (.long kc), .second, .val (.long kd), .second, .val (.int fl), .val (.ref o1), .val (.int (fl &&& (3 : Int32))), .val (.int (1 : Int32)), .val (.int (1 : Int32)), .val (.int (1 : Int32)), .unset, .unset]) rfl ?_
        refine Go.aload C at_115 (q := 117) rfl rfl rfl ?_
        refine Go.lload C at_117 (q := 119) rfl rfl ?_
        refine Go.iconst C at_119 (q := 120) rfl (v := (4 : Int32)) rfl ?_
        refine Go.callS C (y := yN16) (as := [(.int (4 : Int32))]) (rest := [(.long kd), (.ref o1)]) (wd hw 41 rfl) (wd hw 42 rfl) (wd hw 43 rfl) (wd hw 44 rfl) (m_valueOf4 l Z a0 hw _ cb cs S_high S_cache A_cache H_cache) rfl at_120 (q := 123) rfl (by decide) rfl (na := 1) (by decide +kernel) rfl (by decide) (W := 3) rfl (by decide) (by decide) (by decide) (k' := 13) (n' := 528) rfl rfl ?_
        rintro _ _ ⟨bx54, rfl, rfl, hE_bx54, hF_bx54⟩
        show Go _ _ _ _ _ _ _ _ _ _ [(.ref bx54), (.long kd), (.ref o1)]
        refine Go.pick (M' := ((o1, oQ (.ref o7) (.ref o4) (.int (0 : Int32)) (.long kc) .null) :: (o7, oRun (.ref o51) (.ref o50) (.int (0 : Int32)) (.int (0 : Int32))) :: (o51, .inr (.long, (oK64 (.long (0 : Int64)) (.long (0 : Int64)) (.long (0 : Int64)) (.long (0 : Int64)) (.long (0 : Int64)) (.long (0 : Int64))), true)) :: (o50, .inr (.object "java/lang/Object", (oE64 .null .null .null .null .null .null), true)) :: (o4, oHeap (.ref o49) (.ref o48) (.int (0 : Int32))) :: (o49, .inr (.long, (oK64 (.long (0 : Int64)) (.long (0 : Int64)) (.long (0 : Int64)) (.long (0 : Int64)) (.long (0 : Int64)) (.long (0 : Int64))), true)) :: (o48, .inr (.object "java/lang/Object", (oE64 .null .null .null .null .null .null), true)) :: (o53, oAL (.int (0 : Int32)) (.ref o52) (.int (0 : Int32))) :: (o52, .inr (.object "java/lang/Object", [.null], true)) :: (o3, .inr (.long, (oK64 (.long (0 : Int64)) (.long (0 : Int64)) (.long (0 : Int64)) (.long (0 : Int64)) (.long (0 : Int64)) (.long (0 : Int64))), true)) :: (o2, .inr (.object "java/lang/Object", (oE64 .null .null .null .null .null .null), true)) :: (o6, .inr (.long, (oK64 (.long ka) (.long (0 : Int64)) (.long (0 : Int64)) (.long (0 : Int64)) (.long (0 : Int64)) (.long (0 : Int64))), true)) :: (o5, .inr (.object "java/lang/Object", (oE64 (.ref bx39) .null .null .null .null .null), true)) :: [])) 13 [2, 3, 4, 5, 6, 7, 8, 0, 1, 9, 10, 11, 12] (by decide) (by decide) rfl ?_
        refine Go.callV C (y := yN17) (z := yN17) (a := o1) (as := [(.long kd), (.ref bx54)]) (rest := []) (wd hw 48 rfl) (wd hw 49 rfl) (nf_sel (z := yN17) (wd hw 51 rfl)) (wd hw 51 rfl) (wd hw 50 rfl) (wd hw 52 rfl) (wd hw 2 rfl) (fun _ r => r.exa 0 rfl) (u_SequenceQueue_add_32 l Z a0 hw _ o1 o7 o51 o50 o4 o49 o48 bx54 kd kc (0 : Int64) (0 : Int64) (0 : Int64) (0 : Int64) (0 : Int64) (0 : Int64) (0 : Int64) (0 : Int64) (0 : Int64) (0 : Int64) (0 : Int64) (0 : Int64) hE_bx54) rfl at_123 (q := 126) rfl (by decide) rfl (na := 2) (by decide +kernel) rfl (by decide) (W := 0) rfl (by decide) (by decide) (by decide) (k' := 13) (n' := 528) rfl rfl ?_
        rintro _ _ ⟨rfl, rfl⟩
        show Go _ _ _ _ _ _ _ _ _ _ []
        refine Go.aload C at_126 (q := 128) rfl rfl rfl ?_
        refine Go.callV C (y := yN18) (z := yN18) (a := o1) (as := []) (rest := []) (wd hw 178 rfl) (wd hw 179 rfl) (nf_sel (z := yN18) (wd hw 181 rfl)) (wd hw 181 rfl) (wd hw 180 rfl) (wd hw 182 rfl) (wd hw 2 rfl) (fun _ r => r.exa 0 rfl) (u_SequenceQueue_poll_34 l Z a0 hw _ o1 o7 o51 o50 o4 o49 o48 bx54 kd (0 : Int64) (0 : Int64) (0 : Int64) (0 : Int64) (0 : Int64) (0 : Int64) (0 : Int64) (0 : Int64) (0 : Int64) (0 : Int64) (0 : Int64) (0 : Int64) hE_bx54) rfl at_128 (q := 131) rfl (by decide) rfl (na := 0) (by decide +kernel) rfl (by decide) (W := 0) rfl (by decide) (by decide) (by decide) (k' := 13) (n' := 528) rfl rfl ?_
        rintro _ _ ⟨rfl, rfl⟩
        show Go _ _ _ _ _ _ _ _ _ _ [(.ref bx54)]
        refine Go.castY C (wd hw 183 rfl) (fun _ r => Ins.self ((hE_bx54).ext r.1)) at_131 (q := 134) rfl ?_
        refine Go.astore C at_134 (q := 136) rfl rfl (Ls' := #[.val (.long ka), .second, .val (.long kb), .second, .val (.long kc), .second, .val (.long kd), .second, .val (.int fl), .val (.ref o1), .val (.int (fl &&& (3 : Int32))), .val (.int (1 : Int32)), .val (.int (1 : Int32)), .val (.int (1 : Int32)), .val (.ref bx54), .unset]) rfl ?_
        refine Go.aload C at_136 (q := 138) rfl rfl rfl ?_
        refine Go.nullNo C at_138 (q := 141) rfl rfl (by simp) ?_
        refine Go.aload C at_141 (q := 143) rfl rfl rfl ?_
        refine Go.callV C (y := yN19) (z := yN19) (a := bx54) (as := []) (rest := []) (wd hw 185 rfl) (wd hw 186 rfl) (nf_sel (z := yN19) (wd hw 188 rfl)) (wd hw 188 rfl) (wd hw 187 rfl) (wd hw 189 rfl) (wd hw 43 rfl) (fun _ r => (hE_bx54).ext r.1) (u_Integer_intValue_36 l Z a0 hw _ bx54 hE_bx54 hF_bx54) rfl at_143 (q := 146) rfl (by decide) rfl (na := 0) (by decide +kernel) rfl (by decide) (W := 0) rfl (by decide) (by decide) (by decide) (k' := 13) (n' := 528) rfl rfl ?_
        rintro _ _ ⟨rfl, rfl⟩
        show Go _ _ _ _ _ _ _ _ _ _ [(.int (4 : Int32))]
        refine Go.iconst C at_146 (q := 147) rfl (v := (4 : Int32)) rfl ?_
        refine Go.icmpNo C at_147 (q := 150) rfl (XT.ii_ne_f (by decide)) ?_
        refine Go.aload C at_150 (q := 152) rfl rfl rfl ?_
        refine Go.callV C (y := yN8) (z := yN8) (a := o1) (as := []) (rest := []) (wd hw 125 rfl) (wd hw 126 rfl) (nf_sel (z := yN8) (wd hw 128 rfl)) (wd hw 128 rfl) (wd hw 127 rfl) (wd hw 129 rfl) (wd hw 2 rfl) (fun _ r => r.exa 0 rfl) (u_SequenceQueue_isEmpty_18 l Z a0 hw _ o1 o7 o51 o50 o4 o49 o48 kd (0 : Int64) (0 : Int64) (0 : Int64) (0 : Int64) (0 : Int64) (0 : Int64) (0 : Int64) (0 : Int64) (0 : Int64) (0 : Int64) (0 : Int64) (0 : Int64)) rfl at_152 (q := 155) rfl (by decide) rfl (na := 0) (by decide +kernel) rfl (by decide) (W := 0) rfl (by decide) (by decide) (by decide) (k' := 13) (n' := 528) rfl rfl ?_
        rintro _ _ ⟨rfl, rfl⟩
        show Go _ _ _ _ _ _ _ _ _ _ [(.int (1 : Int32))]
        refine Go.ifNo C at_155 (q := 158) rfl (XT.i0_eq_f (by decide)) ?_
        refine Go.iconst C at_158 (q := 159) rfl (v := (1 : Int32)) rfl ?_
        refine Go.goto C at_159 (by decide) (q := 163) rfl ?_
        refine Go.istore C at_163 (q := 165) rfl (Ls' := #[.val (.long ka), .second, .val (.long kb), .second, .val (.long kc), .second, .val (.long kd), .second, .val (.int fl), .val (.ref o1), .val (.int (fl &&& (3 : Int32))), .val (.int (1 : Int32)), .val (.int (1 : Int32)), .val (.int (1 : Int32)), .val (.ref bx54), .val (.int (1 : Int32))]) rfl ?_
        refine Go.iload C at_165 (q := 167) rfl rfl ?_
        refine Go.ifNo C at_167 (q := 170) rfl (XT.i0_eq_f (by decide)) ?_
        refine Go.iload C at_170 (q := 172) rfl rfl ?_
        refine Go.ifNo C at_172 (q := 175) rfl (XT.i0_eq_f (by decide)) ?_
        refine Go.iload C at_175 (q := 177) rfl rfl ?_
        refine Go.ifNo C at_177 (q := 180) rfl (XT.i0_eq_f (by decide)) ?_
        refine Go.iload C at_180 (q := 182) rfl rfl ?_
        refine Go.ifNo C at_182 (q := 185) rfl (XT.i0_eq_f (by decide)) ?_
        refine Go.iconst C at_185 (q := 186) rfl (v := (1 : Int32)) rfl ?_
        refine Go.goto C at_186 (by decide) (q := 190) rfl ?_
        refine Go.retZ C rfl (by decide) at_190 (by decide) (by decide) ?_
        exact rfl
    · refine Go.aload C at_37 (q := 39) rfl rfl rfl ?_
      refine Go.lloadN C at_39 (q := 40) rfl rfl ?_
      refine Go.iconst C at_40 (q := 41) rfl (v := (2 : Int32)) rfl ?_
      refine Go.callS C (y := yN16) (as := [(.int (2 : Int32))]) (rest := [(.long kb), (.ref o1)]) (wd hw 41 rfl) (wd hw 42 rfl) (wd hw 43 rfl) (wd hw 44 rfl) (m_valueOf2 l Z a0 hw _ cb cs S_high S_cache A_cache H_cache) rfl at_41 (q := 44) rfl (by decide) rfl (na := 1) (by decide +kernel) rfl (by decide) (W := 3) rfl (by decide) (by decide) (by decide) (k' := 7) (n' := 268) rfl rfl ?_
      rintro _ _ ⟨bx55, rfl, rfl, hE_bx55, hF_bx55⟩
      show Go _ _ _ _ _ _ _ _ _ _ [(.ref bx55), (.long kb), (.ref o1)]
      refine Go.callV C (y := yN17) (z := yN17) (a := o1) (as := [(.long kb), (.ref bx55)]) (rest := []) (wd hw 48 rfl) (wd hw 49 rfl) (nf_sel (z := yN17) (wd hw 51 rfl)) (wd hw 51 rfl) (wd hw 50 rfl) (wd hw 52 rfl) (wd hw 2 rfl) (fun _ r => r.exa 0 rfl) (u_SequenceQueue_add_40 l Z a0 hw _ o1 o7 o6 o5 o4 o3 o2 bx55 bx39 kb ka (0 : Int64) (0 : Int64) (0 : Int64) (0 : Int64) (0 : Int64) (0 : Int64) (0 : Int64) (0 : Int64) (0 : Int64) (0 : Int64) (0 : Int64) (0 : Int64) hE_bx55 hE_bx39) rfl at_44 (q := 47) rfl (by decide) rfl (na := 2) (by decide +kernel) rfl (by decide) (W := 0) rfl (by decide) (by decide) (by decide) (k' := 7) (n' := 268) rfl rfl ?_
      rintro _ _ ⟨rfl, rfl⟩
      show Go _ _ _ _ _ _ _ _ _ _ []
      refine Go.iload C at_47 (q := 49) rfl rfl ?_
      refine Go.iconst C at_49 (q := 50) rfl (v := (3 : Int32)) rfl ?_
      refine Go.icmp C at_50 (by decide) (q := 64) rfl (q' := 53) rfl (fun (h50_7 : (fl &&& (3 : Int32)) < (3 : Int32)) => ?_) (fun (h50_7 : ¬ (fl &&& (3 : Int32)) < (3 : Int32)) => ?_)
      · refine Go.aload C at_64 (q := 66) rfl rfl rfl ?_
        refine Go.pick (M' := ((o1, oQ (.ref o7) (.ref o4) (.int (1 : Int32)) (.long kb) (.ref bx55)) :: (o7, oRun (.ref o6) (.ref o5) (.int (1 : Int32)) (.int (0 : Int32))) :: (o6, .inr (.long, (oK64 (.long ka) (.long (0 : Int64)) (.long (0 : Int64)) (.long (0 : Int64)) (.long (0 : Int64)) (.long (0 : Int64))), true)) :: (o5, .inr (.object "java/lang/Object", (oE64 (.ref bx39) .null .null .null .null .null), true)) :: (o4, oHeap (.ref o3) (.ref o2) (.int (0 : Int32))) :: (o3, .inr (.long, (oK64 (.long (0 : Int64)) (.long (0 : Int64)) (.long (0 : Int64)) (.long (0 : Int64)) (.long (0 : Int64)) (.long (0 : Int64))), true)) :: (o2, .inr (.object "java/lang/Object", (oE64 .null .null .null .null .null .null), true)) :: [])) 7 [3, 0, 1, 2, 4, 5, 6] (by decide) (by decide) rfl ?_
        refine Go.callV C (y := yN7) (z := yN7) (a := o1) (as := []) (rest := []) (wd hw 107 rfl) (wd hw 108 rfl) (nf_sel (z := yN7) (wd hw 110 rfl)) (wd hw 110 rfl) (wd hw 109 rfl) (wd hw 111 rfl) (wd hw 2 rfl) (fun _ r => r.exa 0 rfl) (u_SequenceQueue_clear_50 l Z a0 hw _ o1 o7 o6 o5 o4 o3 o2 bx55 bx39 kb ka (0 : Int64) (0 : Int64) (0 : Int64) (0 : Int64) (0 : Int64) (0 : Int64) (0 : Int64) (0 : Int64) (0 : Int64) (0 : Int64) (0 : Int64) hE_bx55 hE_bx39) rfl at_66 (q := 69) rfl (by decide) rfl (na := 0) (by decide +kernel) rfl (by decide) (W := 0) rfl (by decide) (by decide) (by decide) (k' := 11) (n' := 524) rfl rfl ?_
        rintro _ _ ⟨o56, o57, o58, o59, rfl, rfl⟩
        show Go _ _ _ _ _ _ _ _ _ _ []
        refine Go.aload C at_69 (q := 71) rfl rfl rfl ?_
        refine Go.pick (M' := ((o1, oQ (.ref o7) (.ref o4) (.int (0 : Int32)) (.long kb) .null) :: (o7, oRun (.ref o59) (.ref o58) (.int (0 : Int32)) (.int (0 : Int32))) :: (o59, .inr (.long, (oK64 (.long (0 : Int64)) (.long (0 : Int64)) (.long (0 : Int64)) (.long (0 : Int64)) (.long (0 : Int64)) (.long (0 : Int64))), true)) :: (o58, .inr (.object "java/lang/Object", (oE64 .null .null .null .null .null .null), true)) :: (o4, oHeap (.ref o57) (.ref o56) (.int (0 : Int32))) :: (o57, .inr (.long, (oK64 (.long (0 : Int64)) (.long (0 : Int64)) (.long (0 : Int64)) (.long (0 : Int64)) (.long (0 : Int64)) (.long (0 : Int64))), true)) :: (o56, .inr (.object "java/lang/Object", (oE64 .null .null .null .null .null .null), true)) :: (o3, .inr (.long, (oK64 (.long (0 : Int64)) (.long (0 : Int64)) (.long (0 : Int64)) (.long (0 : Int64)) (.long (0 : Int64)) (.long (0 : Int64))), true)) :: (o2, .inr (.object "java/lang/Object", (oE64 .null .null .null .null .null .null), true)) :: (o6, .inr (.long, (oK64 (.long ka) (.long (0 : Int64)) (.long (0 : Int64)) (.long (0 : Int64)) (.long (0 : Int64)) (.long (0 : Int64))), true)) :: (o5, .inr (.object "java/lang/Object", (oE64 (.ref bx39) .null .null .null .null .null), true)) :: [])) 11 [10, 7, 6, 5, 2, 1, 0, 3, 4, 8, 9] (by decide) (by decide) rfl ?_
        refine Go.callV C (y := yN8) (z := yN8) (a := o1) (as := []) (rest := []) (wd hw 125 rfl) (wd hw 126 rfl) (nf_sel (z := yN8) (wd hw 128 rfl)) (wd hw 128 rfl) (wd hw 127 rfl) (wd hw 129 rfl) (wd hw 2 rfl) (fun _ r => r.exa 0 rfl) (u_SequenceQueue_isEmpty_18 l Z a0 hw _ o1 o7 o59 o58 o4 o57 o56 kb (0 : Int64) (0 : Int64) (0 : Int64) (0 : Int64) (0 : Int64) (0 : Int64) (0 : Int64) (0 : Int64) (0 : Int64) (0 : Int64) (0 : Int64) (0 : Int64)) rfl at_71 (q := 74) rfl (by decide) rfl (na := 0) (by decide +kernel) rfl (by decide) (W := 0) rfl (by decide) (by decide) (by decide) (k' := 11) (n' := 524) rfl rfl ?_
        rintro _ _ ⟨rfl, rfl⟩
        show Go _ _ _ _ _ _ _ _ _ _ [(.int (1 : Int32))]
        refine Go.istore C at_74 (q := 76) rfl (Ls' := #[.val (.long ka), .second, .val (.long kb), .second, .val (.long kc), .second, .val (.long kd), .second, .val (.int fl), .val (.ref o1), .val (.int (fl &&& (3 : Int32))), .val (.int (1 : Int32)), .unset, .unset, .unset, .unset]) rfl ?_
        refine Go.aload C at_76 (q := 78) rfl rfl rfl ?_
        refine Go.callV C (y := yN9) (z := yN9) (a := o1) (as := []) (rest := []) (wd hw 131 rfl) (wd hw 132 rfl) (nf_sel (z := yN9) (wd hw 134 rfl)) (wd hw 134 rfl) (wd hw 133 rfl) (wd hw 135 rfl) (wd hw 2 rfl) (fun _ r => r.exa 0 rfl) (u_SequenceQueue_firstKey_20 l Z a0 hw _ o1 o7 o59 o58 o4 o57 o56 kb (0 : Int64) (0 : Int64) (0 : Int64) (0 : Int64) (0 : Int64) (0 : Int64) (0 : Int64) (0 : Int64) (0 : Int64) (0 : Int64) (0 : Int64) (0 : Int64)) rfl at_78 (q := 81) rfl (by decide) rfl (na := 0) (by decide +kernel) rfl (by decide) (W := 0) rfl (by decide) (by decide) (by decide) (k' := 11) (n' := 524) rfl rfl ?_
        rintro _ _ ⟨rfl, rfl⟩
        show Go _ _ _ _ _ _ _ _ _ _ [(.long (9223372036854775807 : Int64))]
        refine Go.ldc2J C (v := (9223372036854775807 : Int64)) (wd hw 137 rfl) at_81 (q := 84) rfl ?_
        refine Go.lcmp C at_84 rfl ?_
        refine Go.ifNo C at_85 (q := 88) rfl (XT.ll_ne_f (by decide)) ?_
        refine Go.iconst C at_88 (q := 89) rfl (v := (1 : Int32)) rfl ?_
        refine Go.goto C at_89 (by decide) (q := 93) rfl ?_
        refine Go.istore C at_93 (q := 95) rfl (Ls' := #[.val (.long ka), .second, .val (.long kb), .second, .val (.long kc), .second, .val (.long kd), .second, .val (.int fl), .val (.ref o1), .val (.int (fl &&& (3 : Int32))), .val (.int (1 : Int32)), .val (.int (1 : Int32)), .unset, .unset, .unset]) rfl ?_
        refine Go.aload C at_95 (q := 97) rfl rfl rfl ?_
        refine Go.callV C (y := yN13) (z := yN13) (a := o1) (as := []) (rest := []) (wd hw 138 rfl) (wd hw 139 rfl) (nf_sel (z := yN13) (wd hw 141 rfl)) (wd hw 141 rfl) (wd hw 140 rfl) (wd hw 142 rfl) (wd hw 2 rfl) (fun _ r => r.exa 0 rfl) (u_SequenceQueue_elements_22 l Z a0 hw _ o1 o7 o59 o58 o4 o57 o56 kb (0 : Int64) (0 : Int64) (0 : Int64) (0 : Int64) (0 : Int64) (0 : Int64) (0 : Int64) (0 : Int64) (0 : Int64) (0 : Int64) (0 : Int64) (0 : Int64)) rfl at_97 (q := 100) rfl (by decide) rfl (na := 0) (by decide +kernel) rfl (by decide) (W := 0) rfl (by decide) (by decide) (by decide) (k' := 13) (n' := 528) rfl rfl ?_
        rintro _ _ ⟨o60, o61, rfl, rfl⟩
        show Go _ _ _ _ _ _ _ _ _ _ [(.ref o61)]
        refine Go.pick (M' := ((o61, oAL (.int (0 : Int32)) (.ref o60) (.int (0 : Int32))) :: (o60, .inr (.object "java/lang/Object", [.null], true)) :: (o1, oQ (.ref o7) (.ref o4) (.int (0 : Int32)) (.long kb) .null) :: (o7, oRun (.ref o59) (.ref o58) (.int (0 : Int32)) (.int (0 : Int32))) :: (o59, .inr (.long, (oK64 (.long (0 : Int64)) (.long (0 : Int64)) (.long (0 : Int64)) (.long (0 : Int64)) (.long (0 : Int64)) (.long (0 : Int64))), true)) :: (o58, .inr (.object "java/lang/Object", (oE64 .null .null .null .null .null .null), true)) :: (o4, oHeap (.ref o57) (.ref o56) (.int (0 : Int32))) :: (o57, .inr (.long, (oK64 (.long (0 : Int64)) (.long (0 : Int64)) (.long (0 : Int64)) (.long (0 : Int64)) (.long (0 : Int64)) (.long (0 : Int64))), true)) :: (o56, .inr (.object "java/lang/Object", (oE64 .null .null .null .null .null .null), true)) :: (o3, .inr (.long, (oK64 (.long (0 : Int64)) (.long (0 : Int64)) (.long (0 : Int64)) (.long (0 : Int64)) (.long (0 : Int64)) (.long (0 : Int64))), true)) :: (o2, .inr (.object "java/lang/Object", (oE64 .null .null .null .null .null .null), true)) :: (o6, .inr (.long, (oK64 (.long ka) (.long (0 : Int64)) (.long (0 : Int64)) (.long (0 : Int64)) (.long (0 : Int64)) (.long (0 : Int64))), true)) :: (o5, .inr (.object "java/lang/Object", (oE64 (.ref bx39) .null .null .null .null .null), true)) :: [])) 13 [1, 0, 2, 3, 4, 5, 6, 7, 8, 9, 10, 11, 12] (by decide) (by decide) rfl ?_
        refine Go.callF C (y := yN15) (z := yN14) (a := o61) (as := []) (rest := []) (wd hw 167 rfl) (wd hw 168 rfl) (wd hw 169 rfl) (wd hw 170 rfl) (wd hw 171 rfl) (wd hw 172 rfl) (wd hw 173 rfl) (wd hw 174 rfl) (wd hw 175 rfl) (wd hw 145 rfl) (fun _ r => r.exa 0 rfl) (u_ArrayList_size_30 l Z a0 hw _ o61 o60) rfl at_100 (q := 105) rfl (by decide) rfl (na := 0) (by decide +kernel) rfl (by decide) (W := 0) rfl (by decide) (by decide) (by decide) (k' := 13) (n' := 528) rfl rfl ?_
        rintro _ _ ⟨rfl, rfl⟩
        show Go _ _ _ _ _ _ _ _ _ _ [(.int (0 : Int32))]
        refine Go.ifNo C at_105 (q := 108) rfl (XT.i0_ne_f (by decide)) ?_
        refine Go.iconst C at_108 (q := 109) rfl (v := (1 : Int32)) rfl ?_
        refine Go.goto C at_109 (by decide) (q := 113) rfl ?_
        refine Go.istore C at_113 (q := 115) rfl (Ls' := #[.val (.long ka), .second, .val (.long kb), .second, .val (.long kc), .second, .val (.long kd), .second, .val (.int fl), .val (.ref o1), .val (.int (fl &&& (3 : Int32))), .val (.int (1 : Int32)), .val (.int (1 : Int32)), .val (.int (1 : Int32)), .unset, .unset]) rfl ?_
        refine Go.aload C at_115 (q := 117) rfl rfl rfl ?_
        refine Go.lload C at_117 (q := 119) rfl rfl ?_
        refine Go.iconst C at_119 (q := 120) rfl (v := (4 : Int32)) rfl ?_
        refine Go.callS C (y := yN16) (as := [(.int (4 : Int32))]) (rest := [(.long kd), (.ref o1)]) (wd hw 41 rfl) (wd hw 42 rfl) (wd hw 43 rfl) (wd hw 44 rfl) (m_valueOf4 l Z a0 hw _ cb cs S_high S_cache A_cache H_cache) rfl at_120 (q := 123) rfl (by decide) rfl (na := 1) (by decide +kernel) rfl (by decide) (W := 3) rfl (by decide) (by decide) (by decide) (k' := 13) (n' := 528) rfl rfl ?_
        rintro _ _ ⟨bx62, rfl, rfl, hE_bx62, hF_bx62⟩
        show Go _ _ _ _ _ _ _ _ _ _ [(.ref bx62), (.long kd), (.ref o1)]
        refine Go.pick (M' := ((o1, oQ (.ref o7) (.ref o4) (.int (0 : Int32)) (.long kb) .null) :: (o7, oRun (.ref o59) (.ref o58) (.int (0 : Int32)) (.int (0 : Int32))) :: (o59, .inr (.long, (oK64 (.long (0 : Int64)) (.long (0 : Int64)) (.long (0 : Int64)) (.long (0 : Int64)) (.long (0 : Int64)) (.long (0 : Int64))), true)) :: (o58, .inr (.object "java/lang/Object", (oE64 .null .null .null .null .null .null), true)) :: (o4, oHeap (.ref o57) (.ref o56) (.int (0 : Int32))) :: (o57, .inr (.long, (oK64 (.long (0 : Int64)) (.long (0 : Int64)) (.long (0 : Int64)) (.long (0 : Int64)) (.long (0 : Int64)) (.long (0 : Int64))), true)) :: (o56, .inr (.object "java/lang/Object", (oE64 .null .null .null .null .null .null), true)) :: (o61, oAL (.int (0 : Int32)) (.ref o60) (.int (0 : Int32))) :: (o60, .inr (.object "java/lang/Object", [.null], true)) :: (o3, .inr (.long, (oK64 (.long (0 : Int64)) (.long (0 : Int64)) (.long (0 : Int64)) (.long (0 : Int64)) (.long (0 : Int64)) (.long (0 : Int64))), true)) :: (o2, .inr (.object "java/lang/Object", (oE64 .null .null .null .null .null .null), true)) :: (o6, .inr (.long, (oK64 (.long ka) (.long (0 : Int64)) (.long (0 : Int64)) (.long (0 : Int64)) (.long (0 : Int64)) (.long (0 : Int64))), true)) :: (o5, .inr (.object "java/lang/Object", (oE64 (.ref bx39) .null .null .null .null .null), true)) :: [])) 13 [2, 3, 4, 5, 6, 7, 8, 0, 1, 9, 10, 11, 12] (by decide) (by decide) rfl ?_
        refine Go.callV C (y := yN17) (z := yN17) (a := o1) (as := [(.long kd), (.ref bx62)]) (rest := []) (wd hw 48 rfl) (wd hw 49 rfl) (nf_sel (z := yN17) (wd hw 51 rfl)) (wd hw 51 rfl) (wd hw 50 rfl) (wd hw 52 rfl) (wd hw 2 rfl) (fun _ r => r.exa 0 rfl) (u_SequenceQueue_add_32 l Z a0 hw _ o1 o7 o59 o58 o4 o57 o56 bx62 kd kb (0 : Int64) (0 : Int64) (0 : Int64) (0 : Int64) (0 : Int64) (0 : Int64) (0 : Int64) (0 : Int64) (0 : Int64) (0 : Int64) (0 : Int64) (0 : Int64) hE_bx62) rfl at_123 (q := 126) rfl (by decide) rfl (na := 2) (by decide +kernel) rfl (by decide) (W := 0) rfl (by decide) (by decide) (by decide) (k' := 13) (n' := 528) rfl rfl ?_
        rintro _ _ ⟨rfl, rfl⟩
        show Go _ _ _ _ _ _ _ _ _ _ []
        refine Go.aload C at_126 (q := 128) rfl rfl rfl ?_
        refine Go.callV C (y := yN18) (z := yN18) (a := o1) (as := []) (rest := []) (wd hw 178 rfl) (wd hw 179 rfl) (nf_sel (z := yN18) (wd hw 181 rfl)) (wd hw 181 rfl) (wd hw 180 rfl) (wd hw 182 rfl) (wd hw 2 rfl) (fun _ r => r.exa 0 rfl) (u_SequenceQueue_poll_34 l Z a0 hw _ o1 o7 o59 o58 o4 o57 o56 bx62 kd (0 : Int64) (0 : Int64) (0 : Int64) (0 : Int64) (0 : Int64) (0 : Int64) (0 : Int64) (0 : Int64) (0 : Int64) (0 : Int64) (0 : Int64) (0 : Int64) hE_bx62) rfl at_128 (q := 131) rfl (by decide) rfl (na := 0) (by decide +kernel) rfl (by decide) (W := 0) rfl (by decide) (by decide) (by decide) (k' := 13) (n' := 528) rfl rfl ?_
        rintro _ _ ⟨rfl, rfl⟩
        show Go _ _ _ _ _ _ _ _ _ _ [(.ref bx62)]
        refine Go.castY C (wd hw 183 rfl) (fun _ r => Ins.self ((hE_bx62).ext r.1)) at_131 (q := 134) rfl ?_
        refine Go.astore C at_134 (q := 136) rfl rfl (Ls' := #[.val (.long ka), .second, .val (.long kb), .second, .val (.long kc), .second, .val (.long kd), .second, .val (.int fl), .val (.ref o1), .val (.int (fl &&& (3 : Int32))), .val (.int (1 : Int32)), .val (.int (1 : Int32)), .val (.int (1 : Int32)), .val (.ref bx62), .unset]) rfl ?_
        refine Go.aload C at_136 (q := 138) rfl rfl rfl ?_
        refine Go.nullNo C at_138 (q := 141) rfl rfl (by simp) ?_
        refine Go.aload C at_141 (q := 143) rfl rfl rfl ?_
        refine Go.callV C (y := yN19) (z := yN19) (a := bx62) (as := []) (rest := []) (wd hw 185 rfl) (wd hw 186 rfl) (nf_sel (z := yN19) (wd hw 188 rfl)) (wd hw 188 rfl) (wd hw 187 rfl) (wd hw 189 rfl) (wd hw 43 rfl) (fun _ r => (hE_bx62).ext r.1) (u_Integer_intValue_36 l Z a0 hw _ bx62 hE_bx62 hF_bx62) rfl at_143 (q := 146) rfl (by decide) rfl (na := 0) (by decide +kernel) rfl (by decide) (W := 0) rfl (by decide) (by decide) (by decide) (k' := 13) (n' := 528) rfl rfl ?_
        rintro _ _ ⟨rfl, rfl⟩
        show Go _ _ _ _ _ _ _ _ _ _ [(.int (4 : Int32))]
        refine Go.iconst C at_146 (q := 147) rfl (v := (4 : Int32)) rfl ?_
        refine Go.icmpNo C at_147 (q := 150) rfl (XT.ii_ne_f (by decide)) ?_
        refine Go.aload C at_150 (q := 152) rfl rfl rfl ?_
        refine Go.callV C (y := yN8) (z := yN8) (a := o1) (as := []) (rest := []) (wd hw 125 rfl) (wd hw 126 rfl) (nf_sel (z := yN8) (wd hw 128 rfl)) (wd hw 128 rfl) (wd hw 127 rfl) (wd hw 129 rfl) (wd hw 2 rfl) (fun _ r => r.exa 0 rfl) (u_SequenceQueue_isEmpty_18 l Z a0 hw _ o1 o7 o59 o58 o4 o57 o56 kd (0 : Int64) (0 : Int64) (0 : Int64) (0 : Int64) (0 : Int64) (0 : Int64) (0 : Int64) (0 : Int64) (0 : Int64) (0 : Int64) (0 : Int64) (0 : Int64)) rfl at_152 (q := 155) rfl (by decide) rfl (na := 0) (by decide +kernel) rfl (by decide) (W := 0) rfl (by decide) (by decide) (by decide) (k' := 13) (n' := 528) rfl rfl ?_
        rintro _ _ ⟨rfl, rfl⟩
        show Go _ _ _ _ _ _ _ _ _ _ [(.int (1 : Int32))]
        refine Go.ifNo C at_155 (q := 158) rfl (XT.i0_eq_f (by decide)) ?_
        refine Go.iconst C at_158 (q := 159) rfl (v := (1 : Int32)) rfl ?_
        refine Go.goto C at_159 (by decide) (q := 163) rfl ?_
        refine Go.istore C at_163 (q := 165) rfl (Ls' := #[.val (.long ka), .second, .val (.long kb), .second, .val (.long kc), .second, .val (.long kd), .second, .val (.int fl), .val (.ref o1), .val (.int (fl &&& (3 : Int32))), .val (.int (1 : Int32)), .val (.int (1 : Int32)), .val (.int (1 : Int32)), .val (.ref bx62), .val (.int (1 : Int32))]) rfl ?_
        refine Go.iload C at_165 (q := 167) rfl rfl ?_
        refine Go.ifNo C at_167 (q := 170) rfl (XT.i0_eq_f (by decide)) ?_
        refine Go.iload C at_170 (q := 172) rfl rfl ?_
        refine Go.ifNo C at_172 (q := 175) rfl (XT.i0_eq_f (by decide)) ?_
        refine Go.iload C at_175 (q := 177) rfl rfl ?_
        refine Go.ifNo C at_177 (q := 180) rfl (XT.i0_eq_f (by decide)) ?_
        refine Go.iload C at_180 (q := 182) rfl rfl ?_
        refine Go.ifNo C at_182 (q := 185) rfl (XT.i0_eq_f (by decide)) ?_
        refine Go.iconst C at_185 (q := 186) rfl (v := (1 : Int32)) rfl ?_
        refine Go.goto C at_186 (by decide) (q := 190) rfl ?_
        refine Go.retZ C rfl (by decide) at_190 (by decide) (by decide) ?_
        exact rfl
      · refine Go.aload C at_53 (q := 55) rfl rfl rfl ?_
        refine Go.lload C at_55 (q := 57) rfl rfl ?_
        refine Go.iconst C at_57 (q := 58) rfl (v := (3 : Int32)) rfl ?_
        refine Go.callS C (y := yN16) (as := [(.int (3 : Int32))]) (rest := [(.long kc), (.ref o1)]) (wd hw 41 rfl) (wd hw 42 rfl) (wd hw 43 rfl) (wd hw 44 rfl) (m_valueOf3 l Z a0 hw _ cb cs S_high S_cache A_cache H_cache) rfl at_58 (q := 61) rfl (by decide) rfl (na := 1) (by decide +kernel) rfl (by decide) (W := 3) rfl (by decide) (by decide) (by decide) (k' := 7) (n' := 268) rfl rfl ?_
        rintro _ _ ⟨bx63, rfl, rfl, hE_bx63, hF_bx63⟩
        show Go _ _ _ _ _ _ _ _ _ _ [(.ref bx63), (.long kc), (.ref o1)]
        refine Go.pick (M' := ((o1, oQ (.ref o7) (.ref o4) (.int (1 : Int32)) (.long kb) (.ref bx55)) :: (o7, oRun (.ref o6) (.ref o5) (.int (1 : Int32)) (.int (0 : Int32))) :: (o6, .inr (.long, (oK64 (.long ka) (.long (0 : Int64)) (.long (0 : Int64)) (.long (0 : Int64)) (.long (0 : Int64)) (.long (0 : Int64))), true)) :: (o5, .inr (.object "java/lang/Object", (oE64 (.ref bx39) .null .null .null .null .null), true)) :: (o4, oHeap (.ref o3) (.ref o2) (.int (0 : Int32))) :: (o3, .inr (.long, (oK64 (.long (0 : Int64)) (.long (0 : Int64)) (.long (0 : Int64)) (.long (0 : Int64)) (.long (0 : Int64)) (.long (0 : Int64))), true)) :: (o2, .inr (.object "java/lang/Object", (oE64 .null .null .null .null .null .null), true)) :: [])) 7 [3, 0, 1, 2, 4, 5, 6] (by decide) (by decide) rfl ?_
        refine Go.callV C (y := yN17) (z := yN17) (a := o1) (as := [(.long kc), (.ref bx63)]) (rest := []) (wd hw 48 rfl) (wd hw 49 rfl) (nf_sel (z := yN17) (wd hw 51 rfl)) (wd hw 51 rfl) (wd hw 50 rfl) (wd hw 52 rfl) (wd hw 2 rfl) (fun _ r => r.exa 0 rfl) (u_SequenceQueue_add_56 l Z a0 hw _ o1 o7 o6 o5 o4 o3 o2 bx63 bx55 bx39 kc kb ka (0 : Int64) (0 : Int64) (0 : Int64) (0 : Int64) (0 : Int64) (0 : Int64) (0 : Int64) (0 : Int64) (0 : Int64) (0 : Int64) (0 : Int64) hE_bx63 hE_bx55 hE_bx39) rfl at_61 (q := 64) rfl (by decide) rfl (na := 2) (by decide +kernel) rfl (by decide) (W := 0) rfl (by decide) (by decide) (by decide) (k' := 7) (n' := 268) rfl rfl ?_
        rintro _ _ (⟨rfl, rfl⟩ | ⟨rfl, rfl⟩)
        · show Go _ _ _ _ _ _ _ _ _ _ []
          refine Go.aload C at_64 (q := 66) rfl rfl rfl ?_
          refine Go.pick (M' := ((o1, oQ (.ref o7) (.ref o4) (.int (1 : Int32)) (.long kc) (.ref bx63)) :: (o7, oRun (.ref o6) (.ref o5) (.int (1 : Int32)) (.int (0 : Int32))) :: (o6, .inr (.long, (oK64 (.long ka) (.long (0 : Int64)) (.long (0 : Int64)) (.long (0 : Int64)) (.long (0 : Int64)) (.long (0 : Int64))), true)) :: (o5, .inr (.object "java/lang/Object", (oE64 (.ref bx39) .null .null .null .null .null), true)) :: (o4, oHeap (.ref o3) (.ref o2) (.int (1 : Int32))) :: (o3, .inr (.long, (oK64 (.long kb) (.long (0 : Int64)) (.long (0 : Int64)) (.long (0 : Int64)) (.long (0 : Int64)) (.long (0 : Int64))), true)) :: (o2, .inr (.object "java/lang/Object", (oE64 (.ref bx55) .null .null .null .null .null), true)) :: [])) 7 [6, 3, 4, 5, 0, 1, 2] (by decide) (by decide) rfl ?_
          refine Go.callV C (y := yN7) (z := yN7) (a := o1) (as := []) (rest := []) (wd hw 107 rfl) (wd hw 108 rfl) (nf_sel (z := yN7) (wd hw 110 rfl)) (wd hw 110 rfl) (wd hw 109 rfl) (wd hw 111 rfl) (wd hw 2 rfl) (fun _ r => r.exa 0 rfl) (u_SequenceQueue_clear_74 l Z a0 hw _ o1 o7 o6 o5 o4 o3 o2 bx63 bx39 bx55 kc ka (0 : Int64) (0 : Int64) (0 : Int64) (0 : Int64) (0 : Int64) kb (0 : Int64) (0 : Int64) (0 : Int64) (0 : Int64) (0 : Int64) hE_bx63 hE_bx39 hE_bx55) rfl at_66 (q := 69) rfl (by decide) rfl (na := 0) (by decide +kernel) rfl (by decide) (W := 0) rfl (by decide) (by decide) (by decide) (k' := 11) (n' := 524) rfl rfl ?_
          rintro _ _ ⟨o64, o65, o66, o67, rfl, rfl⟩
          show Go _ _ _ _ _ _ _ _ _ _ []
          refine Go.aload C at_69 (q := 71) rfl rfl rfl ?_
          refine Go.pick (M' := ((o1, oQ (.ref o7) (.ref o4) (.int (0 : Int32)) (.long kc) .null) :: (o7, oRun (.ref o67) (.ref o66) (.int (0 : Int32)) (.int (0 : Int32))) :: (o67, .inr (.long, (oK64 (.long (0 : Int64)) (.long (0 : Int64)) (.long (0 : Int64)) (.long (0 : Int64)) (.long (0 : Int64)) (.long (0 : Int64))), true)) :: (o66, .inr (.object "java/lang/Object", (oE64 .null .null .null .null .null .null), true)) :: (o4, oHeap (.ref o65) (.ref o64) (.int (0 : Int32))) :: (o65, .inr (.long, (oK64 (.long (0 : Int64)) (.long (0 : Int64)) (.long (0 : Int64)) (.long (0 : Int64)) (.long (0 : Int64)) (.long (0 : Int64))), true)) :: (o64, .inr (.object "java/lang/Object", (oE64 .null .null .null .null .null .null), true)) :: (o3, .inr (.long, (oK64 (.long kb) (.long (0 : Int64)) (.long (0 : Int64)) (.long (0 : Int64)) (.long (0 : Int64)) (.long (0 : Int64))), true)) :: (o2, .inr (.object "java/lang/Object", (oE64 (.ref bx55) .null .null .null .null .null), true)) :: (o6, .inr (.long, (oK64 (.long ka) (.long (0 : Int64)) (.long (0 : Int64)) (.long (0 : Int64)) (.long (0 : Int64)) (.long (0 : Int64))), true)) :: (o5, .inr (.object "java/lang/Object", (oE64 (.ref bx39) .null .null .null .null .null), true)) :: [])) 11 [10, 7, 6, 5, 2, 1, 0, 3, 4, 8, 9] (by decide) (by decide) rfl ?_
          refine Go.callV C (y := yN8) (z := yN8) (a := o1) (as := []) (rest := []) (wd hw 125 rfl) (wd hw 126 rfl) (nf_sel (z := yN8) (wd hw 128 rfl)) (wd hw 128 rfl) (wd hw 127 rfl) (wd hw 129 rfl) (wd hw 2 rfl) (fun _ r => r.exa 0 rfl) (u_SequenceQueue_isEmpty_18 l Z a0 hw _ o1 o7 o67 o66 o4 o65 o64 kc (0 : Int64) (0 : Int64) (0 : Int64) (0 : Int64) (0 : Int64) (0 : Int64) (0 : Int64) (0 : Int64) (0 : Int64) (0 : Int64) (0 : Int64) (0 : Int64)) rfl at_71 (q := 74) rfl (by decide) rfl (na := 0) (by decide +kernel) rfl (by decide) (W := 0) rfl (by decide) (by decide) (by decide) (k' := 11) (n' := 524) rfl rfl ?_
          rintro _ _ ⟨rfl, rfl⟩
          show Go _ _ _ _ _ _ _ _ _ _ [(.int (1 : Int32))]
          refine Go.istore C at_74 (q := 76) rfl (Ls' := #[.val (.long ka), .second, .val (.long kb), .second, .val (.long kc), .second, .val (.long kd), .second, .val (.int fl), .val (.ref o1), .val (.int (fl &&& (3 : Int32))), .val (.int (1 : Int32)), .unset, .unset, .unset, .unset]) rfl ?_
          refine Go.aload C at_76 (q := 78) rfl rfl rfl ?_
          refine Go.callV C (y := yN9) (z := yN9) (a := o1) (as := []) (rest := []) (wd hw 131 rfl) (wd hw 132 rfl) (nf_sel (z := yN9) (wd hw 134 rfl)) (wd hw 134 rfl) (wd hw 133 rfl) (wd hw 135 rfl) (wd hw 2 rfl) (fun _ r => r.exa 0 rfl) (u_SequenceQueue_firstKey_20 l Z a0 hw _ o1 o7 o67 o66 o4 o65 o64 kc (0 : Int64) (0 : Int64) (0 : Int64) (0 : Int64) (0 : Int64) (0 : Int64) (0 : Int64) (0 : Int64) (0 : Int64) (0 : Int64) (0 : Int64) (0 : Int64)) rfl at_78 (q := 81) rfl (by decide) rfl (na := 0) (by decide +kernel) rfl (by decide) (W := 0) rfl (by decide) (by decide) (by decide) (k' := 11) (n' := 524) rfl rfl ?_
          rintro _ _ ⟨rfl, rfl⟩
          show Go _ _ _ _ _ _ _ _ _ _ [(.long (9223372036854775807 : Int64))]
          refine Go.ldc2J C (v := (9223372036854775807 : Int64)) (wd hw 137 rfl) at_81 (q := 84) rfl ?_
          refine Go.lcmp C at_84 rfl ?_
          refine Go.ifNo C at_85 (q := 88) rfl (XT.ll_ne_f (by decide)) ?_
          refine Go.iconst C at_88 (q := 89) rfl (v := (1 : Int32)) rfl ?_
          refine Go.goto C at_89 (by decide) (q := 93) rfl ?_
          refine Go.istore C at_93 (q := 95) rfl (Ls' := #[.val (.long ka), .second, .val (.long kb), .second, .val (.long kc), .second, .val (.long kd), .second, .val (.int fl), .val (.ref o1), .val (.int (fl &&& (3 : Int32))), .val (.int (1 : Int32)), .val (.int (1 : Int32)), .unset, .unset, .unset]) rfl ?_
          refine Go.aload C at_95 (q := 97) rfl rfl rfl ?_
          refine Go.callV C (y := yN13) (z := yN13) (a := o1) (as := []) (rest := []) (wd hw 138 rfl) (wd hw 139 rfl) (nf_sel (z := yN13) (wd hw 141 rfl)) (wd hw 141 rfl) (wd hw 140 rfl) (wd hw 142 rfl) (wd hw 2 rfl) (fun _ r => r.exa 0 rfl) (u_SequenceQueue_elements_22 l Z a0 hw _ o1 o7 o67 o66 o4 o65 o64 kc (0 : Int64) (0 : Int64) (0 : Int64) (0 : Int64) (0 : Int64) (0 : Int64) (0 : Int64) (0 : Int64) (0 : Int64) (0 : Int64) (0 : Int64) (0 : Int64)) rfl at_97 (q := 100) rfl (by decide) rfl (na := 0) (by decide +kernel) rfl (by decide) (W := 0) rfl (by decide) (by decide) (by decide) (k' := 13) (n' := 528) rfl rfl ?_
          rintro _ _ ⟨o68, o69, rfl, rfl⟩
          show Go _ _ _ _ _ _ _ _ _ _ [(.ref o69)]
          refine Go.pick (M' := ((o69, oAL (.int (0 : Int32)) (.ref o68) (.int (0 : Int32))) :: (o68, .inr (.object "java/lang/Object", [.null], true)) :: (o1, oQ (.ref o7) (.ref o4) (.int (0 : Int32)) (.long kc) .null) :: (o7, oRun (.ref o67) (.ref o66) (.int (0 : Int32)) (.int (0 : Int32))) :: (o67, .inr (.long, (oK64 (.long (0 : Int64)) (.long (0 : Int64)) (.long (0 : Int64)) (.long (0 : Int64)) (.long (0 : Int64)) (.long (0 : Int64))), true)) :: (o66, .inr (.object "java/lang/Object", (oE64 .null .null .null .null .null .null), true)) :: (o4, oHeap (.ref o65) (.ref o64) (.int (0 : Int32))) :: (o65, .inr (.long, (oK64 (.long (0 : Int64)) (.long (0 : Int64)) (.long (0 : Int64)) (.long (0 : Int64)) (.long (0 : Int64)) (.long (0 : Int64))), true)) :: (o64, .inr (.object "java/lang/Object", (oE64 .null .null .null .null .null .null), true)) :: (o3, .inr (.long, (oK64 (.long kb) (.long (0 : Int64)) (.long (0 : Int64)) (.long (0 : Int64)) (.long (0 : Int64)) (.long (0 : Int64))), true)) :: (o2, .inr (.object "java/lang/Object", (oE64 (.ref bx55) .null .null .null .null .null), true)) :: (o6, .inr (.long, (oK64 (.long ka) (.long (0 : Int64)) (.long (0 : Int64)) (.long (0 : Int64)) (.long (0 : Int64)) (.long (0 : Int64))), true)) :: (o5, .inr (.object "java/lang/Object", (oE64 (.ref bx39) .null .null .null .null .null), true)) :: [])) 13 [1, 0, 2, 3, 4, 5, 6, 7, 8, 9, 10, 11, 12] (by decide) (by decide) rfl ?_
          refine Go.callF C (y := yN15) (z := yN14) (a := o69) (as := []) (rest := []) (wd hw 167 rfl) (wd hw 168 rfl) (wd hw 169 rfl) (wd hw 170 rfl) (wd hw 171 rfl) (wd hw 172 rfl) (wd hw 173 rfl) (wd hw 174 rfl) (wd hw 175 rfl) (wd hw 145 rfl) (fun _ r => r.exa 0 rfl) (u_ArrayList_size_30 l Z a0 hw _ o69 o68) rfl at_100 (q := 105) rfl (by decide) rfl (na := 0) (by decide +kernel) rfl (by decide) (W := 0) rfl (by decide) (by decide) (by decide) (k' := 13) (n' := 528) rfl rfl ?_
          rintro _ _ ⟨rfl, rfl⟩
          show Go _ _ _ _ _ _ _ _ _ _ [(.int (0 : Int32))]
          refine Go.ifNo C at_105 (q := 108) rfl (XT.i0_ne_f (by decide)) ?_
          refine Go.iconst C at_108 (q := 109) rfl (v := (1 : Int32)) rfl ?_
          refine Go.goto C at_109 (by decide) (q := 113) rfl ?_
          refine Go.istore C at_113 (q := 115) rfl (Ls' := #[.val (.long ka), .second, .val (.long kb), .second, .val (.long kc), .second, .val (.long kd), .second, .val (.int fl), .val (.ref o1), .val (.int (fl &&& (3 : Int32))), .val (.int (1 : Int32)), .val (.int (1 : Int32)), .val (.int (1 : Int32)), .unset, .unset]) rfl ?_
          refine Go.aload C at_115 (q := 117) rfl rfl rfl ?_
          refine Go.lload C at_117 (q := 119) rfl rfl ?_
          refine Go.iconst C at_119 (q := 120) rfl (v := (4 : Int32)) rfl ?_
          refine Go.callS C (y := yN16) (as := [(.int (4 : Int32))]) (rest := [(.long kd), (.ref o1)]) (wd hw 41 rfl) (wd hw 42 rfl) (wd hw 43 rfl) (wd hw 44 rfl) (m_valueOf4 l Z a0 hw _ cb cs S_high S_cache A_cache H_cache) rfl at_120 (q := 123) rfl (by decide) rfl (na := 1) (by decide +kernel) rfl (by decide) (W := 3) rfl (by decide) (by decide) (by decide) (k' := 13) (n' := 528) rfl rfl ?_
          rintro _ _ ⟨bx70, rfl, rfl, hE_bx70, hF_bx70⟩
          show Go _ _ _ _ _ _ _ _ _ _ [(.ref bx70), (.long kd), (.ref o1)]
          refine Go.pick (M' := ((o1, oQ (.ref o7) (.ref o4) (.int (0 : Int32)) (.long kc) .null) :: (o7, oRun (.ref o67) (.ref o66) (.int (0 : Int32)) (.int (0 : Int32))) :: (o67, .inr (.long, (oK64 (.long (0 : Int64)) (.long (0 : Int64)) (.long (0 : Int64)) (.long (0 : Int64)) (.long (0 : Int64)) (.long (0 : Int64))), true)) :: (o66, .inr (.object "java/lang/Object", (oE64 .null .null .null .null .null .null), true)) :: (o4, oHeap (.ref o65) (.ref o64) (.int (0 : Int32))) :: (o65, .inr (.long, (oK64 (.long (0 : Int64)) (.long (0 : Int64)) (.long (0 : Int64)) (.long (0 : Int64)) (.long (0 : Int64)) (.long (0 : Int64))), true)) :: (o64, .inr (.object "java/lang/Object", (oE64 .null .null .null .null .null .null), true)) :: (o69, oAL (.int (0 : Int32)) (.ref o68) (.int (0 : Int32))) :: (o68, .inr (.object "java/lang/Object", [.null], true)) :: (o3, .inr (.long, (oK64 (.long kb) (.long (0 : Int64)) (.long (0 : Int64)) (.long (0 : Int64)) (.long (0 : Int64)) (.long (0 : Int64))), true)) :: (o2, .inr (.object "java/lang/Object", (oE64 (.ref bx55) .null .null .null .null .null), true)) :: (o6, .inr (.long, (oK64 (.long ka) (.long (0 : Int64)) (.long (0 : Int64)) (.long (0 : Int64)) (.long (0 : Int64)) (.long (0 : Int64))), true)) :: (o5, .inr (.object "java/lang/Object", (oE64 (.ref bx39) .null .null .null .null .null), true)) :: [])) 13 [2, 3, 4, 5, 6, 7, 8, 0, 1, 9, 10, 11, 12] (by decide) (by decide) rfl ?_
          refine Go.callV C (y := yN17) (z := yN17) (a := o1) (as := [(.long kd), (.ref bx70)]) (rest := []) (wd hw 48 rfl) (wd hw 49 rfl) (nf_sel (z := yN17) (wd hw 51 rfl)) (wd hw 51 rfl) (wd hw 50 rfl) (wd hw 52 rfl) (wd hw 2 rfl) (fun _ r => r.exa 0 rfl) (u_SequenceQueue_add_32 l Z a0 hw _ o1 o7 o67 o66 o4 o65 o64 bx70 kd kc (0 : Int64) (0 : Int64) (0 : Int64) (0 : Int64) (0 : Int64) (0 : Int64) (0 : Int64) (0 : Int64) (0 : Int64) (0 : Int64) (0 : Int64) (0 : Int64) hE_bx70) rfl at_123 (q := 126) rfl (by decide) rfl (na := 2) (by decide +kernel) rfl (by decide) (W := 0) rfl (by decide) (by decide) (by decide) (k' := 13) (n' := 528) rfl rfl ?_
          rintro _ _ ⟨rfl, rfl⟩
          show Go _ _ _ _ _ _ _ _ _ _ []
          refine Go.aload C at_126 (q := 128) rfl rfl rfl ?_
          refine Go.callV C (y := yN18) (z := yN18) (a := o1) (as := []) (rest := []) (wd hw 178 rfl) (wd hw 179 rfl) (nf_sel (z := yN18) (wd hw 181 rfl)) (wd hw 181 rfl) (wd hw 180 rfl) (wd hw 182 rfl) (wd hw 2 rfl) (fun _ r => r.exa 0 rfl) (u_SequenceQueue_poll_34 l Z a0 hw _ o1 o7 o67 o66 o4 o65 o64 bx70 kd (0 : Int64) (0 : Int64) (0 : Int64) (0 : Int64) (0 : Int64) (0 : Int64) (0 : Int64) (0 : Int64) (0 : Int64) (0 : Int64) (0 : Int64) (0 : Int64) hE_bx70) rfl at_128 (q := 131) rfl (by decide) rfl (na := 0) (by decide +kernel) rfl (by decide) (W := 0) rfl (by decide) (by decide) (by decide) (k' := 13) (n' := 528) rfl rfl ?_
          rintro _ _ ⟨rfl, rfl⟩
          show Go _ _ _ _ _ _ _ _ _ _ [(.ref bx70)]
          refine Go.castY C (wd hw 183 rfl) (fun _ r => Ins.self ((hE_bx70).ext r.1)) at_131 (q := 134) rfl ?_
          refine Go.astore C at_134 (q := 136) rfl rfl (Ls' := #[.val (.long ka), .second, .val (.long kb), .second, .val (.long kc), .second, .val (.long kd), .second, .val (.int fl), .val (.ref o1), .val (.int (fl &&& (3 : Int32))), .val (.int (1 : Int32)), .val (.int (1 : Int32)), .val (.int (1 : Int32)), .val (.ref bx70), .unset]) rfl ?_
          refine Go.aload C at_136 (q := 138) rfl rfl rfl ?_
          refine Go.nullNo C at_138 (q := 141) rfl rfl (by simp) ?_
          refine Go.aload C at_141 (q := 143) rfl rfl rfl ?_
          refine Go.callV C (y := yN19) (z := yN19) (a := bx70) (as := []) (rest := []) (wd hw 185 rfl) (wd hw 186 rfl) (nf_sel (z := yN19) (wd hw 188 rfl)) (wd hw 188 rfl) (wd hw 187 rfl) (wd hw 189 rfl) (wd hw 43 rfl) (fun _ r => (hE_bx70).ext r.1) (u_Integer_intValue_36 l Z a0 hw _ bx70 hE_bx70 hF_bx70) rfl at_143 (q := 146) rfl (by decide) rfl (na := 0) (by decide +kernel) rfl (by decide) (W := 0) rfl (by decide) (by decide) (by decide) (k' := 13) (n' := 528) rfl rfl ?_
          rintro _ _ ⟨rfl, rfl⟩
          show Go _ _ _ _ _ _ _ _ _ _ [(.int (4 : Int32))]
          refine Go.iconst C at_146 (q := 147) rfl (v := (4 : Int32)) rfl ?_
          refine Go.icmpNo C at_147 (q := 150) rfl (XT.ii_ne_f (by decide)) ?_
          refine Go.aload C at_150 (q := 152) rfl rfl rfl ?_
          refine Go.callV C (y := yN8) (z := yN8) (a := o1) (as := []) (rest := []) (wd hw 125 rfl) (wd hw 126 rfl) (nf_sel (z := yN8) (wd hw 128 rfl)) (wd hw 128 rfl) (wd hw 127 rfl) (wd hw 129 rfl) (wd hw 2 rfl) (fun _ r => r.exa 0 rfl) (u_SequenceQueue_isEmpty_18 l Z a0 hw _ o1 o7 o67 o66 o4 o65 o64 kd (0 : Int64) (0 : Int64) (0 : Int64) (0 : Int64) (0 : Int64) (0 : Int64) (0 : Int64) (0 : Int64) (0 : Int64) (0 : Int64) (0 : Int64) (0 : Int64)) rfl at_152 (q := 155) rfl (by decide) rfl (na := 0) (by decide +kernel) rfl (by decide) (W := 0) rfl (by decide) (by decide) (by decide) (k' := 13) (n' := 528) rfl rfl ?_
          rintro _ _ ⟨rfl, rfl⟩
          show Go _ _ _ _ _ _ _ _ _ _ [(.int (1 : Int32))]
          refine Go.ifNo C at_155 (q := 158) rfl (XT.i0_eq_f (by decide)) ?_
          refine Go.iconst C at_158 (q := 159) rfl (v := (1 : Int32)) rfl ?_
          refine Go.goto C at_159 (by decide) (q := 163) rfl ?_
          refine Go.istore C at_163 (q := 165) rfl (Ls' := #[.val (.long ka), .second, .val (.long kb), .second, .val (.long kc), .second, .val (.long kd), .second, .val (.int fl), .val (.ref o1), .val (.int (fl &&& (3 : Int32))), .val (.int (1 : Int32)), .val (.int (1 : Int32)), .val (.int (1 : Int32)), .val (.ref bx70), .val (.int (1 : Int32))]) rfl ?_
          refine Go.iload C at_165 (q := 167) rfl rfl ?_
          refine Go.ifNo C at_167 (q := 170) rfl (XT.i0_eq_f (by decide)) ?_
          refine Go.iload C at_170 (q := 172) rfl rfl ?_
          refine Go.ifNo C at_172 (q := 175) rfl (XT.i0_eq_f (by decide)) ?_
          refine Go.iload C at_175 (q := 177) rfl rfl ?_
          refine Go.ifNo C at_177 (q := 180) rfl (XT.i0_eq_f (by decide)) ?_
          refine Go.iload C at_180 (q := 182) rfl rfl ?_
          refine Go.ifNo C at_182 (q := 185) rfl (XT.i0_eq_f (by decide)) ?_
          refine Go.iconst C at_185 (q := 186) rfl (v := (1 : Int32)) rfl ?_
          refine Go.goto C at_186 (by decide) (q := 190) rfl ?_
          refine Go.retZ C rfl (by decide) at_190 (by decide) (by decide) ?_
          exact rfl
        · show Go _ _ _ _ _ _ _ _ _ _ []
          refine Go.aload C at_64 (q := 66) rfl rfl rfl ?_
          refine Go.pick (M' := ((o1, oQ (.ref o7) (.ref o4) (.int (1 : Int32)) (.long kc) (.ref bx63)) :: (o7, oRun (.ref o6) (.ref o5) (.int (2 : Int32)) (.int (0 : Int32))) :: (o6, .inr (.long, (oK64 (.long ka) (.long kb) (.long (0 : Int64)) (.long (0 : Int64)) (.long (0 : Int64)) (.long (0 : Int64))), true)) :: (o5, .inr (.object "java/lang/Object", (oE64 (.ref bx39) (.ref bx55) .null .null .null .null), true)) :: (o4, oHeap (.ref o3) (.ref o2) (.int (0 : Int32))) :: (o3, .inr (.long, (oK64 (.long (0 : Int64)) (.long (0 : Int64)) (.long (0 : Int64)) (.long (0 : Int64)) (.long (0 : Int64)) (.long (0 : Int64))), true)) :: (o2, .inr (.object "java/lang/Object", (oE64 .null .null .null .null .null .null), true)) :: [])) 7 [3, 0, 1, 2, 4, 5, 6] (by decide) (by decide) rfl ?_
          refine Go.callV C (y := yN7) (z := yN7) (a := o1) (as := []) (rest := []) (wd hw 107 rfl) (wd hw 108 rfl) (nf_sel (z := yN7) (wd hw 110 rfl)) (wd hw 110 rfl) (wd hw 109 rfl) (wd hw 111 rfl) (wd hw 2 rfl) (fun _ r => r.exa 0 rfl) (u_SequenceQueue_clear_78 l Z a0 hw _ o1 o7 o6 o5 o4 o3 o2 bx63 bx39 bx55 kc ka kb (0 : Int64) (0 : Int64) (0 : Int64) (0 : Int64) (0 : Int64) (0 : Int64) (0 : Int64) (0 : Int64) (0 : Int64) (0 : Int64) hE_bx63 hE_bx39 hE_bx55) rfl at_66 (q := 69) rfl (by decide) rfl (na := 0) (by decide +kernel) rfl (by decide) (W := 0) rfl (by decide) (by decide) (by decide) (k' := 11) (n' := 524) rfl rfl ?_
          rintro _ _ ⟨o71, o72, o73, o74, rfl, rfl⟩
          show Go _ _ _ _ _ _ _ _ _ _ []
          refine Go.aload C at_69 (q := 71) rfl rfl rfl ?_
          refine Go.pick (M' := ((o1, oQ (.ref o7) (.ref o4) (.int (0 : Int32)) (.long kc) .null) :: (o7, oRun (.ref o74) (.ref o73) (.int (0 : Int32)) (.int (0 : Int32))) :: (o74, .inr (.long, (oK64 (.long (0 : Int64)) (.long (0 : Int64)) (.long (0 : Int64)) (.long (0 : Int64)) (.long (0 : Int64)) (.long (0 : Int64))), true)) :: (o73, .inr (.object "java/lang/Object", (oE64 .null .null .null .null .null .null), true)) :: (o4, oHeap (.ref o72) (.ref o71) (.int (0 : Int32))) :: (o72, .inr (.long, (oK64 (.long (0 : Int64)) (.long (0 : Int64)) (.long (0 : Int64)) (.long (0 : Int64)) (.long (0 : Int64)) (.long (0 : Int64))), true)) :: (o71, .inr (.object "java/lang/Object", (oE64 .null .null .null .null .null .null), true)) :: (o3, .inr (.long, (oK64 (.long (0 : Int64)) (.long (0 : Int64)) (.long (0 : Int64)) (.long (0 : Int64)) (.long (0 : Int64)) (.long (0 : Int64))), true)) :: (o2, .inr (.object "java/lang/Object", (oE64 .null .null .null .null .null .null), true)) :: (o6, .inr (.long, (oK64 (.long ka) (.long kb) (.long (0 : Int64)) (.long (0 : Int64)) (.long (0 : Int64)) (.long (0 : Int64))), true)) :: (o5, .inr (.object "java/lang/Object", (oE64 (.ref bx39) (.ref bx55) .null .null .null .null), true)) :: [])) 11 [10, 7, 6, 5, 2, 1, 0, 3, 4, 8, 9] (by decide) (by decide) rfl ?_
          refine Go.callV C (y := yN8) (z := yN8) (a := o1) (as := []) (rest := []) (wd hw 125 rfl) (wd hw 126 rfl) (nf_sel (z := yN8) (wd hw 128 rfl)) (wd hw 128 rfl) (wd hw 127 rfl) (wd hw 129 rfl) (wd hw 2 rfl) (fun _ r => r.exa 0 rfl) (u_SequenceQueue_isEmpty_18 l Z a0 hw _ o1 o7 o74 o73 o4 o72 o71 kc (0 : Int64) (0 : Int64) (0 : Int64) (0 : Int64) (0 : Int64) (0 : Int64) (0 : Int64) (0 : Int64) (0 : Int64) (0 : Int64) (0 : Int64) (0 : Int64)) rfl at_71 (q := 74) rfl (by decide) rfl (na := 0) (by decide +kernel) rfl (by decide) (W := 0) rfl (by decide) (by decide) (by decide) (k' := 11) (n' := 524) rfl rfl ?_
          rintro _ _ ⟨rfl, rfl⟩
          show Go _ _ _ _ _ _ _ _ _ _ [(.int (1 : Int32))]
          refine Go.istore C at_74 (q := 76) rfl (Ls' := #[.val (.long ka), .second, .val (.long kb), .second, .val (.long kc), .second, .val (.long kd), .second, .val (.int fl), .val (.ref o1), .val (.int (fl &&& (3 : Int32))), .val (.int (1 : Int32)), .unset, .unset, .unset, .unset]) rfl ?_
          refine Go.aload C at_76 (q := 78) rfl rfl rfl ?_
          refine Go.callV C (y := yN9) (z := yN9) (a := o1) (as := []) (rest := []) (wd hw 131 rfl) (wd hw 132 rfl) (nf_sel (z := yN9) (wd hw 134 rfl)) (wd hw 134 rfl) (wd hw 133 rfl) (wd hw 135 rfl) (wd hw 2 rfl) (fun _ r => r.exa 0 rfl) (u_SequenceQueue_firstKey_20 l Z a0 hw _ o1 o7 o74 o73 o4 o72 o71 kc (0 : Int64) (0 : Int64) (0 : Int64) (0 : Int64) (0 : Int64) (0 : Int64) (0 : Int64) (0 : Int64) (0 : Int64) (0 : Int64) (0 : Int64) (0 : Int64)) rfl at_78 (q := 81) rfl (by decide) rfl (na := 0) (by decide +kernel) rfl (by decide) (W := 0) rfl (by decide) (by decide) (by decide) (k' := 11) (n' := 524) rfl rfl ?_
          rintro _ _ ⟨rfl, rfl⟩
          show Go _ _ _ _ _ _ _ _ _ _ [(.long (9223372036854775807 : Int64))]
          refine Go.ldc2J C (v := (9223372036854775807 : Int64)) (wd hw 137 rfl) at_81 (q := 84) rfl ?_
          refine Go.lcmp C at_84 rfl ?_
          refine Go.ifNo C at_85 (q := 88) rfl (XT.ll_ne_f (by decide)) ?_
          refine Go.iconst C at_88 (q := 89) rfl (v := (1 : Int32)) rfl ?_
          refine Go.goto C at_89 (by decide) (q := 93) rfl ?_
          refine Go.istore C at_93 (q := 95) rfl (Ls' := #[.val (.long ka), .second, .val (.long kb), .second, .val (.long kc), .second, .val (.long kd), .second, .val (.int fl), .val (.ref o1), .val (.int (fl &&& (3 : Int32))), .val (.int (1 : Int32)), .val (.int (1 : Int32)), .unset, .unset, .unset]) rfl ?_
          refine Go.aload C at_95 (q := 97) rfl rfl rfl ?_
          refine Go.callV C (y := yN13) (z := yN13) (a := o1) (as := []) (rest := []) (wd hw 138 rfl) (wd hw 139 rfl) (nf_sel (z := yN13) (wd hw 141 rfl)) (wd hw 141 rfl) (wd hw 140 rfl) (wd hw 142 rfl) (wd hw 2 rfl) (fun _ r => r.exa 0 rfl) (u_SequenceQueue_elements_22 l Z a0 hw _ o1 o7 o74 o73 o4 o72 o71 kc (0 : Int64) (0 : Int64) (0 : Int64) (0 : Int64) (0 : Int64) (0 : Int64) (0 : Int64) (0 : Int64) (0 : Int64) (0 : Int64) (0 : Int64) (0 : Int64)) rfl at_97 (q := 100) rfl (by decide) rfl (na := 0) (by decide +kernel) rfl (by decide) (W := 0) rfl (by decide) (by decide) (by decide) (k' := 13) (n' := 528) rfl rfl ?_
          rintro _ _ ⟨o75, o76, rfl, rfl⟩
          show Go _ _ _ _ _ _ _ _ _ _ [(.ref o76)]
          refine Go.pick (M' := ((o76, oAL (.int (0 : Int32)) (.ref o75) (.int (0 : Int32))) :: (o75, .inr (.object "java/lang/Object", [.null], true)) :: (o1, oQ (.ref o7) (.ref o4) (.int (0 : Int32)) (.long kc) .null) :: (o7, oRun (.ref o74) (.ref o73) (.int (0 : Int32)) (.int (0 : Int32))) :: (o74, .inr (.long, (oK64 (.long (0 : Int64)) (.long (0 : Int64)) (.long (0 : Int64)) (.long (0 : Int64)) (.long (0 : Int64)) (.long (0 : Int64))), true)) :: (o73, .inr (.object "java/lang/Object", (oE64 .null .null .null .null .null .null), true)) :: (o4, oHeap (.ref o72) (.ref o71) (.int (0 : Int32))) :: (o72, .inr (.long, (oK64 (.long (0 : Int64)) (.long (0 : Int64)) (.long (0 : Int64)) (.long (0 : Int64)) (.long (0 : Int64)) (.long (0 : Int64))), true)) :: (o71, .inr (.object "java/lang/Object", (oE64 .null .null .null .null .null .null), true)) :: (o3, .inr (.long, (oK64 (.long (0 : Int64)) (.long (0 : Int64)) (.long (0 : Int64)) (.long (0 : Int64)) (.long (0 : Int64)) (.long (0 : Int64))), true)) :: (o2, .inr (.object "java/lang/Object", (oE64 .null .null .null .null .null .null), true)) :: (o6, .inr (.long, (oK64 (.long ka) (.long kb) (.long (0 : Int64)) (.long (0 : Int64)) (.long (0 : Int64)) (.long (0 : Int64))), true)) :: (o5, .inr (.object "java/lang/Object", (oE64 (.ref bx39) (.ref bx55) .null .null .null .null), true)) :: [])) 13 [1, 0, 2, 3, 4, 5, 6, 7, 8, 9, 10, 11, 12] (by decide) (by decide) rfl ?_
          refine Go.callF C (y := yN15) (z := yN14) (a := o76) (as := []) (rest := []) (wd hw 167 rfl) (wd hw 168 rfl) (wd hw 169 rfl) (wd hw 170 rfl) (wd hw 171 rfl) (wd hw 172 rfl) (wd hw 173 rfl) (wd hw 174 rfl) (wd hw 175 rfl) (wd hw 145 rfl) (fun _ r => r.exa 0 rfl) (u_ArrayList_size_30 l Z a0 hw _ o76 o75) rfl at_100 (q := 105) rfl (by decide) rfl (na := 0) (by decide +kernel) rfl (by decide) (W := 0) rfl (by decide) (by decide) (by decide) (k' := 13) (n' := 528) rfl rfl ?_
          rintro _ _ ⟨rfl, rfl⟩
          show Go _ _ _ _ _ _ _ _ _ _ [(.int (0 : Int32))]
          refine Go.ifNo C at_105 (q := 108) rfl (XT.i0_ne_f (by decide)) ?_
          refine Go.iconst C at_108 (q := 109) rfl (v := (1 : Int32)) rfl ?_
          refine Go.goto C at_109 (by decide) (q := 113) rfl ?_
          refine Go.istore C at_113 (q := 115) rfl (Ls' := #[.val (.long ka), .second, .val (.long kb), .second, .val (.long kc), .second, .val (.long kd), .second, .val (.int fl), .val (.ref o1), .val (.int (fl &&& (3 : Int32))), .val (.int (1 : Int32)), .val (.int (1 : Int32)), .val (.int (1 : Int32)), .unset, .unset]) rfl ?_
          refine Go.aload C at_115 (q := 117) rfl rfl rfl ?_
          refine Go.lload C at_117 (q := 119) rfl rfl ?_
          refine Go.iconst C at_119 (q := 120) rfl (v := (4 : Int32)) rfl ?_
          refine Go.callS C (y := yN16) (as := [(.int (4 : Int32))]) (rest := [(.long kd), (.ref o1)]) (wd hw 41 rfl) (wd hw 42 rfl) (wd hw 43 rfl) (wd hw 44 rfl) (m_valueOf4 l Z a0 hw _ cb cs S_high S_cache A_cache H_cache) rfl at_120 (q := 123) rfl (by decide) rfl (na := 1) (by decide +kernel) rfl (by decide) (W := 3) rfl (by decide) (by decide) (by decide) (k' := 13) (n' := 528) rfl rfl ?_
          rintro _ _ ⟨bx77, rfl, rfl, hE_bx77, hF_bx77⟩
          show Go _ _ _ _ _ _ _ _ _ _ [(.ref bx77), (.long kd), (.ref o1)]
          refine Go.pick (M' := ((o1, oQ (.ref o7) (.ref o4) (.int (0 : Int32)) (.long kc) .null) :: (o7, oRun (.ref o74) (.ref o73) (.int (0 : Int32)) (.int (0 : Int32))) :: (o74, .inr (.long, (oK64 (.long (0 : Int64)) (.long (0 : Int64)) (.long (0 : Int64)) (.long (0 : Int64)) (.long (0 : Int64)) (.long (0 : Int64))), true)) :: (o73, .inr (.object "java/lang/Object", (oE64 .null .null .null .null .null .null), true)) :: (o4, oHeap (.ref o72) (.ref o71) (.int (0 : Int32))) :: (o72, .inr (.long, (oK64 (.long (0 : Int64)) (.long (0 : Int64)) (.long (0 : Int64)) (.long (0 : Int64)) (.long (0 : Int64)) (.long (0 : Int64))), true)) :: (o71, .inr (.object "java/lang/Object", (oE64 .null .null .null .null .null .null), true)) :: (o76, oAL (.int (0 : Int32)) (.ref o75) (.int (0 : Int32))) :: (o75, .inr (.object "java/lang/Object", [.null], true)) :: (o3, .inr (.long, (oK64 (.long (0 : Int64)) (.long (0 : Int64)) (.long (0 : Int64)) (.long (0 : Int64)) (.long (0 : Int64)) (.long (0 : Int64))), true)) :: (o2, .inr (.object "java/lang/Object", (oE64 .null .null .null .null .null .null), true)) :: (o6, .inr (.long, (oK64 (.long ka) (.long kb) (.long (0 : Int64)) (.long (0 : Int64)) (.long (0 : Int64)) (.long (0 : Int64))), true)) :: (o5, .inr (.object "java/lang/Object", (oE64 (.ref bx39) (.ref bx55) .null .null .null .null), true)) :: [])) 13 [2, 3, 4, 5, 6, 7, 8, 0, 1, 9, 10, 11, 12] (by decide) (by decide) rfl ?_
          refine Go.callV C (y := yN17) (z := yN17) (a := o1) (as := [(.long kd), (.ref bx77)]) (rest := []) (wd hw 48 rfl) (wd hw 49 rfl) (nf_sel (z := yN17) (wd hw 51 rfl)) (wd hw 51 rfl) (wd hw 50 rfl) (wd hw 52 rfl) (wd hw 2 rfl) (fun _ r => r.exa 0 rfl) (u_SequenceQueue_add_32 l Z a0 hw _ o1 o7 o74 o73 o4 o72 o71 bx77 kd kc (0 : Int64) (0 : Int64) (0 : Int64) (0 : Int64) (0 : Int64) (0 : Int64) (0 : Int64) (0 : Int64) (0 : Int64) (0 : Int64) (0 : Int64) (0 : Int64) hE_bx77) rfl at_123 (q := 126) rfl (by decide) rfl (na := 2) (by decide +kernel) rfl (by decide) (W := 0) rfl (by decide) (by decide) (by decide) (k' := 13) (n' := 528) rfl rfl ?_
          rintro _ _ ⟨rfl, rfl⟩
          show Go _ _ _ _ _ _ _ _ _ _ []
          refine Go.aload C at_126 (q := 128) rfl rfl rfl ?_
          refine Go.callV C (y := yN18) (z := yN18) (a := o1) (as := []) (rest := []) (wd hw 178 rfl) (wd hw 179 rfl) (nf_sel (z := yN18) (wd hw 181 rfl)) (wd hw 181 rfl) (wd hw 180 rfl) (wd hw 182 rfl) (wd hw 2 rfl) (fun _ r => r.exa 0 rfl) (u_SequenceQueue_poll_34 l Z a0 hw _ o1 o7 o74 o73 o4 o72 o71 bx77 kd (0 : Int64) (0 : Int64) (0 : Int64) (0 : Int64) (0 : Int64) (0 : Int64) (0 : Int64) (0 : Int64) (0 : Int64) (0 : Int64) (0 : Int64) (0 : Int64) hE_bx77) rfl at_128 (q := 131) rfl (by decide) rfl (na := 0) (by decide +kernel) rfl (by decide) (W := 0) rfl (by decide) (by decide) (by decide) (k' := 13) (n' := 528) rfl rfl ?_
          rintro _ _ ⟨rfl, rfl⟩
          show Go _ _ _ _ _ _ _ _ _ _ [(.ref bx77)]
          refine Go.castY C (wd hw 183 rfl) (fun _ r => Ins.self ((hE_bx77).ext r.1)) at_131 (q := 134) rfl ?_
          refine Go.astore C at_134 (q := 136) rfl rfl (Ls' := #[.val (.long ka), .second, .val (.long kb), .second, .val (.long kc), .second, .val (.long kd), .second, .val (.int fl), .val (.ref o1), .val (.int (fl &&& (3 : Int32))), .val (.int (1 : Int32)), .val (.int (1 : Int32)), .val (.int (1 : Int32)), .val (.ref bx77), .unset]) rfl ?_
          refine Go.aload C at_136 (q := 138) rfl rfl rfl ?_
          refine Go.nullNo C at_138 (q := 141) rfl rfl (by simp) ?_
          refine Go.aload C at_141 (q := 143) rfl rfl rfl ?_
          refine Go.callV C (y := yN19) (z := yN19) (a := bx77) (as := []) (rest := []) (wd hw 185 rfl) (wd hw 186 rfl) (nf_sel (z := yN19) (wd hw 188 rfl)) (wd hw 188 rfl) (wd hw 187 rfl) (wd hw 189 rfl) (wd hw 43 rfl) (fun _ r => (hE_bx77).ext r.1) (u_Integer_intValue_36 l Z a0 hw _ bx77 hE_bx77 hF_bx77) rfl at_143 (q := 146) rfl (by decide) rfl (na := 0) (by decide +kernel) rfl (by decide) (W := 0) rfl (by decide) (by decide) (by decide) (k' := 13) (n' := 528) rfl rfl ?_
          rintro _ _ ⟨rfl, rfl⟩
          show Go _ _ _ _ _ _ _ _ _ _ [(.int (4 : Int32))]
          refine Go.iconst C at_146 (q := 147) rfl (v := (4 : Int32)) rfl ?_
          refine Go.icmpNo C at_147 (q := 150) rfl (XT.ii_ne_f (by decide)) ?_
          refine Go.aload C at_150 (q := 152) rfl rfl rfl ?_
          refine Go.callV C (y := yN8) (z := yN8) (a := o1) (as := []) (rest := []) (wd hw 125 rfl) (wd hw 126 rfl) (nf_sel (z := yN8) (wd hw 128 rfl)) (wd hw 128 rfl) (wd hw 127 rfl) (wd hw 129 rfl) (wd hw 2 rfl) (fun _ r => r.exa 0 rfl) (u_SequenceQueue_isEmpty_18 l Z a0 hw _ o1 o7 o74 o73 o4 o72 o71 kd (0 : Int64) (0 : Int64) (0 : Int64) (0 : Int64) (0 : Int64) (0 : Int64) (0 : Int64) (0 : Int64) (0 : Int64) (0 : Int64) (0 : Int64) (0 : Int64)) rfl at_152 (q := 155) rfl (by decide) rfl (na := 0) (by decide +kernel) rfl (by decide) (W := 0) rfl (by decide) (by decide) (by decide) (k' := 13) (n' := 528) rfl rfl ?_
          rintro _ _ ⟨rfl, rfl⟩
          show Go _ _ _ _ _ _ _ _ _ _ [(.int (1 : Int32))]
          refine Go.ifNo C at_155 (q := 158) rfl (XT.i0_eq_f (by decide)) ?_
          refine Go.iconst C at_158 (q := 159) rfl (v := (1 : Int32)) rfl ?_
          refine Go.goto C at_159 (by decide) (q := 163) rfl ?_
          refine Go.istore C at_163 (q := 165) rfl (Ls' := #[.val (.long ka), .second, .val (.long kb), .second, .val (.long kc), .second, .val (.long kd), .second, .val (.int fl), .val (.ref o1), .val (.int (fl &&& (3 : Int32))), .val (.int (1 : Int32)), .val (.int (1 : Int32)), .val (.int (1 : Int32)), .val (.ref bx77), .val (.int (1 : Int32))]) rfl ?_
          refine Go.iload C at_165 (q := 167) rfl rfl ?_
          refine Go.ifNo C at_167 (q := 170) rfl (XT.i0_eq_f (by decide)) ?_
          refine Go.iload C at_170 (q := 172) rfl rfl ?_
          refine Go.ifNo C at_172 (q := 175) rfl (XT.i0_eq_f (by decide)) ?_
          refine Go.iload C at_175 (q := 177) rfl rfl ?_
          refine Go.ifNo C at_177 (q := 180) rfl (XT.i0_eq_f (by decide)) ?_
          refine Go.iload C at_180 (q := 182) rfl rfl ?_
          refine Go.ifNo C at_182 (q := 185) rfl (XT.i0_eq_f (by decide)) ?_
          refine Go.iconst C at_185 (q := 186) rfl (v := (1 : Int32)) rfl ?_
          refine Go.goto C at_186 (by decide) (q := 190) rfl ?_
          refine Go.retZ C rfl (by decide) at_190 (by decide) (by decide) ?_
          exact rfl
set_option maxRecDepth 65536 in
set_option maxHeartbeats 40000000 in
theorem comes_1 {Post : Tables → Env → Array Value → State → Outcome → State → Prop} (hpost : ∀ tb e args s v u, (limb_1_1.after args s (.returned v) u = true ∧ limb_1_2.after args s (.returned v) u = true ∧ True) → FrameEnd s (.returned v) u (Jvm.fieldLocs frame_1_writes args s ++ Jvm.arrayLocs frame_1_arrays args s ++ Jvm.staticLocs frame_1_statics s) 40 1152 → Post tb e args s (.returned v) u) :
    ArmFor flags0 classFile x code maxLocals ret World_1 tables_1 room_1 Calls_1 rest_1 Pre_1 Post := by
  intro l hfl _ _ p e ha hc hk s m args below hf hA hF happ hP
  obtain ⟨hcalls, hrest, hpre⟩ := hP
  obtain ⟨-, -, -, hnamed, -, -, -, hat⟩ := (Spec.applies_iff hf).mp happ
  obtain ⟨hg, hn⟩ := and_e (Cond.before_iff.mp (show (Jvm.Cond.and given_1 narrow_1).before args s = true from hpre))
  obtain ⟨hcount, hg⟩ := and_e hg
  obtain ⟨w0, w1, w2, w3, w4, rfl⟩ : ∃ w0 w1 w2 w3 w4 : Value, args = #[w0, w1, w2, w3, w4] := by
    have hs : args.size = 5 := by simpa [Cond.value, given_1] using hcount
    obtain ⟨L⟩ := args
    match L, hs with
    | [w0, w1, w2, w3, w4], _ => exact ⟨w0, w1, w2, w3, w4, rfl⟩
  have hw := fun d (hd : d ∈ tables_1) => atoms_spec (ws := Jvm.Cond.code x code maxLocals ret :: tables_1) hat d (List.mem_cons_of_mem _ hd)
  obtain ⟨g0, hg⟩ := and_e hg
  obtain ⟨ka, e0⟩ := isL_v g0
  obtain rfl : w0 = (.long ka) := Option.some.inj e0
  obtain ⟨g1, hg⟩ := and_e hg
  obtain ⟨kb, e1⟩ := isL_v g1
  obtain rfl : w1 = (.long kb) := Option.some.inj e1
  obtain ⟨g2, hg⟩ := and_e hg
  obtain ⟨kc, e2⟩ := isL_v g2
  obtain rfl : w2 = (.long kc) := Option.some.inj e2
  obtain ⟨g3, hg⟩ := and_e hg
  obtain ⟨kd, e3⟩ := isL_v g3
  obtain rfl : w3 = (.long kd) := Option.some.inj e3
  have g4 := hg
  obtain ⟨fl, e4⟩ := is_v g4
  obtain rfl : w4 = (.int fl) := Option.some.inj e4
  obtain ⟨hsets, hown0⟩ := atoms_of _ (rest_1_c_eq ▸ (show rest_1_c.before _ s = true from hrest))
  have st2 := Cond.before_iff.mp (hsets _ (List.mem_of_getElem? (i := 4) rfl))
  have st4 := Cond.before_iff.mp (hsets _ (List.mem_of_getElem? (i := 6) rfl))
  have st5 := Cond.before_iff.mp (hsets _ (List.mem_of_getElem? (i := 7) rfl))
  have st6 := int_of_eq (Cond.before_iff.mp (hsets _ (List.mem_of_getElem? (i := 3) rfl)))
  have S_high := Sta.start st6 (Or.inl (hsets _ (List.mem_of_getElem? (i := 1) rfl)))
  obtain ⟨cb, ev_cb⟩ := arr_v st2
  obtain ⟨cc, AA⟩ := Arr.start ev_cb st2
  have hlen := len_of_eq ev_cb AA st4
  have hlen2 : cc.slots.toList.length = 256 := len256 hlen.1 hlen.2
  have S_cache := Sta.start ev_cb (Or.inr ⟨(wd hw 46 rfl), hsets _ (List.mem_of_getElem? (i := 2) rfl)⟩)
  have H0 := cache_elem ev_cb AA hlen.2 st5
  rw [hlen2] at H0
  have A_cache : ArrIs s s.heap cb (.object "java/lang/Integer") cc.slots.toList := ⟨_, AA, rfl⟩
  have H_cache : ∀ j : Nat, j < 256 → ∃ b, cc.slots.toList[j]? = some (.ref b) ∧ Exa s s.heap b "java/lang/Integer" ∧ Fld s s.heap b "java/lang/Integer" "value" "I" (.int (j.toInt32 - 128)) := fun j hj => by obtain ⟨b, q1, q2, q3, q4⟩ := H0 j hj; exact ⟨b, q1, q2, cache_val q3 q4⟩
  obtain ⟨n, o, h1, h2, h3, _, L, rfl, ⟨N, _, rfl, -⟩, hq⟩ := m_law l s _ hw ka kb kc kd fl cb cc.slots.toList S_high S_cache A_cache H_cache tables_1 s.heap (rep0 s) p e ha hc hk s m _ below hf ((Spec.applies_iff_loose hf).mp happ).1 ⟨rfl, State.Warmed39.refl s, rfl⟩ trivial
  refine ⟨n, _, h1, h2, h3, hpost _ _ _ _ _ _ ⟨Cond.after_iff.mpr rfl, Cond.after_iff.mpr (eq_i res_at (Term.int_eval (1)) rfl), trivial⟩ ⟨hq.1, hq.2.1, (hq.2.2.sift fun y hy => Or.inr (N y hy)).mono (by decide) (by decide)⟩⟩
theorem main_1_1 : Claimed_1_1 := comes_1 fun _ _ _ _ _ _ h hF => ⟨h.1, hF⟩
theorem main_1_2 : Claimed_1_2 := comes_1 fun _ _ _ _ _ _ h hF => ⟨h.2.1, hF⟩
end Jvm.Pilot.@@N@@
namespace Jvm.Pilot.@@N@@
open Jvm Jvm.ClassFile Sem Op Lib Jvm.Free Jvm.Stand Jvm.Pilot.@@N@@.Jvm.D
/-! MADE BY PROGRAM (witnessworld.py) out of the Statement's table words and the real class files: 30 classes; the members and pool entries that the words name. The judged class is class 1, her method 1. -/
namespace start1
open Jvm.ClassFile
def u (s : String) : CpInfo := .utf8 (stringToUtf16 s)
/-- a pool by its gaps: so many unusable entries, then the entry; so many at the end -/
def gap : Nat → List CpInfo → List CpInfo
  | 0, r => r
  | n + 1, r => .unusable :: gap n r
def poolList (es : List (Nat × CpInfo)) (last : Nat) : List CpInfo := es.foldr (fun e r => gap e.1 (e.2 :: r)) (gap last [])
def pool (es : List (Nat × CpInfo)) (last : Nat) : Array CpInfo := ⟨poolList es last⟩
def fileOf (pool : Array CpInfo) (this : Nat) (attrs : Array Attribute := #[]) (ms : Array MethodInfo := #[]) (fl : Nat := 33) (sup : Nat := 0) (ifs : Array Nat := #[]) (fds : Array FieldInfo := #[]) : ClassFile where
  minorVersion := 0
  majorVersion := 65
  constantPool := pool
  accessFlags := fl
  thisClass := this
  superClass := sup
  interfaces := ifs
  fields := fds
  methods := ms
  attributes := attrs
def plain (name : String) (sup : Option ClassId) : Class where
  name := name
  kind := .ordinary
  loader := none
  accessFlags := 33
  super := sup
  interfaces := #[]
  cf := none
  fields := #[]
  methods := #[]
  instanceTypes := #[]
  staticTypes := #[]
  resolved := #[]
  callSites := []
  init := .initialized
  statics := none
  mirror := none

def pool0 : Array CpInfo := pool [(5, u "<init>"), (0, u "()V"), (1, .class_ 10), (1, u "java/lang/Object")] 113

def k0c0 : Code := { maxStack := 0, maxLocals := 1, code := object_method_1_code, exceptionTable := #[], attributes := #[] }
def k0m0 : Method := { name := "<init>", desc := "()V", sig := { parameters := [], returnType := none }, accessFlags := 1, code := some k0c0 }
/-- java/lang/Object -/
def k0 : Class := { plain "java/lang/Object" none with
  accessFlags := 33
  interfaces := #[]
  cf := some (fileOf pool0 8 #[] #[{ accessFlags := 1, nameIndex := 5, descriptorIndex := 6, attributes := #[] }] 33 0 #[] #[])
  fields := #[]
  methods := #[k0m0]
  instanceTypes := #[]
  staticTypes := #[]
  resolved := Array.replicate 124 none
  statics := none }

def pool1 : Array CpInfo := pool [(2, .class_ 4), (0, .nameAndType 5 6), (0, u "java/lang/Object"), (0, u "<init>"), (0, u "()V"), (0, .class_ 8), (0, u "com/example/ordered_dispatch/ordereddispatch/SequenceQueue"), (0, .methodref 7 3), (0, .methodref 11 12), (0, .class_ 13), (0, .nameAndType 14 15), (0, u "java/lang/Integer"), (0, u "valueOf"), (0, u "(I)Ljava/lang/Integer;"), (0, .methodref 7 17), (0, .nameAndType 18 19), (0, u "add"), (0, u "(JLjava/lang/Object;)V"), (0, .methodref 7 21), (0, .nameAndType 22 6), (0, u "clear"), (0, .methodref 7 24), (0, .nameAndType 25 26), (0, u "isEmpty"), (0, u "()Z"), (0, .methodref 7 28), (0, .nameAndType 29 30), (0, u "firstKey"), (0, u "()J"), (2, .long 9223372036854775807), (1, .methodref 7 36), (0, .nameAndType 37 38), (0, u "elements"), (0, u "()Ljava/util/List;"), (0, .interfaceMethodref 40 41), (0, .class_ 42), (0, .nameAndType 43 44), (0, u "java/util/List"), (0, u "size"), (0, u "()I"), (0, .methodref 7 46), (0, .nameAndType 47 48), (0, u "poll"), (0, u "()Ljava/lang/Object;"), (0, .methodref 11 50), (0, .nameAndType 51 44), (0, u "intValue"), (0, .class_ 53), (0, u "com/example/ordered_dispatch/ordereddispatch/SequenceQueueClearPinLaw"), (2, u "law"), (0, u "(JJJJI)Z")] 3

def k1m0 : Method := { name := "<init>", desc := "()V", sig := { parameters := [], returnType := none }, accessFlags := 1, code := none }
def k1c1 : Code := { maxStack := 4, maxLocals := 16, code := code, exceptionTable := #[], attributes := #[] }
def k1m1 : Method := { name := "law", desc := "(JJJJI)Z", sig := { parameters := [.long, .long, .long, .long, .int], returnType := some .boolean }, accessFlags := 9, code := some k1c1 }
/-- com/example/ordered_dispatch/ordereddispatch/SequenceQueueClearPinLaw -/
def k1 : Class := { plain "com/example/ordered_dispatch/ordereddispatch/SequenceQueueClearPinLaw" (some 0) with
  accessFlags := 49
  interfaces := #[]
  cf := some (fileOf pool1 52 #[] #[{ accessFlags := 1, nameIndex := 5, descriptorIndex := 6, attributes := #[] }, { accessFlags := 9, nameIndex := 56, descriptorIndex := 57, attributes := #[] }] 49 2 #[] #[])
  fields := #[]
  methods := #[k1m0, k1m1]
  instanceTypes := #[]
  staticTypes := #[]
  resolved := Array.replicate 61 none
  statics := none }

def pool2 : Array CpInfo := pool [(3, .methodref 4 5), (0, .class_ 6), (0, .nameAndType 7 8), (0, u "java/lang/Object"), (0, u "<init>"), (0, u "()V"), (0, .class_ 10), (0, u "com/example/ordered_dispatch/ordereddispatch/SequenceQueue$Run"), (0, .methodref 9 5), (0, .fieldref 13 14), (0, .class_ 15), (0, .nameAndType 16 17), (0, u "com/example/ordered_dispatch/ordereddispatch/SequenceQueue"), (0, u "run"), (0, u "Lcom/example/ordered_dispatch/ordereddispatch/SequenceQueue$Run;"), (0, .class_ 19), (0, u "com/example/ordered_dispatch/ordereddispatch/SequenceQueue$Heap"), (0, .methodref 18 5), (0, .fieldref 13 22), (0, .nameAndType 23 24), (0, u "heap"), (0, u "Lcom/example/ordered_dispatch/ordereddispatch/SequenceQueue$Heap;"), (0, .fieldref 13 26), (0, .nameAndType 27 28), (0, u "holding"), (0, u "Z"), (0, .fieldref 13 30), (0, .nameAndType 31 32), (0, u "heldKey"), (0, u "J"), (0, .fieldref 13 34), (0, .nameAndType 35 36), (0, u "heldElement"), (0, u "Ljava/lang/Object;"), (0, .methodref 13 38), (0, .nameAndType 39 40), (0, u "place"), (0, u "(JLjava/lang/Object;)V"), (0, .fieldref 9 42), (0, .nameAndType 43 44), (0, u "size"), (0, u "I"), (0, .fieldref 9 46), (0, .nameAndType 47 48), (0, u "keys"), (0, u "[J"), (0, .fieldref 9 50), (0, .nameAndType 51 44), (0, u "head"), (0, .fieldref 18 42), (0, .fieldref 18 46), (2, u "poll"), (0, u "()Ljava/lang/Object;"), (3, .long 9223372036854775807), (7, .class_ 70), (0, u "java/util/ArrayList"), (0, .methodref 69 72), (0, .nameAndType 7 73), (0, u "(I)V"), (8, u "add"), (1, .fieldref 9 85), (0, .nameAndType 86 87), (0, u "elements"), (0, u "[Ljava/lang/Object;"), (0, .methodref 9 89), (0, .nameAndType 90 91), (0, u "slot"), (0, u "(I)I"), (0, .fieldref 18 85), (0, .methodref 9 94), (0, .nameAndType 95 8), (0, u "clear"), (0, .methodref 18 94), (0, .methodref 9 98), (0, .nameAndType 99 100), (0, u "lastKey"), (0, u "()J"), (0, .methodref 9 102), (0, .nameAndType 82 40), (0, .methodref 18 102), (0, u "KEPT"), (2, u "LONGEST"), (7, u "isEmpty"), (0, u "()Z"), (0, u "firstKey"), (0, u "()Ljava/util/List;"), (6, .class_ 126), (0, u "com/example/ordered_dispatch/ordereddispatch/SequenceQueue$Part")] 4

def k2c0 : Code := { maxStack := 3, maxLocals := 1, code := prog_20_method_1_code, exceptionTable := #[], attributes := #[] }
def k2m0 : Method := { name := "<init>", desc := "()V", sig := { parameters := [], returnType := none }, accessFlags := 0, code := some k2c0 }
def k2c1 : Code := { maxStack := 4, maxLocals := 4, code := prog_20_method_2_code, exceptionTable := #[], attributes := #[] }
def k2m1 : Method := { name := "add", desc := "(JLjava/lang/Object;)V", sig := { parameters := [.long, (.object "java/lang/Object")], returnType := none }, accessFlags := 0, code := some k2c1 }
def k2c2 : Code := { maxStack := 4, maxLocals := 3, code := prog_20_method_3_code, exceptionTable := #[], attributes := #[] }
def k2m2 : Method := { name := "poll", desc := "()Ljava/lang/Object;", sig := { parameters := [], returnType := some (.object "java/lang/Object") }, accessFlags := 0, code := some k2c2 }
def k2c3 : Code := { maxStack := 1, maxLocals := 1, code := prog_20_method_4_code, exceptionTable := #[], attributes := #[] }
def k2m3 : Method := { name := "isEmpty", desc := "()Z", sig := { parameters := [], returnType := some .boolean }, accessFlags := 0, code := some k2c3 }
def k2c4 : Code := { maxStack := 4, maxLocals := 3, code := prog_20_method_5_code, exceptionTable := #[], attributes := #[] }
def k2m4 : Method := { name := "firstKey", desc := "()J", sig := { parameters := [], returnType := some .long }, accessFlags := 0, code := some k2c4 }
def k2c5 : Code := { maxStack := 5, maxLocals := 3, code := prog_20_method_6_code, exceptionTable := #[], attributes := #[] }
def k2m5 : Method := { name := "elements", desc := "()Ljava/util/List;", sig := { parameters := [], returnType := some (.object "java/util/List") }, accessFlags := 0, code := some k2c5 }
def k2c6 : Code := { maxStack := 2, maxLocals := 1, code := prog_20_method_8_code, exceptionTable := #[], attributes := #[] }
def k2m6 : Method := { name := "clear", desc := "()V", sig := { parameters := [], returnType := none }, accessFlags := 0, code := some k2c6 }
def k2c7 : Code := { maxStack := 4, maxLocals := 4, code := prog_20_method_9_code, exceptionTable := #[], attributes := #[] }
def k2m7 : Method := { name := "place", desc := "(JLjava/lang/Object;)V", sig := { parameters := [.long, (.object "java/lang/Object")], returnType := none }, accessFlags := 2, code := some k2c7 }
/-- com/example/ordered_dispatch/ordereddispatch/SequenceQueue -/
def k2 : Class := { plain "com/example/ordered_dispatch/ordereddispatch/SequenceQueue" (some 0) with
  accessFlags := 32
  interfaces := #[]
  cf := some (fileOf pool2 13 #[.nestMembers #[18, 9, 125]] #[{ accessFlags := 0, nameIndex := 7, descriptorIndex := 8, attributes := #[] }, { accessFlags := 0, nameIndex := 82, descriptorIndex := 40, attributes := #[] }, { accessFlags := 0, nameIndex := 56, descriptorIndex := 57, attributes := #[] }, { accessFlags := 0, nameIndex := 115, descriptorIndex := 116, attributes := #[] }, { accessFlags := 0, nameIndex := 117, descriptorIndex := 100, attributes := #[] }, { accessFlags := 0, nameIndex := 86, descriptorIndex := 118, attributes := #[] }, { accessFlags := 0, nameIndex := 95, descriptorIndex := 8, attributes := #[] }, { accessFlags := 2, nameIndex := 39, descriptorIndex := 40, attributes := #[] }] 32 4 #[] #[{ accessFlags := 26, nameIndex := 104, descriptorIndex := 44, attributes := #[] }, { accessFlags := 26, nameIndex := 107, descriptorIndex := 44, attributes := #[] }, { accessFlags := 18, nameIndex := 16, descriptorIndex := 17, attributes := #[] }, { accessFlags := 18, nameIndex := 23, descriptorIndex := 24, attributes := #[] }, { accessFlags := 2, nameIndex := 27, descriptorIndex := 28, attributes := #[] }, { accessFlags := 2, nameIndex := 31, descriptorIndex := 32, attributes := #[] }, { accessFlags := 2, nameIndex := 35, descriptorIndex := 36, attributes := #[] }])
  fields := #[{ name := "KEPT", type := .int, accessFlags := 26, slot := 0, constantValue := 0 }, { name := "LONGEST", type := .int, accessFlags := 26, slot := 1, constantValue := 0 }, { name := "run", type := (.object "com/example/ordered_dispatch/ordereddispatch/SequenceQueue$Run"), accessFlags := 18, slot := 0, constantValue := 0 }, { name := "heap", type := (.object "com/example/ordered_dispatch/ordereddispatch/SequenceQueue$Heap"), accessFlags := 18, slot := 1, constantValue := 0 }, { name := "holding", type := .boolean, accessFlags := 2, slot := 2, constantValue := 0 }, { name := "heldKey", type := .long, accessFlags := 2, slot := 3, constantValue := 0 }, { name := "heldElement", type := (.object "java/lang/Object"), accessFlags := 2, slot := 4, constantValue := 0 }]
  methods := #[k2m0, k2m1, k2m2, k2m3, k2m4, k2m5, k2m6, k2m7]
  instanceTypes := #[(.object "com/example/ordered_dispatch/ordereddispatch/SequenceQueue$Run"), (.object "com/example/ordered_dispatch/ordereddispatch/SequenceQueue$Heap"), .boolean, .long, (.object "java/lang/Object")]
  staticTypes := #[.int, .int]
  resolved := ((((((((((Array.replicate 131 none).setIfInBounds 9 (some (.cls 4))).setIfInBounds 11 (some (.method ⟨4, 0⟩))).setIfInBounds 18 (some (.cls 5))).setIfInBounds 20 (some (.method ⟨5, 0⟩))).setIfInBounds 49 (some (.field 4 0))).setIfInBounds 88 (some (.method ⟨4, 4⟩))).setIfInBounds 97 (some (.method ⟨4, 1⟩))).setIfInBounds 101 (some (.method ⟨4, 2⟩))).setIfInBounds 103 (some (.method ⟨5, 1⟩)))
  statics := none }

def pool3 : Array CpInfo := pool [(1, .class_ 2), (0, u "com/example/ordered_dispatch/ordereddispatch/SequenceQueue"), (0, .methodref 4 5), (0, .class_ 6), (0, .nameAndType 7 8), (0, u "java/lang/Object"), (0, u "<init>"), (0, u "()V"), (0, .fieldref 10 11), (0, .class_ 12), (0, .nameAndType 13 14), (0, u "com/example/ordered_dispatch/ordereddispatch/SequenceQueue$Part"), (0, u "keys"), (0, u "[J"), (0, .fieldref 10 16), (0, .nameAndType 17 18), (0, u "elements"), (0, u "[Ljava/lang/Object;"), (0, .fieldref 10 20), (0, .nameAndType 21 22), (0, u "size"), (0, u "I"), (0, .integer 2147483639), (9, .long 2), (1, .long 2147483639), (17, u "makeRoom"), (2, u "clear")] 19

def k3c0 : Code := { maxStack := 2, maxLocals := 1, code := prog_22_method_1_code, exceptionTable := #[], attributes := #[] }
def k3m0 : Method := { name := "<init>", desc := "()V", sig := { parameters := [], returnType := none }, accessFlags := 2, code := some k3c0 }
def k3c1 : Code := { maxStack := 5, maxLocals := 1, code := prog_22_method_2_code, exceptionTable := #[], attributes := #[] }
def k3m1 : Method := { name := "makeRoom", desc := "()V", sig := { parameters := [], returnType := none }, accessFlags := 4, code := some k3c1 }
def k3c2 : Code := { maxStack := 2, maxLocals := 1, code := prog_22_method_4_code, exceptionTable := #[], attributes := #[] }
def k3m2 : Method := { name := "clear", desc := "()V", sig := { parameters := [], returnType := none }, accessFlags := 4, code := some k3c2 }
/-- com/example/ordered_dispatch/ordereddispatch/SequenceQueue$Part -/
def k3 : Class := { plain "com/example/ordered_dispatch/ordereddispatch/SequenceQueue$Part" (some 0) with
  accessFlags := 1056
  interfaces := #[]
  cf := some (fileOf pool3 10 #[.nestHost 1] #[{ accessFlags := 2, nameIndex := 7, descriptorIndex := 8, attributes := #[] }, { accessFlags := 4, nameIndex := 53, descriptorIndex := 8, attributes := #[] }, { accessFlags := 4, nameIndex := 56, descriptorIndex := 8, attributes := #[] }] 1056 4 #[] #[{ accessFlags := 4, nameIndex := 13, descriptorIndex := 14, attributes := #[] }, { accessFlags := 4, nameIndex := 17, descriptorIndex := 18, attributes := #[] }, { accessFlags := 4, nameIndex := 21, descriptorIndex := 22, attributes := #[] }])
  fields := #[{ name := "keys", type := (.array .long), accessFlags := 4, slot := 0, constantValue := 0 }, { name := "elements", type := (.array (.object "java/lang/Object")), accessFlags := 4, slot := 1, constantValue := 0 }, { name := "size", type := .int, accessFlags := 4, slot := 2, constantValue := 0 }]
  methods := #[k3m0, k3m1, k3m2]
  instanceTypes := #[(.array .long), (.array (.object "java/lang/Object")), .int]
  staticTypes := #[]
  resolved := Array.replicate 76 none
  statics := none }

def pool4 : Array CpInfo := pool [(1, .methodref 2 3), (0, .class_ 4), (0, .nameAndType 5 6), (0, u "com/example/ordered_dispatch/ordereddispatch/SequenceQueue$Part"), (0, u "<init>"), (0, u "()V"), (0, .fieldref 8 9), (0, .class_ 10), (0, .nameAndType 11 12), (0, u "com/example/ordered_dispatch/ordereddispatch/SequenceQueue$Run"), (0, u "keys"), (0, u "[J"), (0, .fieldref 8 14), (0, .nameAndType 15 16), (0, u "size"), (0, u "I"), (0, .methodref 8 18), (0, .nameAndType 19 20), (0, u "slot"), (0, u "(I)I"), (0, .methodref 8 22), (0, .nameAndType 23 6), (0, u "makeRoom"), (0, .fieldref 8 25), (0, .nameAndType 26 27), (0, u "elements"), (0, u "[Ljava/lang/Object;"), (0, .fieldref 8 29), (0, .nameAndType 30 16), (0, u "head"), (3, .methodref 2 35), (0, .nameAndType 36 6), (0, u "clear"), (16, u "lastKey"), (0, u "()J"), (0, u "add"), (0, u "(JLjava/lang/Object;)V"), (8, .class_ 66), (0, u "com/example/ordered_dispatch/ordereddispatch/SequenceQueue")] 3

def k4c0 : Code := { maxStack := 1, maxLocals := 1, code := prog_23_method_1_code, exceptionTable := #[], attributes := #[] }
def k4m0 : Method := { name := "<init>", desc := "()V", sig := { parameters := [], returnType := none }, accessFlags := 2, code := some k4c0 }
def k4c1 : Code := { maxStack := 4, maxLocals := 1, code := prog_23_method_2_code, exceptionTable := #[], attributes := #[] }
def k4m1 : Method := { name := "lastKey", desc := "()J", sig := { parameters := [], returnType := some .long }, accessFlags := 2, code := some k4c1 }
def k4c2 : Code := { maxStack := 4, maxLocals := 5, code := prog_23_method_3_code, exceptionTable := #[], attributes := #[] }
def k4m2 : Method := { name := "add", desc := "(JLjava/lang/Object;)V", sig := { parameters := [.long, (.object "java/lang/Object")], returnType := none }, accessFlags := 2, code := some k4c2 }
def k4c3 : Code := { maxStack := 2, maxLocals := 1, code := prog_23_method_5_code, exceptionTable := #[], attributes := #[] }
def k4m3 : Method := { name := "clear", desc := "()V", sig := { parameters := [], returnType := none }, accessFlags := 4, code := some k4c3 }
def k4c4 : Code := { maxStack := 2, maxLocals := 3, code := prog_23_method_6_code, exceptionTable := #[], attributes := #[] }
def k4m4 : Method := { name := "slot", desc := "(I)I", sig := { parameters := [.int], returnType := some .int }, accessFlags := 2, code := some k4c4 }
/-- com/example/ordered_dispatch/ordereddispatch/SequenceQueue$Run -/
def k4 : Class := { plain "com/example/ordered_dispatch/ordereddispatch/SequenceQueue$Run" (some 3) with
  accessFlags := 32
  interfaces := #[]
  cf := some (fileOf pool4 8 #[.nestHost 65] #[{ accessFlags := 2, nameIndex := 5, descriptorIndex := 6, attributes := #[] }, { accessFlags := 2, nameIndex := 53, descriptorIndex := 54, attributes := #[] }, { accessFlags := 2, nameIndex := 55, descriptorIndex := 56, attributes := #[] }, { accessFlags := 4, nameIndex := 36, descriptorIndex := 6, attributes := #[] }, { accessFlags := 2, nameIndex := 19, descriptorIndex := 20, attributes := #[] }] 32 2 #[] #[{ accessFlags := 2, nameIndex := 30, descriptorIndex := 16, attributes := #[] }])
  fields := #[{ name := "head", type := .int, accessFlags := 2, slot := 3, constantValue := 0 }]
  methods := #[k4m0, k4m1, k4m2, k4m3, k4m4]
  instanceTypes := #[(.array .long), (.array (.object "java/lang/Object")), .int, .int]
  staticTypes := #[]
  resolved := Array.replicate 70 none
  statics := none }

def pool5 : Array CpInfo := pool [(1, .methodref 2 3), (0, .class_ 4), (0, .nameAndType 5 6), (0, u "com/example/ordered_dispatch/ordereddispatch/SequenceQueue$Part"), (0, u "<init>"), (0, u "()V"), (0, .methodref 8 9), (0, .class_ 10), (0, .nameAndType 11 6), (0, u "com/example/ordered_dispatch/ordereddispatch/SequenceQueue$Heap"), (0, u "makeRoom"), (0, .fieldref 8 13), (0, .nameAndType 14 15), (0, u "size"), (0, u "I"), (0, .fieldref 8 17), (0, .nameAndType 18 19), (0, u "keys"), (0, u "[J"), (0, .fieldref 8 21), (0, .nameAndType 22 23), (0, u "elements"), (0, u "[Ljava/lang/Object;"), (14, u "add"), (0, u "(JLjava/lang/Object;)V"), (10, .class_ 51), (0, u "com/example/ordered_dispatch/ordereddispatch/SequenceQueue")] 3

def k5c0 : Code := { maxStack := 1, maxLocals := 1, code := prog_21_method_1_code, exceptionTable := #[], attributes := #[] }
def k5m0 : Method := { name := "<init>", desc := "()V", sig := { parameters := [], returnType := none }, accessFlags := 2, code := some k5c0 }
def k5c1 : Code := { maxStack := 4, maxLocals := 6, code := prog_21_method_2_code, exceptionTable := #[], attributes := #[] }
def k5m1 : Method := { name := "add", desc := "(JLjava/lang/Object;)V", sig := { parameters := [.long, (.object "java/lang/Object")], returnType := none }, accessFlags := 2, code := some k5c1 }
/-- com/example/ordered_dispatch/ordereddispatch/SequenceQueue$Heap -/
def k5 : Class := { plain "com/example/ordered_dispatch/ordereddispatch/SequenceQueue$Heap" (some 3) with
  accessFlags := 32
  interfaces := #[]
  cf := some (fileOf pool5 8 #[.nestHost 50] #[{ accessFlags := 2, nameIndex := 5, descriptorIndex := 6, attributes := #[] }, { accessFlags := 2, nameIndex := 38, descriptorIndex := 39, attributes := #[] }] 32 2 #[] #[])
  fields := #[]
  methods := #[k5m0, k5m1]
  instanceTypes := #[(.array .long), (.array (.object "java/lang/Object")), .int]
  staticTypes := #[]
  resolved := Array.replicate 55 none
  statics := none }

def pool6 : Array CpInfo := pool [(1, .class_ 2), (0, u "java/io/Serializable"), (0, .class_ 4), (0, u "java/lang/Object")] 2

/-- java/io/Serializable -/
def k6 : Class := { plain "java/io/Serializable" (some 0) with
  accessFlags := 1537
  interfaces := #[]
  cf := some (fileOf pool6 1 #[] #[] 1537 3 #[] #[])
  fields := #[]
  methods := #[]
  instanceTypes := #[]
  staticTypes := #[]
  resolved := Array.replicate 7 none
  statics := none }

def pool7 : Array CpInfo := pool [(2, .class_ 4), (1, u "java/lang/Object"), (0, u "<init>"), (0, u "()V"), (1, .class_ 10), (1, u "java/lang/Number"), (2, .class_ 14), (0, u "java/io/Serializable"), (0, u "serialVersionUID"), (0, u "J")] 20

def k7m0 : Method := { name := "<init>", desc := "()V", sig := { parameters := [], returnType := none }, accessFlags := 1, code := none }
/-- java/lang/Number -/
def k7 : Class := { plain "java/lang/Number" (some 0) with
  accessFlags := 1057
  interfaces := #[6]
  cf := some (fileOf pool7 8 #[] #[{ accessFlags := 1, nameIndex := 5, descriptorIndex := 6, attributes := #[] }] 1057 2 #[13] #[{ accessFlags := 26, nameIndex := 15, descriptorIndex := 16, attributes := #[] }])
  fields := #[{ name := "serialVersionUID", type := .long, accessFlags := 26, slot := 0, constantValue := 0 }]
  methods := #[k7m0]
  instanceTypes := #[]
  staticTypes := #[.long]
  resolved := Array.replicate 37 none
  statics := none }

def pool8 : Array CpInfo := pool [(1, .class_ 2), (0, u "java/lang/Comparable"), (0, .class_ 4), (0, u "java/lang/Object")] 7

/-- java/lang/Comparable -/
def k8 : Class := { plain "java/lang/Comparable" (some 0) with
  accessFlags := 1537
  interfaces := #[]
  cf := some (fileOf pool8 1 #[] #[] 1537 3 #[] #[])
  fields := #[]
  methods := #[]
  instanceTypes := #[]
  staticTypes := #[]
  resolved := Array.replicate 12 none
  statics := none }

def pool9 : Array CpInfo := pool [(1, .class_ 2), (0, u "java/lang/constant/Constable"), (0, .class_ 4), (0, u "java/lang/Object")] 6

/-- java/lang/constant/Constable -/
def k9 : Class := { plain "java/lang/constant/Constable" (some 0) with
  accessFlags := 1537
  interfaces := #[]
  cf := some (fileOf pool9 1 #[] #[] 1537 3 #[] #[])
  fields := #[]
  methods := #[]
  instanceTypes := #[]
  staticTypes := #[]
  resolved := Array.replicate 11 none
  statics := none }

def pool10 : Array CpInfo := pool [(1, .class_ 2), (0, u "java/lang/constant/ConstantDesc"), (0, .class_ 4), (0, u "java/lang/Object")] 32

/-- java/lang/constant/ConstantDesc -/
def k10 : Class := { plain "java/lang/constant/ConstantDesc" (some 0) with
  accessFlags := 1537
  interfaces := #[]
  cf := some (fileOf pool10 1 #[] #[] 1537 3 #[] #[])
  fields := #[]
  methods := #[]
  instanceTypes := #[]
  staticTypes := #[]
  resolved := Array.replicate 37 none
  statics := none }

def pool11 : Array CpInfo := pool [(1, .class_ 2), (0, u "java/lang/Integer"), (16, u "digits"), (0, u "[C"), (64, u "DigitOnes"), (0, u "[B"), (2, u "DigitTens"), (31, u "()I"), (65, u "valueOf"), (0, u "(I)Ljava/lang/Integer;"), (0, .class_ 190), (0, u "java/lang/Integer$IntegerCache"), (0, .fieldref 189 192), (0, .nameAndType 193 194), (0, u "high"), (0, u "I"), (0, .fieldref 189 196), (0, .nameAndType 197 198), (0, u "cache"), (0, u "[Ljava/lang/Integer;"), (4, .class_ 204), (0, u "java/lang/Number"), (0, .fieldref 1 206), (0, .nameAndType 207 194), (0, u "value"), (5, u "intValue"), (88, u "TYPE"), (0, u "Ljava/lang/Class;"), (0, .class_ 305), (0, u "java/lang/Comparable"), (0, .class_ 307), (0, u "java/lang/constant/Constable"), (0, .class_ 309), (0, u "java/lang/constant/ConstantDesc"), (0, u "MIN_VALUE"), (1, u "MAX_VALUE"), (3, u "SIZE"), (1, u "BYTES"), (1, u "serialVersionUID"), (0, u "J")] 131

def k11c0 : Code := { maxStack := 3, maxLocals := 1, code := jdk_33_method_22_code, exceptionTable := #[], attributes := #[] }
def k11m0 : Method := { name := "valueOf", desc := "(I)Ljava/lang/Integer;", sig := { parameters := [.int], returnType := some (.object "java/lang/Integer") }, accessFlags := 9, code := some k11c0 }
def k11c1 : Code := { maxStack := 1, maxLocals := 1, code := jdk_33_method_27_code, exceptionTable := #[], attributes := #[] }
def k11m1 : Method := { name := "intValue", desc := "()I", sig := { parameters := [], returnType := some .int }, accessFlags := 1, code := some k11c1 }
/-- java/lang/Integer -/
def k11 : Class := { plain "java/lang/Integer" (some 7) with
  accessFlags := 49
  interfaces := #[8, 9, 10]
  cf := some (fileOf pool11 1 #[.nestMembers #[189]] #[{ accessFlags := 9, nameIndex := 187, descriptorIndex := 188, attributes := #[] }, { accessFlags := 1, nameIndex := 213, descriptorIndex := 121, attributes := #[] }] 49 203 #[304, 306, 308] #[{ accessFlags := 25, nameIndex := 310, descriptorIndex := 194, attributes := #[] }, { accessFlags := 25, nameIndex := 312, descriptorIndex := 194, attributes := #[] }, { accessFlags := 25, nameIndex := 302, descriptorIndex := 303, attributes := #[] }, { accessFlags := 24, nameIndex := 19, descriptorIndex := 20, attributes := #[] }, { accessFlags := 24, nameIndex := 89, descriptorIndex := 86, attributes := #[] }, { accessFlags := 24, nameIndex := 85, descriptorIndex := 86, attributes := #[] }, { accessFlags := 18, nameIndex := 207, descriptorIndex := 194, attributes := #[] }, { accessFlags := 25, nameIndex := 316, descriptorIndex := 194, attributes := #[] }, { accessFlags := 25, nameIndex := 318, descriptorIndex := 194, attributes := #[] }, { accessFlags := 26, nameIndex := 320, descriptorIndex := 321, attributes := #[] }])
  fields := #[{ name := "MIN_VALUE", type := .int, accessFlags := 25, slot := 0, constantValue := 0 }, { name := "MAX_VALUE", type := .int, accessFlags := 25, slot := 1, constantValue := 0 }, { name := "TYPE", type := (.object "java/lang/Class"), accessFlags := 25, slot := 2, constantValue := 0 }, { name := "digits", type := (.array .char), accessFlags := 24, slot := 3, constantValue := 0 }, { name := "DigitTens", type := (.array .byte), accessFlags := 24, slot := 4, constantValue := 0 }, { name := "DigitOnes", type := (.array .byte), accessFlags := 24, slot := 5, constantValue := 0 }, { name := "value", type := .int, accessFlags := 18, slot := 0, constantValue := 0 }, { name := "SIZE", type := .int, accessFlags := 25, slot := 6, constantValue := 0 }, { name := "BYTES", type := .int, accessFlags := 25, slot := 7, constantValue := 0 }, { name := "serialVersionUID", type := .long, accessFlags := 26, slot := 8, constantValue := 0 }]
  methods := #[k11m0, k11m1]
  instanceTypes := #[.int]
  staticTypes := #[.int, .int, (.object "java/lang/Class"), (.array .char), (.array .byte), (.array .byte), .int, .int, .long]
  resolved := Array.replicate 453 none
  statics := none }

def pool12 : Array CpInfo := pool [(2, .class_ 4), (1, u "java/lang/Object"), (0, u "<init>"), (0, u "()V"), (0, .class_ 8), (0, u "java/lang/Integer"), (7, .class_ 18), (1, u "java/lang/Integer$IntegerCache"), (0, u "$assertionsDisabled"), (0, u "Z"), (26, u "high"), (0, u "I"), (8, u "archivedCache"), (0, u "[Ljava/lang/Integer;"), (12, u "cache"), (0, u "low")] 27

def k12m0 : Method := { name := "<init>", desc := "()V", sig := { parameters := [], returnType := none }, accessFlags := 2, code := none }
/-- java/lang/Integer$IntegerCache -/
def k12 : Class := { plain "java/lang/Integer$IntegerCache" (some 0) with
  accessFlags := 48
  interfaces := #[]
  cf := some (fileOf pool12 16 #[.nestHost 7] #[{ accessFlags := 2, nameIndex := 5, descriptorIndex := 6, attributes := #[] }] 48 2 #[] #[{ accessFlags := 24, nameIndex := 72, descriptorIndex := 48, attributes := #[] }, { accessFlags := 24, nameIndex := 47, descriptorIndex := 48, attributes := #[] }, { accessFlags := 24, nameIndex := 71, descriptorIndex := 58, attributes := #[] }, { accessFlags := 8, nameIndex := 57, descriptorIndex := 58, attributes := #[] }, { accessFlags := 4120, nameIndex := 19, descriptorIndex := 20, attributes := #[] }])
  fields := #[{ name := "low", type := .int, accessFlags := 24, slot := 0, constantValue := 0 }, { name := "high", type := .int, accessFlags := 24, slot := 1, constantValue := 0 }, { name := "cache", type := (.array (.object "java/lang/Integer")), accessFlags := 24, slot := 2, constantValue := 0 }, { name := "archivedCache", type := (.array (.object "java/lang/Integer")), accessFlags := 8, slot := 3, constantValue := 0 }, { name := "$assertionsDisabled", type := .boolean, accessFlags := 4120, slot := 4, constantValue := 0 }]
  methods := #[k12m0]
  instanceTypes := #[]
  staticTypes := #[.int, .int, (.array (.object "java/lang/Integer")), (.array (.object "java/lang/Integer")), .boolean]
  resolved := Array.replicate 100 none
  statics := some 0 }

def pool13 : Array CpInfo := pool [(8, .class_ 10), (1, u "java/lang/Iterable"), (24, .class_ 36), (0, u "java/lang/Object")] 25

/-- java/lang/Iterable -/
def k13 : Class := { plain "java/lang/Iterable" (some 0) with
  accessFlags := 1537
  interfaces := #[]
  cf := some (fileOf pool13 8 #[] #[] 1537 35 #[] #[])
  fields := #[]
  methods := #[]
  instanceTypes := #[]
  staticTypes := #[]
  resolved := Array.replicate 62 none
  statics := none }

def pool14 : Array CpInfo := pool [(10, .class_ 12), (1, u "java/util/Collection"), (47, .class_ 61), (0, u "java/lang/Object"), (0, .class_ 63), (0, u "java/lang/Iterable")] 51

/-- java/util/Collection -/
def k14 : Class := { plain "java/util/Collection" (some 0) with
  accessFlags := 1537
  interfaces := #[13]
  cf := some (fileOf pool14 10 #[] #[] 1537 60 #[62] #[])
  fields := #[]
  methods := #[]
  instanceTypes := #[]
  staticTypes := #[]
  resolved := Array.replicate 115 none
  statics := none }

def pool15 : Array CpInfo := pool [(1, .methodref 2 3), (0, .class_ 4), (0, .nameAndType 5 6), (0, u "java/lang/Object"), (0, u "<init>"), (0, u "()V"), (1, .class_ 10), (1, u "java/util/AbstractCollection"), (66, .class_ 78), (0, u "java/util/Collection")] 81

def k15c0 : Code := { maxStack := 1, maxLocals := 1, code := jdk_22_method_1_code, exceptionTable := #[], attributes := #[] }
def k15m0 : Method := { name := "<init>", desc := "()V", sig := { parameters := [], returnType := none }, accessFlags := 4, code := some k15c0 }
/-- java/util/AbstractCollection -/
def k15 : Class := { plain "java/util/AbstractCollection" (some 0) with
  accessFlags := 1057
  interfaces := #[14]
  cf := some (fileOf pool15 8 #[] #[{ accessFlags := 4, nameIndex := 5, descriptorIndex := 6, attributes := #[] }] 1057 2 #[77] #[])
  fields := #[]
  methods := #[k15m0]
  instanceTypes := #[]
  staticTypes := #[]
  resolved := Array.replicate 160 none
  statics := none }

def pool16 : Array CpInfo := pool [(8, .class_ 10), (1, u "java/util/SequencedCollection"), (15, .class_ 27), (0, u "java/lang/Object"), (0, .class_ 29), (0, u "java/util/Collection")] 27

/-- java/util/SequencedCollection -/
def k16 : Class := { plain "java/util/SequencedCollection" (some 0) with
  accessFlags := 1537
  interfaces := #[14]
  cf := some (fileOf pool16 8 #[] #[] 1537 26 #[28] #[])
  fields := #[]
  methods := #[]
  instanceTypes := #[]
  staticTypes := #[]
  resolved := Array.replicate 57 none
  statics := none }

def pool17 : Array CpInfo := pool [(8, .class_ 10), (1, u "java/util/List"), (68, u "size"), (0, u "()I"), (22, .class_ 104), (0, u "java/lang/Object"), (15, .class_ 121), (0, u "java/util/SequencedCollection")] 129

def k17m0 : Method := { name := "size", desc := "()I", sig := { parameters := [], returnType := some .int }, accessFlags := 1025, code := none }
/-- java/util/List -/
def k17 : Class := { plain "java/util/List" (some 0) with
  accessFlags := 1537
  interfaces := #[16]
  cf := some (fileOf pool17 8 #[] #[{ accessFlags := 1025, nameIndex := 79, descriptorIndex := 80, attributes := #[] }] 1537 103 #[120] #[])
  fields := #[]
  methods := #[k17m0]
  instanceTypes := #[]
  staticTypes := #[]
  resolved := Array.replicate 251 none
  statics := none }

def pool18 : Array CpInfo := pool [(1, .methodref 2 3), (0, .class_ 4), (0, .nameAndType 5 6), (0, u "java/util/AbstractCollection"), (0, u "<init>"), (0, u "()V"), (0, .fieldref 8 9), (0, .class_ 10), (0, .nameAndType 11 12), (0, u "java/util/AbstractList"), (0, u "modCount"), (0, u "I"), (64, .class_ 78), (0, u "java/util/AbstractList$Itr"), (3, .class_ 83), (0, u "java/util/AbstractList$ListItr"), (9, .class_ 94), (0, u "java/util/AbstractList$RandomAccessSubList"), (3, .class_ 99), (0, u "java/util/AbstractList$SubList"), (33, .class_ 134), (0, u "java/util/List"), (73, .class_ 209), (0, u "java/util/AbstractList$SubList$1"), (0, .class_ 211), (0, u "java/util/AbstractList$RandomAccessSpliterator")] 6

def k18c0 : Code := { maxStack := 2, maxLocals := 1, code := jdk_39_method_1_code, exceptionTable := #[], attributes := #[] }
def k18m0 : Method := { name := "<init>", desc := "()V", sig := { parameters := [], returnType := none }, accessFlags := 4, code := some k18c0 }
/-- java/util/AbstractList -/
def k18 : Class := { plain "java/util/AbstractList" (some 15) with
  accessFlags := 1057
  interfaces := #[17]
  cf := some (fileOf pool18 8 #[.nestMembers #[93, 98, 208, 210, 82, 77]] #[{ accessFlags := 4, nameIndex := 5, descriptorIndex := 6, attributes := #[] }] 1057 2 #[133] #[{ accessFlags := 132, nameIndex := 11, descriptorIndex := 12, attributes := #[] }])
  fields := #[{ name := "modCount", type := .int, accessFlags := 132, slot := 0, constantValue := 0 }]
  methods := #[k18m0]
  instanceTypes := #[.int]
  staticTypes := #[]
  resolved := Array.replicate 218 none
  statics := none }

def pool19 : Array CpInfo := pool [(1, .class_ 2), (0, u "java/util/RandomAccess"), (0, .class_ 4), (0, u "java/lang/Object")] 2

/-- java/util/RandomAccess -/
def k19 : Class := { plain "java/util/RandomAccess" (some 0) with
  accessFlags := 1537
  interfaces := #[]
  cf := some (fileOf pool19 1 #[] #[] 1537 3 #[] #[])
  fields := #[]
  methods := #[]
  instanceTypes := #[]
  staticTypes := #[]
  resolved := Array.replicate 7 none
  statics := none }

def pool20 : Array CpInfo := pool [(1, .class_ 2), (0, u "java/lang/Cloneable"), (0, .class_ 4), (0, u "java/lang/Object")] 2

/-- java/lang/Cloneable -/
def k20 : Class := { plain "java/lang/Cloneable" (some 0) with
  accessFlags := 1537
  interfaces := #[]
  cf := some (fileOf pool20 1 #[] #[] 1537 3 #[] #[])
  fields := #[]
  methods := #[]
  instanceTypes := #[]
  staticTypes := #[]
  resolved := Array.replicate 7 none
  statics := none }

def pool21 : Array CpInfo := pool [(1, .methodref 2 3), (0, .class_ 4), (0, .nameAndType 5 6), (0, u "java/util/AbstractList"), (0, u "<init>"), (0, u "()V"), (0, .class_ 8), (0, u "java/lang/Object"), (0, .fieldref 10 11), (0, .class_ 12), (0, .nameAndType 13 14), (0, u "java/util/ArrayList"), (0, u "elementData"), (0, u "[Ljava/lang/Object;"), (2, u "EMPTY_ELEMENTDATA"), (23, u "DEFAULTCAPACITY_EMPTY_ELEMENTDATA"), (6, .fieldref 10 49), (0, .nameAndType 50 51), (0, u "size"), (0, u "I"), (86, u "(I)V"), (9, .class_ 149), (0, u "java/util/List"), (36, u "()I"), (75, .class_ 263), (0, u "java/util/ArrayList$ListItr"), (3, .class_ 268), (0, u "java/util/ArrayList$Itr"), (7, .class_ 277), (0, u "java/util/ArrayList$SubList"), (12, .class_ 291), (0, u "java/util/ArrayList$ArrayListSpliterator"), (37, .class_ 330), (0, u "java/util/RandomAccess"), (0, .class_ 332), (0, u "java/lang/Cloneable"), (0, .class_ 334), (0, u "java/io/Serializable"), (0, u "serialVersionUID"), (0, u "J"), (3, u "DEFAULT_CAPACITY"), (159, .class_ 501), (0, u "java/util/ArrayList$SubList$2"), (0, .class_ 503), (0, u "java/util/ArrayList$SubList$1")] 5

def k21c0 : Code := { maxStack := 4, maxLocals := 2, code := jdk_38_method_1_code, exceptionTable := #[], attributes := #[] }
def k21m0 : Method := { name := "<init>", desc := "(I)V", sig := { parameters := [.int], returnType := none }, accessFlags := 1, code := some k21c0 }
def k21m1 : Method := { name := "<init>", desc := "()V", sig := { parameters := [], returnType := none }, accessFlags := 1, code := none }
def k21c2 : Code := { maxStack := 1, maxLocals := 1, code := jdk_38_method_8_code, exceptionTable := #[], attributes := #[] }
def k21m2 : Method := { name := "size", desc := "()I", sig := { parameters := [], returnType := some .int }, accessFlags := 1, code := some k21c2 }
/-- java/util/ArrayList -/
def k21 : Class := { plain "java/util/ArrayList" (some 18) with
  accessFlags := 33
  interfaces := #[17, 19, 20, 6]
  cf := some (fileOf pool21 10 #[.nestMembers #[290, 276, 500, 502, 262, 267]] #[{ accessFlags := 1, nameIndex := 5, descriptorIndex := 138, attributes := #[] }, { accessFlags := 1, nameIndex := 5, descriptorIndex := 6, attributes := #[] }, { accessFlags := 1, nameIndex := 50, descriptorIndex := 186, attributes := #[] }] 33 2 #[148, 329, 331, 333] #[{ accessFlags := 26, nameIndex := 335, descriptorIndex := 336, attributes := #[] }, { accessFlags := 26, nameIndex := 340, descriptorIndex := 51, attributes := #[] }, { accessFlags := 26, nameIndex := 17, descriptorIndex := 14, attributes := #[] }, { accessFlags := 26, nameIndex := 41, descriptorIndex := 14, attributes := #[] }, { accessFlags := 128, nameIndex := 13, descriptorIndex := 14, attributes := #[] }, { accessFlags := 2, nameIndex := 50, descriptorIndex := 51, attributes := #[] }])
  fields := #[{ name := "serialVersionUID", type := .long, accessFlags := 26, slot := 0, constantValue := 0 }, { name := "DEFAULT_CAPACITY", type := .int, accessFlags := 26, slot := 1, constantValue := 0 }, { name := "EMPTY_ELEMENTDATA", type := (.array (.object "java/lang/Object")), accessFlags := 26, slot := 2, constantValue := 0 }, { name := "DEFAULTCAPACITY_EMPTY_ELEMENTDATA", type := (.array (.object "java/lang/Object")), accessFlags := 26, slot := 3, constantValue := 0 }, { name := "elementData", type := (.array (.object "java/lang/Object")), accessFlags := 128, slot := 1, constantValue := 0 }, { name := "size", type := .int, accessFlags := 2, slot := 2, constantValue := 0 }]
  methods := #[k21m0, k21m1, k21m2]
  instanceTypes := #[.int, (.array (.object "java/lang/Object")), .int]
  staticTypes := #[.long, .int, (.array (.object "java/lang/Object")), (.array (.object "java/lang/Object"))]
  resolved := Array.replicate 509 none
  statics := none }

/-- the primitive byte -/
def k22 : Class := { plain "byte" none with kind := .primitive 'B', accessFlags := 0x411 }
/-- [B -/
def k23 : Class := { plain "[B" (some 0) with kind := .array 22 .byte, interfaces := #[20, 6], accessFlags := 1041 }

/-- the primitive int -/
def k24 : Class := { plain "int" none with kind := .primitive 'I', accessFlags := 0x411 }
/-- [I -/
def k25 : Class := { plain "[I" (some 0) with kind := .array 24 .int, interfaces := #[20, 6], accessFlags := 1041 }

/-- the primitive long -/
def k26 : Class := { plain "long" none with kind := .primitive 'J', accessFlags := 0x411 }
/-- [J -/
def k27 : Class := { plain "[J" (some 0) with kind := .array 26 .long, interfaces := #[20, 6], accessFlags := 1041 }

/-- [Ljava/lang/Integer; -/
def k28 : Class := { plain "[Ljava/lang/Integer;" (some 0) with kind := .array 11 (.object "java/lang/Integer"), interfaces := #[20, 6], accessFlags := 1041 }

/-- [Ljava/lang/Object; -/
def k29 : Class := { plain "[Ljava/lang/Object;" (some 0) with kind := .array 0 (.object "java/lang/Object"), interfaces := #[20, 6], accessFlags := 1041 }

def heap : Heap := #[{ cls := 12, slots := #[.int 0, .int 127, .ref 1, .null, .int 0], vm := .statics 12 },
  { cls := 28, slots := #[.ref 2, .ref 3, .ref 4, .ref 5, .ref 6, .ref 7, .ref 8, .ref 9, .ref 10, .ref 11, .ref 12, .ref 13, .ref 14, .ref 15, .ref 16, .ref 17, .ref 18, .ref 19, .ref 20, .ref 21, .ref 22, .ref 23, .ref 24, .ref 25, .ref 26, .ref 27, .ref 28, .ref 29, .ref 30, .ref 31, .ref 32, .ref 33, .ref 34, .ref 35, .ref 36, .ref 37, .ref 38, .ref 39, .ref 40, .ref 41, .ref 42, .ref 43, .ref 44, .ref 45, .ref 46, .ref 47, .ref 48, .ref 49, .ref 50, .ref 51, .ref 52, .ref 53, .ref 54, .ref 55, .ref 56, .ref 57, .ref 58, .ref 59, .ref 60, .ref 61, .ref 62, .ref 63, .ref 64, .ref 65, .ref 66, .ref 67, .ref 68, .ref 69, .ref 70, .ref 71, .ref 72, .ref 73, .ref 74, .ref 75, .ref 76, .ref 77, .ref 78, .ref 79, .ref 80, .ref 81, .ref 82, .ref 83, .ref 84, .ref 85, .ref 86, .ref 87, .ref 88, .ref 89, .ref 90, .ref 91, .ref 92, .ref 93, .ref 94, .ref 95, .ref 96, .ref 97, .ref 98, .ref 99, .ref 100, .ref 101, .ref 102, .ref 103, .ref 104, .ref 105, .ref 106, .ref 107, .ref 108, .ref 109, .ref 110, .ref 111, .ref 112, .ref 113, .ref 114, .ref 115, .ref 116, .ref 117, .ref 118, .ref 119, .ref 120, .ref 121, .ref 122, .ref 123, .ref 124, .ref 125, .ref 126, .ref 127, .ref 128, .ref 129, .ref 130, .ref 131, .ref 132, .ref 133, .ref 134, .ref 135, .ref 136, .ref 137, .ref 138, .ref 139, .ref 140, .ref 141, .ref 142, .ref 143, .ref 144, .ref 145, .ref 146, .ref 147, .ref 148, .ref 149, .ref 150, .ref 151, .ref 152, .ref 153, .ref 154, .ref 155, .ref 156, .ref 157, .ref 158, .ref 159, .ref 160, .ref 161, .ref 162, .ref 163, .ref 164, .ref 165, .ref 166, .ref 167, .ref 168, .ref 169, .ref 170, .ref 171, .ref 172, .ref 173, .ref 174, .ref 175, .ref 176, .ref 177, .ref 178, .ref 179, .ref 180, .ref 181, .ref 182, .ref 183, .ref 184, .ref 185, .ref 186, .ref 187, .ref 188, .ref 189, .ref 190, .ref 191, .ref 192, .ref 193, .ref 194, .ref 195, .ref 196, .ref 197, .ref 198, .ref 199, .ref 200, .ref 201, .ref 202, .ref 203, .ref 204, .ref 205, .ref 206, .ref 207, .ref 208, .ref 209, .ref 210, .ref 211, .ref 212, .ref 213, .ref 214, .ref 215, .ref 216, .ref 217, .ref 218, .ref 219, .ref 220, .ref 221, .ref 222, .ref 223, .ref 224, .ref 225, .ref 226, .ref 227, .ref 228, .ref 229, .ref 230, .ref 231, .ref 232, .ref 233, .ref 234, .ref 235, .ref 236, .ref 237, .ref 238, .ref 239, .ref 240, .ref 241, .ref 242, .ref 243, .ref 244, .ref 245, .ref 246, .ref 247, .ref 248, .ref 249, .ref 250, .ref 251, .ref 252, .ref 253, .ref 254, .ref 255, .ref 256, .ref 257], vm := .none },
  { cls := 11, slots := #[.int (-128)], vm := .none },
  { cls := 11, slots := #[.int (-127)], vm := .none },
  { cls := 11, slots := #[.int (-126)], vm := .none },
  { cls := 11, slots := #[.int (-125)], vm := .none },
  { cls := 11, slots := #[.int (-124)], vm := .none },
  { cls := 11, slots := #[.int (-123)], vm := .none },
  { cls := 11, slots := #[.int (-122)], vm := .none },
  { cls := 11, slots := #[.int (-121)], vm := .none },
  { cls := 11, slots := #[.int (-120)], vm := .none },
  { cls := 11, slots := #[.int (-119)], vm := .none },
  { cls := 11, slots := #[.int (-118)], vm := .none },
  { cls := 11, slots := #[.int (-117)], vm := .none },
  { cls := 11, slots := #[.int (-116)], vm := .none },
  { cls := 11, slots := #[.int (-115)], vm := .none },
  { cls := 11, slots := #[.int (-114)], vm := .none },
  { cls := 11, slots := #[.int (-113)], vm := .none },
  { cls := 11, slots := #[.int (-112)], vm := .none },
  { cls := 11, slots := #[.int (-111)], vm := .none },
  { cls := 11, slots := #[.int (-110)], vm := .none },
  { cls := 11, slots := #[.int (-109)], vm := .none },
  { cls := 11, slots := #[.int (-108)], vm := .none },
  { cls := 11, slots := #[.int (-107)], vm := .none },
  { cls := 11, slots := #[.int (-106)], vm := .none },
  { cls := 11, slots := #[.int (-105)], vm := .none },
  { cls := 11, slots := #[.int (-104)], vm := .none },
  { cls := 11, slots := #[.int (-103)], vm := .none },
  { cls := 11, slots := #[.int (-102)], vm := .none },
  { cls := 11, slots := #[.int (-101)], vm := .none },
  { cls := 11, slots := #[.int (-100)], vm := .none },
  { cls := 11, slots := #[.int (-99)], vm := .none },
  { cls := 11, slots := #[.int (-98)], vm := .none },
  { cls := 11, slots := #[.int (-97)], vm := .none },
  { cls := 11, slots := #[.int (-96)], vm := .none },
  { cls := 11, slots := #[.int (-95)], vm := .none },
  { cls := 11, slots := #[.int (-94)], vm := .none },
  { cls := 11, slots := #[.int (-93)], vm := .none },
  { cls := 11, slots := #[.int (-92)], vm := .none },
  { cls := 11, slots := #[.int (-91)], vm := .none },
  { cls := 11, slots := #[.int (-90)], vm := .none },
  { cls := 11, slots := #[.int (-89)], vm := .none },
  { cls := 11, slots := #[.int (-88)], vm := .none },
  { cls := 11, slots := #[.int (-87)], vm := .none },
  { cls := 11, slots := #[.int (-86)], vm := .none },
  { cls := 11, slots := #[.int (-85)], vm := .none },
  { cls := 11, slots := #[.int (-84)], vm := .none },
  { cls := 11, slots := #[.int (-83)], vm := .none },
  { cls := 11, slots := #[.int (-82)], vm := .none },
  { cls := 11, slots := #[.int (-81)], vm := .none },
  { cls := 11, slots := #[.int (-80)], vm := .none },
  { cls := 11, slots := #[.int (-79)], vm := .none },
  { cls := 11, slots := #[.int (-78)], vm := .none },
  { cls := 11, slots := #[.int (-77)], vm := .none },
  { cls := 11, slots := #[.int (-76)], vm := .none },
  { cls := 11, slots := #[.int (-75)], vm := .none },
  { cls := 11, slots := #[.int (-74)], vm := .none },
  { cls := 11, slots := #[.int (-73)], vm := .none },
  { cls := 11, slots := #[.int (-72)], vm := .none },
  { cls := 11, slots := #[.int (-71)], vm := .none },
  { cls := 11, slots := #[.int (-70)], vm := .none },
  { cls := 11, slots := #[.int (-69)], vm := .none },
  { cls := 11, slots := #[.int (-68)], vm := .none },
  { cls := 11, slots := #[.int (-67)], vm := .none },
  { cls := 11, slots := #[.int (-66)], vm := .none },
  { cls := 11, slots := #[.int (-65)], vm := .none },
  { cls := 11, slots := #[.int (-64)], vm := .none },
  { cls := 11, slots := #[.int (-63)], vm := .none },
  { cls := 11, slots := #[.int (-62)], vm := .none },
  { cls := 11, slots := #[.int (-61)], vm := .none },
  { cls := 11, slots := #[.int (-60)], vm := .none },
  { cls := 11, slots := #[.int (-59)], vm := .none },
  { cls := 11, slots := #[.int (-58)], vm := .none },
  { cls := 11, slots := #[.int (-57)], vm := .none },
  { cls := 11, slots := #[.int (-56)], vm := .none },
  { cls := 11, slots := #[.int (-55)], vm := .none },
  { cls := 11, slots := #[.int (-54)], vm := .none },
  { cls := 11, slots := #[.int (-53)], vm := .none },
  { cls := 11, slots := #[.int (-52)], vm := .none },
  { cls := 11, slots := #[.int (-51)], vm := .none },
  { cls := 11, slots := #[.int (-50)], vm := .none },
  { cls := 11, slots := #[.int (-49)], vm := .none },
  { cls := 11, slots := #[.int (-48)], vm := .none },
  { cls := 11, slots := #[.int (-47)], vm := .none },
  { cls := 11, slots := #[.int (-46)], vm := .none },
  { cls := 11, slots := #[.int (-45)], vm := .none },
  { cls := 11, slots := #[.int (-44)], vm := .none },
  { cls := 11, slots := #[.int (-43)], vm := .none },
  { cls := 11, slots := #[.int (-42)], vm := .none },
  { cls := 11, slots := #[.int (-41)], vm := .none },
  { cls := 11, slots := #[.int (-40)], vm := .none },
  { cls := 11, slots := #[.int (-39)], vm := .none },
  { cls := 11, slots := #[.int (-38)], vm := .none },
  { cls := 11, slots := #[.int (-37)], vm := .none },
  { cls := 11, slots := #[.int (-36)], vm := .none },
  { cls := 11, slots := #[.int (-35)], vm := .none },
  { cls := 11, slots := #[.int (-34)], vm := .none },
  { cls := 11, slots := #[.int (-33)], vm := .none },
  { cls := 11, slots := #[.int (-32)], vm := .none },
  { cls := 11, slots := #[.int (-31)], vm := .none },
  { cls := 11, slots := #[.int (-30)], vm := .none },
  { cls := 11, slots := #[.int (-29)], vm := .none },
  { cls := 11, slots := #[.int (-28)], vm := .none },
  { cls := 11, slots := #[.int (-27)], vm := .none },
  { cls := 11, slots := #[.int (-26)], vm := .none },
  { cls := 11, slots := #[.int (-25)], vm := .none },
  { cls := 11, slots := #[.int (-24)], vm := .none },
  { cls := 11, slots := #[.int (-23)], vm := .none },
  { cls := 11, slots := #[.int (-22)], vm := .none },
  { cls := 11, slots := #[.int (-21)], vm := .none },
  { cls := 11, slots := #[.int (-20)], vm := .none },
  { cls := 11, slots := #[.int (-19)], vm := .none },
  { cls := 11, slots := #[.int (-18)], vm := .none },
  { cls := 11, slots := #[.int (-17)], vm := .none },
  { cls := 11, slots := #[.int (-16)], vm := .none },
  { cls := 11, slots := #[.int (-15)], vm := .none },
  { cls := 11, slots := #[.int (-14)], vm := .none },
  { cls := 11, slots := #[.int (-13)], vm := .none },
  { cls := 11, slots := #[.int (-12)], vm := .none },
  { cls := 11, slots := #[.int (-11)], vm := .none },
  { cls := 11, slots := #[.int (-10)], vm := .none },
  { cls := 11, slots := #[.int (-9)], vm := .none },
  { cls := 11, slots := #[.int (-8)], vm := .none },
  { cls := 11, slots := #[.int (-7)], vm := .none },
  { cls := 11, slots := #[.int (-6)], vm := .none },
  { cls := 11, slots := #[.int (-5)], vm := .none },
  { cls := 11, slots := #[.int (-4)], vm := .none },
  { cls := 11, slots := #[.int (-3)], vm := .none },
  { cls := 11, slots := #[.int (-2)], vm := .none },
  { cls := 11, slots := #[.int (-1)], vm := .none },
  { cls := 11, slots := #[.int 0], vm := .none },
  { cls := 11, slots := #[.int 1], vm := .none },
  { cls := 11, slots := #[.int 2], vm := .none },
  { cls := 11, slots := #[.int 3], vm := .none },
  { cls := 11, slots := #[.int 4], vm := .none },
  { cls := 11, slots := #[.int 5], vm := .none },
  { cls := 11, slots := #[.int 6], vm := .none },
  { cls := 11, slots := #[.int 7], vm := .none },
  { cls := 11, slots := #[.int 8], vm := .none },
  { cls := 11, slots := #[.int 9], vm := .none },
  { cls := 11, slots := #[.int 10], vm := .none },
  { cls := 11, slots := #[.int 11], vm := .none },
  { cls := 11, slots := #[.int 12], vm := .none },
  { cls := 11, slots := #[.int 13], vm := .none },
  { cls := 11, slots := #[.int 14], vm := .none },
  { cls := 11, slots := #[.int 15], vm := .none },
  { cls := 11, slots := #[.int 16], vm := .none },
  { cls := 11, slots := #[.int 17], vm := .none },
  { cls := 11, slots := #[.int 18], vm := .none },
  { cls := 11, slots := #[.int 19], vm := .none },
  { cls := 11, slots := #[.int 20], vm := .none },
  { cls := 11, slots := #[.int 21], vm := .none },
  { cls := 11, slots := #[.int 22], vm := .none },
  { cls := 11, slots := #[.int 23], vm := .none },
  { cls := 11, slots := #[.int 24], vm := .none },
  { cls := 11, slots := #[.int 25], vm := .none },
  { cls := 11, slots := #[.int 26], vm := .none },
  { cls := 11, slots := #[.int 27], vm := .none },
  { cls := 11, slots := #[.int 28], vm := .none },
  { cls := 11, slots := #[.int 29], vm := .none },
  { cls := 11, slots := #[.int 30], vm := .none },
  { cls := 11, slots := #[.int 31], vm := .none },
  { cls := 11, slots := #[.int 32], vm := .none },
  { cls := 11, slots := #[.int 33], vm := .none },
  { cls := 11, slots := #[.int 34], vm := .none },
  { cls := 11, slots := #[.int 35], vm := .none },
  { cls := 11, slots := #[.int 36], vm := .none },
  { cls := 11, slots := #[.int 37], vm := .none },
  { cls := 11, slots := #[.int 38], vm := .none },
  { cls := 11, slots := #[.int 39], vm := .none },
  { cls := 11, slots := #[.int 40], vm := .none },
  { cls := 11, slots := #[.int 41], vm := .none },
  { cls := 11, slots := #[.int 42], vm := .none },
  { cls := 11, slots := #[.int 43], vm := .none },
  { cls := 11, slots := #[.int 44], vm := .none },
  { cls := 11, slots := #[.int 45], vm := .none },
  { cls := 11, slots := #[.int 46], vm := .none },
  { cls := 11, slots := #[.int 47], vm := .none },
  { cls := 11, slots := #[.int 48], vm := .none },
  { cls := 11, slots := #[.int 49], vm := .none },
  { cls := 11, slots := #[.int 50], vm := .none },
  { cls := 11, slots := #[.int 51], vm := .none },
  { cls := 11, slots := #[.int 52], vm := .none },
  { cls := 11, slots := #[.int 53], vm := .none },
  { cls := 11, slots := #[.int 54], vm := .none },
  { cls := 11, slots := #[.int 55], vm := .none },
  { cls := 11, slots := #[.int 56], vm := .none },
  { cls := 11, slots := #[.int 57], vm := .none },
  { cls := 11, slots := #[.int 58], vm := .none },
  { cls := 11, slots := #[.int 59], vm := .none },
  { cls := 11, slots := #[.int 60], vm := .none },
  { cls := 11, slots := #[.int 61], vm := .none },
  { cls := 11, slots := #[.int 62], vm := .none },
  { cls := 11, slots := #[.int 63], vm := .none },
  { cls := 11, slots := #[.int 64], vm := .none },
  { cls := 11, slots := #[.int 65], vm := .none },
  { cls := 11, slots := #[.int 66], vm := .none },
  { cls := 11, slots := #[.int 67], vm := .none },
  { cls := 11, slots := #[.int 68], vm := .none },
  { cls := 11, slots := #[.int 69], vm := .none },
  { cls := 11, slots := #[.int 70], vm := .none },
  { cls := 11, slots := #[.int 71], vm := .none },
  { cls := 11, slots := #[.int 72], vm := .none },
  { cls := 11, slots := #[.int 73], vm := .none },
  { cls := 11, slots := #[.int 74], vm := .none },
  { cls := 11, slots := #[.int 75], vm := .none },
  { cls := 11, slots := #[.int 76], vm := .none },
  { cls := 11, slots := #[.int 77], vm := .none },
  { cls := 11, slots := #[.int 78], vm := .none },
  { cls := 11, slots := #[.int 79], vm := .none },
  { cls := 11, slots := #[.int 80], vm := .none },
  { cls := 11, slots := #[.int 81], vm := .none },
  { cls := 11, slots := #[.int 82], vm := .none },
  { cls := 11, slots := #[.int 83], vm := .none },
  { cls := 11, slots := #[.int 84], vm := .none },
  { cls := 11, slots := #[.int 85], vm := .none },
  { cls := 11, slots := #[.int 86], vm := .none },
  { cls := 11, slots := #[.int 87], vm := .none },
  { cls := 11, slots := #[.int 88], vm := .none },
  { cls := 11, slots := #[.int 89], vm := .none },
  { cls := 11, slots := #[.int 90], vm := .none },
  { cls := 11, slots := #[.int 91], vm := .none },
  { cls := 11, slots := #[.int 92], vm := .none },
  { cls := 11, slots := #[.int 93], vm := .none },
  { cls := 11, slots := #[.int 94], vm := .none },
  { cls := 11, slots := #[.int 95], vm := .none },
  { cls := 11, slots := #[.int 96], vm := .none },
  { cls := 11, slots := #[.int 97], vm := .none },
  { cls := 11, slots := #[.int 98], vm := .none },
  { cls := 11, slots := #[.int 99], vm := .none },
  { cls := 11, slots := #[.int 100], vm := .none },
  { cls := 11, slots := #[.int 101], vm := .none },
  { cls := 11, slots := #[.int 102], vm := .none },
  { cls := 11, slots := #[.int 103], vm := .none },
  { cls := 11, slots := #[.int 104], vm := .none },
  { cls := 11, slots := #[.int 105], vm := .none },
  { cls := 11, slots := #[.int 106], vm := .none },
  { cls := 11, slots := #[.int 107], vm := .none },
  { cls := 11, slots := #[.int 108], vm := .none },
  { cls := 11, slots := #[.int 109], vm := .none },
  { cls := 11, slots := #[.int 110], vm := .none },
  { cls := 11, slots := #[.int 111], vm := .none },
  { cls := 11, slots := #[.int 112], vm := .none },
  { cls := 11, slots := #[.int 113], vm := .none },
  { cls := 11, slots := #[.int 114], vm := .none },
  { cls := 11, slots := #[.int 115], vm := .none },
  { cls := 11, slots := #[.int 116], vm := .none },
  { cls := 11, slots := #[.int 117], vm := .none },
  { cls := 11, slots := #[.int 118], vm := .none },
  { cls := 11, slots := #[.int 119], vm := .none },
  { cls := 11, slots := #[.int 120], vm := .none },
  { cls := 11, slots := #[.int 121], vm := .none },
  { cls := 11, slots := #[.int 122], vm := .none },
  { cls := 11, slots := #[.int 123], vm := .none },
  { cls := 11, slots := #[.int 124], vm := .none },
  { cls := 11, slots := #[.int 125], vm := .none },
  { cls := 11, slots := #[.int 126], vm := .none },
  { cls := 11, slots := #[.int 127], vm := .none }]
def classes : Array Class := #[k0, k1, k2, k3, k4, k5, k6, k7, k8, k9, k10, k11, k12, k13, k14, k15, k16, k17, k18, k19, k20, k21, k22, k23, k24, k25, k26, k27, k28, k29]
def interned : List (Array UInt16 × Addr) := []
def slotsUsed : Nat := 517
def theMethod : MethodId := ⟨1, 1⟩
def args0 : Array Value := #[.long 3, .long 1, .long 2, .long 4, .int 3]
def aboutOver (below : List Frame) : State where
  vm := { classes := classes, interned := interned.toArray }
  heap := heap
  slotsUsed := slotsUsed
  threads := #[{ frames := .invoking theMethod args0 :: below }]
def below0 : List Frame := [.native { method := ⟨0, 0⟩, args := #[] }]
def about1 : State := aboutOver below0
def p0 : Program := .bare "" "" ""
def e0 : Env := launch0.env 0 0 0
theorem w_frames : about1.frames = Frame.invoking theMethod args0 :: below0 := rfl
set_option maxRecDepth 65536 in
theorem w_args : argsFit about1.vm theMethod args0 = true := by decide +kernel
set_option maxRecDepth 65536 in
theorem w_heap : heapFits about1 = true := by decide +kernel
set_option maxRecDepth 65536 in
theorem w_runnable : about1.curStatus? = some .runnable := by decide +kernel
set_option maxRecDepth 65536 in
theorem w_alone : about1.alone = true := by decide +kernel
set_option maxRecDepth 65536 in
theorem w_named : about1.methodNamed? x = some theMethod := by decide +kernel
set_option maxRecDepth 65536 in
theorem w_hears : about1.hears theMethod below0 = true := by decide +kernel
set_option maxRecDepth 65536 in
theorem w_ripe : about1.ripe theMethod args0 below0 = true := by decide +kernel
theorem w_running : about1.status = .running := rfl
set_option maxRecDepth 65536 in
theorem w_room : about1.hasRoom e0.platform room_1 = true :=
  launch0.hasRoom_least _ room_1 (by decide +kernel) (by decide +kernel) (by decide +kernel) (by decide +kernel) (by decide +kernel) (by decide +kernel)
theorem allAtoms_all (ts : List Jvm.Cond) (a : Array Jvm.Value) (st : Jvm.State) : (allAtoms ts).before a st = ts.all (fun c => c.before a st) := by
  induction ts with
  | nil => rfl
  | cons c t ih =>
    show (Jvm.Cond.and c (allAtoms t)).before a st = _
    rw [Jvm.Cond.before_and, ih, List.all_cons]
def words1 : List Jvm.Cond := Jvm.Cond.code x code maxLocals ret :: tables_1
/-- a 'code' word, met by the world's own term for the bytes: nothing is compared byte by byte -/
theorem code_word {y : MethodName} {bytes : ByteArray} {mx : Nat} {rt : Option FieldType} {a : Array Value} {s : State} {m : MethodId} {meth : Method} {c : Code} (h1 : s.methodNamed? y = some m) (h2 : s.vm.method? m = some meth) (h3 : meth.code = some c) (h4 : c.code = bytes)
    (h5 : (c.maxLocals == mx && c.exceptionTable.isEmpty && decide (c.maxStack ≤ mostOperands) && decide (meth.sig.returnType = rt) && !meth.locks && decide (parseMethodDescriptor y.desc = some meth.sig)) = true) : (Jvm.Cond.code y bytes mx rt).before a s = true := by
  simp only [Bool.and_eq_true, beq_iff_eq, Bool.not_eq_true', decide_eq_true_eq] at h5
  obtain ⟨⟨⟨⟨⟨g1, g2⟩, g3⟩, g4⟩, g5⟩, g6⟩ := h5
  simp [Cond.before, Cond.holds, Cond.value, h1, h2, h3, h4, g1, g2, g3, g4, g5, g6]
def isCode : Jvm.Cond → Bool
  | .code _ _ _ _ => true
  | _ => false
theorem all_split {L : List Jvm.Cond} {P : Jvm.Cond → Bool} (h1 : L.all (fun c => isCode c || P c) = true) (h2 : ∀ c ∈ L.filter isCode, P c = true) : L.all P = true := by
  refine List.all_eq_true.mpr fun c hc => ?_
  have h := List.all_eq_true.mp h1 c hc
  rcases Bool.eq_false_or_eq_true (isCode c) with hi | hi
  · exact h2 c (List.mem_filter.mpr ⟨hc, hi⟩)
  · simpa [hi] using h
set_option maxRecDepth 65536 in
theorem w_c0 : (Jvm.Cond.code x code maxLocals ret).before args0 about1 = true := code_word (m := ⟨1, 1⟩) (meth := k1m1) (c := k1c1) (by decide +kernel) rfl rfl rfl (by decide +kernel)
set_option maxRecDepth 65536 in
theorem w_c1 : (Jvm.Cond.code ({ cls := "com/example/ordered_dispatch/ordereddispatch/SequenceQueue", name := "<init>", desc := "()V" } : Jvm.MethodName) prog_20_method_1_code (1 : Nat) (Option.none : Option Jvm.ClassFile.FieldType)).before args0 about1 = true := code_word (m := ⟨2, 0⟩) (meth := k2m0) (c := k2c0) (by decide +kernel) rfl rfl rfl (by decide +kernel)
set_option maxRecDepth 65536 in
theorem w_c2 : (Jvm.Cond.code ({ cls := "java/lang/Object", name := "<init>", desc := "()V" } : Jvm.MethodName) object_method_1_code (1 : Nat) (Option.none : Option Jvm.ClassFile.FieldType)).before args0 about1 = true := code_word (m := ⟨0, 0⟩) (meth := k0m0) (c := k0c0) (by decide +kernel) rfl rfl rfl (by decide +kernel)
set_option maxRecDepth 65536 in
theorem w_c3 : (Jvm.Cond.code ({ cls := "com/example/ordered_dispatch/ordereddispatch/SequenceQueue$Run", name := "<init>", desc := "()V" } : Jvm.MethodName) prog_23_method_1_code (1 : Nat) (Option.none : Option Jvm.ClassFile.FieldType)).before args0 about1 = true := code_word (m := ⟨4, 0⟩) (meth := k4m0) (c := k4c0) (by decide +kernel) rfl rfl rfl (by decide +kernel)
set_option maxRecDepth 65536 in
theorem w_c4 : (Jvm.Cond.code ({ cls := "com/example/ordered_dispatch/ordereddispatch/SequenceQueue$Part", name := "<init>", desc := "()V" } : Jvm.MethodName) prog_22_method_1_code (1 : Nat) (Option.none : Option Jvm.ClassFile.FieldType)).before args0 about1 = true := code_word (m := ⟨3, 0⟩) (meth := k3m0) (c := k3c0) (by decide +kernel) rfl rfl rfl (by decide +kernel)
set_option maxRecDepth 65536 in
theorem w_c5 : (Jvm.Cond.code ({ cls := "com/example/ordered_dispatch/ordereddispatch/SequenceQueue$Heap", name := "<init>", desc := "()V" } : Jvm.MethodName) prog_21_method_1_code (1 : Nat) (Option.none : Option Jvm.ClassFile.FieldType)).before args0 about1 = true := code_word (m := ⟨5, 0⟩) (meth := k5m0) (c := k5c0) (by decide +kernel) rfl rfl rfl (by decide +kernel)
set_option maxRecDepth 65536 in
theorem w_c6 : (Jvm.Cond.code ({ cls := "java/lang/Integer", name := "valueOf", desc := "(I)Ljava/lang/Integer;" } : Jvm.MethodName) jdk_33_method_22_code (1 : Nat) (Option.some (Jvm.ClassFile.FieldType.object "java/lang/Integer"))).before args0 about1 = true := code_word (m := ⟨11, 0⟩) (meth := k11m0) (c := k11c0) (by decide +kernel) rfl rfl rfl (by decide +kernel)
set_option maxRecDepth 65536 in
theorem w_c7 : (Jvm.Cond.code ({ cls := "com/example/ordered_dispatch/ordereddispatch/SequenceQueue", name := "add", desc := "(JLjava/lang/Object;)V" } : Jvm.MethodName) prog_20_method_2_code (4 : Nat) (Option.none : Option Jvm.ClassFile.FieldType)).before args0 about1 = true := code_word (m := ⟨2, 1⟩) (meth := k2m1) (c := k2c1) (by decide +kernel) rfl rfl rfl (by decide +kernel)
set_option maxRecDepth 65536 in
theorem w_c8 : (Jvm.Cond.code ({ cls := "com/example/ordered_dispatch/ordereddispatch/SequenceQueue", name := "place", desc := "(JLjava/lang/Object;)V" } : Jvm.MethodName) prog_20_method_9_code (4 : Nat) (Option.none : Option Jvm.ClassFile.FieldType)).before args0 about1 = true := code_word (m := ⟨2, 7⟩) (meth := k2m7) (c := k2c7) (by decide +kernel) rfl rfl rfl (by decide +kernel)
set_option maxRecDepth 65536 in
theorem w_c9 : (Jvm.Cond.code ({ cls := "com/example/ordered_dispatch/ordereddispatch/SequenceQueue$Run", name := "add", desc := "(JLjava/lang/Object;)V" } : Jvm.MethodName) prog_23_method_3_code (5 : Nat) (Option.none : Option Jvm.ClassFile.FieldType)).before args0 about1 = true := code_word (m := ⟨4, 2⟩) (meth := k4m2) (c := k4c2) (by decide +kernel) rfl rfl rfl (by decide +kernel)
set_option maxRecDepth 65536 in
theorem w_c10 : (Jvm.Cond.code ({ cls := "com/example/ordered_dispatch/ordereddispatch/SequenceQueue$Part", name := "makeRoom", desc := "()V" } : Jvm.MethodName) prog_22_method_2_code (1 : Nat) (Option.none : Option Jvm.ClassFile.FieldType)).before args0 about1 = true := code_word (m := ⟨3, 1⟩) (meth := k3m1) (c := k3c1) (by decide +kernel) rfl rfl rfl (by decide +kernel)
set_option maxRecDepth 65536 in
theorem w_c11 : (Jvm.Cond.code ({ cls := "com/example/ordered_dispatch/ordereddispatch/SequenceQueue$Run", name := "slot", desc := "(I)I" } : Jvm.MethodName) prog_23_method_6_code (3 : Nat) (Option.some Jvm.ClassFile.FieldType.int)).before args0 about1 = true := code_word (m := ⟨4, 4⟩) (meth := k4m4) (c := k4c4) (by decide +kernel) rfl rfl rfl (by decide +kernel)
set_option maxRecDepth 65536 in
theorem w_c12 : (Jvm.Cond.code ({ cls := "com/example/ordered_dispatch/ordereddispatch/SequenceQueue$Run", name := "lastKey", desc := "()J" } : Jvm.MethodName) prog_23_method_2_code (1 : Nat) (Option.some Jvm.ClassFile.FieldType.long)).before args0 about1 = true := code_word (m := ⟨4, 1⟩) (meth := k4m1) (c := k4c1) (by decide +kernel) rfl rfl rfl (by decide +kernel)
set_option maxRecDepth 65536 in
theorem w_c13 : (Jvm.Cond.code ({ cls := "com/example/ordered_dispatch/ordereddispatch/SequenceQueue$Heap", name := "add", desc := "(JLjava/lang/Object;)V" } : Jvm.MethodName) prog_21_method_2_code (6 : Nat) (Option.none : Option Jvm.ClassFile.FieldType)).before args0 about1 = true := code_word (m := ⟨5, 1⟩) (meth := k5m1) (c := k5c1) (by decide +kernel) rfl rfl rfl (by decide +kernel)
set_option maxRecDepth 65536 in
theorem w_c14 : (Jvm.Cond.code ({ cls := "com/example/ordered_dispatch/ordereddispatch/SequenceQueue", name := "clear", desc := "()V" } : Jvm.MethodName) prog_20_method_8_code (1 : Nat) (Option.none : Option Jvm.ClassFile.FieldType)).before args0 about1 = true := code_word (m := ⟨2, 6⟩) (meth := k2m6) (c := k2c6) (by decide +kernel) rfl rfl rfl (by decide +kernel)
set_option maxRecDepth 65536 in
theorem w_c15 : (Jvm.Cond.code ({ cls := "com/example/ordered_dispatch/ordereddispatch/SequenceQueue$Run", name := "clear", desc := "()V" } : Jvm.MethodName) prog_23_method_5_code (1 : Nat) (Option.none : Option Jvm.ClassFile.FieldType)).before args0 about1 = true := code_word (m := ⟨4, 3⟩) (meth := k4m3) (c := k4c3) (by decide +kernel) rfl rfl rfl (by decide +kernel)
set_option maxRecDepth 65536 in
theorem w_c16 : (Jvm.Cond.code ({ cls := "com/example/ordered_dispatch/ordereddispatch/SequenceQueue$Part", name := "clear", desc := "()V" } : Jvm.MethodName) prog_22_method_4_code (1 : Nat) (Option.none : Option Jvm.ClassFile.FieldType)).before args0 about1 = true := code_word (m := ⟨3, 2⟩) (meth := k3m2) (c := k3c2) (by decide +kernel) rfl rfl rfl (by decide +kernel)
set_option maxRecDepth 65536 in
theorem w_c17 : (Jvm.Cond.code ({ cls := "com/example/ordered_dispatch/ordereddispatch/SequenceQueue", name := "isEmpty", desc := "()Z" } : Jvm.MethodName) prog_20_method_4_code (1 : Nat) (Option.some Jvm.ClassFile.FieldType.boolean)).before args0 about1 = true := code_word (m := ⟨2, 3⟩) (meth := k2m3) (c := k2c3) (by decide +kernel) rfl rfl rfl (by decide +kernel)
set_option maxRecDepth 65536 in
theorem w_c18 : (Jvm.Cond.code ({ cls := "com/example/ordered_dispatch/ordereddispatch/SequenceQueue", name := "firstKey", desc := "()J" } : Jvm.MethodName) prog_20_method_5_code (3 : Nat) (Option.some Jvm.ClassFile.FieldType.long)).before args0 about1 = true := code_word (m := ⟨2, 4⟩) (meth := k2m4) (c := k2c4) (by decide +kernel) rfl rfl rfl (by decide +kernel)
set_option maxRecDepth 65536 in
theorem w_c19 : (Jvm.Cond.code ({ cls := "com/example/ordered_dispatch/ordereddispatch/SequenceQueue", name := "elements", desc := "()Ljava/util/List;" } : Jvm.MethodName) prog_20_method_6_code (3 : Nat) (Option.some (Jvm.ClassFile.FieldType.object "java/util/List"))).before args0 about1 = true := code_word (m := ⟨2, 5⟩) (meth := k2m5) (c := k2c5) (by decide +kernel) rfl rfl rfl (by decide +kernel)
set_option maxRecDepth 65536 in
theorem w_c20 : (Jvm.Cond.code ({ cls := "java/util/ArrayList", name := "<init>", desc := "(I)V" } : Jvm.MethodName) jdk_38_method_1_code (2 : Nat) (Option.none : Option Jvm.ClassFile.FieldType)).before args0 about1 = true := code_word (m := ⟨21, 0⟩) (meth := k21m0) (c := k21c0) (by decide +kernel) rfl rfl rfl (by decide +kernel)
set_option maxRecDepth 65536 in
theorem w_c21 : (Jvm.Cond.code ({ cls := "java/util/AbstractList", name := "<init>", desc := "()V" } : Jvm.MethodName) jdk_39_method_1_code (1 : Nat) (Option.none : Option Jvm.ClassFile.FieldType)).before args0 about1 = true := code_word (m := ⟨18, 0⟩) (meth := k18m0) (c := k18c0) (by decide +kernel) rfl rfl rfl (by decide +kernel)
set_option maxRecDepth 65536 in
theorem w_c22 : (Jvm.Cond.code ({ cls := "java/util/AbstractCollection", name := "<init>", desc := "()V" } : Jvm.MethodName) jdk_22_method_1_code (1 : Nat) (Option.none : Option Jvm.ClassFile.FieldType)).before args0 about1 = true := code_word (m := ⟨15, 0⟩) (meth := k15m0) (c := k15c0) (by decide +kernel) rfl rfl rfl (by decide +kernel)
set_option maxRecDepth 65536 in
theorem w_c23 : (Jvm.Cond.code ({ cls := "java/util/ArrayList", name := "size", desc := "()I" } : Jvm.MethodName) jdk_38_method_8_code (1 : Nat) (Option.some Jvm.ClassFile.FieldType.int)).before args0 about1 = true := code_word (m := ⟨21, 2⟩) (meth := k21m2) (c := k21c2) (by decide +kernel) rfl rfl rfl (by decide +kernel)
set_option maxRecDepth 65536 in
theorem w_c24 : (Jvm.Cond.code ({ cls := "com/example/ordered_dispatch/ordereddispatch/SequenceQueue", name := "poll", desc := "()Ljava/lang/Object;" } : Jvm.MethodName) prog_20_method_3_code (3 : Nat) (Option.some (Jvm.ClassFile.FieldType.object "java/lang/Object"))).before args0 about1 = true := code_word (m := ⟨2, 2⟩) (meth := k2m2) (c := k2c2) (by decide +kernel) rfl rfl rfl (by decide +kernel)
set_option maxRecDepth 65536 in
theorem w_c25 : (Jvm.Cond.code ({ cls := "java/lang/Integer", name := "intValue", desc := "()I" } : Jvm.MethodName) jdk_33_method_27_code (1 : Nat) (Option.some Jvm.ClassFile.FieldType.int)).before args0 about1 = true := code_word (m := ⟨11, 1⟩) (meth := k11m1) (c := k11c1) (by decide +kernel) rfl rfl rfl (by decide +kernel)
def codes1 : List Jvm.Cond := [Jvm.Cond.code x code maxLocals ret, Jvm.Cond.code ({ cls := "com/example/ordered_dispatch/ordereddispatch/SequenceQueue", name := "<init>", desc := "()V" } : Jvm.MethodName) prog_20_method_1_code (1 : Nat) (Option.none : Option Jvm.ClassFile.FieldType), Jvm.Cond.code ({ cls := "java/lang/Object", name := "<init>", desc := "()V" } : Jvm.MethodName) object_method_1_code (1 : Nat) (Option.none : Option Jvm.ClassFile.FieldType), Jvm.Cond.code ({ cls := "com/example/ordered_dispatch/ordereddispatch/SequenceQueue$Run", name := "<init>", desc := "()V" } : Jvm.MethodName) prog_23_method_1_code (1 : Nat) (Option.none : Option Jvm.ClassFile.FieldType), Jvm.Cond.code ({ cls := "com/example/ordered_dispatch/ordereddispatch/SequenceQueue$Part", name := "<init>", desc := "()V" } : Jvm.MethodName) prog_22_method_1_code (1 : Nat) (Option.none : Option Jvm.ClassFile.FieldType), Jvm.Cond.code ({ cls := "com/example/ordered_dispatch/ordereddispatch/SequenceQueue$Heap", name := "<init>", desc := "()V" } : Jvm.MethodName) prog_21_method_1_code (1 : Nat) (Option.none : Option Jvm.ClassFile.FieldType), Jvm.Cond.code ({ cls := "java/lang/Integer", name := "valueOf", desc := "(I)Ljava/lang/Integer;" } : Jvm.MethodName) jdk_33_method_22_code (1 : Nat) (Option.some (Jvm.ClassFile.FieldType.object "java/lang/Integer")), Jvm.Cond.code ({ cls := "com/example/ordered_dispatch/ordereddispatch/SequenceQueue", name := "add", desc := "(JLjava/lang/Object;)V" } : Jvm.MethodName) prog_20_method_2_code (4 : Nat) (Option.none : Option Jvm.ClassFile.FieldType), Jvm.Cond.code ({ cls := "com/example/ordered_dispatch/ordereddispatch/SequenceQueue", name := "place", desc := "(JLjava/lang/Object;)V" } : Jvm.MethodName) prog_20_method_9_code (4 : Nat) (Option.none : Option Jvm.ClassFile.FieldType), Jvm.Cond.code ({ cls := "com/example/ordered_dispatch/ordereddispatch/SequenceQueue$Run", name := "add", desc := "(JLjava/lang/Object;)V" } : Jvm.MethodName) prog_23_method_3_code (5 : Nat) (Option.none : Option Jvm.ClassFile.FieldType), Jvm.Cond.code ({ cls := "com/example/ordered_dispatch/ordereddispatch/SequenceQueue$Part", name := "makeRoom", desc := "()V" } : Jvm.MethodName) prog_22_method_2_code (1 : Nat) (Option.none : Option Jvm.ClassFile.FieldType), Jvm.Cond.code ({ cls := "com/example/ordered_dispatch/ordereddispatch/SequenceQueue$Run", name := "slot", desc := "(I)I" } : Jvm.MethodName) prog_23_method_6_code (3 : Nat) (Option.some Jvm.ClassFile.FieldType.int), Jvm.Cond.code ({ cls := "com/example/ordered_dispatch/ordereddispatch/SequenceQueue$Run", name := "lastKey", desc := "()J" } : Jvm.MethodName) prog_23_method_2_code (1 : Nat) (Option.some Jvm.ClassFile.FieldType.long), Jvm.Cond.code ({ cls := "com/example/ordered_dispatch/ordereddispatch/SequenceQueue$Heap", name := "add", desc := "(JLjava/lang/Object;)V" } : Jvm.MethodName) prog_21_method_2_code (6 : Nat) (Option.none : Option Jvm.ClassFile.FieldType), Jvm.Cond.code ({ cls := "com/example/ordered_dispatch/ordereddispatch/SequenceQueue", name := "clear", desc := "()V" } : Jvm.MethodName) prog_20_method_8_code (1 : Nat) (Option.none : Option Jvm.ClassFile.FieldType), Jvm.Cond.code ({ cls := "com/example/ordered_dispatch/ordereddispatch/SequenceQueue$Run", name := "clear", desc := "()V" } : Jvm.MethodName) prog_23_method_5_code (1 : Nat) (Option.none : Option Jvm.ClassFile.FieldType), Jvm.Cond.code ({ cls := "com/example/ordered_dispatch/ordereddispatch/SequenceQueue$Part", name := "clear", desc := "()V" } : Jvm.MethodName) prog_22_method_4_code (1 : Nat) (Option.none : Option Jvm.ClassFile.FieldType), Jvm.Cond.code ({ cls := "com/example/ordered_dispatch/ordereddispatch/SequenceQueue", name := "isEmpty", desc := "()Z" } : Jvm.MethodName) prog_20_method_4_code (1 : Nat) (Option.some Jvm.ClassFile.FieldType.boolean), Jvm.Cond.code ({ cls := "com/example/ordered_dispatch/ordereddispatch/SequenceQueue", name := "firstKey", desc := "()J" } : Jvm.MethodName) prog_20_method_5_code (3 : Nat) (Option.some Jvm.ClassFile.FieldType.long), Jvm.Cond.code ({ cls := "com/example/ordered_dispatch/ordereddispatch/SequenceQueue", name := "elements", desc := "()Ljava/util/List;" } : Jvm.MethodName) prog_20_method_6_code (3 : Nat) (Option.some (Jvm.ClassFile.FieldType.object "java/util/List")), Jvm.Cond.code ({ cls := "java/util/ArrayList", name := "<init>", desc := "(I)V" } : Jvm.MethodName) jdk_38_method_1_code (2 : Nat) (Option.none : Option Jvm.ClassFile.FieldType), Jvm.Cond.code ({ cls := "java/util/AbstractList", name := "<init>", desc := "()V" } : Jvm.MethodName) jdk_39_method_1_code (1 : Nat) (Option.none : Option Jvm.ClassFile.FieldType), Jvm.Cond.code ({ cls := "java/util/AbstractCollection", name := "<init>", desc := "()V" } : Jvm.MethodName) jdk_22_method_1_code (1 : Nat) (Option.none : Option Jvm.ClassFile.FieldType), Jvm.Cond.code ({ cls := "java/util/ArrayList", name := "size", desc := "()I" } : Jvm.MethodName) jdk_38_method_8_code (1 : Nat) (Option.some Jvm.ClassFile.FieldType.int), Jvm.Cond.code ({ cls := "com/example/ordered_dispatch/ordereddispatch/SequenceQueue", name := "poll", desc := "()Ljava/lang/Object;" } : Jvm.MethodName) prog_20_method_3_code (3 : Nat) (Option.some (Jvm.ClassFile.FieldType.object "java/lang/Object")), Jvm.Cond.code ({ cls := "java/lang/Integer", name := "intValue", desc := "()I" } : Jvm.MethodName) jdk_33_method_27_code (1 : Nat) (Option.some Jvm.ClassFile.FieldType.int)]
set_option maxRecDepth 65536 in
theorem codes_eq : words1.filter isCode = codes1 := rfl
theorem w_codes : ∀ c ∈ words1.filter isCode, c.before args0 about1 = true := by
  rw [codes_eq]
  intro c hc
  simp only [codes1, List.mem_cons, List.not_mem_nil, or_false] at hc
  rcases hc with rfl | rfl | rfl | rfl | rfl | rfl | rfl | rfl | rfl | rfl | rfl | rfl | rfl | rfl | rfl | rfl | rfl | rfl | rfl | rfl | rfl | rfl | rfl | rfl | rfl | rfl
  · exact w_c0
  · exact w_c1
  · exact w_c2
  · exact w_c3
  · exact w_c4
  · exact w_c5
  · exact w_c6
  · exact w_c7
  · exact w_c8
  · exact w_c9
  · exact w_c10
  · exact w_c11
  · exact w_c12
  · exact w_c13
  · exact w_c14
  · exact w_c15
  · exact w_c16
  · exact w_c17
  · exact w_c18
  · exact w_c19
  · exact w_c20
  · exact w_c21
  · exact w_c22
  · exact w_c23
  · exact w_c24
  · exact w_c25
set_option maxRecDepth 65536 in
theorem w_t1 : (words1.take 24).all (fun c => isCode c || c.before args0 about1) = true := by decide +kernel
set_option maxRecDepth 65536 in
theorem w_t2 : ((words1.drop 24).take 24).all (fun c => isCode c || c.before args0 about1) = true := by decide +kernel
set_option maxRecDepth 65536 in
theorem w_t3 : (((words1.drop 24).drop 24).take 24).all (fun c => isCode c || c.before args0 about1) = true := by decide +kernel
set_option maxRecDepth 65536 in
theorem w_t4 : ((((words1.drop 24).drop 24).drop 24).take 24).all (fun c => isCode c || c.before args0 about1) = true := by decide +kernel
set_option maxRecDepth 65536 in
theorem w_t5 : (((((words1.drop 24).drop 24).drop 24).drop 24).take 24).all (fun c => isCode c || c.before args0 about1) = true := by decide +kernel
set_option maxRecDepth 65536 in
theorem w_t6 : ((((((words1.drop 24).drop 24).drop 24).drop 24).drop 24).take 24).all (fun c => isCode c || c.before args0 about1) = true := by decide +kernel
set_option maxRecDepth 65536 in
theorem w_t7 : (((((((words1.drop 24).drop 24).drop 24).drop 24).drop 24).drop 24).take 24).all (fun c => isCode c || c.before args0 about1) = true := by decide +kernel
set_option maxRecDepth 65536 in
theorem w_t8 : ((((((((words1.drop 24).drop 24).drop 24).drop 24).drop 24).drop 24).drop 24).take 24).all (fun c => isCode c || c.before args0 about1) = true := by decide +kernel
set_option maxRecDepth 65536 in
theorem w_t9 : ((((((((words1.drop 24).drop 24).drop 24).drop 24).drop 24).drop 24).drop 24).drop 24).all (fun c => isCode c || c.before args0 about1) = true := by decide +kernel
theorem w_tables : (allAtoms (Jvm.Cond.code x code maxLocals ret :: tables_1)).before args0 about1 = true := by
  rw [allAtoms_all]
  show words1.all (fun c => c.before args0 about1) = true
  refine all_split ?_ w_codes
  rw [← List.take_append_drop 24 words1, List.all_append, w_t1, ← List.take_append_drop 24 (words1.drop 24), List.all_append, w_t2, ← List.take_append_drop 24 ((words1.drop 24).drop 24), List.all_append, w_t3, ← List.take_append_drop 24 (((words1.drop 24).drop 24).drop 24), List.all_append, w_t4, ← List.take_append_drop 24 ((((words1.drop 24).drop 24).drop 24).drop 24), List.all_append, w_t5, ← List.take_append_drop 24 (((((words1.drop 24).drop 24).drop 24).drop 24).drop 24), List.all_append, w_t6, ← List.take_append_drop 24 ((((((words1.drop 24).drop 24).drop 24).drop 24).drop 24).drop 24), List.all_append, w_t7, ← List.take_append_drop 24 (((((((words1.drop 24).drop 24).drop 24).drop 24).drop 24).drop 24).drop 24), List.all_append, w_t8, w_t9]
  rfl
set_option maxRecDepth 65536 in
theorem w_rest : rest_1_c.before args0 about1 = true := by decide +kernel
set_option maxRecDepth 65536 in
theorem w_case : (Jvm.Cond.and given_1 narrow_1).before args0 about1 = true := by decide +kernel
theorem w_applies : (headSpec (Jvm.Cond.code x code maxLocals ret :: tables_1) room_1).applies x e0.platform about1 = true :=
  (Spec.applies_iff w_frames).mpr ⟨w_running, w_runnable, w_alone, w_named, w_hears, w_ripe, w_room, w_tables⟩
theorem atStart : AtStart classFile x code maxLocals ret World_1 tables_1 room_1 Calls_1 rest_1 Pre_1 launch0 p0 e0 about1 theMethod args0 below0 :=
  ⟨lists_1, trivial, launch0.admits_env _ _ _, launch0.least_env, fairChoices_fair.cas, fairChoices_fair.clock, w_frames, w_args, w_heap, w_applies, trivial, w_rest, w_case⟩
end start1
theorem witness_1 : WitnessClaimed_1 := ⟨start1.p0, start1.e0, start1.about1, start1.theMethod, start1.args0, start1.below0, start1.atStart⟩
end Jvm.Pilot.@@N@@
