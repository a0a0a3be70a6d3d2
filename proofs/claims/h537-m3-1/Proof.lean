import JvmDerived
import JvmDerived.Pilot.@@N@@Statement
import JvmDerived.Pilot.@@N@@Code
set_option linter.unusedVariables false
set_option linter.unusedSimpArgs false
@@BLOCK:NumsL.lean.txt@@
namespace Jvm.OwnWp
open Jvm Jvm.ClassFile Sem Op Lib Jvm.Free Jvm.Stand Jvm.LawKit Jvm.RoadKit
/-! The heap of a walk as a plain list of the objects that it may touch. -/
abbrev Fd := String × String × String × Value
abbrev Ob := (String × List Fd) ⊕ (FieldType × List Value)
abbrev Hs := List (Addr × Ob)
section Heaps
variable {Z : State} {a0 : Array Value} {h h' h0 : Heap} {a b : Addr} {sl : Nat} {v : Value} {o o' : Ob} {os os' rest : Hs} {dm fp fp2 : List Addr}
def ObAt (Z : State) (a0 : Array Value) (h : Heap) (a : Addr) : Ob → Prop
  | .inl x => Exa Z h a x.1 ∧ (x.2.map (·.2.1)).Nodup ∧ ∀ q ∈ x.2, Fld Z h a q.1 q.2.1 q.2.2.1 q.2.2.2 ∧ Laid Z a0 x.1 q.1 q.2.1 q.2.2.1 ∧ ∃ t, parseFieldDescriptor q.2.2.1 = some t
  | .inr x => ∃ c : Cell, Arr Z h a c x.1 ∧ c.slots.toList = x.2 ∧ Exa Z h a ("[" ++ x.1.toString) ∧ ∀ v ∈ x.2, fits x.1 v = true
theorem ObAt.lt (F : ObAt Z a0 h a o) : a < h.size := by
  cases o with
  | inl x => exact F.1.lt
  | inr x => obtain ⟨c, A, -⟩ := F; exact A.lt
theorem ObAt.move (hm : ∀ c, h[a]? = some c → h'[a]? = some c) (F : ObAt Z a0 h a o) : ObAt Z a0 h' a o := by
  cases o with
  | inl x =>
    obtain ⟨⟨cell, k, h1, r⟩, hn, hq⟩ := F
    refine ⟨⟨cell, k, hm _ h1, r⟩, hn, fun q hq' => ?_⟩
    obtain ⟨⟨cell, cf, k, i, f, h1, r⟩, L⟩ := hq q hq'
    exact ⟨⟨cell, cf, k, i, f, hm _ h1, r⟩, L⟩
  | inr x =>
    obtain ⟨c, A, e, ⟨cell, k, h1, r⟩, hf⟩ := F
    exact ⟨c, ⟨hm _ A.1, A.2⟩, e, ⟨cell, k, hm _ h1, r⟩, hf⟩
theorem ObAt.ext (E : Ext h h') (F : ObAt Z a0 h a o) : ObAt Z a0 h' a o := F.move fun c hc => E.2 _ _ hc
theorem wr_ne (W : Wr h h' a sl v) (hne : b ≠ a) {c : Cell} (hc : h[b]? = some c) : h'[b]? = some c := by
  obtain ⟨cb', h1, -, -, -, h5, -⟩ := wr_at W hc
  rw [h1, h5 hne]
/-- the cells that a walk may write: those of its footprint, and the new ones -/
def Dm (fp : List Addr) (n0 : Nat) (a : Addr) : Prop := a ∈ fp ∨ n0 ≤ a
def Hq (Z : State) (a0 : Array Value) (h : Heap) (os : Hs) : Prop := (os.map (·.1)).Nodup ∧ ∀ q ∈ os, ObAt Z a0 h q.1 q.2
def Hp (Z : State) (a0 : Array Value) (dm fp : List Addr) (h0 h : Heap) (os : Hs) : Prop :=
  Hq Z a0 h os ∧ (∀ q ∈ os, Dm dm h0.size q.1) ∧ h0.size ≤ h.size ∧ ∀ a c, h0[a]? = some c → a ∉ fp → h[a]? = some c
theorem Hp.start (H : Hq Z a0 h os) : Hp Z a0 (os.map (·.1)) fp h h os := ⟨H, fun q hq => Or.inl (List.mem_map.mpr ⟨q, hq, rfl⟩), Nat.le_refl _, fun _ _ q _ => q⟩
theorem Hp.ext (E : Ext h h') (H : Hp Z a0 dm fp h0 h os) : Hp Z a0 dm fp h0 h' os :=
  ⟨⟨H.1.1, fun q hq => (H.1.2 q hq).ext E⟩, H.2.1, Nat.le_trans H.2.2.1 E.1, fun a c q n => E.2 _ _ (H.2.2.2 a c q n)⟩
theorem Hp.push (E : Ext h h') (F : ObAt Z a0 h' h.size o) (H : Hp Z a0 dm fp h0 h os) : Hp Z a0 dm fp h0 h' (os ++ [(h.size, o)]) := by
  have H' := H.ext E
  refine ⟨⟨?_, fun q hq => ?_⟩, fun q hq => ?_, H'.2.2⟩
  · rw [List.map_append, List.nodup_append]
    refine ⟨H.1.1, by simp, fun x hx y hy => ?_⟩
    obtain ⟨q, hq, rfl⟩ := List.mem_map.mp hx
    have := (H.1.2 q hq).lt
    simp only [List.map_cons, List.map_nil, List.mem_singleton] at hy
    intro e
    rw [e, hy] at this
    exact Nat.lt_irrefl _ this
  · rcases List.mem_append.mp hq with hq | hq
    · exact H'.1.2 q hq
    · cases List.mem_singleton.mp hq; exact F
  · rcases List.mem_append.mp hq with hq | hq
    · exact H.2.1 q hq
    · cases List.mem_singleton.mp hq; exact Or.inr H.2.2.1
theorem mem_set {α : Type} {l : List α} {k : Nat} {x q : α} (hq : q ∈ l.set k x) : q = x ∨ ∃ i, i ≠ k ∧ l[i]? = some q := by
  obtain ⟨i, hi⟩ := List.mem_iff_getElem?.mp hq
  rw [List.getElem?_set] at hi
  by_cases e : k = i
  · rw [if_pos e] at hi
    split at hi
    · exact Or.inl (Option.some.inj hi).symm
    · cases hi
  · rw [if_neg e] at hi
    exact Or.inr ⟨i, fun z => e z.symm, hi⟩
theorem nodup_inj {α : Type} {l : List α} (hn : l.Nodup) {i j : Nat} {x : α} (hi : l[i]? = some x) (hj : l[j]? = some x) : i = j := by
  obtain ⟨h1, e1⟩ := List.getElem?_eq_some_iff.mp hi
  obtain ⟨h2, e2⟩ := List.getElem?_eq_some_iff.mp hj
  exact (List.getElem_inj hn).mp (e1.trans e2.symm)
theorem map_at {α β : Type} {l : List α} {f : α → β} {i : Nat} {x : α} (hi : l[i]? = some x) : (l.map f)[i]? = some (f x) := by rw [List.getElem?_map, hi]; rfl
theorem map_set_same {α β : Type} {l : List α} {f : α → β} {k : Nat} {x x' : α} (hk : l[k]? = some x) (e : f x' = f x) : (l.set k x').map f = l.map f := by
  apply List.ext_getElem?
  intro i
  rw [List.getElem?_map, List.getElem?_map, List.getElem?_set]
  by_cases z : k = i
  · subst z
    rw [if_pos rfl]
    have := (List.getElem?_eq_some_iff.mp hk).1
    rw [if_pos this, hk]
    exact congrArg some e
  · rw [if_neg z]
theorem Hp.wr {k : Nat} (hD : Dm fp h0.size a) (W : Wr h h' a sl v) (ho : os[k]? = some (a, o)) (F : ObAt Z a0 h' a o') (H : Hp Z a0 dm fp h0 h os) : Hp Z a0 dm fp h0 h' (os.set k (a, o')) := by
  have hM : Dm dm h0.size a := H.2.1 _ (List.mem_of_getElem? ho)
  refine ⟨⟨?_, fun q hq => ?_⟩, fun q hq => ?_, by rw [W.size]; exact H.2.2.1, fun x c hx hn => ?_⟩
  · rw [map_set_same (f := fun x : Addr × Ob => x.1) (x' := (a, o')) ho rfl]; exact H.1.1
  · rcases mem_set hq with rfl | ⟨i, hi, hq⟩
    · exact F
    · have hne : q.1 ≠ a := fun e => hi (nodup_inj H.1.1 (map_at hq) (by rw [map_at ho, e]))
      exact (H.1.2 q (List.mem_of_getElem? hq)).move fun c hc => wr_ne W hne hc
  · rcases mem_set hq with rfl | ⟨i, hi, hq⟩
    · exact hM
    · exact H.2.1 q (List.mem_of_getElem? hq)
  · refine wr_ne W (fun e => ?_) (H.2.2.2 x c hx hn)
    subst e
    rcases hD with hD | hD
    · exact hn hD
    · exact absurd (Array.getElem?_eq_some_iff.mp hx).1 (Nat.not_lt.mpr hD)
theorem Hp.fld {k : Nat} {C : String} {fs : List Fd} {j : Nat} {O n d : String} {w : Value} (ho : os[k]? = some (a, .inl (C, fs))) (hj : fs[j]? = some (O, n, d, w)) (H : Hp Z a0 dm fp h0 h os) : Fld Z h a O n d w :=
  ((H.1.2 _ (List.mem_of_getElem? ho)).2.2 _ (List.mem_of_getElem? hj)).1
theorem Hp.exa {k : Nat} {C : String} {fs : List Fd} (ho : os[k]? = some (a, .inl (C, fs))) (H : Hp Z a0 dm fp h0 h os) : Exa Z h a C := (H.1.2 _ (List.mem_of_getElem? ho)).1
theorem Hp.putf {k : Nat} {C : String} {fs : List Fd} {j : Nat} {O n d : String} {w : Value} (hD : Dm fp h0.size a) (ho : os[k]? = some (a, .inl (C, fs))) (hj : fs[j]? = some (O, n, d, w)) (W : Wr h h' a (RoadKit.slotOf Z O n d) v) (H : Hp Z a0 dm fp h0 h os) :
    Hp Z a0 dm fp h0 h' (os.set k (a, .inl (C, fs.set j (O, n, d, v)))) := by
  refine H.wr hD W ho ?_
  obtain ⟨hE, hN, hF⟩ := H.1.2 _ (List.mem_of_getElem? ho)
  dsimp only at hE hN hF
  obtain ⟨F, L, t, ht⟩ := hF _ (List.mem_of_getElem? hj)
  refine ⟨hE.wr W, ?_, fun q hq => ?_⟩
  · dsimp only
    rw [map_set_same (f := fun x : Fd => x.2.1) (x' := (O, n, d, v)) hj rfl]; exact hN
  · rcases mem_set hq with rfl | ⟨i, hi, hq⟩
    · exact ⟨F.same W, L, t, ht⟩
    · obtain ⟨F', L', t', ht'⟩ := hF _ (List.mem_of_getElem? hq)
      have hne : q.2.1 ≠ n := fun e => hi (nodup_inj hN (map_at hq) (by rw [map_at hj, e]))
      exact ⟨F'.other W (Or.inr (slot_ne L' L hne ht' ht)), L', t', ht'⟩
theorem Hp.arr {k : Nat} {ty : FieldType} {vs : List Value} (ho : os[k]? = some (a, .inr (ty, vs))) (H : Hp Z a0 dm fp h0 h os) : ∃ c : Cell, Arr Z h a c ty ∧ c.slots.toList = vs := by
  obtain ⟨c, A, e, -⟩ := H.1.2 _ (List.mem_of_getElem? ho)
  exact ⟨c, A, e⟩
theorem Hp.puta {k : Nat} {ty : FieldType} {vs : List Value} {j : Nat} (hD : Dm fp h0.size a) (hf : fits ty v = true) (ho : os[k]? = some (a, .inr (ty, vs))) (W : Wr h h' a j v) (H : Hp Z a0 dm fp h0 h os) : Hp Z a0 dm fp h0 h' (os.set k (a, .inr (ty, vs.set j v))) := by
  refine H.wr hD W ho ?_
  obtain ⟨c, A, e, E, F⟩ := H.1.2 _ (List.mem_of_getElem? ho)
  refine ⟨_, A.same W, ?_, E.wr W, fun q hq => ?_⟩
  · dsimp only at e ⊢
    rw [← e]
    simp [Cell.setSlot]
  · rcases mem_set hq with rfl | ⟨i, -, hq⟩
    · exact hf
    · exact F q (List.mem_of_getElem? hq)
theorem Hp.call (H : Hp Z a0 dm fp h0 h (rest ++ os)) (H' : Hp Z a0 (os.map (·.1)) fp2 h h' os') (hc : fp2 = [] ∨ (fp2 = os.map (·.1) ∧ dm = fp)) : Hp Z a0 dm fp h0 h' (rest ++ os') := by
  have hN := H.1.1
  rw [List.map_append, List.nodup_append] at hN
  have hsub : ∀ x ∈ fp2, x ∈ os.map (·.1) := fun x hx => by
    rcases hc with rfl | ⟨rfl, -⟩
    · exact absurd hx List.not_mem_nil
    · exact hx
  have hD : ∀ x, Dm (os.map (·.1)) h.size x → Dm dm h0.size x := fun x hx => by
    rcases hx with hx | hx
    · obtain ⟨q, hq, rfl⟩ := List.mem_map.mp hx
      exact H.2.1 q (List.mem_append.mpr (Or.inr hq))
    · exact Or.inr (Nat.le_trans H.2.2.1 hx)
  have hR : ∀ q ∈ rest, q.1 ∉ os.map (·.1) := fun q hq hm => hN.2.2 _ (List.mem_map.mpr ⟨q, hq, rfl⟩) _ hm rfl
  refine ⟨⟨?_, fun q hq => ?_⟩, fun q hq => ?_, Nat.le_trans H.2.2.1 H'.2.2.1, fun x c hx hn => ?_⟩
  · rw [List.map_append, List.nodup_append]
    refine ⟨hN.1, H'.1.1, fun x hx y hy e => ?_⟩
    subst e
    obtain ⟨q, hq, rfl⟩ := List.mem_map.mp hx
    obtain ⟨q', hq', e⟩ := List.mem_map.mp hy
    have := H'.2.1 q' hq'
    rw [e] at this
    rcases this with t | t
    · exact hR q hq t
    · exact absurd (H.1.2 q (List.mem_append.mpr (Or.inl hq))).lt (Nat.not_lt.mpr t)
  · rcases List.mem_append.mp hq with hq | hq
    · exact (H.1.2 q (List.mem_append.mpr (Or.inl hq))).move fun c hc => H'.2.2.2 _ _ hc (fun z => hR q hq (hsub _ z))
    · exact H'.1.2 q hq
  · rcases List.mem_append.mp hq with hq | hq
    · exact H.2.1 q (List.mem_append.mpr (Or.inl hq))
    · exact hD _ (H'.2.1 q hq)
  · refine H'.2.2.2 _ _ (H.2.2.2 x c hx hn) fun hm => ?_
    rcases hc with rfl | ⟨rfl, rfl⟩
    · exact absurd hm List.not_mem_nil
    · obtain ⟨q, hq, rfl⟩ := List.mem_map.mp hm
      rcases H.2.1 q (List.mem_append.mpr (Or.inr hq)) with t | t
      · exact hn t
      · exact absurd (Array.getElem?_eq_some_iff.mp hx).1 (Nat.not_lt.mpr t)
theorem pick_mem {is : List Nat} {os2 : Hs} (he : is.map (fun i => os[i]?) = os2.map some) {q : Addr × Ob} (hq : q ∈ os2) : ∃ i ∈ is, os[i]? = some q := by
  have : some q ∈ is.map (fun i => os[i]?) := by rw [he]; exact List.mem_map.mpr ⟨q, hq, rfl⟩
  obtain ⟨i, hi, e⟩ := List.mem_map.mp this
  exact ⟨i, hi, e⟩
theorem pick_nodup (hN : (os.map (·.1)).Nodup) : ∀ {is : List Nat} {os2 : Hs}, is.Nodup → is.map (fun i => os[i]?) = os2.map some → (os2.map (·.1)).Nodup
  | [], [], _, _ => List.nodup_nil
  | [], _ :: _, _, he => by cases he
  | _ :: _, [], _, he => by cases he
  | i :: is, q :: os2, hi, he => by
    simp only [List.map_cons, List.cons.injEq] at he
    rw [List.nodup_cons] at hi
    rw [List.map_cons, List.nodup_cons]
    refine ⟨fun hm => ?_, pick_nodup hN hi.2 he.2⟩
    obtain ⟨q', hq', e⟩ := List.mem_map.mp hm
    obtain ⟨i', hi', e'⟩ := pick_mem he.2 hq'
    have := nodup_inj hN (map_at he.1) (by rw [map_at e', e])
    exact hi.1 (this ▸ hi')
theorem Hp.pick {is : List Nat} {os2 : Hs} (H : Hp Z a0 dm fp h0 h os) (hn : is.Nodup) (he : is.map (fun i => os[i]?) = os2.map some) : Hp Z a0 dm fp h0 h os2 :=
  have hm : ∀ q ∈ os2, q ∈ os := fun q hq => by obtain ⟨i, -, e⟩ := pick_mem he hq; exact List.mem_of_getElem? e
  ⟨⟨pick_nodup H.1.1 hn he, fun q hq => H.1.2 q (hm q hq)⟩, fun q hq => H.2.1 q (hm q hq), H.2.2⟩
end Heaps
/-- what a walk holds at a point -/
def Here (p : Program) (l : Launch) (e : Env) (R : Room) (s : State) (m : MethodId) (args : Array Value) (below : List Frame) (meth : Method) (c : Code) (Z : State) (a0 : Array Value) (y : MethodName) (bytes : ByteArray) (ml : Nat) (ret : Option FieldType) (dm fp : List Addr) (T : State) (k n : Nat) (os : Hs) : Prop :=
  ∃ locs, Stand p l e R s m args below meth c T locs k n ∧ (∀ q ∈ locs, Dm fp s.heap.size q.base) ∧ Hp Z a0 dm fp s.heap T.heap os ∧ p.tables.exec = Jvm.exec ∧ Z.Warmed39 s.vm ∧ c.code = bytes ∧ c.maxLocals = ml ∧ s.vm.findClass y.cls = some m.cls ∧ meth.name = y.name ∧ meth.sig.returnType = ret ∧ meth.locks = false
/-- from here the body returns, and what it leaves is as Post says -/
def Wp (p : Program) (e : Env) (below : List Frame) (Z : State) (a0 : Array Value) (dm fp : List Addr) (R : Room) (s : State) (Post : Option Value → Hs → Prop) (T : State) (g : JFrame) : Prop :=
  ∃ s₂ o, Steps p.tables e below (T.setTop g) s₂ ∧ s₂.status = .running ∧ Ended s₂ below o ∧ ∃ v L, o = .returned v ∧ ((∀ q ∈ L, Dm fp s.heap.size q.base) ∧ ∃ os', Hp Z a0 dm fp s.heap s₂.heap os' ∧ Post v os') ∧ FrameEnd s o s₂ L R.cells R.slots
/-- a body's contract -/
def Pays (l : Launch) (Z : State) (a0 : Array Value) (y : MethodName) (bytes : ByteArray) (ml : Nat) (ret : Option FieldType) (R : Room) (args : Array Value) (os : Hs) (fp : List Addr) (Post : Option Value → Hs → Prop) : Prop :=
  ∀ (ws : List Jvm.Cond) (h0 : Heap), Hq Z a0 h0 os → MetFree l y (head1 (Jvm.Cond.code y bytes ml ret :: ws) R) (fun a U => a = args ∧ Z.Warmed39 U.vm ∧ U.heap = h0) (fun _ _ _ _ _ => True)
    (fun _ U o U' => ∃ v L, o = .returned v ∧ ((∀ q ∈ L, Dm fp h0.size q.base) ∧ ∃ os', Hp Z a0 (os.map (·.1)) fp h0 U'.heap os' ∧ Post v os') ∧ FrameEnd U o U' L R.cells R.slots)
section Walks
variable {p : Program} {l : Launch} {e : Env} {R : Room} {s : State} {m : MethodId} {args : Array Value} {below : List Frame} {meth : Method} {c : Code} {Z : State} {a0 : Array Value} {y : MethodName} {bytes : ByteArray} {ml : Nat} {ret : Option FieldType} {dm fp fp2 : List Addr} {T T' : State} {k n : Nat} {os : Hs} {Post : Option Value → Hs → Prop} {pc : Nat} {Ls : Array Slot} {st rest : List Value}
theorem Wp.go {g g' : JFrame} (hs : ∀ t, Steps p.tables e below (T'.setTop g') t → Steps p.tables e below (T.setTop g) t) (K : Wp p e below Z a0 dm fp R s Post T' g') : Wp p e below Z a0 dm fp R s Post T g := by
  obtain ⟨s₂, o, h1, r⟩ := K
  exact ⟨s₂, o, hs _ h1, r⟩
theorem Here.hr (A : Here p l e R s m args below meth c Z a0 y bytes ml ret dm fp T k n os) : At T m c below := by obtain ⟨_, X, -⟩ := A; exact X.here
theorem Here.hx (A : Here p l e R s m args below meth c Z a0 y bytes ml ret dm fp T k n os) : p.tables.exec = Jvm.exec := by obtain ⟨_, -, -, -, hx, -⟩ := A; exact hx
theorem Here.hb {r : Except DecodeError (Instr × Nat)} (A : Here p l e R s m args below meth c Z a0 y bytes ml ret dm fp T k n os) (hd : decode bytes pc = r) : decode c.code pc = r := by obtain ⟨_, -, -, -, -, -, hb, -⟩ := A; exact hb ▸ hd
theorem Here.pick {is : List Nat} {os2 : Hs} (A : Here p l e R s m args below meth c Z a0 y bytes ml ret dm fp T k n os) (hn : is.Nodup) (he : is.map (fun i => os[i]?) = os2.map some) : Here p l e R s m args below meth c Z a0 y bytes ml ret dm fp T k n os2 := by
  obtain ⟨locs, X, N, H, r⟩ := A
  exact ⟨locs, X, N, H.pick hn he, r⟩
theorem Here.cast {k2 n2 : Nat} {os2 : Hs} (A : Here p l e R s m args below meth c Z a0 y bytes ml ret dm fp T k n os) (h1 : k = k2) (h2 : n = n2) (h3 : os = os2) : Here p l e R s m args below meth c Z a0 y bytes ml ret dm fp T k2 n2 os2 := by
  subst h1 h2 h3
  exact A
theorem Here.more {k2 n2 : Nat} (A : Here p l e R s m args below meth c Z a0 y bytes ml ret dm fp T k n os) (h1 : k ≤ k2) (h2 : n ≤ n2) : Here p l e R s m args below meth c Z a0 y bytes ml ret dm fp T k2 n2 os := by
  obtain ⟨locs, X, r⟩ := A
  exact ⟨locs, X.more h1 h2, r⟩
theorem Here.irem {x z : Int32} (A : Here p l e R s m args below meth c Z a0 y bytes ml ret dm fp T k n os) (hd : decode bytes pc = .ok (.irem, 1)) (hz : z ≠ 0) {qn : Nat} (hq : pc + 1 = qn)
    (K : Wp p e below Z a0 dm fp R s Post T (mkF m qn Ls (.int (x % z) :: rest))) : Wp p e below Z a0 dm fp R s Post T (mkF m pc Ls (.int z :: .int x :: rest)) := by
  subst hq
  have q := irem_eq_mod x z
  exact Wp.go (fun t kt => XS.irem A.hr A.hx rfl (A.hb hd) rfl hz (by rw [q]; exact kt)) K
theorem lrem_eq (x z : Int64) : x - (x / z) * z = x % z := by
  apply Int64.toInt_inj.mp
  rw [Jvm.Kit.i64_rem, Int64.toInt_mod]
theorem Here.lrem {x z : Int64} (A : Here p l e R s m args below meth c Z a0 y bytes ml ret dm fp T k n os) (hd : decode bytes pc = .ok (.lrem, 1)) (hz : z ≠ 0) {qn : Nat} (hq : pc + 1 = qn)
    (K : Wp p e below Z a0 dm fp R s Post T (mkF m qn Ls (.long (x % z) :: rest))) : Wp p e below Z a0 dm fp R s Post T (mkF m pc Ls (.long z :: .long x :: rest)) := by
  subst hq
  have q := lrem_eq x z
  exact Wp.go (fun t kt => XS.lrem A.hr A.hx rfl (A.hb hd) rfl hz (by rw [q]; exact kt)) K
theorem Pays.of (hpl : plainFor y = true) (hef : ∀ m, entryFrame m args ml = mkF m 0 Ls [])
    (body : ∀ p e s m below meth c T, Here p l e R s m args below meth c Z a0 y bytes ml ret (os.map (·.1)) fp T 0 0 os → Wp p e below Z a0 (os.map (·.1)) fp R s Post T (mkF m 0 Ls [])) : Pays l Z a0 y bytes ml ret R args os fp Post := by
  intro ws h0 hq
  refine MetFree.of_bodySF hpl hisR ?_
  intro p e s m args' below meth c s₁ Bd hml0 hP hK
  obtain ⟨rfl, hZ, hh⟩ := hP
  have X0 : Stand p l e R s m args' below meth c s₁ [] 0 0 := Stand.of_body Bd
  have e0 : s₁.heap = s.heap := by rw [Bd.state]; rfl
  subst hh
  obtain ⟨s₂, o, h1, h2, h3, h4⟩ := body p e s m below meth c s₁ ⟨[], X0, fun _ q => (nomatch q), by rw [e0]; exact Hp.start hq, Bd.exec, hZ, Bd.bytes, hml0, findClass_of_methodNamed Bd.named, (name_of_methodNamed Bd.named Bd.method).1, Bd.returns, Bd.notSynchronized⟩
  exact ⟨s₂, o, castTop (hef m) h1, h2, h3, h4⟩
theorem Here.fin {v : Option Value} {g : JFrame} (A : Here p l e R s m args below meth c Z a0 y bytes ml ret dm fp T k n os) (hv : ret = none → v = none) (hk : k ≤ R.cells) (hn : n ≤ R.slots) (hP : Post v os)
    (hs : ∀ (locs : List Loc), Stand p l e R s m args below meth c T locs k n → meth.sig.returnType = ret → ∀ fs : List Frame, (∀ (f : JFrame) (acts : List Action), f.method = m → f.locked = none → f.entered = [] → (doReturn e (T.setTop f) acts v).1 = T.setFrames fs) → Steps p.tables e below (T.setTop g) (T.setFrames fs)) :
    Wp p e below Z a0 dm fp R s Post T g := by
  obtain ⟨locs, X, N, H, hx, hZ, hb, hml, hown, hnm, hret, hlk⟩ := A
  obtain ⟨fs, hr, hrun, hended, hW, hsame⟩ := X.leave (v := v) (fun h => hv (hret ▸ h)) hlk
  exact ⟨_, _, hs locs X hret fs hr, hrun, hended, v, locs, rfl, ⟨N, os, H, hP⟩, ⟨_, rfl⟩, hW, hsame.mono hk hn⟩
theorem Here.retV (A : Here p l e R s m args below meth c Z a0 y bytes ml none dm fp T k n os) (hd : decode bytes pc = .ok (.return_, 1)) (hk : k ≤ R.cells) (hn : n ≤ R.slots) (hP : Post none os) : Wp p e below Z a0 dm fp R s Post T (mkF m pc Ls []) :=
  A.fin (v := none) (fun _ => rfl) hk hn hP fun _ X hret _ hr => X.returnOut A.hx hret (A.hb hd) hr
theorem Here.retT {w : Value} {t : FieldType} {i : Instr} (A : Here p l e R s m args below meth c Z a0 y bytes ml (some t) dm fp T k n os) (hd : decode bytes pc = .ok (i, 1)) (hw : narrow t w = w)
    (hi : (i = .ireturn ∧ (t = .int ∨ t = .boolean ∨ t = .byte ∨ t = .char ∨ t = .short) ∧ ∃ z, w = .int z) ∨ (i = .lreturn ∧ t = .long ∧ ∃ z, w = .long z) ∨ (i = .dreturn ∧ t = .double ∧ ∃ z, w = .double z) ∨ (i = .freturn ∧ t = .float ∧ ∃ z, w = .float z) ∨ (i = .areturn ∧ t.isReference = true ∧ w.isRef = true))
    (hk : k ≤ R.cells) (hn : n ≤ R.slots) (hP : Post (some w) os) : Wp p e below Z a0 dm fp R s Post T (mkF m pc Ls (w :: rest)) :=
  A.fin (v := some w) (fun h => by cases h) hk hn hP fun _ X hret _ hr => retOut X A.hx hret hw hi (A.hb hd) hr
theorem Here.retI {z : Int32} (A : Here p l e R s m args below meth c Z a0 y bytes ml (some .int) dm fp T k n os) (hd : decode bytes pc = .ok (.ireturn, 1)) (hk : k ≤ R.cells) (hn : n ≤ R.slots) (hP : Post (some (.int z)) os) : Wp p e below Z a0 dm fp R s Post T (mkF m pc Ls (.int z :: rest)) :=
  A.retT hd rfl (Or.inl ⟨rfl, Or.inl rfl, z, rfl⟩) hk hn hP
theorem Here.retJ {z : Int64} (A : Here p l e R s m args below meth c Z a0 y bytes ml (some .long) dm fp T k n os) (hd : decode bytes pc = .ok (.lreturn, 1)) (hk : k ≤ R.cells) (hn : n ≤ R.slots) (hP : Post (some (.long z)) os) : Wp p e below Z a0 dm fp R s Post T (mkF m pc Ls (.long z :: rest)) :=
  A.retT hd rfl (Or.inr (Or.inl ⟨rfl, rfl, z, rfl⟩)) hk hn hP
theorem Here.retR {a : Addr} {t : FieldType} (A : Here p l e R s m args below meth c Z a0 y bytes ml (some t) dm fp T k n os) (hd : decode bytes pc = .ok (.areturn, 1)) (ht : t.isReference = true) (hk : k ≤ R.cells) (hn : n ≤ R.slots) (hP : Post (some (.ref a)) os) : Wp p e below Z a0 dm fp R s Post T (mkF m pc Ls (.ref a :: rest)) :=
  A.retT hd (by cases t <;> first | rfl | (cases ht)) (Or.inr (Or.inr (Or.inr (Or.inr ⟨rfl, ht, rfl⟩)))) hk hn hP
/-- of a boolean, byte, char, short: what comes out is narrowed -/
theorem Here.retN {z : Int32} {t : FieldType} (A : Here p l e R s m args below meth c Z a0 y bytes ml (some t) dm fp T k n os) (ht : t = .boolean ∨ t = .byte ∨ t = .char ∨ t = .short) (hd : decode bytes pc = .ok (.ireturn, 1)) (hk : k ≤ R.cells) (hn : n ≤ R.slots) (hP : Post (some (.int (nar t z))) os) : Wp p e below Z a0 dm fp R s Post T (mkF m pc Ls (.int z :: rest)) :=
  A.fin (v := some (.int (nar t z))) (fun h => by cases h) hk hn hP fun _ X hret _ hr => RoadKit.retN X A.hx hret ht (A.hb hd) hr
/-! single instructions (printed by mkops.py) -/
theorem Here.iloadN {j : Fin 4} {v : Int32} {q : Nat} (A : Here p l e R s m args below meth c Z a0 y bytes ml ret dm fp T k n os) (hd : decode bytes pc = .ok (.iload_n j, 1)) (hl : Ls[j.val]? = some (.val (.int v))) (hq : pc + 1 = q) (K : Wp p e below Z a0 dm fp R s Post T (mkF m q Ls (.int v :: st))) : Wp p e below Z a0 dm fp R s Post T (mkF m pc Ls st) := by
  subst hq
  exact Wp.go (fun t kt => XS.iloadN A.hr A.hx rfl (A.hb hd) hl kt) K
theorem Here.iload {j : Nat} {v : Int32} {q : Nat} (A : Here p l e R s m args below meth c Z a0 y bytes ml ret dm fp T k n os) (hd : decode bytes pc = .ok (.iload j, 2)) (hl : Ls[j]? = some (.val (.int v))) (hq : pc + 2 = q) (K : Wp p e below Z a0 dm fp R s Post T (mkF m q Ls (.int v :: st))) : Wp p e below Z a0 dm fp R s Post T (mkF m pc Ls st) := by
  subst hq
  exact Wp.go (fun t kt => XS.iload A.hr A.hx rfl (A.hb hd) hl kt) K
theorem Here.istoreN {j : Fin 4} {v : Int32} {l' : Array Slot} {q : Nat} (A : Here p l e R s m args below meth c Z a0 y bytes ml ret dm fp T k n os) (hd : decode bytes pc = .ok (.istore_n j, 1)) (hl : storeLocals Ls j.val (.int v) = some l') (hq : pc + 1 = q) (K : Wp p e below Z a0 dm fp R s Post T (mkF m q l' rest)) : Wp p e below Z a0 dm fp R s Post T (mkF m pc Ls (.int v :: rest)) := by
  subst hq
  exact Wp.go (fun t kt => XS.istoreN A.hr A.hx rfl (A.hb hd) rfl hl kt) K
theorem Here.istore {j : Nat} {v : Int32} {l' : Array Slot} {q : Nat} (A : Here p l e R s m args below meth c Z a0 y bytes ml ret dm fp T k n os) (hd : decode bytes pc = .ok (.istore j, 2)) (hl : storeLocals Ls j (.int v) = some l') (hq : pc + 2 = q) (K : Wp p e below Z a0 dm fp R s Post T (mkF m q l' rest)) : Wp p e below Z a0 dm fp R s Post T (mkF m pc Ls (.int v :: rest)) := by
  subst hq
  exact Wp.go (fun t kt => XS.istore A.hr A.hx rfl (A.hb hd) rfl hl kt) K
theorem Here.lloadN {j : Fin 4} {v : Int64} {q : Nat} (A : Here p l e R s m args below meth c Z a0 y bytes ml ret dm fp T k n os) (hd : decode bytes pc = .ok (.lload_n j, 1)) (hl : Ls[j.val]? = some (.val (.long v))) (hq : pc + 1 = q) (K : Wp p e below Z a0 dm fp R s Post T (mkF m q Ls (.long v :: st))) : Wp p e below Z a0 dm fp R s Post T (mkF m pc Ls st) := by
  subst hq
  exact Wp.go (fun t kt => XS.lloadN A.hr A.hx rfl (A.hb hd) hl kt) K
theorem Here.lload {j : Nat} {v : Int64} {q : Nat} (A : Here p l e R s m args below meth c Z a0 y bytes ml ret dm fp T k n os) (hd : decode bytes pc = .ok (.lload j, 2)) (hl : Ls[j]? = some (.val (.long v))) (hq : pc + 2 = q) (K : Wp p e below Z a0 dm fp R s Post T (mkF m q Ls (.long v :: st))) : Wp p e below Z a0 dm fp R s Post T (mkF m pc Ls st) := by
  subst hq
  exact Wp.go (fun t kt => XS.lload A.hr A.hx rfl (A.hb hd) hl kt) K
theorem Here.lstoreN {j : Fin 4} {v : Int64} {l' : Array Slot} {q : Nat} (A : Here p l e R s m args below meth c Z a0 y bytes ml ret dm fp T k n os) (hd : decode bytes pc = .ok (.lstore_n j, 1)) (hl : storeLocals Ls j.val (.long v) = some l') (hq : pc + 1 = q) (K : Wp p e below Z a0 dm fp R s Post T (mkF m q l' rest)) : Wp p e below Z a0 dm fp R s Post T (mkF m pc Ls (.long v :: rest)) := by
  subst hq
  exact Wp.go (fun t kt => XS.lstoreN A.hr A.hx rfl (A.hb hd) rfl hl kt) K
theorem Here.lstore {j : Nat} {v : Int64} {l' : Array Slot} {q : Nat} (A : Here p l e R s m args below meth c Z a0 y bytes ml ret dm fp T k n os) (hd : decode bytes pc = .ok (.lstore j, 2)) (hl : storeLocals Ls j (.long v) = some l') (hq : pc + 2 = q) (K : Wp p e below Z a0 dm fp R s Post T (mkF m q l' rest)) : Wp p e below Z a0 dm fp R s Post T (mkF m pc Ls (.long v :: rest)) := by
  subst hq
  exact Wp.go (fun t kt => XS.lstore A.hr A.hx rfl (A.hb hd) rfl hl kt) K
theorem Here.aloadN {j : Fin 4} {v : Value} {q : Nat} (A : Here p l e R s m args below meth c Z a0 y bytes ml ret dm fp T k n os) (hd : decode bytes pc = .ok (.aload_n j, 1)) (hl : Ls[j.val]? = some (.val v)) (hv : v.isRef = true) (hq : pc + 1 = q) (K : Wp p e below Z a0 dm fp R s Post T (mkF m q Ls (v :: st))) : Wp p e below Z a0 dm fp R s Post T (mkF m pc Ls st) := by
  subst hq
  exact Wp.go (fun t kt => XS.aloadN A.hr A.hx rfl (A.hb hd) hl hv kt) K
theorem Here.aload {j : Nat} {v : Value} {q : Nat} (A : Here p l e R s m args below meth c Z a0 y bytes ml ret dm fp T k n os) (hd : decode bytes pc = .ok (.aload j, 2)) (hl : Ls[j]? = some (.val v)) (hv : v.isRef = true) (hq : pc + 2 = q) (K : Wp p e below Z a0 dm fp R s Post T (mkF m q Ls (v :: st))) : Wp p e below Z a0 dm fp R s Post T (mkF m pc Ls st) := by
  subst hq
  exact Wp.go (fun t kt => XS.aload A.hr A.hx rfl (A.hb hd) hl hv kt) K
theorem Here.astoreN {j : Fin 4} {v : Value} {l' : Array Slot} {q : Nat} (A : Here p l e R s m args below meth c Z a0 y bytes ml ret dm fp T k n os) (hd : decode bytes pc = .ok (.astore_n j, 1)) (hv : v.isRef = true) (hl : storeLocals Ls j.val v = some l') (hq : pc + 1 = q) (K : Wp p e below Z a0 dm fp R s Post T (mkF m q l' rest)) : Wp p e below Z a0 dm fp R s Post T (mkF m pc Ls (v :: rest)) := by
  subst hq
  exact Wp.go (fun t kt => XS.astoreN A.hr A.hx rfl (A.hb hd) rfl hv hl kt) K
theorem Here.astore {j : Nat} {v : Value} {l' : Array Slot} {q : Nat} (A : Here p l e R s m args below meth c Z a0 y bytes ml ret dm fp T k n os) (hd : decode bytes pc = .ok (.astore j, 2)) (hv : v.isRef = true) (hl : storeLocals Ls j v = some l') (hq : pc + 2 = q) (K : Wp p e below Z a0 dm fp R s Post T (mkF m q l' rest)) : Wp p e below Z a0 dm fp R s Post T (mkF m pc Ls (v :: rest)) := by
  subst hq
  exact Wp.go (fun t kt => XS.astore A.hr A.hx rfl (A.hb hd) rfl hv hl kt) K
theorem Here.iconst {i : Int} {v : Int32} {q : Nat} (A : Here p l e R s m args below meth c Z a0 y bytes ml ret dm fp T k n os) (hd : decode bytes pc = .ok (.iconst i, 1)) (hv : Int32.ofInt i = v) (hq : pc + 1 = q) (K : Wp p e below Z a0 dm fp R s Post T (mkF m q Ls (.int v :: st))) : Wp p e below Z a0 dm fp R s Post T (mkF m pc Ls st) := by
  subst hq hv
  exact Wp.go (fun t kt => XS.iconst A.hr A.hx rfl (A.hb hd) kt) K
theorem Here.bipush {i : Int} {v : Int32} {q : Nat} (A : Here p l e R s m args below meth c Z a0 y bytes ml ret dm fp T k n os) (hd : decode bytes pc = .ok (.bipush i, 2)) (hv : (Int8.ofInt i).toInt32 = v) (hq : pc + 2 = q) (K : Wp p e below Z a0 dm fp R s Post T (mkF m q Ls (.int v :: st))) : Wp p e below Z a0 dm fp R s Post T (mkF m pc Ls st) := by
  subst hq hv
  exact Wp.go (fun t kt => XS.bipush A.hr A.hx rfl (A.hb hd) kt) K
theorem Here.sipush {i : Int} {v : Int32} {q : Nat} (A : Here p l e R s m args below meth c Z a0 y bytes ml ret dm fp T k n os) (hd : decode bytes pc = .ok (.sipush i, 3)) (hv : (Int16.ofInt i).toInt32 = v) (hq : pc + 3 = q) (K : Wp p e below Z a0 dm fp R s Post T (mkF m q Ls (.int v :: st))) : Wp p e below Z a0 dm fp R s Post T (mkF m pc Ls st) := by
  subst hq hv
  exact Wp.go (fun t kt => XS.sipush A.hr A.hx rfl (A.hb hd) kt) K
theorem Here.lconst {i : Fin 2} {v : Int64} {q : Nat} (A : Here p l e R s m args below meth c Z a0 y bytes ml ret dm fp T k n os) (hd : decode bytes pc = .ok (.lconst i, 1)) (hv : Int64.ofNat i.val = v) (hq : pc + 1 = q) (K : Wp p e below Z a0 dm fp R s Post T (mkF m q Ls (.long v :: st))) : Wp p e below Z a0 dm fp R s Post T (mkF m pc Ls st) := by
  subst hq hv
  exact Wp.go (fun t kt => XS.lconst A.hr A.hx rfl (A.hb hd) kt) K
theorem Here.aconstNull  {q : Nat} (A : Here p l e R s m args below meth c Z a0 y bytes ml ret dm fp T k n os) (hd : decode bytes pc = .ok (.aconst_null, 1)) (hq : pc + 1 = q) (K : Wp p e below Z a0 dm fp R s Post T (mkF m q Ls (.null :: st))) : Wp p e below Z a0 dm fp R s Post T (mkF m pc Ls st) := by
  subst hq
  exact Wp.go (fun t kt => XS.aconstNull A.hr A.hx rfl (A.hb hd)  kt) K
theorem Here.iadd {x z : Int32} {q : Nat} (A : Here p l e R s m args below meth c Z a0 y bytes ml ret dm fp T k n os) (hd : decode bytes pc = .ok (.iadd, 1)) (hq : pc + 1 = q) (K : Wp p e below Z a0 dm fp R s Post T (mkF m q Ls (.int (x + z) :: rest))) : Wp p e below Z a0 dm fp R s Post T (mkF m pc Ls (.int z :: .int x :: rest)) := by
  subst hq
  exact Wp.go (fun t kt => XS.iadd A.hr A.hx rfl (A.hb hd) rfl kt) K
theorem Here.ladd {x z : Int64} {q : Nat} (A : Here p l e R s m args below meth c Z a0 y bytes ml ret dm fp T k n os) (hd : decode bytes pc = .ok (.ladd, 1)) (hq : pc + 1 = q) (K : Wp p e below Z a0 dm fp R s Post T (mkF m q Ls (.long (x + z) :: rest))) : Wp p e below Z a0 dm fp R s Post T (mkF m pc Ls (.long z :: .long x :: rest)) := by
  subst hq
  exact Wp.go (fun t kt => XS.ladd A.hr A.hx rfl (A.hb hd) rfl kt) K
theorem Here.isub {x z : Int32} {q : Nat} (A : Here p l e R s m args below meth c Z a0 y bytes ml ret dm fp T k n os) (hd : decode bytes pc = .ok (.isub, 1)) (hq : pc + 1 = q) (K : Wp p e below Z a0 dm fp R s Post T (mkF m q Ls (.int (x - z) :: rest))) : Wp p e below Z a0 dm fp R s Post T (mkF m pc Ls (.int z :: .int x :: rest)) := by
  subst hq
  exact Wp.go (fun t kt => XS.isub A.hr A.hx rfl (A.hb hd) rfl kt) K
theorem Here.lsub {x z : Int64} {q : Nat} (A : Here p l e R s m args below meth c Z a0 y bytes ml ret dm fp T k n os) (hd : decode bytes pc = .ok (.lsub, 1)) (hq : pc + 1 = q) (K : Wp p e below Z a0 dm fp R s Post T (mkF m q Ls (.long (x - z) :: rest))) : Wp p e below Z a0 dm fp R s Post T (mkF m pc Ls (.long z :: .long x :: rest)) := by
  subst hq
  exact Wp.go (fun t kt => XS.lsub A.hr A.hx rfl (A.hb hd) rfl kt) K
theorem Here.imul {x z : Int32} {q : Nat} (A : Here p l e R s m args below meth c Z a0 y bytes ml ret dm fp T k n os) (hd : decode bytes pc = .ok (.imul, 1)) (hq : pc + 1 = q) (K : Wp p e below Z a0 dm fp R s Post T (mkF m q Ls (.int (x * z) :: rest))) : Wp p e below Z a0 dm fp R s Post T (mkF m pc Ls (.int z :: .int x :: rest)) := by
  subst hq
  exact Wp.go (fun t kt => XS.imul A.hr A.hx rfl (A.hb hd) rfl kt) K
theorem Here.lmul {x z : Int64} {q : Nat} (A : Here p l e R s m args below meth c Z a0 y bytes ml ret dm fp T k n os) (hd : decode bytes pc = .ok (.lmul, 1)) (hq : pc + 1 = q) (K : Wp p e below Z a0 dm fp R s Post T (mkF m q Ls (.long (x * z) :: rest))) : Wp p e below Z a0 dm fp R s Post T (mkF m pc Ls (.long z :: .long x :: rest)) := by
  subst hq
  exact Wp.go (fun t kt => XS.lmul A.hr A.hx rfl (A.hb hd) rfl kt) K
theorem Here.iand {x z : Int32} {q : Nat} (A : Here p l e R s m args below meth c Z a0 y bytes ml ret dm fp T k n os) (hd : decode bytes pc = .ok (.iand, 1)) (hq : pc + 1 = q) (K : Wp p e below Z a0 dm fp R s Post T (mkF m q Ls (.int (x &&& z) :: rest))) : Wp p e below Z a0 dm fp R s Post T (mkF m pc Ls (.int z :: .int x :: rest)) := by
  subst hq
  exact Wp.go (fun t kt => XS.iand A.hr A.hx rfl (A.hb hd) rfl kt) K
theorem Here.land {x z : Int64} {q : Nat} (A : Here p l e R s m args below meth c Z a0 y bytes ml ret dm fp T k n os) (hd : decode bytes pc = .ok (.land, 1)) (hq : pc + 1 = q) (K : Wp p e below Z a0 dm fp R s Post T (mkF m q Ls (.long (x &&& z) :: rest))) : Wp p e below Z a0 dm fp R s Post T (mkF m pc Ls (.long z :: .long x :: rest)) := by
  subst hq
  exact Wp.go (fun t kt => XS.land A.hr A.hx rfl (A.hb hd) rfl kt) K
theorem Here.ior {x z : Int32} {q : Nat} (A : Here p l e R s m args below meth c Z a0 y bytes ml ret dm fp T k n os) (hd : decode bytes pc = .ok (.ior, 1)) (hq : pc + 1 = q) (K : Wp p e below Z a0 dm fp R s Post T (mkF m q Ls (.int (x ||| z) :: rest))) : Wp p e below Z a0 dm fp R s Post T (mkF m pc Ls (.int z :: .int x :: rest)) := by
  subst hq
  exact Wp.go (fun t kt => XS.ior A.hr A.hx rfl (A.hb hd) rfl kt) K
theorem Here.lor {x z : Int64} {q : Nat} (A : Here p l e R s m args below meth c Z a0 y bytes ml ret dm fp T k n os) (hd : decode bytes pc = .ok (.lor, 1)) (hq : pc + 1 = q) (K : Wp p e below Z a0 dm fp R s Post T (mkF m q Ls (.long (x ||| z) :: rest))) : Wp p e below Z a0 dm fp R s Post T (mkF m pc Ls (.long z :: .long x :: rest)) := by
  subst hq
  exact Wp.go (fun t kt => XS.lor A.hr A.hx rfl (A.hb hd) rfl kt) K
theorem Here.ixor {x z : Int32} {q : Nat} (A : Here p l e R s m args below meth c Z a0 y bytes ml ret dm fp T k n os) (hd : decode bytes pc = .ok (.ixor, 1)) (hq : pc + 1 = q) (K : Wp p e below Z a0 dm fp R s Post T (mkF m q Ls (.int (x ^^^ z) :: rest))) : Wp p e below Z a0 dm fp R s Post T (mkF m pc Ls (.int z :: .int x :: rest)) := by
  subst hq
  exact Wp.go (fun t kt => XS.ixor A.hr A.hx rfl (A.hb hd) rfl kt) K
theorem Here.lxor {x z : Int64} {q : Nat} (A : Here p l e R s m args below meth c Z a0 y bytes ml ret dm fp T k n os) (hd : decode bytes pc = .ok (.lxor, 1)) (hq : pc + 1 = q) (K : Wp p e below Z a0 dm fp R s Post T (mkF m q Ls (.long (x ^^^ z) :: rest))) : Wp p e below Z a0 dm fp R s Post T (mkF m pc Ls (.long z :: .long x :: rest)) := by
  subst hq
  exact Wp.go (fun t kt => XS.lxor A.hr A.hx rfl (A.hb hd) rfl kt) K
theorem Here.idiv {x z : Int32} {q : Nat} (A : Here p l e R s m args below meth c Z a0 y bytes ml ret dm fp T k n os) (hd : decode bytes pc = .ok (.idiv, 1)) (hz : z ≠ 0) (hq : pc + 1 = q) (K : Wp p e below Z a0 dm fp R s Post T (mkF m q Ls (.int (x / z) :: rest))) : Wp p e below Z a0 dm fp R s Post T (mkF m pc Ls (.int z :: .int x :: rest)) := by
  subst hq
  exact Wp.go (fun t kt => XS.idiv A.hr A.hx rfl (A.hb hd) rfl hz kt) K
theorem Here.ineg {x : Int32} {q : Nat} (A : Here p l e R s m args below meth c Z a0 y bytes ml ret dm fp T k n os) (hd : decode bytes pc = .ok (.ineg, 1)) (hq : pc + 1 = q) (K : Wp p e below Z a0 dm fp R s Post T (mkF m q Ls (.int (-x) :: rest))) : Wp p e below Z a0 dm fp R s Post T (mkF m pc Ls (.int x :: rest)) := by
  subst hq
  exact Wp.go (fun t kt => XS.ineg A.hr A.hx rfl (A.hb hd) rfl kt) K
theorem Here.ldiv {x z : Int64} {q : Nat} (A : Here p l e R s m args below meth c Z a0 y bytes ml ret dm fp T k n os) (hd : decode bytes pc = .ok (.ldiv, 1)) (hz : z ≠ 0) (hq : pc + 1 = q) (K : Wp p e below Z a0 dm fp R s Post T (mkF m q Ls (.long (x / z) :: rest))) : Wp p e below Z a0 dm fp R s Post T (mkF m pc Ls (.long z :: .long x :: rest)) := by
  subst hq
  exact Wp.go (fun t kt => XS.ldiv A.hr A.hx rfl (A.hb hd) rfl hz kt) K
theorem Here.lneg {x : Int64} {q : Nat} (A : Here p l e R s m args below meth c Z a0 y bytes ml ret dm fp T k n os) (hd : decode bytes pc = .ok (.lneg, 1)) (hq : pc + 1 = q) (K : Wp p e below Z a0 dm fp R s Post T (mkF m q Ls (.long (-x) :: rest))) : Wp p e below Z a0 dm fp R s Post T (mkF m pc Ls (.long x :: rest)) := by
  subst hq
  exact Wp.go (fun t kt => XS.lneg A.hr A.hx rfl (A.hb hd) rfl kt) K
theorem Here.i2l {x : Int32} {q : Nat} (A : Here p l e R s m args below meth c Z a0 y bytes ml ret dm fp T k n os) (hd : decode bytes pc = .ok (.i2l, 1)) (hq : pc + 1 = q) (K : Wp p e below Z a0 dm fp R s Post T (mkF m q Ls (.long (x.toInt64) :: rest))) : Wp p e below Z a0 dm fp R s Post T (mkF m pc Ls (.int x :: rest)) := by
  subst hq
  exact Wp.go (fun t kt => XS.i2l A.hr A.hx rfl (A.hb hd) rfl kt) K
theorem Here.l2i {x : Int64} {q : Nat} (A : Here p l e R s m args below meth c Z a0 y bytes ml ret dm fp T k n os) (hd : decode bytes pc = .ok (.l2i, 1)) (hq : pc + 1 = q) (K : Wp p e below Z a0 dm fp R s Post T (mkF m q Ls (.int (x.toInt32) :: rest))) : Wp p e below Z a0 dm fp R s Post T (mkF m pc Ls (.long x :: rest)) := by
  subst hq
  exact Wp.go (fun t kt => XS.l2i A.hr A.hx rfl (A.hb hd) rfl kt) K
theorem Here.i2b {x : Int32} {q : Nat} (A : Here p l e R s m args below meth c Z a0 y bytes ml ret dm fp T k n os) (hd : decode bytes pc = .ok (.i2b, 1)) (hq : pc + 1 = q) (K : Wp p e below Z a0 dm fp R s Post T (mkF m q Ls (.int (x.toInt8.toInt32) :: rest))) : Wp p e below Z a0 dm fp R s Post T (mkF m pc Ls (.int x :: rest)) := by
  subst hq
  exact Wp.go (fun t kt => XS.i2b A.hr A.hx rfl (A.hb hd) rfl kt) K
theorem Here.i2s {x : Int32} {q : Nat} (A : Here p l e R s m args below meth c Z a0 y bytes ml ret dm fp T k n os) (hd : decode bytes pc = .ok (.i2s, 1)) (hq : pc + 1 = q) (K : Wp p e below Z a0 dm fp R s Post T (mkF m q Ls (.int (x.toInt16.toInt32) :: rest))) : Wp p e below Z a0 dm fp R s Post T (mkF m pc Ls (.int x :: rest)) := by
  subst hq
  exact Wp.go (fun t kt => XS.i2s A.hr A.hx rfl (A.hb hd) rfl kt) K
theorem Here.i2c {x : Int32} {q : Nat} (A : Here p l e R s m args below meth c Z a0 y bytes ml ret dm fp T k n os) (hd : decode bytes pc = .ok (.i2c, 1)) (hq : pc + 1 = q) (K : Wp p e below Z a0 dm fp R s Post T (mkF m q Ls (.int (x.toUInt32.toUInt16.toUInt32.toInt32) :: rest))) : Wp p e below Z a0 dm fp R s Post T (mkF m pc Ls (.int x :: rest)) := by
  subst hq
  exact Wp.go (fun t kt => XS.i2c A.hr A.hx rfl (A.hb hd) rfl kt) K
theorem Here.ishl {x : Int32} {z : Int32} {q : Nat} (A : Here p l e R s m args below meth c Z a0 y bytes ml ret dm fp T k n os) (hd : decode bytes pc = .ok (.ishl, 1)) (hq : pc + 1 = q) (K : Wp p e below Z a0 dm fp R s Post T (mkF m q Ls (.int (x <<< (z &&& 31)) :: rest))) : Wp p e below Z a0 dm fp R s Post T (mkF m pc Ls (.int z :: .int x :: rest)) := by
  subst hq
  exact Wp.go (fun t kt => XS.ishl A.hr A.hx rfl (A.hb hd) rfl kt) K
theorem Here.ishr {x : Int32} {z : Int32} {q : Nat} (A : Here p l e R s m args below meth c Z a0 y bytes ml ret dm fp T k n os) (hd : decode bytes pc = .ok (.ishr, 1)) (hq : pc + 1 = q) (K : Wp p e below Z a0 dm fp R s Post T (mkF m q Ls (.int (x >>> (z &&& 31)) :: rest))) : Wp p e below Z a0 dm fp R s Post T (mkF m pc Ls (.int z :: .int x :: rest)) := by
  subst hq
  exact Wp.go (fun t kt => XS.ishr A.hr A.hx rfl (A.hb hd) rfl kt) K
theorem Here.iushr {x : Int32} {z : Int32} {q : Nat} (A : Here p l e R s m args below meth c Z a0 y bytes ml ret dm fp T k n os) (hd : decode bytes pc = .ok (.iushr, 1)) (hq : pc + 1 = q) (K : Wp p e below Z a0 dm fp R s Post T (mkF m q Ls (.int ((x.toUInt32 >>> (z &&& 31).toUInt32).toInt32) :: rest))) : Wp p e below Z a0 dm fp R s Post T (mkF m pc Ls (.int z :: .int x :: rest)) := by
  subst hq
  exact Wp.go (fun t kt => XS.iushr A.hr A.hx rfl (A.hb hd) rfl kt) K
theorem Here.lshl {x : Int64} {z : Int32} {q : Nat} (A : Here p l e R s m args below meth c Z a0 y bytes ml ret dm fp T k n os) (hd : decode bytes pc = .ok (.lshl, 1)) (hq : pc + 1 = q) (K : Wp p e below Z a0 dm fp R s Post T (mkF m q Ls (.long (x <<< (z &&& 0x3f).toInt64) :: rest))) : Wp p e below Z a0 dm fp R s Post T (mkF m pc Ls (.int z :: .long x :: rest)) := by
  subst hq
  exact Wp.go (fun t kt => XS.lshl A.hr A.hx rfl (A.hb hd) rfl kt) K
theorem Here.lshr {x : Int64} {z : Int32} {q : Nat} (A : Here p l e R s m args below meth c Z a0 y bytes ml ret dm fp T k n os) (hd : decode bytes pc = .ok (.lshr, 1)) (hq : pc + 1 = q) (K : Wp p e below Z a0 dm fp R s Post T (mkF m q Ls (.long (x >>> (z &&& 0x3f).toInt64) :: rest))) : Wp p e below Z a0 dm fp R s Post T (mkF m pc Ls (.int z :: .long x :: rest)) := by
  subst hq
  exact Wp.go (fun t kt => XS.lshr A.hr A.hx rfl (A.hb hd) rfl kt) K
theorem Here.lushr {x : Int64} {z : Int32} {q : Nat} (A : Here p l e R s m args below meth c Z a0 y bytes ml ret dm fp T k n os) (hd : decode bytes pc = .ok (.lushr, 1)) (hq : pc + 1 = q) (K : Wp p e below Z a0 dm fp R s Post T (mkF m q Ls (.long ((x.toUInt64 >>> (z &&& 0x3f).toInt64.toUInt64).toInt64) :: rest))) : Wp p e below Z a0 dm fp R s Post T (mkF m pc Ls (.int z :: .long x :: rest)) := by
  subst hq
  exact Wp.go (fun t kt => XS.lushr A.hr A.hx rfl (A.hb hd) rfl kt) K
theorem Here.lcmp {x z : Int64} {q : Nat} (A : Here p l e R s m args below meth c Z a0 y bytes ml ret dm fp T k n os) (hd : decode bytes pc = .ok (.lcmp, 1)) (hq : pc + 1 = q) (K : Wp p e below Z a0 dm fp R s Post T (mkF m q Ls (.int (lcmpW x z) :: rest))) : Wp p e below Z a0 dm fp R s Post T (mkF m pc Ls (.long z :: .long x :: rest)) := by
  subst hq
  exact Wp.go (fun t kt => XS.lcmp A.hr A.hx rfl (A.hb hd) rfl kt) K
theorem Here.iinc {j : Nat} {i : Int} {x : Int32} {l' : Array Slot} {q : Nat} (A : Here p l e R s m args below meth c Z a0 y bytes ml ret dm fp T k n os) (hd : decode bytes pc = .ok (.iinc j i, 3)) (hl : Ls[j]? = some (.val (.int x))) (hl' : storeLocals Ls j (.int (x + Int32.ofInt i)) = some l') (hq : pc + 3 = q) (K : Wp p e below Z a0 dm fp R s Post T (mkF m q l' st)) : Wp p e below Z a0 dm fp R s Post T (mkF m pc Ls st) := by
  subst hq
  exact Wp.go (fun t kt => XS.iinc A.hr A.hx rfl (A.hb hd) hl hl' kt) K
theorem Here.dup {v : Value} {q : Nat} (A : Here p l e R s m args below meth c Z a0 y bytes ml ret dm fp T k n os) (hd : decode bytes pc = .ok (.dup, 1)) (hv : v.category = 1) (hq : pc + 1 = q) (K : Wp p e below Z a0 dm fp R s Post T (mkF m q Ls (v :: v :: rest))) : Wp p e below Z a0 dm fp R s Post T (mkF m pc Ls (v :: rest)) := by
  subst hq
  exact Wp.go (fun t kt => XS.dup A.hr A.hx rfl (A.hb hd) rfl hv kt) K
theorem Here.pop {v : Value} {q : Nat} (A : Here p l e R s m args below meth c Z a0 y bytes ml ret dm fp T k n os) (hd : decode bytes pc = .ok (.pop, 1)) (hv : v.category = 1) (hq : pc + 1 = q) (K : Wp p e below Z a0 dm fp R s Post T (mkF m q Ls rest)) : Wp p e below Z a0 dm fp R s Post T (mkF m pc Ls (v :: rest)) := by
  subst hq
  exact Wp.go (fun t kt => XS.pop A.hr A.hx rfl (A.hb hd) rfl hv kt) K
theorem Here.dup_x1 {v w : Value} {q : Nat} (A : Here p l e R s m args below meth c Z a0 y bytes ml ret dm fp T k n os) (hd : decode bytes pc = .ok (.dup_x1, 1)) (hv : v.category = 1) (hw : w.category = 1) (hq : pc + 1 = q) (K : Wp p e below Z a0 dm fp R s Post T (mkF m q Ls (v :: w :: v :: rest))) : Wp p e below Z a0 dm fp R s Post T (mkF m pc Ls (v :: w :: rest)) := by
  subst hq
  exact Wp.go (fun t kt => XS.dupX1 A.hr A.hx rfl (A.hb hd) rfl hv hw kt) K
theorem Here.dup2 {v w : Value} {q : Nat} (A : Here p l e R s m args below meth c Z a0 y bytes ml ret dm fp T k n os) (hd : decode bytes pc = .ok (.dup2, 1)) (hv : v.category = 1) (hw : w.category = 1) (hq : pc + 1 = q) (K : Wp p e below Z a0 dm fp R s Post T (mkF m q Ls (v :: w :: v :: w :: rest))) : Wp p e below Z a0 dm fp R s Post T (mkF m pc Ls (v :: w :: rest)) := by
  subst hq
  exact Wp.go (fun t kt => Jvm.Free.XT.dup2 A.hr A.hx rfl (A.hb hd) rfl hv hw kt) K
theorem Here.dup2L {x : Int64} {q : Nat} (A : Here p l e R s m args below meth c Z a0 y bytes ml ret dm fp T k n os) (hd : decode bytes pc = .ok (.dup2, 1)) (hq : pc + 1 = q) (K : Wp p e below Z a0 dm fp R s Post T (mkF m q Ls (.long x :: .long x :: rest))) : Wp p e below Z a0 dm fp R s Post T (mkF m pc Ls (.long x :: rest)) := by
  subst hq
  exact Wp.go (fun t kt => Jvm.Free.XT.dup2L A.hr A.hx rfl (A.hb hd) rfl kt) K
theorem Here.goto {o : Int} {q : Nat} (A : Here p l e R s m args below meth c Z a0 y bytes ml ret dm fp T k n os) (hd : decode bytes pc = .ok (.goto o, 3)) (ho : 0 ≤ (pc : Int) + o) (hq : ((pc : Int) + o).toNat = q) (K : Wp p e below Z a0 dm fp R s Post T (mkF m q Ls st)) : Wp p e below Z a0 dm fp R s Post T (mkF m pc Ls st) :=
  Wp.go (fun t kt => XS.goto A.hr A.hx rfl (pc0 := pc) (pc' := q) rfl (A.hb hd) ho hq kt) K
theorem Here.ifYes {cd : ClassFile.Cond} {o : Int} {x : Int32} {q : Nat} (A : Here p l e R s m args below meth c Z a0 y bytes ml ret dm fp T k n os) (hd : decode bytes pc = .ok (.ifCond cd o, 3)) (hc : ifCond.holds cd x = true) (ho : 0 ≤ (pc : Int) + o) (hq : ((pc : Int) + o).toNat = q) (K : Wp p e below Z a0 dm fp R s Post T (mkF m q Ls rest)) : Wp p e below Z a0 dm fp R s Post T (mkF m pc Ls (.int x :: rest)) :=
  Wp.go (fun t kt => XS.ifYes A.hr A.hx rfl (pc0 := pc) (pc' := q) rfl (A.hb hd) rfl hc ho hq kt) K
theorem Here.ifNo {cd : ClassFile.Cond} {o : Int} {x : Int32} {q : Nat} (A : Here p l e R s m args below meth c Z a0 y bytes ml ret dm fp T k n os) (hd : decode bytes pc = .ok (.ifCond cd o, 3)) (hc : ifCond.holds cd x = false) (hq : pc + 3 = q) (K : Wp p e below Z a0 dm fp R s Post T (mkF m q Ls rest)) : Wp p e below Z a0 dm fp R s Post T (mkF m pc Ls (.int x :: rest)) := by
  subst hq
  exact Wp.go (fun t kt => XS.ifNo A.hr A.hx rfl (A.hb hd) rfl hc kt) K
theorem Here.icmpYes {cd : ClassFile.Cond} {o : Int} {x z : Int32} {q : Nat} (A : Here p l e R s m args below meth c Z a0 y bytes ml ret dm fp T k n os) (hd : decode bytes pc = .ok (.if_icmp cd o, 3)) (hc : if_icmp.holds cd x z = true) (ho : 0 ≤ (pc : Int) + o) (hq : ((pc : Int) + o).toNat = q) (K : Wp p e below Z a0 dm fp R s Post T (mkF m q Ls rest)) : Wp p e below Z a0 dm fp R s Post T (mkF m pc Ls (.int z :: .int x :: rest)) :=
  Wp.go (fun t kt => XS.icmpYes A.hr A.hx rfl (pc0 := pc) (pc' := q) rfl (A.hb hd) rfl hc ho hq kt) K
theorem Here.icmpNo {cd : ClassFile.Cond} {o : Int} {x z : Int32} {q : Nat} (A : Here p l e R s m args below meth c Z a0 y bytes ml ret dm fp T k n os) (hd : decode bytes pc = .ok (.if_icmp cd o, 3)) (hc : if_icmp.holds cd x z = false) (hq : pc + 3 = q) (K : Wp p e below Z a0 dm fp R s Post T (mkF m q Ls rest)) : Wp p e below Z a0 dm fp R s Post T (mkF m pc Ls (.int z :: .int x :: rest)) := by
  subst hq
  exact Wp.go (fun t kt => XS.icmpNo A.hr A.hx rfl (A.hb hd) rfl hc kt) K
theorem Wp.top {v v' : Value} (h : v = v') (K : Wp p e below Z a0 dm fp R s Post T (mkF m pc Ls (v' :: st))) : Wp p e below Z a0 dm fp R s Post T (mkF m pc Ls (v :: st)) := by
  subst h
  exact K
/-! reads and writes -/
theorem Here.getF {O f d R0 : String} {idx i j : Nat} {a : Addr} {C : String} {fs : List Fd} {v : Value} (A : Here p l e R s m args below meth c Z a0 y bytes ml ret dm fp T k n os) (w : (Jvm.Cond.fieldLink y.cls idx R0 f d).before a0 Z = true) (via : Via Z R0 O f d) (hd : decode bytes pc = .ok (.getfield idx, 3)) (ho : os[i]? = some (a, .inl (C, fs))) (hj : fs[j]? = some (O, f, d, v)) {qn : Nat} (hq : pc + 3 = qn)
    (K : ∀ T', Here p l e R s m args below meth c Z a0 y bytes ml ret dm fp T' k n os → Wp p e below Z a0 dm fp R s Post T' (mkF m qn Ls (v :: rest))) : Wp p e below Z a0 dm fp R s Post T (mkF m pc Ls (.ref a :: rest)) := by
  subst hq
  have A' := A
  obtain ⟨locs, X, N, H, hx, hZ, hb, hml, hown, q⟩ := A
  obtain ⟨T1, X1, e1, st1⟩ := RoadKit.getF X hx hZ hown (host := "") (Or.inl w) via rfl (H.fld ho hj) (g := mkF m pc Ls (.ref a :: rest)) rfl rfl (A'.hb hd)
  exact Wp.go st1 (K T1 ⟨locs, X1, N, by rw [e1]; exact H, hx, hZ, hb, hml, hown, q⟩)
theorem Here.putF {O f d R0 : String} {idx i j kk : Nat} {a : Addr} {C : String} {fs : List Fd} {v old : Value} {ty : FieldType} (A : Here p l e R s m args below meth c Z a0 y bytes ml ret dm fp T k n os) (w : (Jvm.Cond.fieldLink y.cls idx R0 f d).before a0 Z = true) (via : Via Z R0 O f d)
    (hL : (Jvm.Cond.lays C O f d).before a0 Z = true ∨ ((Jvm.Cond.laysFinal C O f d).before a0 Z = true ∧ y.cls = O ∧ y.name = "<init>")) (wi : (Jvm.Cond.instantiable C kk).before a0 Z = true) (hty : parseFieldDescriptor d = some ty) (hnw : narrow ty v = v) (hf : fits ty v = true)
    (hd : decode bytes pc = .ok (.putfield idx, 3)) (ho : os[i]? = some (a, .inl (C, fs))) (hj : fs[j]? = some (O, f, d, old)) (hdf : dm = fp) {qn : Nat} (hq : pc + 3 = qn)
    (K : ∀ T', Here p l e R s m args below meth c Z a0 y bytes ml ret dm fp T' k n (os.set i (a, .inl (C, fs.set j (O, f, d, v)))) → Wp p e below Z a0 dm fp R s Post T' (mkF m qn Ls rest)) : Wp p e below Z a0 dm fp R s Post T (mkF m pc Ls (v :: .ref a :: rest)) := by
  subst hq
  have A' := A
  obtain ⟨locs, X, N, H, hx, hZ, hb, hml, hown, hnm, q⟩ := A
  have hD : Dm fp s.heap.size a := hdf ▸ H.2.1 _ (List.mem_of_getElem? ho)
  obtain ⟨T1, h1, X1, e1, W1, st1⟩ := RoadKit.putF X hx hZ hown (host := "") (Or.inl w) via rfl (H.fld ho hj) (H.exa ho) (hL.imp id fun z => ⟨z.1, z.2.1, hnm.trans z.2.2⟩) wi hty hnw hf (g := mkF m pc Ls (v :: .ref a :: rest)) rfl rfl (A'.hb hd)
  refine Wp.go st1 (K T1 ⟨_, X1, fun q hq => ?_, by rw [e1]; exact H.putf hD ho hj W1, hx, hZ, hb, hml, hown, hnm, q⟩)
  rcases List.mem_append.mp hq with hq | hq
  · exact N q hq
  · cases List.mem_singleton.mp hq; exact hD
theorem Here.putFN {O f d R0 : String} {idx i j kk : Nat} {a : Addr} {C : String} {fs : List Fd} {v v' old : Value} {ty : FieldType} (A : Here p l e R s m args below meth c Z a0 y bytes ml ret dm fp T k n os) (w : (Jvm.Cond.fieldLink y.cls idx R0 f d).before a0 Z = true) (via : Via Z R0 O f d)
    (hL : (Jvm.Cond.lays C O f d).before a0 Z = true ∨ ((Jvm.Cond.laysFinal C O f d).before a0 Z = true ∧ y.cls = O ∧ y.name = "<init>")) (wi : (Jvm.Cond.instantiable C kk).before a0 Z = true) (hty : parseFieldDescriptor d = some ty) (hnw : narrow ty v = v') (hf : fits ty v' = true)
    (hd : decode bytes pc = .ok (.putfield idx, 3)) (ho : os[i]? = some (a, .inl (C, fs))) (hj : fs[j]? = some (O, f, d, old)) (hdf : dm = fp) {qn : Nat} (hq : pc + 3 = qn)
    (K : ∀ T', Here p l e R s m args below meth c Z a0 y bytes ml ret dm fp T' k n (os.set i (a, .inl (C, fs.set j (O, f, d, v')))) → Wp p e below Z a0 dm fp R s Post T' (mkF m qn Ls rest)) : Wp p e below Z a0 dm fp R s Post T (mkF m pc Ls (v :: .ref a :: rest)) := by
  subst hq
  have A' := A
  obtain ⟨locs, X, N, H, hx, hZ, hb, hml, hown, hnm, q⟩ := A
  have hD : Dm fp s.heap.size a := hdf ▸ H.2.1 _ (List.mem_of_getElem? ho)
  obtain ⟨T1, h1, X1, e1, W1, st1⟩ := RoadKit.putFN X hx hZ hown w via rfl (H.fld ho hj) (H.exa ho) (hL.imp id fun z => ⟨z.1, z.2.1, hnm.trans z.2.2⟩) wi hty hnw hf (g := mkF m pc Ls (v :: .ref a :: rest)) rfl rfl (A'.hb hd)
  refine Wp.go st1 (K T1 ⟨_, X1, fun q hq => ?_, by rw [e1]; exact H.putf hD ho hj W1, hx, hZ, hb, hml, hown, hnm, q⟩)
  rcases List.mem_append.mp hq with hq | hq
  · exact N q hq
  · cases List.mem_singleton.mp hq; exact hD
theorem Here.newO {idx nn : Nat} {C : String} {fs : List Fd} (A : Here p l e R s m args below meth c Z a0 y bytes ml ret dm fp T k n os) (w : (Jvm.Cond.classLink y.cls idx C).before a0 Z = true) (wi : (Jvm.Cond.instantiable C nn).before a0 Z = true) (wz : (Jvm.Cond.initialized C).before a0 Z = true) (hd : decode bytes pc = .ok (.new idx, 3)) (hc : k + 1 ≤ R.cells) (hl : n + nn ≤ R.slots)
    (hnd : (fs.map (·.2.1)).Nodup) (hfs : ∀ q ∈ fs, Laid Z a0 C q.1 q.2.1 q.2.2.1 ∧ ∃ t, parseFieldDescriptor q.2.2.1 = some t ∧ q.2.2.2 = defaultValue t) {qn : Nat} (hq : pc + 3 = qn)
    (K : ∀ T' a, Here p l e R s m args below meth c Z a0 y bytes ml ret dm fp T' (k + 1) (n + nn) (os ++ [(a, .inl (C, fs))]) → Wp p e below Z a0 dm fp R s Post T' (mkF m qn Ls (.ref a :: st))) : Wp p e below Z a0 dm fp R s Post T (mkF m pc Ls st) := by
  subst hq
  have A' := A
  obtain ⟨locs, X, N, H, hx, hZ, hb, hml, hown, q⟩ := A
  obtain ⟨T1, h1, X1, e1, E1, A1, D1, -, st1⟩ := RoadKit.newO X hx hZ hown w wi wz rfl (g := mkF m pc Ls st) rfl (A'.hb hd) hc hl
  have F1 : ObAt Z a0 h1 T.heap.size (.inl (C, fs)) := ⟨A1, hnd, fun q hq => by
    obtain ⟨L, t, ht, hv⟩ := hfs q hq
    refine ⟨?_, L, t, ht⟩
    rw [hv]
    exact D1 L ht⟩
  exact Wp.go st1 (K T1 _ ⟨_, X1, N, by rw [e1]; exact H.push E1 F1, hx, hZ, hb, hml, hown, q⟩)
theorem Here.newP {aty : ArrayType} {z : Int32} {cap : Nat} (A : Here p l e R s m args below meth c Z a0 y bytes ml ret dm fp T k n os) (w : (Jvm.Cond.arrayClass (newarray.typeOf aty)).before a0 Z = true) (hd : decode bytes pc = .ok (.newarray aty, 2)) (hz : ¬ z < 0) (hcap : z.toNatClampNeg ≤ cap) (hb8 : cap * 8 ≤ 536870912) (hc : k + 1 ≤ R.cells) (hl : n + cap ≤ R.slots) {qn : Nat} (hq : pc + 2 = qn)
    (K : ∀ T' a, Here p l e R s m args below meth c Z a0 y bytes ml ret dm fp T' (k + 1) (n + cap) (os ++ [(a, .inr (newarray.typeOf aty, List.replicate z.toNatClampNeg (defaultValue (newarray.typeOf aty))))]) → Wp p e below Z a0 dm fp R s Post T' (mkF m qn Ls (.ref a :: st))) : Wp p e below Z a0 dm fp R s Post T (mkF m pc Ls (.int z :: st)) := by
  subst hq
  have A' := A
  obtain ⟨locs, X, N, H, hx, hZ, hb, hml, hown, q⟩ := A
  obtain ⟨T1, h1, cA, X1, e1, E1, A1, B1, st1⟩ := RoadKit.newPE X hx hZ w rfl (g := mkF m pc Ls (.int z :: st)) rfl (A'.hb hd) rfl hz hcap hb8 hc hl rfl
  have F1 : ObAt Z a0 h1 T.heap.size (.inr (newarray.typeOf aty, List.replicate z.toNatClampNeg (defaultValue (newarray.typeOf aty)))) := ⟨_, A1, by simp [newA], B1, fun v hv => by
    rw [(List.mem_replicate.mp hv).2]
    cases aty <;> rfl⟩
  exact Wp.go st1 (K T1 _ ⟨_, X1, N, by rw [e1]; exact H.push E1 F1, hx, hZ, hb, hml, hown, q⟩)
theorem inb {vs : List Value} {cl : Cell} {j : Int32} (e : cl.slots.toList = vs) (hj : ¬ j < 0) (hl : j.toNatClampNeg < vs.length) : ¬ (j < 0 ∨ cl.slots.size ≤ j.toNatClampNeg) := by
  subst e
  rw [Array.length_toList] at hl
  rintro (h | h)
  · exact hj h
  · exact absurd hl (Nat.not_lt.mpr h)
theorem Here.stOf {i : Nat} {a : Addr} {ty : FieldType} {vs : List Value} {j : Int32} {v : Value} {g : JFrame} (hf : fits ty v = true) (A : Here p l e R s m args below meth c Z a0 y bytes ml ret dm fp T k n os) (ho : os[i]? = some (a, .inr (ty, vs))) (hj : ¬ j < 0) (hl : j.toNatClampNeg < vs.length) (hdf : dm = fp)
    (S : ∀ (locs : List Loc) (cl : Cell), Stand p l e R s m args below meth c T locs k n → Arr Z T.heap a cl ty → ¬ (j < 0 ∨ cl.slots.size ≤ j.toNatClampNeg) → ∃ T' h', Stand p l e R s m args below meth c T' (locs ++ [⟨a, j.toNatClampNeg⟩]) k n ∧ T'.heap = h' ∧ Wr T.heap h' a j.toNatClampNeg v ∧ ∀ target, Steps p.tables e below (T'.setTop (mkF m (pc + 1) Ls rest)) target → Steps p.tables e below (T.setTop g) target)
    (K : ∀ T', Here p l e R s m args below meth c Z a0 y bytes ml ret dm fp T' k n (os.set i (a, .inr (ty, vs.set j.toNatClampNeg v))) → Wp p e below Z a0 dm fp R s Post T' (mkF m (pc + 1) Ls rest)) : Wp p e below Z a0 dm fp R s Post T g := by
  obtain ⟨locs, X, N, H, q⟩ := A
  obtain ⟨cl, Ar, ec⟩ := H.arr ho
  have hD : Dm fp s.heap.size a := hdf ▸ H.2.1 _ (List.mem_of_getElem? ho)
  obtain ⟨T1, h1, X1, e1, W1, st1⟩ := S locs cl X Ar (inb ec hj hl)
  refine Wp.go st1 (K T1 ⟨_, X1, fun q hq => ?_, by rw [e1]; exact H.puta hD hf ho W1, q⟩)
  rcases List.mem_append.mp hq with hq | hq
  · exact N q hq
  · cases List.mem_singleton.mp hq; exact hD
theorem Here.hz (A : Here p l e R s m args below meth c Z a0 y bytes ml ret dm fp T k n os) : Z.Warmed39 s.vm := by obtain ⟨_, -, -, -, -, hZ, -⟩ := A; exact hZ
theorem Here.stI {i : Nat} {a : Addr} {vs : List Value} {j x : Int32} (A : Here p l e R s m args below meth c Z a0 y bytes ml ret dm fp T k n os) (hd : decode bytes pc = .ok (.iastore, 1)) (ho : os[i]? = some (a, .inr (.int, vs))) (hj : ¬ j < 0) (hl : j.toNatClampNeg < vs.length) (hdf : dm = fp) {qn : Nat} (hq : pc + 1 = qn)
    (K : ∀ T', Here p l e R s m args below meth c Z a0 y bytes ml ret dm fp T' k n (os.set i (a, .inr (.int, vs.set j.toNatClampNeg (.int x)))) → Wp p e below Z a0 dm fp R s Post T' (mkF m qn Ls rest)) : Wp p e below Z a0 dm fp R s Post T (mkF m pc Ls (.int x :: .int j :: .ref a :: rest)) := by
  subst hq
  exact Here.stOf rfl A ho hj hl hdf (fun _ _ X Ar hin => RoadKit.stI X A.hx A.hz rfl Ar hin (g := mkF m pc Ls (.int x :: .int j :: .ref a :: rest)) rfl rfl (A.hb hd)) K
theorem Here.stJ {i : Nat} {a : Addr} {vs : List Value} {j : Int32} {x : Int64} (A : Here p l e R s m args below meth c Z a0 y bytes ml ret dm fp T k n os) (hd : decode bytes pc = .ok (.lastore, 1)) (ho : os[i]? = some (a, .inr (.long, vs))) (hj : ¬ j < 0) (hl : j.toNatClampNeg < vs.length) (hdf : dm = fp) {qn : Nat} (hq : pc + 1 = qn)
    (K : ∀ T', Here p l e R s m args below meth c Z a0 y bytes ml ret dm fp T' k n (os.set i (a, .inr (.long, vs.set j.toNatClampNeg (.long x)))) → Wp p e below Z a0 dm fp R s Post T' (mkF m qn Ls rest)) : Wp p e below Z a0 dm fp R s Post T (mkF m pc Ls (.long x :: .int j :: .ref a :: rest)) := by
  subst hq
  exact Here.stOf rfl A ho hj hl hdf (fun _ _ X Ar hin => RoadKit.stJ X A.hx A.hz rfl Ar hin (g := mkF m pc Ls (.long x :: .int j :: .ref a :: rest)) rfl rfl (A.hb hd)) K
theorem Here.stC {i : Nat} {a : Addr} {vs : List Value} {j x : Int32} (A : Here p l e R s m args below meth c Z a0 y bytes ml ret dm fp T k n os) (hd : decode bytes pc = .ok (.castore, 1)) (ho : os[i]? = some (a, .inr (.char, vs))) (hj : ¬ j < 0) (hl : j.toNatClampNeg < vs.length) (hdf : dm = fp) {qn : Nat} (hq : pc + 1 = qn)
    (K : ∀ T', Here p l e R s m args below meth c Z a0 y bytes ml ret dm fp T' k n (os.set i (a, .inr (.char, vs.set j.toNatClampNeg (.int (nar .char x))))) → Wp p e below Z a0 dm fp R s Post T' (mkF m qn Ls rest)) : Wp p e below Z a0 dm fp R s Post T (mkF m pc Ls (.int x :: .int j :: .ref a :: rest)) := by
  subst hq
  exact Here.stOf (fits_nar_char _) A ho hj hl hdf (fun _ _ X Ar hin => RoadKit.stC X A.hx A.hz rfl Ar hin (g := mkF m pc Ls (.int x :: .int j :: .ref a :: rest)) rfl rfl (A.hb hd)) K
theorem Here.stB {i : Nat} {a : Addr} {vs : List Value} {j x : Int32} (A : Here p l e R s m args below meth c Z a0 y bytes ml ret dm fp T k n os) (hd : decode bytes pc = .ok (.bastore, 1)) (ho : os[i]? = some (a, .inr (.byte, vs))) (hj : ¬ j < 0) (hl : j.toNatClampNeg < vs.length) (hdf : dm = fp) {qn : Nat} (hq : pc + 1 = qn)
    (K : ∀ T', Here p l e R s m args below meth c Z a0 y bytes ml ret dm fp T' k n (os.set i (a, .inr (.byte, vs.set j.toNatClampNeg (.int (nar .byte x))))) → Wp p e below Z a0 dm fp R s Post T' (mkF m qn Ls rest)) : Wp p e below Z a0 dm fp R s Post T (mkF m pc Ls (.int x :: .int j :: .ref a :: rest)) := by
  subst hq
  exact Here.stOf (fits_nar_byte _) A ho hj hl hdf (fun _ _ X Ar hin => RoadKit.stB X A.hx A.hz rfl Ar hin (g := mkF m pc Ls (.int x :: .int j :: .ref a :: rest)) rfl rfl (A.hb hd)) K
theorem Here.ldOf {i : Nat} {a : Addr} {ty : FieldType} {vs : List Value} {j : Int32} {v : Value} {g g' : JFrame} (A : Here p l e R s m args below meth c Z a0 y bytes ml ret dm fp T k n os) (ho : os[i]? = some (a, .inr (ty, vs))) (hj : ¬ j < 0) (hv : vs[j.toNatClampNeg]? = some v)
    (S : ∀ (locs : List Loc) (cl : Cell), Stand p l e R s m args below meth c T locs k n → T.heap[a]? = some cl → s.isArrayOf cl ty → cl.vm ≠ .unknown → ¬ (j < 0 ∨ cl.slots.size ≤ j.toNatClampNeg) → cl.slots[j.toNatClampNeg]? = some v → ∀ target, Steps p.tables e below (T.setTop g') target → Steps p.tables e below (T.setTop g) target)
    (K : Wp p e below Z a0 dm fp R s Post T g') : Wp p e below Z a0 dm fp R s Post T g := by
  have hz := A.hz
  obtain ⟨locs, X, N, H, q⟩ := A
  obtain ⟨cl, Ar, ec⟩ := H.arr ho
  refine Wp.go (S locs cl X Ar.1 (State.isArrayOf_alike hz.alike Ar.2.1) Ar.2.2 (inb ec hj (List.getElem?_eq_some_iff.mp hv).1) ?_) K
  rw [← ec, Array.getElem?_toList] at hv
  exact hv
theorem Here.ldI {i : Nat} {a : Addr} {vs : List Value} {j : Int32} {v : Value} (A : Here p l e R s m args below meth c Z a0 y bytes ml ret dm fp T k n os) (hd : decode bytes pc = .ok (.iaload, 1)) (ho : os[i]? = some (a, .inr (.int, vs))) (hj : ¬ j < 0) (hv : vs[j.toNatClampNeg]? = some v) {qn : Nat} (hq : pc + 1 = qn)
    (K : Wp p e below Z a0 dm fp R s Post T (mkF m qn Ls (v :: rest))) : Wp p e below Z a0 dm fp R s Post T (mkF m pc Ls (.int j :: .ref a :: rest)) := by
  subst hq
  exact A.ldOf ho hj hv (fun _ _ X h1 h2 h3 h4 h5 t kt => X.iaload A.hx h1 h2 h3 h4 h5 (g := mkF m pc Ls (.int j :: .ref a :: rest)) rfl rfl (A.hb hd) t kt) K
theorem Here.ldJ {i : Nat} {a : Addr} {vs : List Value} {j : Int32} {v : Value} (A : Here p l e R s m args below meth c Z a0 y bytes ml ret dm fp T k n os) (hd : decode bytes pc = .ok (.laload, 1)) (ho : os[i]? = some (a, .inr (.long, vs))) (hj : ¬ j < 0) (hv : vs[j.toNatClampNeg]? = some v) {qn : Nat} (hq : pc + 1 = qn)
    (K : Wp p e below Z a0 dm fp R s Post T (mkF m qn Ls (v :: rest))) : Wp p e below Z a0 dm fp R s Post T (mkF m pc Ls (.int j :: .ref a :: rest)) := by
  subst hq
  exact A.ldOf ho hj hv (fun _ _ X h1 h2 h3 h4 h5 t kt => X.laload A.hx h1 h2 h3 h4 h5 (g := mkF m pc Ls (.int j :: .ref a :: rest)) rfl rfl (A.hb hd) t kt) K
theorem Here.ldC {i : Nat} {a : Addr} {vs : List Value} {j : Int32} {v : Value} (A : Here p l e R s m args below meth c Z a0 y bytes ml ret dm fp T k n os) (hd : decode bytes pc = .ok (.caload, 1)) (ho : os[i]? = some (a, .inr (.char, vs))) (hj : ¬ j < 0) (hv : vs[j.toNatClampNeg]? = some v) {qn : Nat} (hq : pc + 1 = qn)
    (K : Wp p e below Z a0 dm fp R s Post T (mkF m qn Ls (v :: rest))) : Wp p e below Z a0 dm fp R s Post T (mkF m pc Ls (.int j :: .ref a :: rest)) := by
  subst hq
  exact A.ldOf ho hj hv (fun _ _ X h1 h2 h3 h4 h5 t kt => X.caload A.hx h1 h2 h3 h4 h5 (g := mkF m pc Ls (.int j :: .ref a :: rest)) rfl rfl (A.hb hd) t kt) K
theorem Here.ldB {i : Nat} {a : Addr} {vs : List Value} {j : Int32} {v : Value} (A : Here p l e R s m args below meth c Z a0 y bytes ml ret dm fp T k n os) (hd : decode bytes pc = .ok (.baload, 1)) (ho : os[i]? = some (a, .inr (.byte, vs))) (hj : ¬ j < 0) (hv : vs[j.toNatClampNeg]? = some v) {qn : Nat} (hq : pc + 1 = qn)
    (K : Wp p e below Z a0 dm fp R s Post T (mkF m qn Ls (v :: rest))) : Wp p e below Z a0 dm fp R s Post T (mkF m pc Ls (.int j :: .ref a :: rest)) := by
  subst hq
  exact A.ldOf ho hj hv (fun _ _ X h1 h2 h3 h4 h5 t kt => X.baloadBytes A.hx h1 h2 h3 h4 h5 (g := mkF m pc Ls (.int j :: .ref a :: rest)) rfl rfl (A.hb hd) t kt) K
theorem Here.len {i : Nat} {a : Addr} {ty : FieldType} {vs : List Value} {z : Int32} (A : Here p l e R s m args below meth c Z a0 y bytes ml ret dm fp T k n os) (hd : decode bytes pc = .ok (.arraylength, 1)) (ho : os[i]? = some (a, .inr (ty, vs))) (hz : vs.length.toInt32 = z) {qn : Nat} (hq : pc + 1 = qn)
    (K : Wp p e below Z a0 dm fp R s Post T (mkF m qn Ls (.int z :: rest))) : Wp p e below Z a0 dm fp R s Post T (mkF m pc Ls (.ref a :: rest)) := by
  subst hq
  have A' := A
  obtain ⟨locs, X, N, H, q⟩ := A
  obtain ⟨cl, Ar, ec⟩ := H.arr ho
  subst hz
  rw [← ec, Array.length_toList] at K
  exact Wp.go (fun t kt => X.arraylength A'.hx Ar.1 (State.isArrayOf_alike A'.hz.alike Ar.2.1) (g := mkF m pc Ls (.ref a :: rest)) rfl rfl (A'.hb hd) t kt) K
theorem Here.ldc {idx : Nat} {v : Int32} (A : Here p l e R s m args below meth c Z a0 y bytes ml ret dm fp T k n os) (w : (Jvm.Cond.constant y.cls idx v).before a0 Z = true) (hd : decode bytes pc = .ok (.ldc idx, 2)) {qn : Nat} (hq : pc + 2 = qn)
    (K : Wp p e below Z a0 dm fp R s Post T (mkF m qn Ls (.int v :: st))) : Wp p e below Z a0 dm fp R s Post T (mkF m pc Ls st) := by
  subst hq
  have A' := A
  obtain ⟨locs, X, N, H, hx, hZ, hb, hml, hown, q⟩ := A
  exact Wp.go (X.ldcInt hx hown (mvT hZ w) (g := mkF m pc Ls st) rfl (A'.hb hd)) K
theorem Here.ldcw {idx : Nat} {v : Int32} (A : Here p l e R s m args below meth c Z a0 y bytes ml ret dm fp T k n os) (w : (Jvm.Cond.constant y.cls idx v).before a0 Z = true) (hd : decode bytes pc = .ok (.ldc_w idx, 3)) {qn : Nat} (hq : pc + 3 = qn)
    (K : Wp p e below Z a0 dm fp R s Post T (mkF m qn Ls (.int v :: st))) : Wp p e below Z a0 dm fp R s Post T (mkF m pc Ls st) := by
  subst hq
  have A' := A
  obtain ⟨locs, X, N, H, hx, hZ, hb, hml, hown, q⟩ := A
  exact Wp.go (X.ldcwInt hx hown (mvT hZ w) (g := mkF m pc Ls st) rfl (A'.hb hd)) K
theorem Here.ldc2 {idx : Nat} {v : Int64} (A : Here p l e R s m args below meth c Z a0 y bytes ml ret dm fp T k n os) (w : (Jvm.Cond.constantLong y.cls idx v).before a0 Z = true) (hd : decode bytes pc = .ok (.ldc2_w idx, 3)) {qn : Nat} (hq : pc + 3 = qn)
    (K : Wp p e below Z a0 dm fp R s Post T (mkF m qn Ls (.long v :: st))) : Wp p e below Z a0 dm fp R s Post T (mkF m pc Ls st) := by
  subst hq
  have A' := A
  obtain ⟨locs, X, N, H, hx, hZ, hb, hml, hown, q⟩ := A
  exact Wp.go (X.ldc2Long hx hown (mvT hZ w) (g := mkF m pc Ls st) rfl (A'.hb hd)) K
/-- a primitive array's clone -/
theorem Here.clone {idx W i cap : Nat} {a : Addr} {ty : FieldType} {vs : List Value} {ad : String} (A : Here p l e R s m args below meth c Z a0 y bytes ml ret dm fp T k n os)
    (w1 : (Jvm.Cond.methodLink y.cls idx ⟨ad, "clone", "()Ljava/lang/Object;"⟩).before a0 Z = true) (w2 : (Jvm.Cond.sameMethod ad "java/lang/Object" "clone" "()Ljava/lang/Object;").before a0 Z = true) (w3 : (Jvm.Cond.native ⟨"java/lang/Object", "clone", "()Ljava/lang/Object;"⟩).before a0 Z = true)
    (w4 : (Jvm.Cond.instanceMethod ⟨"java/lang/Object", "clone", "()Ljava/lang/Object;"⟩).before a0 Z = true) (w5 : (Jvm.Cond.selects ad ⟨ad, "clone", "()Ljava/lang/Object;"⟩ ⟨"java/lang/Object", "clone", "()Ljava/lang/Object;"⟩).before a0 Z = true) (w6 : (Jvm.Cond.castable ad "java/lang/Cloneable").before a0 Z = true)
    (had : "[" ++ ty.toString = ad) (hd : decode bytes pc = .ok (.invokevirtual idx, 3)) (hsz : Ls.size = ml) (ho : os[i]? = some (a, .inr (ty, vs))) (hW : (rest.map fun v => v.category).sum ≤ W) (hf : 1 ≤ R.frames) (hl : W + 14 ≤ R.locals) (hcap : vs.length ≤ cap) (hc : k + 1 ≤ R.cells) (hs : n + cap ≤ R.slots) {qn : Nat} (hq : pc + 3 = qn)
    (K : ∀ T' b, Here p l e R s m args below meth c Z a0 y bytes ml ret dm fp T' (k + 1) (n + cap) (os ++ [(b, .inr (ty, vs))]) → Wp p e below Z a0 dm fp R s Post T' (mkF m qn Ls (.ref b :: rest))) : Wp p e below Z a0 dm fp R s Post T (mkF m pc Ls (.ref a :: rest)) := by
  subst hq
  have A' := A
  obtain ⟨locs, X, N, H, hx, hZ, hb, hml, hown, q⟩ := A
  obtain ⟨cl, Ar, ec, E, F⟩ := H.1.2 _ (List.mem_of_getElem? ho)
  dsimp only at ec E F Ar
  subst had
  have FC : FitC Z cl := fitC_of Ar fun j hj v hv => F v (by rw [← ec, Array.mem_toList_iff]; exact Array.mem_of_getElem? hv)
  obtain ⟨T1, h1, X1, e1, E1, A1, B1, st1⟩ := cloneA X hx hZ hown w1 w2 w3 w4 w5 w6 rfl Ar E FC (g := mkF m pc Ls (.ref a :: rest)) rfl (hsz.trans hml.symm) rfl (A'.hb hd) hf (W := W) (by show 2 * 0 + _ ≤ _; rw [Nat.mul_zero, Nat.zero_add]; exact hW) hl (cap := cap) (by rw [← Array.length_toList, ec]; exact hcap) hc hs
  exact Wp.go st1 (K T1 _ ⟨_, X1, N, by rw [e1]; exact H.push E1 ⟨_, A1, ec, B1, F⟩, hx, hZ, hb, hml, hown, q⟩)
theorem Here.ccast {idx i : Nat} {a : Addr} {ty : FieldType} {vs : List Value} {K0 : String} (A : Here p l e R s m args below meth c Z a0 y bytes ml ret dm fp T k n os) (w : (Jvm.Cond.classLink y.cls idx K0).before a0 Z = true) (had : "[" ++ ty.toString = K0) (hd : decode bytes pc = .ok (.checkcast idx, 3)) (ho : os[i]? = some (a, .inr (ty, vs))) {qn : Nat} (hq : pc + 3 = qn)
    (K : ∀ T', Here p l e R s m args below meth c Z a0 y bytes ml ret dm fp T' k n os → Wp p e below Z a0 dm fp R s Post T' (mkF m qn Ls (.ref a :: rest))) : Wp p e below Z a0 dm fp R s Post T (mkF m pc Ls (.ref a :: rest)) := by
  subst hq
  have A' := A
  obtain ⟨locs, X, N, H, hx, hZ, hb, hml, hown, q⟩ := A
  obtain ⟨cl, Ar, ec, E, F⟩ := H.1.2 _ (List.mem_of_getElem? ho)
  subst had
  obtain ⟨T1, X1, e1, st1⟩ := castY X hx hZ hown w rfl (Ins.self E) (g := mkF m pc Ls (.ref a :: rest)) rfl rfl (A'.hb hd)
  exact Wp.go st1 (K T1 ⟨locs, X1, N, by rw [e1]; exact H, hx, hZ, hb, hml, hown, q⟩)
/-! calls -/
theorem Here.initO {idx W : Nat} {a : Addr} (A : Here p l e R s m args below meth c Z a0 y bytes ml ret dm fp T k n os) (w1 : (Jvm.Cond.methodLink y.cls idx Lib.objectInit).before a0 Z = true) (w2 : (Jvm.Cond.instanceMethod Lib.objectInit).before a0 Z = true) (w3 : (Jvm.Cond.code Lib.objectInit Jvm.Example.Point.objCode 1 none).before a0 Z = true)
    (hd : decode bytes pc = .ok (.invokespecial idx, 3)) (hsz : Ls.size = ml) (hW : (rest.map fun v => v.category).sum ≤ W) (hf : 1 ≤ R.frames) (hl : W + 12 ≤ R.locals) {qn : Nat} (hq : pc + 3 = qn)
    (K : ∀ T', Here p l e R s m args below meth c Z a0 y bytes ml ret dm fp T' k n os → Wp p e below Z a0 dm fp R s Post T' (mkF m qn Ls rest)) : Wp p e below Z a0 dm fp R s Post T (mkF m pc Ls (.ref a :: rest)) := by
  subst hq
  have A' := A
  obtain ⟨locs, X, N, H, hx, hZ, hb, hml, hown, q⟩ := A
  obtain ⟨T1, X1, e1, st1⟩ := RoadKit.initO X hx hZ hown w1 w2 w3 rfl (g := mkF m pc Ls (.ref a :: rest)) rfl (hsz.trans hml.symm) rfl (A'.hb hd) hf (W := W) (by show 2 * 0 + _ ≤ _; rw [Nat.mul_zero, Nat.zero_add]; exact hW) hl
  exact Wp.go st1 (K T1 ⟨locs, X1, N, by rw [e1]; exact H, hx, hZ, hb, hml, hown, q⟩)
theorem dm_call {h0 h : Heap} {os1 os2 : Hs} (H : Hp Z a0 dm fp h0 h (os1 ++ os2)) (hc : fp2 = [] ∨ (fp2 = os2.map (·.1) ∧ dm = fp)) {x : Addr} (hx : Dm fp2 h.size x) : Dm fp h0.size x := by
  rcases hx with hx | hx
  · rcases hc with rfl | ⟨rfl, rfl⟩
    · exact absurd hx List.not_mem_nil
    · obtain ⟨q, hq, rfl⟩ := List.mem_map.mp hx
      exact H.2.1 q (List.mem_append.mpr (Or.inr hq))
  · exact Or.inr (Nat.le_trans H.2.2.1 hx)
theorem Here.callS {idx W : Nat} {y' : MethodName} {bytes' : ByteArray} {ml' : Nat} {ret' : Option FieldType} {R' : Room} {argsL : List Value} {os1 os2 : Hs} {Post' : Option Value → Hs → Prop}
    (A : Here p l e R s m args below meth c Z a0 y bytes ml ret dm fp T k n (os1 ++ os2)) (M : Pays l Z a0 y' bytes' ml' ret' R' argsL.toArray os2 fp2 Post') (hcc : fp2 = [] ∨ (fp2 = os2.map (·.1) ∧ dm = fp))
    (w1 : (Jvm.Cond.methodLink y.cls idx y').before a0 Z = true) (w2 : (Jvm.Cond.static y').before a0 Z = true) (w3 : (Jvm.Cond.initialized y'.cls).before a0 Z = true) (w4 : (Jvm.Cond.code y' bytes' ml' ret').before a0 Z = true) (hy : y'.cls ≠ "java/lang/invoke/MethodHandle" ∧ y'.cls ≠ "java/lang/invoke/VarHandle")
    (hd : decode bytes pc = .ok (.invokestatic idx, 3)) (hsz : Ls.size = ml) (hlen : ∀ sig, parseMethodDescriptor y'.desc = some sig → argsL.length = sig.parameters.length) (hst : st = argsL.reverse ++ rest) (hW : (rest.map fun v => v.category).sum ≤ W) (hf : R'.frames + 1 ≤ R.frames) (hl : W + (ml' + 11) + R'.locals ≤ R.locals) (hc : k + R'.cells ≤ R.cells) (hs : n + R'.slots ≤ R.slots) {qn : Nat} (hq : pc + 3 = qn)
    (K : ∀ T' v os', Here p l e R s m args below meth c Z a0 y bytes ml ret dm fp T' (k + R'.cells) (n + R'.slots) (os1 ++ os') → Post' v os' → Wp p e below Z a0 dm fp R s Post T' (mkF m qn Ls (v.toList ++ rest))) : Wp p e below Z a0 dm fp R s Post T (mkF m pc Ls st) := by
  subst hq
  have A' := A
  obtain ⟨locs, X, N, H, hx, hZ, hb, hml, hown, q⟩ := A
  have hq : Hq Z a0 T.heap os2 := ⟨by have := H.1.1; rw [List.map_append, List.nodup_append] at this; exact this.2.1, fun q hq => H.1.2 q (List.mem_append.mpr (Or.inr hq))⟩
  obtain ⟨v, _, ⟨T1, L1, k1, n1⟩, -, X1, ⟨Lc, hQ, l1, y1, z1⟩, st1⟩ := Jvm.LawKit.callS X hx (y := y') hown (mvT hZ w1) (mvT hZ w2) (mvT hZ w3) (mvT hZ w4) hy (backOf (W := W) (h := T.heap) (Q := fun v h L => (∀ q ∈ L, Dm fp2 T.heap.size q.base) ∧ ∃ os', Hp Z a0 (os2.map (·.1)) fp2 T.heap h os' ∧ Post' v os') (M [] T.heap hq) hZ w4 w3 hf hl) (g := mkF m pc Ls st) rfl (hsz.trans hml.symm) (argsL := argsL) (rest := rest) hlen hst (by show 2 * 0 + _ ≤ _; rw [Nat.mul_zero, Nat.zero_add]; exact hW) (A'.hb hd) (fun _ _ => ⟨rfl, rfl, hc, hs⟩)
  dsimp only [Pt.U, Pt.locs, Pt.cells, Pt.slots] at X1 l1 y1 z1 st1 hQ
  subst l1 y1 z1
  obtain ⟨N1, os', H1, hP⟩ := hQ
  refine Wp.go st1 (K T1 v os' ⟨_, X1, fun q hq => ?_, H.call H1 hcc, hx, hZ, hb, hml, hown, q⟩ hP)
  rcases List.mem_append.mp hq with hq | hq
  · exact N q hq
  · exact dm_call H hcc (N1 q hq)
theorem Here.callI {idx W : Nat} {y' : MethodName} {bytes' : ByteArray} {ml' : Nat} {R' : Room} {argsL : List Value} {a : Addr} {os1 os2 : Hs} {Post' : Option Value → Hs → Prop}
    (A : Here p l e R s m args below meth c Z a0 y bytes ml ret dm fp T k n (os1 ++ os2)) (M : Pays l Z a0 y' bytes' ml' none R' (.ref a :: argsL).toArray os2 fp2 Post') (hcc : fp2 = [] ∨ (fp2 = os2.map (·.1) ∧ dm = fp)) (hini : y'.name = "<init>")
    (w1 : (Jvm.Cond.methodLink y.cls idx y').before a0 Z = true) (w2 : (Jvm.Cond.instanceMethod y').before a0 Z = true) (w3 : (Jvm.Cond.initialized y'.cls).before a0 Z = true) (w4 : (Jvm.Cond.code y' bytes' ml' none).before a0 Z = true) (hy : y'.cls ≠ "java/lang/invoke/MethodHandle" ∧ y'.cls ≠ "java/lang/invoke/VarHandle")
    (hd : decode bytes pc = .ok (.invokespecial idx, 3)) (hsz : Ls.size = ml) (hlen : ∀ sig, parseMethodDescriptor y'.desc = some sig → argsL.length = sig.parameters.length) (hst : st = argsL.reverse ++ .ref a :: rest) (hW : (rest.map fun v => v.category).sum ≤ W) (hf : R'.frames + 1 ≤ R.frames) (hl : W + (ml' + 11) + R'.locals ≤ R.locals) (hc : k + R'.cells ≤ R.cells) (hs : n + R'.slots ≤ R.slots) {qn : Nat} (hq : pc + 3 = qn)
    (K : ∀ T' v os', Here p l e R s m args below meth c Z a0 y bytes ml ret dm fp T' (k + R'.cells) (n + R'.slots) (os1 ++ os') → Post' v os' → Wp p e below Z a0 dm fp R s Post T' (mkF m qn Ls (v.toList ++ rest))) : Wp p e below Z a0 dm fp R s Post T (mkF m pc Ls st) := by
  subst hq
  have A' := A
  obtain ⟨locs, X, N, H, hx, hZ, hb, hml, hown, q⟩ := A
  have hq : Hq Z a0 T.heap os2 := ⟨by have := H.1.1; rw [List.map_append, List.nodup_append] at this; exact this.2.1, fun q hq => H.1.2 q (List.mem_append.mpr (Or.inr hq))⟩
  obtain ⟨v, _, ⟨T1, L1, k1, n1⟩, -, X1, ⟨Lc, hQ, l1, y1, z1⟩, st1⟩ := X.specialBack hx (y := y') hini hown (mvT hZ w1) (mvT hZ w2) (mvT hZ w4) hy (backOf (W := W) (h := T.heap) (Q := fun v h L => (∀ q ∈ L, Dm fp2 T.heap.size q.base) ∧ ∃ os', Hp Z a0 (os2.map (·.1)) fp2 T.heap h os' ∧ Post' v os') (M [] T.heap hq) hZ w4 w3 hf hl) (g := mkF m pc Ls st) rfl (hsz.trans hml.symm) (Steps.refl _) (a := a) (argsL := argsL) (rest := rest) hlen hst (by show 2 * 0 + _ ≤ _; rw [Nat.mul_zero, Nat.zero_add]; exact hW) (A'.hb hd) (fun _ _ => ⟨rfl, rfl, hc, hs⟩)
  dsimp only [Pt.U, Pt.locs, Pt.cells, Pt.slots] at X1 l1 y1 z1 st1 hQ
  subst l1 y1 z1
  obtain ⟨N1, os', H1, hP⟩ := hQ
  refine Wp.go (fun t kt => st1.trans kt) (K T1 v os' ⟨_, X1, fun q hq => ?_, H.call H1 hcc, hx, hZ, hb, hml, hown, q⟩ hP)
  rcases List.mem_append.mp hq with hq | hq
  · exact N q hq
  · exact dm_call H hcc (N1 q hq)
theorem Here.callV {idx W i : Nat} {y' : MethodName} {bytes' : ByteArray} {ml' : Nat} {ret' : Option FieldType} {R' : Room} {argsL : List Value} {a : Addr} {C : String} {fs : List Fd} {os1 os2 : Hs} {Post' : Option Value → Hs → Prop}
    (A : Here p l e R s m args below meth c Z a0 y bytes ml ret dm fp T k n (os1 ++ os2)) (M : Pays l Z a0 y' bytes' ml' ret' R' (.ref a :: argsL).toArray os2 fp2 Post') (hcc : fp2 = [] ∨ (fp2 = os2.map (·.1) ∧ dm = fp)) (ho : (os1 ++ os2)[i]? = some (a, .inl (C, fs)))
    (w1 : (Jvm.Cond.methodLink y.cls idx y').before a0 Z = true) (wd : (Jvm.Cond.declares y').before a0 Z = true) (ws : (Jvm.Cond.selects C y' y').before a0 Z = true) (w2 : (Jvm.Cond.instanceMethod y').before a0 Z = true) (w3 : (Jvm.Cond.initialized y'.cls).before a0 Z = true) (w4 : (Jvm.Cond.code y' bytes' ml' ret').before a0 Z = true) (hy : y'.cls ≠ "java/lang/invoke/MethodHandle" ∧ y'.cls ≠ "java/lang/invoke/VarHandle")
    (hd : decode bytes pc = .ok (.invokevirtual idx, 3)) (hsz : Ls.size = ml) (hlen : ∀ sig, parseMethodDescriptor y'.desc = some sig → argsL.length = sig.parameters.length) (hst : st = argsL.reverse ++ .ref a :: rest) (hW : (rest.map fun v => v.category).sum ≤ W) (hf : R'.frames + 1 ≤ R.frames) (hl : W + (ml' + 11) + R'.locals ≤ R.locals) (hc : k + R'.cells ≤ R.cells) (hs : n + R'.slots ≤ R.slots) {qn : Nat} (hq : pc + 3 = qn)
    (K : ∀ T' v os', Here p l e R s m args below meth c Z a0 y bytes ml ret dm fp T' (k + R'.cells) (n + R'.slots) (os1 ++ os') → Post' v os' → Wp p e below Z a0 dm fp R s Post T' (mkF m qn Ls (v.toList ++ rest))) : Wp p e below Z a0 dm fp R s Post T (mkF m pc Ls st) := by
  subst hq
  have A' := A
  obtain ⟨locs, X, N, H, hx, hZ, hb, hml, hown, q⟩ := A
  have hq : Hq Z a0 T.heap os2 := ⟨by have := H.1.1; rw [List.map_append, List.nodup_append] at this; exact this.2.1, fun q hq => H.1.2 q (List.mem_append.mpr (Or.inr hq))⟩
  obtain ⟨cq, kq, qa, qb, qc⟩ := isOf (T := T) hZ rfl (H.exa ho)
  obtain ⟨v, _, ⟨T1, L1, k1, n1⟩, -, X1, ⟨Lc, hQ, l1, y1, z1⟩, st1⟩ := X.virtualBack hx (y := y') (z := y') hown (mvT hZ w1) (mvT hZ wd) (notFace_of_selects (args := #[]) (mvT hZ ws)) (mvT hZ ws) (mvT hZ w2) hy (backOf (W := W) (h := T.heap) (Q := fun v h L => (∀ q ∈ L, Dm fp2 T.heap.size q.base) ∧ ∃ os', Hp Z a0 (os2.map (·.1)) fp2 T.heap h os' ∧ Post' v os') (M [] T.heap hq) hZ w4 w3 hf hl) qa qc (g := mkF m pc Ls st) rfl (hsz.trans hml.symm) (Steps.refl _) (argsL := argsL) (rest := rest) hlen hst (by show 2 * 0 + _ ≤ _; rw [Nat.mul_zero, Nat.zero_add]; exact hW) (A'.hb hd) (fun _ _ => ⟨rfl, rfl, hc, hs⟩)
  dsimp only [Pt.U, Pt.locs, Pt.cells, Pt.slots] at X1 l1 y1 z1 st1 hQ
  subst l1 y1 z1
  obtain ⟨N1, os', H1, hP⟩ := hQ
  refine Wp.go (fun t kt => st1.trans kt) (K T1 v os' ⟨_, X1, fun q hq => ?_, H.call H1 hcc, hx, hZ, hb, hml, hown, q⟩ hP)
  rcases List.mem_append.mp hq with hq | hq
  · exact N q hq
  · exact dm_call H hcc (N1 q hq)
end Walks
end Jvm.OwnWp
namespace Jvm.Pilot.@@N@@
open Jvm Jvm.ClassFile Sem Op Lib Jvm.Free Jvm.Stand Jvm.LawKit Jvm.RoadKit Bundle Jvm.OwnWp Jvm.Pilot.@@N@@.Jvm.D
theorem tw {a0 : Array Value} {Z : State} (hw : ∀ d ∈ tables_1, d.before a0 Z = true) (k : Nat) {d : Jvm.Cond} (h : tables_1[k]? = some d) : d.before a0 Z = true := hw d (List.mem_of_getElem? h)
abbrev ob0 (v0 v1 v2 : Value) : Ob := .inl ("com/example/wirecall/wirecall/Tls$Records", [("com/example/wirecall/wirecall/Tls$Records", "headerRead", "I", v0), ("com/example/wirecall/wirecall/Tls$Records", "fragmentLeft", "I", v1), ("com/example/wirecall/wirecall/Tls$Records", "fragmentLength", "I", v2)])
theorem bm32 (x : Int) : x.bmod (2 ^ 32) = (x + 2147483648) % 4294967296 - 2147483648 := by
  rw [Int.bmod_def]; split <;> omega
theorem bm64 (x : Int) : x.bmod (2 ^ 64) = (x + 9223372036854775808) % 18446744073709551616 - 9223372036854775808 := by
  rw [Int.bmod_def]; split <;> omega
theorem l32_0 : (0 : Int32).toInt = 0 := by decide
theorem l32_1 : (1 : Int32).toInt = 1 := by decide
theorem l32_2 : (2 : Int32).toInt = 2 := by decide
theorem l32_3 : (3 : Int32).toInt = 3 := by decide
theorem l32_4 : (4 : Int32).toInt = 4 := by decide
theorem l32_5 : (5 : Int32).toInt = 5 := by decide
theorem l32_6 : (6 : Int32).toInt = 6 := by decide
theorem l32_2147483647 : (2147483647 : Int32).toInt = 2147483647 := by decide
def own_b0 (q : Int64) : Int32 := nar .byte (q.toInt32.toInt8.toInt32)
def own_by (k : Int32) (q : Int64) : Int32 := nar .byte (((q.toUInt64 >>> (k &&& 0x3f).toInt64.toUInt64).toInt64).toInt32.toInt8.toInt32)
def own_fl (w : Int32) : Int32 := ((0 : Int32) <<< ((8 : Int32) &&& 31)) ||| (w &&& (255 : Int32))
def own_l (w3 w4 : Int32) : Int32 := (own_fl w3 <<< ((8 : Int32) &&& 31)) ||| (w4 &&& (255 : Int32))
def own_len (q : Int64) : Int32 := ((((q.toUInt64 >>> ((24 : Int32) &&& 0x3f).toInt64.toUInt64).toInt64) &&& (255 : Int64)).toInt32 <<< ((8 : Int32) &&& 31)) ||| ((((q.toUInt64 >>> ((32 : Int32) &&& 0x3f).toInt64.toUInt64).toInt64) &&& (255 : Int64)).toInt32)
theorem bm8 (x : Int) : x.bmod (2 ^ 8) = (x + 128) % 256 - 128 := by
  rw [Int.bmod_def]; split <;> omega
theorem own_by8 (y : Int32) : (y.toInt8.toInt32).toInt = (y.toInt + 128) % 256 - 128 := by
  rw [Int8.toInt_toInt32, Int32.toInt_toInt8, bm8]
theorem own_by_and (k : Int32) (q : Int64) : (own_by k q &&& 255) = ((((q.toUInt64 >>> (k &&& 0x3f).toInt64.toUInt64).toInt64) &&& (255 : Int64)).toInt32) := by
  apply Int32.toInt_inj.mp
  unfold own_by
  generalize ((q.toUInt64 >>> (k &&& 0x3f).toInt64.toUInt64).toInt64) = y
  rw [Jvm.Kit.i32_mask _ 255 (k := 8) (by decide) (by decide)]
  have h := Jvm.Kit.i64_mask y 255 (k := 8) (by decide) (by decide)
  rw [Jvm.Kit.i32_of_i64 (by omega) (by omega), h]
  show ((((y.toInt32.toInt8.toInt32).toInt8.toInt32)).toInt) % 2 ^ 8 = _
  rw [own_by8, own_by8, Int64.toInt_toInt32, bm32]
  omega
theorem own_fl_eq (w : Int32) : own_fl w = w &&& 255 := by
  unfold own_fl
  have e : ((0 : Int32) <<< ((8 : Int32) &&& 31)) = 0 := by decide
  rw [e, Int32.zero_or]
theorem own_len_eq (q : Int64) : own_l (own_by 24 q) (own_by 32 q) = own_len q := by
  unfold own_l own_len
  rw [own_fl_eq, own_by_and, own_by_and]
theorem own_tonat {x : Int32} (h : 0 ≤ x.toInt) : x.toBitVec.toNat = x.toInt.toNat := by
  have e : x.toInt = x.toBitVec.toInt := rfl
  rw [e, BitVec.toInt_eq_toNat_cond] at h ⊢
  split at h <;> rename_i q <;> simp only [q, if_true, if_false] <;> omega
theorem own_ofnat {x : Int32} (h : x.toBitVec.toNat < 2147483648) : x.toInt = x.toBitVec.toNat := by
  have e : x.toInt = x.toBitVec.toInt := rfl
  rw [e, BitVec.toInt_eq_toNat_cond, if_pos (by omega)]
theorem own_m255 (y : Int64) : ((y &&& (255 : Int64)).toInt32).toBitVec.toNat < 256 := by
  have h := Jvm.Kit.i64_mask y 255 (k := 8) (by decide) (by decide)
  have h2 : ((y &&& (255 : Int64)).toInt32).toInt = y.toInt % 256 := by
    rw [Jvm.Kit.i32_of_i64 (by omega) (by omega), h]
    omega
  rw [own_tonat (by omega)]
  omega
theorem own_len_le (q : Int64) : 0 ≤ (own_len q).toInt ∧ (own_len q).toInt ≤ 65535 := by
  have ha := own_m255 ((q.toUInt64 >>> ((24 : Int32) &&& 0x3f).toInt64.toUInt64).toInt64)
  have hb := own_m255 ((q.toUInt64 >>> ((32 : Int32) &&& 0x3f).toInt64.toUInt64).toInt64)
  unfold own_len
  generalize ((((q.toUInt64 >>> ((24 : Int32) &&& 0x3f).toInt64.toUInt64).toInt64) &&& (255 : Int64)).toInt32) = a at ha ⊢
  generalize ((((q.toUInt64 >>> ((32 : Int32) &&& 0x3f).toInt64.toUInt64).toInt64) &&& (255 : Int64)).toInt32) = b at hb ⊢
  have h1 : (a <<< ((8 : Int32) &&& 31)).toBitVec.toNat < 2 ^ 16 := by
    show (a.toBitVec <<< 8).toNat < 2 ^ 16
    rw [BitVec.toNat_shiftLeft, Nat.shiftLeft_eq]
    omega
  have h2 : ((a <<< ((8 : Int32) &&& 31)) ||| b).toBitVec.toNat < 2 ^ 16 := by
    show ((a <<< ((8 : Int32) &&& 31)).toBitVec ||| b.toBitVec).toNat < 2 ^ 16
    rw [BitVec.toNat_or]
    exact Nat.or_lt_two_pow h1 (by omega)
  rw [own_ofnat (by omega)]
  omega
theorem own_and31 (x : Int32) : 0 ≤ (x &&& 2147483647).toInt := by
  rw [Jvm.Kit.i32_mask x 2147483647 (k := 31) (by decide) (by decide)]
  omega
theorem own_r6b (x : Int32) : 0 ≤ ((x &&& 2147483647) % 6).toInt ∧ ((x &&& 2147483647) % 6).toInt < 6 := by
  have e : (6 : Int32).toInt = 6 := by decide
  rw [Jvm.Kit.i32_rem_nonneg (own_and31 x), e]
  have := own_and31 x
  omega
theorem own_r6 (x : Int32) : ((x &&& 2147483647) % 6) = 0 ∨ ((x &&& 2147483647) % 6) = 1 ∨ ((x &&& 2147483647) % 6) = 2 ∨ ((x &&& 2147483647) % 6) = 3 ∨ ((x &&& 2147483647) % 6) = 4 ∨ ((x &&& 2147483647) % 6) = 5 := by
  have h := own_r6b x
  rcases (show ((x &&& 2147483647) % 6).toInt = 0 ∨ ((x &&& 2147483647) % 6).toInt = 1 ∨ ((x &&& 2147483647) % 6).toInt = 2 ∨ ((x &&& 2147483647) % 6).toInt = 3 ∨ ((x &&& 2147483647) % 6).toInt = 4 ∨ ((x &&& 2147483647) % 6).toInt = 5 by omega) with e | e | e | e | e | e
  · exact Or.inl (Int32.toInt_inj.mp (by rw [e]; decide))
  · exact Or.inr (Or.inl (Int32.toInt_inj.mp (by rw [e]; decide)))
  · exact Or.inr (Or.inr (Or.inl (Int32.toInt_inj.mp (by rw [e]; decide))))
  · exact Or.inr (Or.inr (Or.inr (Or.inl (Int32.toInt_inj.mp (by rw [e]; decide)))))
  · exact Or.inr (Or.inr (Or.inr (Or.inr (Or.inl (Int32.toInt_inj.mp (by rw [e]; decide))))))
  · exact Or.inr (Or.inr (Or.inr (Or.inr (Or.inr (Int32.toInt_inj.mp (by rw [e]; decide))))))
theorem own_modn (x y : Int32) (h : 0 ≤ y.toInt) (h' : y.toInt ≤ 65535) : 0 ≤ ((x &&& 2147483647) % (y + 1)).toInt ∧ ((x &&& 2147483647) % (y + 1)).toInt ≤ y.toInt := by
  have e : (1 : Int32).toInt = 1 := by decide
  have e2 : (y + 1).toInt = y.toInt + 1 := by rw [Jvm.Kit.i32_add (by omega) (by omega), e]
  rw [Jvm.Kit.i32_rem_nonneg (own_and31 x), e2]
  have := own_and31 x
  have h1 := Int.emod_nonneg (x &&& 2147483647).toInt (show y.toInt + 1 ≠ 0 by omega)
  have h2 := Int.emod_lt_of_pos (x &&& 2147483647).toInt (show 0 < y.toInt + 1 by omega)
  omega
theorem own_nz (q : Int64) : own_len q + 1 ≠ 0 := by
  have h := own_len_le q
  intro e
  have e' := congrArg Int32.toInt e
  (try simp only [true_and, and_true, false_and, and_false, true_or, or_true, false_or, or_false, not_true_eq_false, not_false_eq_true, Int32.lt_iff_toInt_lt, Int64.lt_iff_toInt_lt, Int32.le_iff_toInt_le, Int64.le_iff_toInt_le, ← Int32.toInt_inj, ← Int64.toInt_inj, Int32.toInt_add, Int32.toInt_sub, Int32.toInt_neg, Int64.toInt_add, Int64.toInt_sub, Int64.toInt_neg, Int64.toInt_mul, Int32.toInt_toInt64, bm32, bm64, l32_0, l32_1, l32_2, l32_3, l32_4, l32_5, l32_6, l32_2147483647] at e') <;> omega
theorem d_method_2_0 : decode method_2_code 0 = .ok (.iconst 5, 1) := by decide +kernel
theorem d_method_2_1 : decode method_2_code 1 = .ok (.newarray .byte, 2) := by decide +kernel
theorem d_method_2_3 : decode method_2_code 3 = .ok (.astore_n 2, 1) := by decide +kernel
theorem d_method_2_4 : decode method_2_code 4 = .ok (.aload_n 2, 1) := by decide +kernel
theorem d_method_2_5 : decode method_2_code 5 = .ok (.iconst 0, 1) := by decide +kernel
theorem d_method_2_6 : decode method_2_code 6 = .ok (.lload_n 0, 1) := by decide +kernel
theorem d_method_2_7 : decode method_2_code 7 = .ok (.l2i, 1) := by decide +kernel
theorem d_method_2_8 : decode method_2_code 8 = .ok (.i2b, 1) := by decide +kernel
theorem d_method_2_9 : decode method_2_code 9 = .ok (.bastore, 1) := by decide +kernel
theorem d_method_2_10 : decode method_2_code 10 = .ok (.aload_n 2, 1) := by decide +kernel
theorem d_method_2_11 : decode method_2_code 11 = .ok (.iconst 1, 1) := by decide +kernel
theorem d_method_2_12 : decode method_2_code 12 = .ok (.lload_n 0, 1) := by decide +kernel
theorem d_method_2_13 : decode method_2_code 13 = .ok (.bipush 8, 2) := by decide +kernel
theorem d_method_2_15 : decode method_2_code 15 = .ok (.lushr, 1) := by decide +kernel
theorem d_method_2_16 : decode method_2_code 16 = .ok (.l2i, 1) := by decide +kernel
theorem d_method_2_17 : decode method_2_code 17 = .ok (.i2b, 1) := by decide +kernel
theorem d_method_2_18 : decode method_2_code 18 = .ok (.bastore, 1) := by decide +kernel
theorem d_method_2_19 : decode method_2_code 19 = .ok (.aload_n 2, 1) := by decide +kernel
theorem d_method_2_20 : decode method_2_code 20 = .ok (.iconst 2, 1) := by decide +kernel
theorem d_method_2_21 : decode method_2_code 21 = .ok (.lload_n 0, 1) := by decide +kernel
theorem d_method_2_22 : decode method_2_code 22 = .ok (.bipush 16, 2) := by decide +kernel
theorem d_method_2_24 : decode method_2_code 24 = .ok (.lushr, 1) := by decide +kernel
theorem d_method_2_25 : decode method_2_code 25 = .ok (.l2i, 1) := by decide +kernel
theorem d_method_2_26 : decode method_2_code 26 = .ok (.i2b, 1) := by decide +kernel
theorem d_method_2_27 : decode method_2_code 27 = .ok (.bastore, 1) := by decide +kernel
theorem d_method_2_28 : decode method_2_code 28 = .ok (.aload_n 2, 1) := by decide +kernel
theorem d_method_2_29 : decode method_2_code 29 = .ok (.iconst 3, 1) := by decide +kernel
theorem d_method_2_30 : decode method_2_code 30 = .ok (.lload_n 0, 1) := by decide +kernel
theorem d_method_2_31 : decode method_2_code 31 = .ok (.bipush 24, 2) := by decide +kernel
theorem d_method_2_33 : decode method_2_code 33 = .ok (.lushr, 1) := by decide +kernel
theorem d_method_2_34 : decode method_2_code 34 = .ok (.l2i, 1) := by decide +kernel
theorem d_method_2_35 : decode method_2_code 35 = .ok (.i2b, 1) := by decide +kernel
theorem d_method_2_36 : decode method_2_code 36 = .ok (.bastore, 1) := by decide +kernel
theorem d_method_2_37 : decode method_2_code 37 = .ok (.aload_n 2, 1) := by decide +kernel
theorem d_method_2_38 : decode method_2_code 38 = .ok (.iconst 4, 1) := by decide +kernel
theorem d_method_2_39 : decode method_2_code 39 = .ok (.lload_n 0, 1) := by decide +kernel
theorem d_method_2_40 : decode method_2_code 40 = .ok (.bipush 32, 2) := by decide +kernel
theorem d_method_2_42 : decode method_2_code 42 = .ok (.lushr, 1) := by decide +kernel
theorem d_method_2_43 : decode method_2_code 43 = .ok (.l2i, 1) := by decide +kernel
theorem d_method_2_44 : decode method_2_code 44 = .ok (.i2b, 1) := by decide +kernel
theorem d_method_2_45 : decode method_2_code 45 = .ok (.bastore, 1) := by decide +kernel
theorem d_method_2_46 : decode method_2_code 46 = .ok (.aload_n 2, 1) := by decide +kernel
theorem d_method_2_47 : decode method_2_code 47 = .ok (.areturn, 1) := by decide +kernel
theorem pn_0 : plainName "com/example/wirecall/wirecall/RecordsBetweenPinLaw" = true := by first | (simp [plainName, overriddenIn]; done) | decide +kernel
theorem ef_m_hdr (m : MethodId) (x0 : Int64) : entryFrame m #[(.long x0)] 3 = mkF m 0 #[.val (.long x0), .second, .unset] [] := by first | (simp [entryFrame, mkF, argsToLocals, Value.category]; done) | rfl
set_option maxRecDepth 65536 in
set_option maxHeartbeats 40000000 in
theorem m_hdr (l : Launch) (Z : State) (a0 : Array Value) (hw : ∀ d ∈ tables_1, d.before a0 Z = true) (q : Int64) :
    Pays l Z a0 (⟨"com/example/wirecall/wirecall/RecordsBetweenPinLaw", "header", "(J)[B"⟩ : MethodName) method_2_code 3 (some (.array .byte)) ({ frames := 0, cells := 1, slots := 5, locals := 0 } : Room) #[(.long q)] [] (([] : Hs).map (·.1)) (fun v os' => ∃ (b : Addr), v = some (.ref b) ∧ os' = [(b, .inr (.byte, [(.int (own_b0 q)), (.int (own_by 8 q)), (.int (own_by 16 q)), (.int (own_by 24 q)), (.int (own_by 32 q))]))]) := by
  refine Pays.of (Ls := #[.val (.long q), .second, .unset]) (plainFor_of_name pn_0) (fun m => ef_m_hdr m q) ?_
  intro p e s m below meth c T0 A0
  refine A0.iconst (q := 1) (v := 5) d_method_2_0 rfl rfl ?_
  refine A0.newP (qn := 3) (cap := 5) (tw hw 4 rfl) d_method_2_1 (by decide) (by decide) (by decide) (by decide) (by decide) rfl (fun T1 b3 A2 => ?_)
  have A4 := A2.cast (k2 := 1) (n2 := 5) (os2 := [(b3, .inr (.byte, [(.int 0), (.int 0), (.int 0), (.int 0), (.int 0)]))]) rfl rfl rfl
  refine A4.astoreN (q := 4) (l' := #[.val (.long q), .second, .val (.ref b3)]) d_method_2_3 rfl rfl rfl ?_
  refine A4.aloadN (q := 5) d_method_2_4 rfl rfl rfl ?_
  refine A4.iconst (q := 6) (v := 0) d_method_2_5 rfl rfl ?_
  refine A4.lloadN (q := 7) d_method_2_6 rfl rfl ?_
  refine A4.l2i (q := 8) d_method_2_7 rfl ?_
  refine A4.i2b (q := 9) d_method_2_8 rfl ?_
  refine A4.stB (qn := 10) (i := 0) d_method_2_9 rfl (by decide) (show (0 : Int32).toNatClampNeg < 5 from by decide) rfl rfl (fun T5 A6 => ?_)
  have A7 := A6.cast (k2 := 1) (n2 := 5) (os2 := [(b3, .inr (.byte, [(.int (nar .byte q.toInt32.toInt8.toInt32)), (.int 0), (.int 0), (.int 0), (.int 0)]))]) rfl rfl rfl
  refine A7.aloadN (q := 11) d_method_2_10 rfl rfl rfl ?_
  refine A7.iconst (q := 12) (v := 1) d_method_2_11 rfl rfl ?_
  refine A7.lloadN (q := 13) d_method_2_12 rfl rfl ?_
  refine A7.bipush (q := 15) (v := 8) d_method_2_13 rfl rfl ?_
  refine A7.lushr (q := 16) d_method_2_15 rfl ?_
  refine A7.l2i (q := 17) d_method_2_16 rfl ?_
  refine A7.i2b (q := 18) d_method_2_17 rfl ?_
  refine A7.stB (qn := 19) (i := 0) d_method_2_18 rfl (by decide) (show (1 : Int32).toNatClampNeg < 5 from by decide) rfl rfl (fun T8 A9 => ?_)
  have A10 := A9.cast (k2 := 1) (n2 := 5) (os2 := [(b3, .inr (.byte, [(.int (nar .byte q.toInt32.toInt8.toInt32)), (.int (nar .byte ((q.toUInt64 >>> ((8 : Int32) &&& 0x3f).toInt64.toUInt64).toInt64).toInt32.toInt8.toInt32)), (.int 0), (.int 0), (.int 0)]))]) rfl rfl rfl
  refine A10.aloadN (q := 20) d_method_2_19 rfl rfl rfl ?_
  refine A10.iconst (q := 21) (v := 2) d_method_2_20 rfl rfl ?_
  refine A10.lloadN (q := 22) d_method_2_21 rfl rfl ?_
  refine A10.bipush (q := 24) (v := 16) d_method_2_22 rfl rfl ?_
  refine A10.lushr (q := 25) d_method_2_24 rfl ?_
  refine A10.l2i (q := 26) d_method_2_25 rfl ?_
  refine A10.i2b (q := 27) d_method_2_26 rfl ?_
  refine A10.stB (qn := 28) (i := 0) d_method_2_27 rfl (by decide) (show (2 : Int32).toNatClampNeg < 5 from by decide) rfl rfl (fun T11 A12 => ?_)
  have A13 := A12.cast (k2 := 1) (n2 := 5) (os2 := [(b3, .inr (.byte, [(.int (nar .byte q.toInt32.toInt8.toInt32)), (.int (nar .byte ((q.toUInt64 >>> ((8 : Int32) &&& 0x3f).toInt64.toUInt64).toInt64).toInt32.toInt8.toInt32)), (.int (nar .byte ((q.toUInt64 >>> ((16 : Int32) &&& 0x3f).toInt64.toUInt64).toInt64).toInt32.toInt8.toInt32)), (.int 0), (.int 0)]))]) rfl rfl rfl
  refine A13.aloadN (q := 29) d_method_2_28 rfl rfl rfl ?_
  refine A13.iconst (q := 30) (v := 3) d_method_2_29 rfl rfl ?_
  refine A13.lloadN (q := 31) d_method_2_30 rfl rfl ?_
  refine A13.bipush (q := 33) (v := 24) d_method_2_31 rfl rfl ?_
  refine A13.lushr (q := 34) d_method_2_33 rfl ?_
  refine A13.l2i (q := 35) d_method_2_34 rfl ?_
  refine A13.i2b (q := 36) d_method_2_35 rfl ?_
  refine A13.stB (qn := 37) (i := 0) d_method_2_36 rfl (by decide) (show (3 : Int32).toNatClampNeg < 5 from by decide) rfl rfl (fun T14 A15 => ?_)
  have A16 := A15.cast (k2 := 1) (n2 := 5) (os2 := [(b3, .inr (.byte, [(.int (nar .byte q.toInt32.toInt8.toInt32)), (.int (nar .byte ((q.toUInt64 >>> ((8 : Int32) &&& 0x3f).toInt64.toUInt64).toInt64).toInt32.toInt8.toInt32)), (.int (nar .byte ((q.toUInt64 >>> ((16 : Int32) &&& 0x3f).toInt64.toUInt64).toInt64).toInt32.toInt8.toInt32)), (.int (nar .byte ((q.toUInt64 >>> ((24 : Int32) &&& 0x3f).toInt64.toUInt64).toInt64).toInt32.toInt8.toInt32)), (.int 0)]))]) rfl rfl rfl
  refine A16.aloadN (q := 38) d_method_2_37 rfl rfl rfl ?_
  refine A16.iconst (q := 39) (v := 4) d_method_2_38 rfl rfl ?_
  refine A16.lloadN (q := 40) d_method_2_39 rfl rfl ?_
  refine A16.bipush (q := 42) (v := 32) d_method_2_40 rfl rfl ?_
  refine A16.lushr (q := 43) d_method_2_42 rfl ?_
  refine A16.l2i (q := 44) d_method_2_43 rfl ?_
  refine A16.i2b (q := 45) d_method_2_44 rfl ?_
  refine A16.stB (qn := 46) (i := 0) d_method_2_45 rfl (by decide) (show (4 : Int32).toNatClampNeg < 5 from by decide) rfl rfl (fun T17 A18 => ?_)
  have A19 := A18.cast (k2 := 1) (n2 := 5) (os2 := [(b3, .inr (.byte, [(.int (nar .byte q.toInt32.toInt8.toInt32)), (.int (nar .byte ((q.toUInt64 >>> ((8 : Int32) &&& 0x3f).toInt64.toUInt64).toInt64).toInt32.toInt8.toInt32)), (.int (nar .byte ((q.toUInt64 >>> ((16 : Int32) &&& 0x3f).toInt64.toUInt64).toInt64).toInt32.toInt8.toInt32)), (.int (nar .byte ((q.toUInt64 >>> ((24 : Int32) &&& 0x3f).toInt64.toUInt64).toInt64).toInt32.toInt8.toInt32)), (.int (nar .byte ((q.toUInt64 >>> ((32 : Int32) &&& 0x3f).toInt64.toUInt64).toInt64).toInt32.toInt8.toInt32))]))]) rfl rfl rfl
  refine A19.aloadN (q := 47) d_method_2_46 rfl rfl rfl ?_
  exact A19.retR d_method_2_47 rfl (by decide) (by decide) ⟨b3, rfl, rfl⟩
theorem d_method_3_0 : decode method_3_code 0 = .ok (.lload_n 0, 1) := by decide +kernel
theorem d_method_3_1 : decode method_3_code 1 = .ok (.bipush 24, 2) := by decide +kernel
theorem d_method_3_3 : decode method_3_code 3 = .ok (.lushr, 1) := by decide +kernel
theorem d_method_3_4 : decode method_3_code 4 = .ok (.ldc2_w 7, 3) := by decide +kernel
theorem d_method_3_7 : decode method_3_code 7 = .ok (.land, 1) := by decide +kernel
theorem d_method_3_8 : decode method_3_code 8 = .ok (.l2i, 1) := by decide +kernel
theorem d_method_3_9 : decode method_3_code 9 = .ok (.bipush 8, 2) := by decide +kernel
theorem d_method_3_11 : decode method_3_code 11 = .ok (.ishl, 1) := by decide +kernel
theorem d_method_3_12 : decode method_3_code 12 = .ok (.lload_n 0, 1) := by decide +kernel
theorem d_method_3_13 : decode method_3_code 13 = .ok (.bipush 32, 2) := by decide +kernel
theorem d_method_3_15 : decode method_3_code 15 = .ok (.lushr, 1) := by decide +kernel
theorem d_method_3_16 : decode method_3_code 16 = .ok (.ldc2_w 7, 3) := by decide +kernel
theorem d_method_3_19 : decode method_3_code 19 = .ok (.land, 1) := by decide +kernel
theorem d_method_3_20 : decode method_3_code 20 = .ok (.l2i, 1) := by decide +kernel
theorem d_method_3_21 : decode method_3_code 21 = .ok (.ior, 1) := by decide +kernel
theorem d_method_3_22 : decode method_3_code 22 = .ok (.ireturn, 1) := by decide +kernel
theorem ef_m_len (m : MethodId) (x0 : Int64) : entryFrame m #[(.long x0)] 2 = mkF m 0 #[.val (.long x0), .second] [] := by first | (simp [entryFrame, mkF, argsToLocals, Value.category]; done) | rfl
set_option maxRecDepth 65536 in
set_option maxHeartbeats 40000000 in
theorem m_len (l : Launch) (Z : State) (a0 : Array Value) (hw : ∀ d ∈ tables_1, d.before a0 Z = true) (q : Int64) :
    Pays l Z a0 (⟨"com/example/wirecall/wirecall/RecordsBetweenPinLaw", "length", "(J)I"⟩ : MethodName) method_3_code 2 (some .int) ({ frames := 0, cells := 0, slots := 0, locals := 0 } : Room) #[(.long q)] [] (([] : Hs).map (·.1)) (fun v os' => v = some (.int (own_len q)) ∧ os' = []) := by
  refine Pays.of (Ls := #[.val (.long q), .second]) (plainFor_of_name pn_0) (fun m => ef_m_len m q) ?_
  intro p e s m below meth c T0 A0
  refine A0.lloadN (q := 1) d_method_3_0 rfl rfl ?_
  refine A0.bipush (q := 3) (v := 24) d_method_3_1 rfl rfl ?_
  refine A0.lushr (q := 4) d_method_3_3 rfl ?_
  refine A0.ldc2 (qn := 7) (v := 255) (tw hw 8 rfl) d_method_3_4 rfl ?_
  refine A0.land (q := 8) d_method_3_7 rfl ?_
  refine A0.l2i (q := 9) d_method_3_8 rfl ?_
  refine A0.bipush (q := 11) (v := 8) d_method_3_9 rfl rfl ?_
  refine A0.ishl (q := 12) d_method_3_11 rfl ?_
  refine A0.lloadN (q := 13) d_method_3_12 rfl rfl ?_
  refine A0.bipush (q := 15) (v := 32) d_method_3_13 rfl rfl ?_
  refine A0.lushr (q := 16) d_method_3_15 rfl ?_
  refine A0.ldc2 (qn := 19) (v := 255) (tw hw 8 rfl) d_method_3_16 rfl ?_
  refine A0.land (q := 20) d_method_3_19 rfl ?_
  refine A0.l2i (q := 21) d_method_3_20 rfl ?_
  refine A0.ior (q := 22) d_method_3_21 rfl ?_
  exact A0.retI d_method_3_22 (by decide) (by decide) ⟨rfl, rfl⟩
theorem d_prog_146_method_1_0 : decode prog_146_method_1_code 0 = .ok (.aload_n 0, 1) := by decide +kernel
theorem d_prog_146_method_1_1 : decode prog_146_method_1_code 1 = .ok (.invokespecial 1, 3) := by decide +kernel
theorem d_prog_146_method_1_4 : decode prog_146_method_1_code 4 = .ok (.return_, 1) := by decide +kernel
theorem pn_1 : plainName "com/example/wirecall/wirecall/Tls$Records" = true := by first | (simp [plainName, overriddenIn]; done) | decide +kernel
theorem ef_m_ini (m : MethodId) (x0 : Addr) : entryFrame m #[(.ref x0)] 1 = mkF m 0 #[.val (.ref x0)] [] := by first | (simp [entryFrame, mkF, argsToLocals, Value.category]; done) | rfl
set_option maxRecDepth 65536 in
set_option maxHeartbeats 40000000 in
theorem m_ini (l : Launch) (Z : State) (a0 : Array Value) (hw : ∀ d ∈ tables_1, d.before a0 Z = true) (a : Addr) :
    Pays l Z a0 (⟨"com/example/wirecall/wirecall/Tls$Records", "<init>", "()V"⟩ : MethodName) prog_146_method_1_code 1 none ({ frames := 1, cells := 0, slots := 0, locals := 12 } : Room) #[(.ref a)] [] (([] : Hs).map (·.1)) (fun v os' => v = none ∧ os' = []) := by
  refine Pays.of (Ls := #[.val (.ref a)]) (plainFor_of_name pn_1) (fun m => ef_m_ini m a) ?_
  intro p e s m below meth c T0 A0
  refine A0.aloadN (q := 1) d_prog_146_method_1_0 rfl rfl rfl ?_
  refine A0.initO (qn := 4) (W := 0) (tw hw 16 rfl) (tw hw 17 rfl) (tw hw 18 rfl) d_prog_146_method_1_1 rfl (Nat.le_of_eq rfl) (by decide) (by decide) rfl (fun T1 A2 => ?_)
  exact A2.retV d_prog_146_method_1_4 (by decide) (by decide) ⟨rfl, rfl⟩
theorem d_jdk_29_method_69_0 : decode jdk_29_method_69_code 0 = .ok (.iload_n 0, 1) := by decide +kernel
theorem d_jdk_29_method_69_1 : decode jdk_29_method_69_code 1 = .ok (.iload_n 1, 1) := by decide +kernel
theorem d_jdk_29_method_69_2 : decode jdk_29_method_69_code 2 = .ok (.if_icmp .gt 7, 3) := by decide +kernel
theorem d_jdk_29_method_69_9 : decode jdk_29_method_69_code 9 = .ok (.iload_n 1, 1) := by decide +kernel
theorem d_jdk_29_method_69_10 : decode jdk_29_method_69_code 10 = .ok (.ireturn, 1) := by decide +kernel
theorem d_jdk_29_method_69_5 : decode jdk_29_method_69_code 5 = .ok (.iload_n 0, 1) := by decide +kernel
theorem d_jdk_29_method_69_6 : decode jdk_29_method_69_code 6 = .ok (.goto 4, 3) := by decide +kernel
theorem ef_m_min (m : MethodId) (x0 : Int32) (x1 : Int32) : entryFrame m #[(.int x0), (.int x1)] 2 = mkF m 0 #[.val (.int x0), .val (.int x1)] [] := by first | (simp [entryFrame, mkF, argsToLocals, Value.category]; done) | rfl
set_option maxRecDepth 65536 in
set_option maxHeartbeats 40000000 in
theorem m_min (l : Launch) (Z : State) (a0 : Array Value) (hw : ∀ d ∈ tables_1, d.before a0 Z = true) (z0 : Int32) (z1 : Int32) :
    Pays l Z a0 (⟨"java/lang/Math", "min", "(II)I"⟩ : MethodName) jdk_29_method_69_code 2 (some .int) ({ frames := 0, cells := 0, slots := 0, locals := 0 } : Room) #[(.int z0), (.int z1)] [] (([] : Hs).map (·.1)) (fun v os' => ∃ (r : Int32), v = some (.int r) ∧ os' = [] ∧ ((z1 < z0 ∧ r = z1) ∨ (¬ z1 < z0 ∧ r = z0))) := by
  refine Pays.of (Ls := #[.val (.int z0), .val (.int z1)]) (Jvm.Free.JP.mathPlain rfl (by decide +kernel)) (fun m => ef_m_min m z0 z1) ?_
  intro p e s m below meth c T0 A0
  refine A0.iloadN (q := 1) d_jdk_29_method_69_0 rfl rfl ?_
  refine A0.iloadN (q := 2) d_jdk_29_method_69_1 rfl rfl ?_
  by_cases hc2_1 : z1 < z0
  · refine A0.icmpYes (q := 9) d_jdk_29_method_69_2 (tlt hc2_1).2.2.1 (by decide) (by decide) ?_
    refine A0.iloadN (q := 10) d_jdk_29_method_69_9 rfl rfl ?_
    refine A0.retI d_jdk_29_method_69_10 (by decide) (by decide) ⟨z1, rfl, rfl, ?_⟩
    clear hw A0
    (try simp only [true_and, and_true, false_and, and_false, true_or, or_true, false_or, or_false, not_true_eq_false, not_false_eq_true, Int32.lt_iff_toInt_lt, Int64.lt_iff_toInt_lt, Int32.le_iff_toInt_le, Int64.le_iff_toInt_le, ← Int32.toInt_inj, ← Int64.toInt_inj, Int32.toInt_add, Int32.toInt_sub, Int32.toInt_neg, Int64.toInt_add, Int64.toInt_sub, Int64.toInt_neg, Int64.toInt_mul, Int32.toInt_toInt64, bm32, bm64, l32_0, l32_1, l32_2, l32_3, l32_4, l32_5, l32_6, l32_2147483647] at hc2_1 ⊢) <;> omega
  · refine A0.icmpNo (q := 5) d_jdk_29_method_69_2 (flt hc2_1).2.2.1 rfl ?_
    refine A0.iloadN (q := 6) d_jdk_29_method_69_5 rfl rfl ?_
    refine A0.goto (q := 10) d_jdk_29_method_69_6 (by decide) (by decide) ?_
    refine A0.retI d_jdk_29_method_69_10 (by decide) (by decide) ⟨z0, rfl, rfl, ?_⟩
    clear hw A0
    (try simp only [true_and, and_true, false_and, and_false, true_or, or_true, false_or, or_false, not_true_eq_false, not_false_eq_true, Int32.lt_iff_toInt_lt, Int64.lt_iff_toInt_lt, Int32.le_iff_toInt_le, Int64.le_iff_toInt_le, ← Int32.toInt_inj, ← Int64.toInt_inj, Int32.toInt_add, Int32.toInt_sub, Int32.toInt_neg, Int64.toInt_add, Int64.toInt_sub, Int64.toInt_neg, Int64.toInt_mul, Int32.toInt_toInt64, bm32, bm64, l32_0, l32_1, l32_2, l32_3, l32_4, l32_5, l32_6, l32_2147483647] at hc2_1 ⊢) <;> omega
theorem d_prog_146_method_3_0 : decode prog_146_method_3_code 0 = .ok (.aload_n 0, 1) := by decide +kernel
theorem d_prog_146_method_3_1 : decode prog_146_method_3_code 1 = .ok (.getfield 19, 3) := by decide +kernel
theorem d_prog_146_method_3_4 : decode prog_146_method_3_code 4 = .ok (.ifCond .ne 14, 3) := by decide +kernel
theorem d_prog_146_method_3_7 : decode prog_146_method_3_code 7 = .ok (.aload_n 0, 1) := by decide +kernel
theorem d_prog_146_method_3_8 : decode prog_146_method_3_code 8 = .ok (.getfield 7, 3) := by decide +kernel
theorem d_prog_146_method_3_11 : decode prog_146_method_3_code 11 = .ok (.ifCond .ne 7, 3) := by decide +kernel
theorem d_prog_146_method_3_14 : decode prog_146_method_3_code 14 = .ok (.iconst 1, 1) := by decide +kernel
theorem d_prog_146_method_3_15 : decode prog_146_method_3_code 15 = .ok (.goto 4, 3) := by decide +kernel
theorem d_prog_146_method_3_19 : decode prog_146_method_3_code 19 = .ok (.ireturn, 1) := by decide +kernel
theorem d_prog_146_method_3_18 : decode prog_146_method_3_code 18 = .ok (.iconst 0, 1) := by decide +kernel
theorem ef_m_btw (m : MethodId) (x0 : Addr) : entryFrame m #[(.ref x0)] 1 = mkF m 0 #[.val (.ref x0)] [] := by first | (simp [entryFrame, mkF, argsToLocals, Value.category]; done) | rfl
set_option maxRecDepth 65536 in
set_option maxHeartbeats 40000000 in
theorem m_btw (l : Launch) (Z : State) (a0 : Array Value) (hw : ∀ d ∈ tables_1, d.before a0 Z = true) (a : Addr) (f0 : Int32) (f1 : Int32) (f2 : Int32) :
    Pays l Z a0 (⟨"com/example/wirecall/wirecall/Tls$Records", "between", "()Z"⟩ : MethodName) prog_146_method_3_code 1 (some .boolean) ({ frames := 0, cells := 0, slots := 0, locals := 0 } : Room) #[(.ref a)] [(a, ob0 (.int f1) (.int f0) (.int f2))] (([(a, ob0 (.int f1) (.int f0) (.int f2))] : Hs).map (·.1)) (fun v os' => ∃ (r : Int32), v = some (.int r) ∧ os' = [(a, ob0 (.int f1) (.int f0) (.int f2))] ∧ ((r = 1 ∧ (f0 = 0 ∧ f1 = 0)) ∨ (r = 0 ∧ ¬ (f0 = 0 ∧ f1 = 0)))) := by
  refine Pays.of (Ls := #[.val (.ref a)]) (plainFor_of_name pn_1) (fun m => ef_m_btw m a) ?_
  intro p e s m below meth c T0 A0
  refine A0.aloadN (q := 1) d_prog_146_method_3_0 rfl rfl rfl ?_
  refine A0.getF (qn := 4) (i := 0) (j := 0) (tw hw 29 rfl) Via.refl d_prog_146_method_3_1 rfl rfl rfl (fun T1 A2 => ?_)
  by_cases hc4_3 : f1 = (0 : Int32)
  · refine A2.ifNo (q := 7) d_prog_146_method_3_4 ((if0 _ _).trans (teq hc4_3).2) rfl ?_
    refine A2.aloadN (q := 8) d_prog_146_method_3_7 rfl rfl rfl ?_
    refine A2.getF (qn := 11) (i := 0) (j := 1) (tw hw 31 rfl) Via.refl d_prog_146_method_3_8 rfl rfl rfl (fun T4 A5 => ?_)
    by_cases hc11_6 : f0 = (0 : Int32)
    · refine A5.ifNo (q := 14) d_prog_146_method_3_11 ((if0 _ _).trans (teq hc11_6).2) rfl ?_
      refine A5.iconst (q := 15) (v := 1) d_prog_146_method_3_14 rfl rfl ?_
      refine A5.goto (q := 19) d_prog_146_method_3_15 (by decide) (by decide) ?_
      refine A5.retN (by simp) d_prog_146_method_3_19 (by decide) (by decide) ⟨(1 : Int32), rfl, rfl, ?_⟩
      clear hw A0 A2 A5
      (try simp only [true_and, and_true, false_and, and_false, true_or, or_true, false_or, or_false, not_true_eq_false, not_false_eq_true, Int32.lt_iff_toInt_lt, Int64.lt_iff_toInt_lt, Int32.le_iff_toInt_le, Int64.le_iff_toInt_le, ← Int32.toInt_inj, ← Int64.toInt_inj, Int32.toInt_add, Int32.toInt_sub, Int32.toInt_neg, Int64.toInt_add, Int64.toInt_sub, Int64.toInt_neg, Int64.toInt_mul, Int32.toInt_toInt64, bm32, bm64, l32_0, l32_1, l32_2, l32_3, l32_4, l32_5, l32_6, l32_2147483647] at hc4_3 hc11_6 ⊢) <;> omega
    · refine A5.ifYes (q := 18) d_prog_146_method_3_11 ((if0 _ _).trans (feq hc11_6).2) (by decide) (by decide) ?_
      refine A5.iconst (q := 19) (v := 0) d_prog_146_method_3_18 rfl rfl ?_
      refine A5.retN (by simp) d_prog_146_method_3_19 (by decide) (by decide) ⟨(0 : Int32), rfl, rfl, ?_⟩
      clear hw A0 A2 A5
      (try simp only [true_and, and_true, false_and, and_false, true_or, or_true, false_or, or_false, not_true_eq_false, not_false_eq_true, Int32.lt_iff_toInt_lt, Int64.lt_iff_toInt_lt, Int32.le_iff_toInt_le, Int64.le_iff_toInt_le, ← Int32.toInt_inj, ← Int64.toInt_inj, Int32.toInt_add, Int32.toInt_sub, Int32.toInt_neg, Int64.toInt_add, Int64.toInt_sub, Int64.toInt_neg, Int64.toInt_mul, Int32.toInt_toInt64, bm32, bm64, l32_0, l32_1, l32_2, l32_3, l32_4, l32_5, l32_6, l32_2147483647] at hc4_3 hc11_6 ⊢) <;> omega
  · refine A2.ifYes (q := 18) d_prog_146_method_3_4 ((if0 _ _).trans (feq hc4_3).2) (by decide) (by decide) ?_
    refine A2.iconst (q := 19) (v := 0) d_prog_146_method_3_18 rfl rfl ?_
    refine A2.retN (by simp) d_prog_146_method_3_19 (by decide) (by decide) ⟨(0 : Int32), rfl, rfl, ?_⟩
    clear hw A0 A2
    (try simp only [true_and, and_true, false_and, and_false, true_or, or_true, false_or, or_false, not_true_eq_false, not_false_eq_true, Int32.lt_iff_toInt_lt, Int64.lt_iff_toInt_lt, Int32.le_iff_toInt_le, Int64.le_iff_toInt_le, ← Int32.toInt_inj, ← Int64.toInt_inj, Int32.toInt_add, Int32.toInt_sub, Int32.toInt_neg, Int64.toInt_add, Int64.toInt_sub, Int64.toInt_neg, Int64.toInt_mul, Int32.toInt_toInt64, bm32, bm64, l32_0, l32_1, l32_2, l32_3, l32_4, l32_5, l32_6, l32_2147483647] at hc4_3 ⊢) <;> omega
theorem d_prog_146_method_2_0 : decode prog_146_method_2_code 0 = .ok (.iload_n 2, 1) := by decide +kernel
theorem d_prog_146_method_2_1 : decode prog_146_method_2_code 1 = .ok (.istore 4, 2) := by decide +kernel
theorem d_prog_146_method_2_3 : decode prog_146_method_2_code 3 = .ok (.iload_n 2, 1) := by decide +kernel
theorem d_prog_146_method_2_4 : decode prog_146_method_2_code 4 = .ok (.iload_n 3, 1) := by decide +kernel
theorem d_prog_146_method_2_5 : decode prog_146_method_2_code 5 = .ok (.iadd, 1) := by decide +kernel
theorem d_prog_146_method_2_6 : decode prog_146_method_2_code 6 = .ok (.istore 5, 2) := by decide +kernel
theorem d_prog_146_method_2_8 : decode prog_146_method_2_code 8 = .ok (.iload 4, 2) := by decide +kernel
theorem d_prog_146_method_2_10 : decode prog_146_method_2_code 10 = .ok (.iload 5, 2) := by decide +kernel
theorem d_prog_146_method_2_12 : decode prog_146_method_2_code 12 = .ok (.if_icmp .ge 115, 3) := by decide +kernel
theorem d_prog_146_method_2_127 : decode prog_146_method_2_code 127 = .ok (.return_, 1) := by decide +kernel
theorem ef_m_p0_0 (m : MethodId) (x0 : Addr) (x1 : Addr) : entryFrame m #[(.ref x0), (.ref x1), (.int 0), (.int 0)] 7 = mkF m 0 #[.val (.ref x0), .val (.ref x1), .val (.int 0), .val (.int 0), .unset, .unset, .unset] [] := by first | (simp [entryFrame, mkF, argsToLocals, Value.category]; done) | rfl
set_option maxRecDepth 65536 in
set_option maxHeartbeats 40000000 in
theorem m_p0_0 (l : Launch) (Z : State) (a0 : Array Value) (hw : ∀ d ∈ tables_1, d.before a0 Z = true) (a : Addr) (b : Addr) (w0 : Int32) (w1 : Int32) (w2 : Int32) (w3 : Int32) (w4 : Int32) :
    Pays l Z a0 (⟨"com/example/wirecall/wirecall/Tls$Records", "passed", "([BII)V"⟩ : MethodName) prog_146_method_2_code 7 none ({ frames := 0, cells := 0, slots := 0, locals := 0 } : Room) #[(.ref a), (.ref b), (.int 0), (.int 0)] [(a, ob0 (.int 0) (.int 0) (.int 0)), (b, .inr (.byte, [(.int w0), (.int w1), (.int w2), (.int w3), (.int w4)]))] (([(a, ob0 (.int 0) (.int 0) (.int 0)), (b, .inr (.byte, [(.int w0), (.int w1), (.int w2), (.int w3), (.int w4)]))] : Hs).map (·.1)) (fun v os' => v = none ∧ os' = [(a, ob0 (.int 0) (.int 0) (.int 0)), (b, .inr (.byte, [(.int w0), (.int w1), (.int w2), (.int w3), (.int w4)]))]) := by
  refine Pays.of (Ls := #[.val (.ref a), .val (.ref b), .val (.int 0), .val (.int 0), .unset, .unset, .unset]) (plainFor_of_name pn_1) (fun m => ef_m_p0_0 m a b) ?_
  intro p e s m below meth c T0 A0
  refine A0.iloadN (q := 1) d_prog_146_method_2_0 rfl rfl ?_
  refine A0.istore (q := 3) (l' := #[.val (.ref a), .val (.ref b), .val (.int 0), .val (.int 0), .val (.int 0), .unset, .unset]) d_prog_146_method_2_1 rfl rfl ?_
  refine A0.iloadN (q := 4) d_prog_146_method_2_3 rfl rfl ?_
  refine A0.iloadN (q := 5) d_prog_146_method_2_4 rfl rfl ?_
  refine A0.iadd (q := 6) d_prog_146_method_2_5 rfl ?_
  refine Wp.top (v' := (.int 0)) rfl ?_
  refine A0.istore (q := 8) (l' := #[.val (.ref a), .val (.ref b), .val (.int 0), .val (.int 0), .val (.int 0), .val (.int 0), .unset]) d_prog_146_method_2_6 rfl rfl ?_
  refine A0.iload (q := 10) d_prog_146_method_2_8 rfl rfl ?_
  refine A0.iload (q := 12) d_prog_146_method_2_10 rfl rfl ?_
  refine A0.icmpYes (q := 127) d_prog_146_method_2_12 (by decide) (by decide) (by decide) ?_
  exact A0.retV d_prog_146_method_2_127 (by decide) (by decide) ⟨rfl, rfl⟩
theorem d_prog_146_method_2_15 : decode prog_146_method_2_code 15 = .ok (.aload_n 0, 1) := by decide +kernel
theorem d_prog_146_method_2_16 : decode prog_146_method_2_code 16 = .ok (.getfield 7, 3) := by decide +kernel
theorem d_prog_146_method_2_19 : decode prog_146_method_2_code 19 = .ok (.ifCond .le 38, 3) := by decide +kernel
theorem d_prog_146_method_2_57 : decode prog_146_method_2_code 57 = .ok (.aload_n 0, 1) := by decide +kernel
theorem d_prog_146_method_2_58 : decode prog_146_method_2_code 58 = .ok (.getfield 19, 3) := by decide +kernel
theorem d_prog_146_method_2_61 : decode prog_146_method_2_code 61 = .ok (.iconst 3, 1) := by decide +kernel
theorem d_prog_146_method_2_62 : decode prog_146_method_2_code 62 = .ok (.if_icmp .lt 23, 3) := by decide +kernel
theorem d_prog_146_method_2_85 : decode prog_146_method_2_code 85 = .ok (.aload_n 0, 1) := by decide +kernel
theorem d_prog_146_method_2_86 : decode prog_146_method_2_code 86 = .ok (.dup, 1) := by decide +kernel
theorem d_prog_146_method_2_87 : decode prog_146_method_2_code 87 = .ok (.getfield 19, 3) := by decide +kernel
theorem d_prog_146_method_2_90 : decode prog_146_method_2_code 90 = .ok (.iconst 1, 1) := by decide +kernel
theorem d_prog_146_method_2_91 : decode prog_146_method_2_code 91 = .ok (.iadd, 1) := by decide +kernel
theorem d_prog_146_method_2_92 : decode prog_146_method_2_code 92 = .ok (.putfield 19, 3) := by decide +kernel
theorem d_prog_146_method_2_95 : decode prog_146_method_2_code 95 = .ok (.iinc 4 1, 3) := by decide +kernel
theorem d_prog_146_method_2_98 : decode prog_146_method_2_code 98 = .ok (.aload_n 0, 1) := by decide +kernel
theorem d_prog_146_method_2_99 : decode prog_146_method_2_code 99 = .ok (.getfield 19, 3) := by decide +kernel
theorem d_prog_146_method_2_102 : decode prog_146_method_2_code 102 = .ok (.iconst 5, 1) := by decide +kernel
theorem d_prog_146_method_2_103 : decode prog_146_method_2_code 103 = .ok (.if_icmp .ne (-95), 3) := by decide +kernel
theorem d_prog_146_method_2_65 : decode prog_146_method_2_code 65 = .ok (.aload_n 0, 1) := by decide +kernel
theorem d_prog_146_method_2_66 : decode prog_146_method_2_code 66 = .ok (.aload_n 0, 1) := by decide +kernel
theorem d_prog_146_method_2_67 : decode prog_146_method_2_code 67 = .ok (.getfield 22, 3) := by decide +kernel
theorem d_prog_146_method_2_70 : decode prog_146_method_2_code 70 = .ok (.bipush 8, 2) := by decide +kernel
theorem d_prog_146_method_2_72 : decode prog_146_method_2_code 72 = .ok (.ishl, 1) := by decide +kernel
theorem d_prog_146_method_2_73 : decode prog_146_method_2_code 73 = .ok (.aload_n 1, 1) := by decide +kernel
theorem d_prog_146_method_2_74 : decode prog_146_method_2_code 74 = .ok (.iload 4, 2) := by decide +kernel
theorem d_prog_146_method_2_76 : decode prog_146_method_2_code 76 = .ok (.baload, 1) := by decide +kernel
theorem d_prog_146_method_2_77 : decode prog_146_method_2_code 77 = .ok (.sipush 255, 3) := by decide +kernel
theorem d_prog_146_method_2_80 : decode prog_146_method_2_code 80 = .ok (.iand, 1) := by decide +kernel
theorem d_prog_146_method_2_81 : decode prog_146_method_2_code 81 = .ok (.ior, 1) := by decide +kernel
theorem d_prog_146_method_2_82 : decode prog_146_method_2_code 82 = .ok (.putfield 22, 3) := by decide +kernel
theorem d_prog_146_method_2_106 : decode prog_146_method_2_code 106 = .ok (.aload_n 0, 1) := by decide +kernel
theorem d_prog_146_method_2_107 : decode prog_146_method_2_code 107 = .ok (.aload_n 0, 1) := by decide +kernel
theorem d_prog_146_method_2_108 : decode prog_146_method_2_code 108 = .ok (.getfield 22, 3) := by decide +kernel
theorem d_prog_146_method_2_111 : decode prog_146_method_2_code 111 = .ok (.putfield 7, 3) := by decide +kernel
theorem d_prog_146_method_2_114 : decode prog_146_method_2_code 114 = .ok (.aload_n 0, 1) := by decide +kernel
theorem d_prog_146_method_2_115 : decode prog_146_method_2_code 115 = .ok (.iconst 0, 1) := by decide +kernel
theorem d_prog_146_method_2_116 : decode prog_146_method_2_code 116 = .ok (.putfield 19, 3) := by decide +kernel
theorem d_prog_146_method_2_119 : decode prog_146_method_2_code 119 = .ok (.aload_n 0, 1) := by decide +kernel
theorem d_prog_146_method_2_120 : decode prog_146_method_2_code 120 = .ok (.iconst 0, 1) := by decide +kernel
theorem d_prog_146_method_2_121 : decode prog_146_method_2_code 121 = .ok (.putfield 22, 3) := by decide +kernel
theorem d_prog_146_method_2_124 : decode prog_146_method_2_code 124 = .ok (.goto (-116), 3) := by decide +kernel
theorem ef_m_p0_5 (m : MethodId) (x0 : Addr) (x1 : Addr) : entryFrame m #[(.ref x0), (.ref x1), (.int 0), (.int 5)] 7 = mkF m 0 #[.val (.ref x0), .val (.ref x1), .val (.int 0), .val (.int 5), .unset, .unset, .unset] [] := by first | (simp [entryFrame, mkF, argsToLocals, Value.category]; done) | rfl
set_option maxRecDepth 65536 in
set_option maxHeartbeats 40000000 in
theorem m_p0_5 (l : Launch) (Z : State) (a0 : Array Value) (hw : ∀ d ∈ tables_1, d.before a0 Z = true) (a : Addr) (b : Addr) (w0 : Int32) (w1 : Int32) (w2 : Int32) (w3 : Int32) (w4 : Int32) :
    Pays l Z a0 (⟨"com/example/wirecall/wirecall/Tls$Records", "passed", "([BII)V"⟩ : MethodName) prog_146_method_2_code 7 none ({ frames := 0, cells := 0, slots := 0, locals := 0 } : Room) #[(.ref a), (.ref b), (.int 0), (.int 5)] [(a, ob0 (.int 0) (.int 0) (.int 0)), (b, .inr (.byte, [(.int w0), (.int w1), (.int w2), (.int w3), (.int w4)]))] (([(a, ob0 (.int 0) (.int 0) (.int 0)), (b, .inr (.byte, [(.int w0), (.int w1), (.int w2), (.int w3), (.int w4)]))] : Hs).map (·.1)) (fun v os' => v = none ∧ os' = [(a, ob0 (.int 0) (.int (own_l w3 w4)) (.int 0)), (b, .inr (.byte, [(.int w0), (.int w1), (.int w2), (.int w3), (.int w4)]))]) := by
  refine Pays.of (Ls := #[.val (.ref a), .val (.ref b), .val (.int 0), .val (.int 5), .unset, .unset, .unset]) (plainFor_of_name pn_1) (fun m => ef_m_p0_5 m a b) ?_
  intro p e s m below meth c T0 A0
  refine A0.iloadN (q := 1) d_prog_146_method_2_0 rfl rfl ?_
  refine A0.istore (q := 3) (l' := #[.val (.ref a), .val (.ref b), .val (.int 0), .val (.int 5), .val (.int 0), .unset, .unset]) d_prog_146_method_2_1 rfl rfl ?_
  refine A0.iloadN (q := 4) d_prog_146_method_2_3 rfl rfl ?_
  refine A0.iloadN (q := 5) d_prog_146_method_2_4 rfl rfl ?_
  refine A0.iadd (q := 6) d_prog_146_method_2_5 rfl ?_
  refine Wp.top (v' := (.int 5)) rfl ?_
  refine A0.istore (q := 8) (l' := #[.val (.ref a), .val (.ref b), .val (.int 0), .val (.int 5), .val (.int 0), .val (.int 5), .unset]) d_prog_146_method_2_6 rfl rfl ?_
  refine A0.iload (q := 10) d_prog_146_method_2_8 rfl rfl ?_
  refine A0.iload (q := 12) d_prog_146_method_2_10 rfl rfl ?_
  refine A0.icmpNo (q := 15) d_prog_146_method_2_12 (by decide) rfl ?_
  refine A0.aloadN (q := 16) d_prog_146_method_2_15 rfl rfl rfl ?_
  refine A0.getF (qn := 19) (i := 0) (j := 1) (tw hw 31 rfl) Via.refl d_prog_146_method_2_16 rfl rfl rfl (fun T1 A2 => ?_)
  refine A2.ifYes (q := 57) d_prog_146_method_2_19 (by decide) (by decide) (by decide) ?_
  refine A2.aloadN (q := 58) d_prog_146_method_2_57 rfl rfl rfl ?_
  refine A2.getF (qn := 61) (i := 0) (j := 0) (tw hw 29 rfl) Via.refl d_prog_146_method_2_58 rfl rfl rfl (fun T3 A4 => ?_)
  refine A4.iconst (q := 62) (v := 3) d_prog_146_method_2_61 rfl rfl ?_
  refine A4.icmpYes (q := 85) d_prog_146_method_2_62 (by decide) (by decide) (by decide) ?_
  refine A4.aloadN (q := 86) d_prog_146_method_2_85 rfl rfl rfl ?_
  refine A4.dup (q := 87) d_prog_146_method_2_86 rfl rfl ?_
  refine A4.getF (qn := 90) (i := 0) (j := 0) (tw hw 29 rfl) Via.refl d_prog_146_method_2_87 rfl rfl rfl (fun T5 A6 => ?_)
  refine A6.iconst (q := 91) (v := 1) d_prog_146_method_2_90 rfl rfl ?_
  refine A6.iadd (q := 92) d_prog_146_method_2_91 rfl ?_
  refine Wp.top (v' := (.int 1)) rfl ?_
  refine A6.putF (qn := 95) (i := 0) (j := 0) (ty := .int) (tw hw 29 rfl) Via.refl (Or.inl (tw hw 30 rfl)) (tw hw 11 rfl) (by decide) rfl rfl d_prog_146_method_2_92 rfl rfl rfl rfl (fun T7 A8 => ?_)
  have A9 := A8.cast (k2 := 0) (n2 := 0) (os2 := [(a, ob0 (.int 1) (.int 0) (.int 0)), (b, .inr (.byte, [(.int w0), (.int w1), (.int w2), (.int w3), (.int w4)]))]) rfl rfl rfl
  refine A9.iinc (q := 98) (l' := #[.val (.ref a), .val (.ref b), .val (.int 0), .val (.int 5), .val (.int 1), .val (.int 5), .unset]) d_prog_146_method_2_95 rfl rfl rfl ?_
  refine A9.aloadN (q := 99) d_prog_146_method_2_98 rfl rfl rfl ?_
  refine A9.getF (qn := 102) (i := 0) (j := 0) (tw hw 29 rfl) Via.refl d_prog_146_method_2_99 rfl rfl rfl (fun T10 A11 => ?_)
  refine A11.iconst (q := 103) (v := 5) d_prog_146_method_2_102 rfl rfl ?_
  refine A11.icmpYes (q := 8) d_prog_146_method_2_103 (by decide) (by decide) (by decide) ?_
  refine A11.iload (q := 10) d_prog_146_method_2_8 rfl rfl ?_
  refine A11.iload (q := 12) d_prog_146_method_2_10 rfl rfl ?_
  refine A11.icmpNo (q := 15) d_prog_146_method_2_12 (by decide) rfl ?_
  refine A11.aloadN (q := 16) d_prog_146_method_2_15 rfl rfl rfl ?_
  refine A11.getF (qn := 19) (i := 0) (j := 1) (tw hw 31 rfl) Via.refl d_prog_146_method_2_16 rfl rfl rfl (fun T12 A13 => ?_)
  refine A13.ifYes (q := 57) d_prog_146_method_2_19 (by decide) (by decide) (by decide) ?_
  refine A13.aloadN (q := 58) d_prog_146_method_2_57 rfl rfl rfl ?_
  refine A13.getF (qn := 61) (i := 0) (j := 0) (tw hw 29 rfl) Via.refl d_prog_146_method_2_58 rfl rfl rfl (fun T14 A15 => ?_)
  refine A15.iconst (q := 62) (v := 3) d_prog_146_method_2_61 rfl rfl ?_
  refine A15.icmpYes (q := 85) d_prog_146_method_2_62 (by decide) (by decide) (by decide) ?_
  refine A15.aloadN (q := 86) d_prog_146_method_2_85 rfl rfl rfl ?_
  refine A15.dup (q := 87) d_prog_146_method_2_86 rfl rfl ?_
  refine A15.getF (qn := 90) (i := 0) (j := 0) (tw hw 29 rfl) Via.refl d_prog_146_method_2_87 rfl rfl rfl (fun T16 A17 => ?_)
  refine A17.iconst (q := 91) (v := 1) d_prog_146_method_2_90 rfl rfl ?_
  refine A17.iadd (q := 92) d_prog_146_method_2_91 rfl ?_
  refine Wp.top (v' := (.int 2)) rfl ?_
  refine A17.putF (qn := 95) (i := 0) (j := 0) (ty := .int) (tw hw 29 rfl) Via.refl (Or.inl (tw hw 30 rfl)) (tw hw 11 rfl) (by decide) rfl rfl d_prog_146_method_2_92 rfl rfl rfl rfl (fun T18 A19 => ?_)
  have A20 := A19.cast (k2 := 0) (n2 := 0) (os2 := [(a, ob0 (.int 2) (.int 0) (.int 0)), (b, .inr (.byte, [(.int w0), (.int w1), (.int w2), (.int w3), (.int w4)]))]) rfl rfl rfl
  refine A20.iinc (q := 98) (l' := #[.val (.ref a), .val (.ref b), .val (.int 0), .val (.int 5), .val (.int 2), .val (.int 5), .unset]) d_prog_146_method_2_95 rfl rfl rfl ?_
  refine A20.aloadN (q := 99) d_prog_146_method_2_98 rfl rfl rfl ?_
  refine A20.getF (qn := 102) (i := 0) (j := 0) (tw hw 29 rfl) Via.refl d_prog_146_method_2_99 rfl rfl rfl (fun T21 A22 => ?_)
  refine A22.iconst (q := 103) (v := 5) d_prog_146_method_2_102 rfl rfl ?_
  refine A22.icmpYes (q := 8) d_prog_146_method_2_103 (by decide) (by decide) (by decide) ?_
  refine A22.iload (q := 10) d_prog_146_method_2_8 rfl rfl ?_
  refine A22.iload (q := 12) d_prog_146_method_2_10 rfl rfl ?_
  refine A22.icmpNo (q := 15) d_prog_146_method_2_12 (by decide) rfl ?_
  refine A22.aloadN (q := 16) d_prog_146_method_2_15 rfl rfl rfl ?_
  refine A22.getF (qn := 19) (i := 0) (j := 1) (tw hw 31 rfl) Via.refl d_prog_146_method_2_16 rfl rfl rfl (fun T23 A24 => ?_)
  refine A24.ifYes (q := 57) d_prog_146_method_2_19 (by decide) (by decide) (by decide) ?_
  refine A24.aloadN (q := 58) d_prog_146_method_2_57 rfl rfl rfl ?_
  refine A24.getF (qn := 61) (i := 0) (j := 0) (tw hw 29 rfl) Via.refl d_prog_146_method_2_58 rfl rfl rfl (fun T25 A26 => ?_)
  refine A26.iconst (q := 62) (v := 3) d_prog_146_method_2_61 rfl rfl ?_
  refine A26.icmpYes (q := 85) d_prog_146_method_2_62 (by decide) (by decide) (by decide) ?_
  refine A26.aloadN (q := 86) d_prog_146_method_2_85 rfl rfl rfl ?_
  refine A26.dup (q := 87) d_prog_146_method_2_86 rfl rfl ?_
  refine A26.getF (qn := 90) (i := 0) (j := 0) (tw hw 29 rfl) Via.refl d_prog_146_method_2_87 rfl rfl rfl (fun T27 A28 => ?_)
  refine A28.iconst (q := 91) (v := 1) d_prog_146_method_2_90 rfl rfl ?_
  refine A28.iadd (q := 92) d_prog_146_method_2_91 rfl ?_
  refine Wp.top (v' := (.int 3)) rfl ?_
  refine A28.putF (qn := 95) (i := 0) (j := 0) (ty := .int) (tw hw 29 rfl) Via.refl (Or.inl (tw hw 30 rfl)) (tw hw 11 rfl) (by decide) rfl rfl d_prog_146_method_2_92 rfl rfl rfl rfl (fun T29 A30 => ?_)
  have A31 := A30.cast (k2 := 0) (n2 := 0) (os2 := [(a, ob0 (.int 3) (.int 0) (.int 0)), (b, .inr (.byte, [(.int w0), (.int w1), (.int w2), (.int w3), (.int w4)]))]) rfl rfl rfl
  refine A31.iinc (q := 98) (l' := #[.val (.ref a), .val (.ref b), .val (.int 0), .val (.int 5), .val (.int 3), .val (.int 5), .unset]) d_prog_146_method_2_95 rfl rfl rfl ?_
  refine A31.aloadN (q := 99) d_prog_146_method_2_98 rfl rfl rfl ?_
  refine A31.getF (qn := 102) (i := 0) (j := 0) (tw hw 29 rfl) Via.refl d_prog_146_method_2_99 rfl rfl rfl (fun T32 A33 => ?_)
  refine A33.iconst (q := 103) (v := 5) d_prog_146_method_2_102 rfl rfl ?_
  refine A33.icmpYes (q := 8) d_prog_146_method_2_103 (by decide) (by decide) (by decide) ?_
  refine A33.iload (q := 10) d_prog_146_method_2_8 rfl rfl ?_
  refine A33.iload (q := 12) d_prog_146_method_2_10 rfl rfl ?_
  refine A33.icmpNo (q := 15) d_prog_146_method_2_12 (by decide) rfl ?_
  refine A33.aloadN (q := 16) d_prog_146_method_2_15 rfl rfl rfl ?_
  refine A33.getF (qn := 19) (i := 0) (j := 1) (tw hw 31 rfl) Via.refl d_prog_146_method_2_16 rfl rfl rfl (fun T34 A35 => ?_)
  refine A35.ifYes (q := 57) d_prog_146_method_2_19 (by decide) (by decide) (by decide) ?_
  refine A35.aloadN (q := 58) d_prog_146_method_2_57 rfl rfl rfl ?_
  refine A35.getF (qn := 61) (i := 0) (j := 0) (tw hw 29 rfl) Via.refl d_prog_146_method_2_58 rfl rfl rfl (fun T36 A37 => ?_)
  refine A37.iconst (q := 62) (v := 3) d_prog_146_method_2_61 rfl rfl ?_
  refine A37.icmpNo (q := 65) d_prog_146_method_2_62 (by decide) rfl ?_
  refine A37.aloadN (q := 66) d_prog_146_method_2_65 rfl rfl rfl ?_
  refine A37.aloadN (q := 67) d_prog_146_method_2_66 rfl rfl rfl ?_
  refine A37.getF (qn := 70) (i := 0) (j := 2) (tw hw 33 rfl) Via.refl d_prog_146_method_2_67 rfl rfl rfl (fun T38 A39 => ?_)
  refine A39.bipush (q := 72) (v := 8) d_prog_146_method_2_70 rfl rfl ?_
  refine A39.ishl (q := 73) d_prog_146_method_2_72 rfl ?_
  refine A39.aloadN (q := 74) d_prog_146_method_2_73 rfl rfl rfl ?_
  refine A39.iload (q := 76) d_prog_146_method_2_74 rfl rfl ?_
  refine A39.ldB (qn := 77) (i := 1) d_prog_146_method_2_76 rfl (by decide) rfl rfl ?_
  refine A39.sipush (q := 80) (v := 255) d_prog_146_method_2_77 rfl rfl ?_
  refine A39.iand (q := 81) d_prog_146_method_2_80 rfl ?_
  refine A39.ior (q := 82) d_prog_146_method_2_81 rfl ?_
  refine A39.putF (qn := 85) (i := 0) (j := 2) (ty := .int) (tw hw 33 rfl) Via.refl (Or.inl (tw hw 34 rfl)) (tw hw 11 rfl) (by decide) rfl rfl d_prog_146_method_2_82 rfl rfl rfl rfl (fun T40 A41 => ?_)
  have A42 := A41.cast (k2 := 0) (n2 := 0) (os2 := [(a, ob0 (.int 3) (.int 0) (.int (((0 : Int32) <<< ((8 : Int32) &&& 31)) ||| (w3 &&& (255 : Int32))))), (b, .inr (.byte, [(.int w0), (.int w1), (.int w2), (.int w3), (.int w4)]))]) rfl rfl rfl
  refine A42.aloadN (q := 86) d_prog_146_method_2_85 rfl rfl rfl ?_
  refine A42.dup (q := 87) d_prog_146_method_2_86 rfl rfl ?_
  refine A42.getF (qn := 90) (i := 0) (j := 0) (tw hw 29 rfl) Via.refl d_prog_146_method_2_87 rfl rfl rfl (fun T43 A44 => ?_)
  refine A44.iconst (q := 91) (v := 1) d_prog_146_method_2_90 rfl rfl ?_
  refine A44.iadd (q := 92) d_prog_146_method_2_91 rfl ?_
  refine Wp.top (v' := (.int 4)) rfl ?_
  refine A44.putF (qn := 95) (i := 0) (j := 0) (ty := .int) (tw hw 29 rfl) Via.refl (Or.inl (tw hw 30 rfl)) (tw hw 11 rfl) (by decide) rfl rfl d_prog_146_method_2_92 rfl rfl rfl rfl (fun T45 A46 => ?_)
  have A47 := A46.cast (k2 := 0) (n2 := 0) (os2 := [(a, ob0 (.int 4) (.int 0) (.int (((0 : Int32) <<< ((8 : Int32) &&& 31)) ||| (w3 &&& (255 : Int32))))), (b, .inr (.byte, [(.int w0), (.int w1), (.int w2), (.int w3), (.int w4)]))]) rfl rfl rfl
  refine A47.iinc (q := 98) (l' := #[.val (.ref a), .val (.ref b), .val (.int 0), .val (.int 5), .val (.int 4), .val (.int 5), .unset]) d_prog_146_method_2_95 rfl rfl rfl ?_
  refine A47.aloadN (q := 99) d_prog_146_method_2_98 rfl rfl rfl ?_
  refine A47.getF (qn := 102) (i := 0) (j := 0) (tw hw 29 rfl) Via.refl d_prog_146_method_2_99 rfl rfl rfl (fun T48 A49 => ?_)
  refine A49.iconst (q := 103) (v := 5) d_prog_146_method_2_102 rfl rfl ?_
  refine A49.icmpYes (q := 8) d_prog_146_method_2_103 (by decide) (by decide) (by decide) ?_
  refine A49.iload (q := 10) d_prog_146_method_2_8 rfl rfl ?_
  refine A49.iload (q := 12) d_prog_146_method_2_10 rfl rfl ?_
  refine A49.icmpNo (q := 15) d_prog_146_method_2_12 (by decide) rfl ?_
  refine A49.aloadN (q := 16) d_prog_146_method_2_15 rfl rfl rfl ?_
  refine A49.getF (qn := 19) (i := 0) (j := 1) (tw hw 31 rfl) Via.refl d_prog_146_method_2_16 rfl rfl rfl (fun T50 A51 => ?_)
  refine A51.ifYes (q := 57) d_prog_146_method_2_19 (by decide) (by decide) (by decide) ?_
  refine A51.aloadN (q := 58) d_prog_146_method_2_57 rfl rfl rfl ?_
  refine A51.getF (qn := 61) (i := 0) (j := 0) (tw hw 29 rfl) Via.refl d_prog_146_method_2_58 rfl rfl rfl (fun T52 A53 => ?_)
  refine A53.iconst (q := 62) (v := 3) d_prog_146_method_2_61 rfl rfl ?_
  refine A53.icmpNo (q := 65) d_prog_146_method_2_62 (by decide) rfl ?_
  refine A53.aloadN (q := 66) d_prog_146_method_2_65 rfl rfl rfl ?_
  refine A53.aloadN (q := 67) d_prog_146_method_2_66 rfl rfl rfl ?_
  refine A53.getF (qn := 70) (i := 0) (j := 2) (tw hw 33 rfl) Via.refl d_prog_146_method_2_67 rfl rfl rfl (fun T54 A55 => ?_)
  refine A55.bipush (q := 72) (v := 8) d_prog_146_method_2_70 rfl rfl ?_
  refine A55.ishl (q := 73) d_prog_146_method_2_72 rfl ?_
  refine A55.aloadN (q := 74) d_prog_146_method_2_73 rfl rfl rfl ?_
  refine A55.iload (q := 76) d_prog_146_method_2_74 rfl rfl ?_
  refine A55.ldB (qn := 77) (i := 1) d_prog_146_method_2_76 rfl (by decide) rfl rfl ?_
  refine A55.sipush (q := 80) (v := 255) d_prog_146_method_2_77 rfl rfl ?_
  refine A55.iand (q := 81) d_prog_146_method_2_80 rfl ?_
  refine A55.ior (q := 82) d_prog_146_method_2_81 rfl ?_
  refine A55.putF (qn := 85) (i := 0) (j := 2) (ty := .int) (tw hw 33 rfl) Via.refl (Or.inl (tw hw 34 rfl)) (tw hw 11 rfl) (by decide) rfl rfl d_prog_146_method_2_82 rfl rfl rfl rfl (fun T56 A57 => ?_)
  have A58 := A57.cast (k2 := 0) (n2 := 0) (os2 := [(a, ob0 (.int 4) (.int 0) (.int (((((0 : Int32) <<< ((8 : Int32) &&& 31)) ||| (w3 &&& (255 : Int32))) <<< ((8 : Int32) &&& 31)) ||| (w4 &&& (255 : Int32))))), (b, .inr (.byte, [(.int w0), (.int w1), (.int w2), (.int w3), (.int w4)]))]) rfl rfl rfl
  refine A58.aloadN (q := 86) d_prog_146_method_2_85 rfl rfl rfl ?_
  refine A58.dup (q := 87) d_prog_146_method_2_86 rfl rfl ?_
  refine A58.getF (qn := 90) (i := 0) (j := 0) (tw hw 29 rfl) Via.refl d_prog_146_method_2_87 rfl rfl rfl (fun T59 A60 => ?_)
  refine A60.iconst (q := 91) (v := 1) d_prog_146_method_2_90 rfl rfl ?_
  refine A60.iadd (q := 92) d_prog_146_method_2_91 rfl ?_
  refine Wp.top (v' := (.int 5)) rfl ?_
  refine A60.putF (qn := 95) (i := 0) (j := 0) (ty := .int) (tw hw 29 rfl) Via.refl (Or.inl (tw hw 30 rfl)) (tw hw 11 rfl) (by decide) rfl rfl d_prog_146_method_2_92 rfl rfl rfl rfl (fun T61 A62 => ?_)
  have A63 := A62.cast (k2 := 0) (n2 := 0) (os2 := [(a, ob0 (.int 5) (.int 0) (.int (((((0 : Int32) <<< ((8 : Int32) &&& 31)) ||| (w3 &&& (255 : Int32))) <<< ((8 : Int32) &&& 31)) ||| (w4 &&& (255 : Int32))))), (b, .inr (.byte, [(.int w0), (.int w1), (.int w2), (.int w3), (.int w4)]))]) rfl rfl rfl
  refine A63.iinc (q := 98) (l' := #[.val (.ref a), .val (.ref b), .val (.int 0), .val (.int 5), .val (.int 5), .val (.int 5), .unset]) d_prog_146_method_2_95 rfl rfl rfl ?_
  refine A63.aloadN (q := 99) d_prog_146_method_2_98 rfl rfl rfl ?_
  refine A63.getF (qn := 102) (i := 0) (j := 0) (tw hw 29 rfl) Via.refl d_prog_146_method_2_99 rfl rfl rfl (fun T64 A65 => ?_)
  refine A65.iconst (q := 103) (v := 5) d_prog_146_method_2_102 rfl rfl ?_
  refine A65.icmpNo (q := 106) d_prog_146_method_2_103 (by decide) rfl ?_
  refine A65.aloadN (q := 107) d_prog_146_method_2_106 rfl rfl rfl ?_
  refine A65.aloadN (q := 108) d_prog_146_method_2_107 rfl rfl rfl ?_
  refine A65.getF (qn := 111) (i := 0) (j := 2) (tw hw 33 rfl) Via.refl d_prog_146_method_2_108 rfl rfl rfl (fun T66 A67 => ?_)
  refine A67.putF (qn := 114) (i := 0) (j := 1) (ty := .int) (tw hw 31 rfl) Via.refl (Or.inl (tw hw 32 rfl)) (tw hw 11 rfl) (by decide) rfl rfl d_prog_146_method_2_111 rfl rfl rfl rfl (fun T68 A69 => ?_)
  have A70 := A69.cast (k2 := 0) (n2 := 0) (os2 := [(a, ob0 (.int 5) (.int (((((0 : Int32) <<< ((8 : Int32) &&& 31)) ||| (w3 &&& (255 : Int32))) <<< ((8 : Int32) &&& 31)) ||| (w4 &&& (255 : Int32)))) (.int (((((0 : Int32) <<< ((8 : Int32) &&& 31)) ||| (w3 &&& (255 : Int32))) <<< ((8 : Int32) &&& 31)) ||| (w4 &&& (255 : Int32))))), (b, .inr (.byte, [(.int w0), (.int w1), (.int w2), (.int w3), (.int w4)]))]) rfl rfl rfl
  refine A70.aloadN (q := 115) d_prog_146_method_2_114 rfl rfl rfl ?_
  refine A70.iconst (q := 116) (v := 0) d_prog_146_method_2_115 rfl rfl ?_
  refine A70.putF (qn := 119) (i := 0) (j := 0) (ty := .int) (tw hw 29 rfl) Via.refl (Or.inl (tw hw 30 rfl)) (tw hw 11 rfl) (by decide) rfl rfl d_prog_146_method_2_116 rfl rfl rfl rfl (fun T71 A72 => ?_)
  have A73 := A72.cast (k2 := 0) (n2 := 0) (os2 := [(a, ob0 (.int 0) (.int (((((0 : Int32) <<< ((8 : Int32) &&& 31)) ||| (w3 &&& (255 : Int32))) <<< ((8 : Int32) &&& 31)) ||| (w4 &&& (255 : Int32)))) (.int (((((0 : Int32) <<< ((8 : Int32) &&& 31)) ||| (w3 &&& (255 : Int32))) <<< ((8 : Int32) &&& 31)) ||| (w4 &&& (255 : Int32))))), (b, .inr (.byte, [(.int w0), (.int w1), (.int w2), (.int w3), (.int w4)]))]) rfl rfl rfl
  refine A73.aloadN (q := 120) d_prog_146_method_2_119 rfl rfl rfl ?_
  refine A73.iconst (q := 121) (v := 0) d_prog_146_method_2_120 rfl rfl ?_
  refine A73.putF (qn := 124) (i := 0) (j := 2) (ty := .int) (tw hw 33 rfl) Via.refl (Or.inl (tw hw 34 rfl)) (tw hw 11 rfl) (by decide) rfl rfl d_prog_146_method_2_121 rfl rfl rfl rfl (fun T74 A75 => ?_)
  have A76 := A75.cast (k2 := 0) (n2 := 0) (os2 := [(a, ob0 (.int 0) (.int (((((0 : Int32) <<< ((8 : Int32) &&& 31)) ||| (w3 &&& (255 : Int32))) <<< ((8 : Int32) &&& 31)) ||| (w4 &&& (255 : Int32)))) (.int 0)), (b, .inr (.byte, [(.int w0), (.int w1), (.int w2), (.int w3), (.int w4)]))]) rfl rfl rfl
  refine A76.goto (q := 8) d_prog_146_method_2_124 (by decide) (by decide) ?_
  refine A76.iload (q := 10) d_prog_146_method_2_8 rfl rfl ?_
  refine A76.iload (q := 12) d_prog_146_method_2_10 rfl rfl ?_
  refine A76.icmpYes (q := 127) d_prog_146_method_2_12 (by decide) (by decide) (by decide) ?_
  exact A76.retV d_prog_146_method_2_127 (by decide) (by decide) ⟨rfl, rfl⟩
theorem ef_m_p0_1 (m : MethodId) (x0 : Addr) (x1 : Addr) : entryFrame m #[(.ref x0), (.ref x1), (.int 0), (.int 1)] 7 = mkF m 0 #[.val (.ref x0), .val (.ref x1), .val (.int 0), .val (.int 1), .unset, .unset, .unset] [] := by first | (simp [entryFrame, mkF, argsToLocals, Value.category]; done) | rfl
set_option maxRecDepth 65536 in
set_option maxHeartbeats 40000000 in
theorem m_p0_1 (l : Launch) (Z : State) (a0 : Array Value) (hw : ∀ d ∈ tables_1, d.before a0 Z = true) (a : Addr) (b : Addr) (w0 : Int32) (w1 : Int32) (w2 : Int32) (w3 : Int32) (w4 : Int32) :
    Pays l Z a0 (⟨"com/example/wirecall/wirecall/Tls$Records", "passed", "([BII)V"⟩ : MethodName) prog_146_method_2_code 7 none ({ frames := 0, cells := 0, slots := 0, locals := 0 } : Room) #[(.ref a), (.ref b), (.int 0), (.int 1)] [(a, ob0 (.int 0) (.int 0) (.int 0)), (b, .inr (.byte, [(.int w0), (.int w1), (.int w2), (.int w3), (.int w4)]))] (([(a, ob0 (.int 0) (.int 0) (.int 0)), (b, .inr (.byte, [(.int w0), (.int w1), (.int w2), (.int w3), (.int w4)]))] : Hs).map (·.1)) (fun v os' => v = none ∧ os' = [(a, ob0 (.int 1) (.int 0) (.int 0)), (b, .inr (.byte, [(.int w0), (.int w1), (.int w2), (.int w3), (.int w4)]))]) := by
  refine Pays.of (Ls := #[.val (.ref a), .val (.ref b), .val (.int 0), .val (.int 1), .unset, .unset, .unset]) (plainFor_of_name pn_1) (fun m => ef_m_p0_1 m a b) ?_
  intro p e s m below meth c T0 A0
  refine A0.iloadN (q := 1) d_prog_146_method_2_0 rfl rfl ?_
  refine A0.istore (q := 3) (l' := #[.val (.ref a), .val (.ref b), .val (.int 0), .val (.int 1), .val (.int 0), .unset, .unset]) d_prog_146_method_2_1 rfl rfl ?_
  refine A0.iloadN (q := 4) d_prog_146_method_2_3 rfl rfl ?_
  refine A0.iloadN (q := 5) d_prog_146_method_2_4 rfl rfl ?_
  refine A0.iadd (q := 6) d_prog_146_method_2_5 rfl ?_
  refine Wp.top (v' := (.int 1)) rfl ?_
  refine A0.istore (q := 8) (l' := #[.val (.ref a), .val (.ref b), .val (.int 0), .val (.int 1), .val (.int 0), .val (.int 1), .unset]) d_prog_146_method_2_6 rfl rfl ?_
  refine A0.iload (q := 10) d_prog_146_method_2_8 rfl rfl ?_
  refine A0.iload (q := 12) d_prog_146_method_2_10 rfl rfl ?_
  refine A0.icmpNo (q := 15) d_prog_146_method_2_12 (by decide) rfl ?_
  refine A0.aloadN (q := 16) d_prog_146_method_2_15 rfl rfl rfl ?_
  refine A0.getF (qn := 19) (i := 0) (j := 1) (tw hw 31 rfl) Via.refl d_prog_146_method_2_16 rfl rfl rfl (fun T1 A2 => ?_)
  refine A2.ifYes (q := 57) d_prog_146_method_2_19 (by decide) (by decide) (by decide) ?_
  refine A2.aloadN (q := 58) d_prog_146_method_2_57 rfl rfl rfl ?_
  refine A2.getF (qn := 61) (i := 0) (j := 0) (tw hw 29 rfl) Via.refl d_prog_146_method_2_58 rfl rfl rfl (fun T3 A4 => ?_)
  refine A4.iconst (q := 62) (v := 3) d_prog_146_method_2_61 rfl rfl ?_
  refine A4.icmpYes (q := 85) d_prog_146_method_2_62 (by decide) (by decide) (by decide) ?_
  refine A4.aloadN (q := 86) d_prog_146_method_2_85 rfl rfl rfl ?_
  refine A4.dup (q := 87) d_prog_146_method_2_86 rfl rfl ?_
  refine A4.getF (qn := 90) (i := 0) (j := 0) (tw hw 29 rfl) Via.refl d_prog_146_method_2_87 rfl rfl rfl (fun T5 A6 => ?_)
  refine A6.iconst (q := 91) (v := 1) d_prog_146_method_2_90 rfl rfl ?_
  refine A6.iadd (q := 92) d_prog_146_method_2_91 rfl ?_
  refine Wp.top (v' := (.int 1)) rfl ?_
  refine A6.putF (qn := 95) (i := 0) (j := 0) (ty := .int) (tw hw 29 rfl) Via.refl (Or.inl (tw hw 30 rfl)) (tw hw 11 rfl) (by decide) rfl rfl d_prog_146_method_2_92 rfl rfl rfl rfl (fun T7 A8 => ?_)
  have A9 := A8.cast (k2 := 0) (n2 := 0) (os2 := [(a, ob0 (.int 1) (.int 0) (.int 0)), (b, .inr (.byte, [(.int w0), (.int w1), (.int w2), (.int w3), (.int w4)]))]) rfl rfl rfl
  refine A9.iinc (q := 98) (l' := #[.val (.ref a), .val (.ref b), .val (.int 0), .val (.int 1), .val (.int 1), .val (.int 1), .unset]) d_prog_146_method_2_95 rfl rfl rfl ?_
  refine A9.aloadN (q := 99) d_prog_146_method_2_98 rfl rfl rfl ?_
  refine A9.getF (qn := 102) (i := 0) (j := 0) (tw hw 29 rfl) Via.refl d_prog_146_method_2_99 rfl rfl rfl (fun T10 A11 => ?_)
  refine A11.iconst (q := 103) (v := 5) d_prog_146_method_2_102 rfl rfl ?_
  refine A11.icmpYes (q := 8) d_prog_146_method_2_103 (by decide) (by decide) (by decide) ?_
  refine A11.iload (q := 10) d_prog_146_method_2_8 rfl rfl ?_
  refine A11.iload (q := 12) d_prog_146_method_2_10 rfl rfl ?_
  refine A11.icmpYes (q := 127) d_prog_146_method_2_12 (by decide) (by decide) (by decide) ?_
  exact A11.retV d_prog_146_method_2_127 (by decide) (by decide) ⟨rfl, rfl⟩
theorem ef_m_p1_4 (m : MethodId) (x0 : Addr) (x1 : Addr) : entryFrame m #[(.ref x0), (.ref x1), (.int 1), (.int 4)] 7 = mkF m 0 #[.val (.ref x0), .val (.ref x1), .val (.int 1), .val (.int 4), .unset, .unset, .unset] [] := by first | (simp [entryFrame, mkF, argsToLocals, Value.category]; done) | rfl
set_option maxRecDepth 65536 in
set_option maxHeartbeats 40000000 in
theorem m_p1_4 (l : Launch) (Z : State) (a0 : Array Value) (hw : ∀ d ∈ tables_1, d.before a0 Z = true) (a : Addr) (b : Addr) (w0 : Int32) (w1 : Int32) (w2 : Int32) (w3 : Int32) (w4 : Int32) :
    Pays l Z a0 (⟨"com/example/wirecall/wirecall/Tls$Records", "passed", "([BII)V"⟩ : MethodName) prog_146_method_2_code 7 none ({ frames := 0, cells := 0, slots := 0, locals := 0 } : Room) #[(.ref a), (.ref b), (.int 1), (.int 4)] [(a, ob0 (.int 1) (.int 0) (.int 0)), (b, .inr (.byte, [(.int w0), (.int w1), (.int w2), (.int w3), (.int w4)]))] (([(a, ob0 (.int 1) (.int 0) (.int 0)), (b, .inr (.byte, [(.int w0), (.int w1), (.int w2), (.int w3), (.int w4)]))] : Hs).map (·.1)) (fun v os' => v = none ∧ os' = [(a, ob0 (.int 0) (.int (own_l w3 w4)) (.int 0)), (b, .inr (.byte, [(.int w0), (.int w1), (.int w2), (.int w3), (.int w4)]))]) := by
  refine Pays.of (Ls := #[.val (.ref a), .val (.ref b), .val (.int 1), .val (.int 4), .unset, .unset, .unset]) (plainFor_of_name pn_1) (fun m => ef_m_p1_4 m a b) ?_
  intro p e s m below meth c T0 A0
  refine A0.iloadN (q := 1) d_prog_146_method_2_0 rfl rfl ?_
  refine A0.istore (q := 3) (l' := #[.val (.ref a), .val (.ref b), .val (.int 1), .val (.int 4), .val (.int 1), .unset, .unset]) d_prog_146_method_2_1 rfl rfl ?_
  refine A0.iloadN (q := 4) d_prog_146_method_2_3 rfl rfl ?_
  refine A0.iloadN (q := 5) d_prog_146_method_2_4 rfl rfl ?_
  refine A0.iadd (q := 6) d_prog_146_method_2_5 rfl ?_
  refine Wp.top (v' := (.int 5)) rfl ?_
  refine A0.istore (q := 8) (l' := #[.val (.ref a), .val (.ref b), .val (.int 1), .val (.int 4), .val (.int 1), .val (.int 5), .unset]) d_prog_146_method_2_6 rfl rfl ?_
  refine A0.iload (q := 10) d_prog_146_method_2_8 rfl rfl ?_
  refine A0.iload (q := 12) d_prog_146_method_2_10 rfl rfl ?_
  refine A0.icmpNo (q := 15) d_prog_146_method_2_12 (by decide) rfl ?_
  refine A0.aloadN (q := 16) d_prog_146_method_2_15 rfl rfl rfl ?_
  refine A0.getF (qn := 19) (i := 0) (j := 1) (tw hw 31 rfl) Via.refl d_prog_146_method_2_16 rfl rfl rfl (fun T1 A2 => ?_)
  refine A2.ifYes (q := 57) d_prog_146_method_2_19 (by decide) (by decide) (by decide) ?_
  refine A2.aloadN (q := 58) d_prog_146_method_2_57 rfl rfl rfl ?_
  refine A2.getF (qn := 61) (i := 0) (j := 0) (tw hw 29 rfl) Via.refl d_prog_146_method_2_58 rfl rfl rfl (fun T3 A4 => ?_)
  refine A4.iconst (q := 62) (v := 3) d_prog_146_method_2_61 rfl rfl ?_
  refine A4.icmpYes (q := 85) d_prog_146_method_2_62 (by decide) (by decide) (by decide) ?_
  refine A4.aloadN (q := 86) d_prog_146_method_2_85 rfl rfl rfl ?_
  refine A4.dup (q := 87) d_prog_146_method_2_86 rfl rfl ?_
  refine A4.getF (qn := 90) (i := 0) (j := 0) (tw hw 29 rfl) Via.refl d_prog_146_method_2_87 rfl rfl rfl (fun T5 A6 => ?_)
  refine A6.iconst (q := 91) (v := 1) d_prog_146_method_2_90 rfl rfl ?_
  refine A6.iadd (q := 92) d_prog_146_method_2_91 rfl ?_
  refine Wp.top (v' := (.int 2)) rfl ?_
  refine A6.putF (qn := 95) (i := 0) (j := 0) (ty := .int) (tw hw 29 rfl) Via.refl (Or.inl (tw hw 30 rfl)) (tw hw 11 rfl) (by decide) rfl rfl d_prog_146_method_2_92 rfl rfl rfl rfl (fun T7 A8 => ?_)
  have A9 := A8.cast (k2 := 0) (n2 := 0) (os2 := [(a, ob0 (.int 2) (.int 0) (.int 0)), (b, .inr (.byte, [(.int w0), (.int w1), (.int w2), (.int w3), (.int w4)]))]) rfl rfl rfl
  refine A9.iinc (q := 98) (l' := #[.val (.ref a), .val (.ref b), .val (.int 1), .val (.int 4), .val (.int 2), .val (.int 5), .unset]) d_prog_146_method_2_95 rfl rfl rfl ?_
  refine A9.aloadN (q := 99) d_prog_146_method_2_98 rfl rfl rfl ?_
  refine A9.getF (qn := 102) (i := 0) (j := 0) (tw hw 29 rfl) Via.refl d_prog_146_method_2_99 rfl rfl rfl (fun T10 A11 => ?_)
  refine A11.iconst (q := 103) (v := 5) d_prog_146_method_2_102 rfl rfl ?_
  refine A11.icmpYes (q := 8) d_prog_146_method_2_103 (by decide) (by decide) (by decide) ?_
  refine A11.iload (q := 10) d_prog_146_method_2_8 rfl rfl ?_
  refine A11.iload (q := 12) d_prog_146_method_2_10 rfl rfl ?_
  refine A11.icmpNo (q := 15) d_prog_146_method_2_12 (by decide) rfl ?_
  refine A11.aloadN (q := 16) d_prog_146_method_2_15 rfl rfl rfl ?_
  refine A11.getF (qn := 19) (i := 0) (j := 1) (tw hw 31 rfl) Via.refl d_prog_146_method_2_16 rfl rfl rfl (fun T12 A13 => ?_)
  refine A13.ifYes (q := 57) d_prog_146_method_2_19 (by decide) (by decide) (by decide) ?_
  refine A13.aloadN (q := 58) d_prog_146_method_2_57 rfl rfl rfl ?_
  refine A13.getF (qn := 61) (i := 0) (j := 0) (tw hw 29 rfl) Via.refl d_prog_146_method_2_58 rfl rfl rfl (fun T14 A15 => ?_)
  refine A15.iconst (q := 62) (v := 3) d_prog_146_method_2_61 rfl rfl ?_
  refine A15.icmpYes (q := 85) d_prog_146_method_2_62 (by decide) (by decide) (by decide) ?_
  refine A15.aloadN (q := 86) d_prog_146_method_2_85 rfl rfl rfl ?_
  refine A15.dup (q := 87) d_prog_146_method_2_86 rfl rfl ?_
  refine A15.getF (qn := 90) (i := 0) (j := 0) (tw hw 29 rfl) Via.refl d_prog_146_method_2_87 rfl rfl rfl (fun T16 A17 => ?_)
  refine A17.iconst (q := 91) (v := 1) d_prog_146_method_2_90 rfl rfl ?_
  refine A17.iadd (q := 92) d_prog_146_method_2_91 rfl ?_
  refine Wp.top (v' := (.int 3)) rfl ?_
  refine A17.putF (qn := 95) (i := 0) (j := 0) (ty := .int) (tw hw 29 rfl) Via.refl (Or.inl (tw hw 30 rfl)) (tw hw 11 rfl) (by decide) rfl rfl d_prog_146_method_2_92 rfl rfl rfl rfl (fun T18 A19 => ?_)
  have A20 := A19.cast (k2 := 0) (n2 := 0) (os2 := [(a, ob0 (.int 3) (.int 0) (.int 0)), (b, .inr (.byte, [(.int w0), (.int w1), (.int w2), (.int w3), (.int w4)]))]) rfl rfl rfl
  refine A20.iinc (q := 98) (l' := #[.val (.ref a), .val (.ref b), .val (.int 1), .val (.int 4), .val (.int 3), .val (.int 5), .unset]) d_prog_146_method_2_95 rfl rfl rfl ?_
  refine A20.aloadN (q := 99) d_prog_146_method_2_98 rfl rfl rfl ?_
  refine A20.getF (qn := 102) (i := 0) (j := 0) (tw hw 29 rfl) Via.refl d_prog_146_method_2_99 rfl rfl rfl (fun T21 A22 => ?_)
  refine A22.iconst (q := 103) (v := 5) d_prog_146_method_2_102 rfl rfl ?_
  refine A22.icmpYes (q := 8) d_prog_146_method_2_103 (by decide) (by decide) (by decide) ?_
  refine A22.iload (q := 10) d_prog_146_method_2_8 rfl rfl ?_
  refine A22.iload (q := 12) d_prog_146_method_2_10 rfl rfl ?_
  refine A22.icmpNo (q := 15) d_prog_146_method_2_12 (by decide) rfl ?_
  refine A22.aloadN (q := 16) d_prog_146_method_2_15 rfl rfl rfl ?_
  refine A22.getF (qn := 19) (i := 0) (j := 1) (tw hw 31 rfl) Via.refl d_prog_146_method_2_16 rfl rfl rfl (fun T23 A24 => ?_)
  refine A24.ifYes (q := 57) d_prog_146_method_2_19 (by decide) (by decide) (by decide) ?_
  refine A24.aloadN (q := 58) d_prog_146_method_2_57 rfl rfl rfl ?_
  refine A24.getF (qn := 61) (i := 0) (j := 0) (tw hw 29 rfl) Via.refl d_prog_146_method_2_58 rfl rfl rfl (fun T25 A26 => ?_)
  refine A26.iconst (q := 62) (v := 3) d_prog_146_method_2_61 rfl rfl ?_
  refine A26.icmpNo (q := 65) d_prog_146_method_2_62 (by decide) rfl ?_
  refine A26.aloadN (q := 66) d_prog_146_method_2_65 rfl rfl rfl ?_
  refine A26.aloadN (q := 67) d_prog_146_method_2_66 rfl rfl rfl ?_
  refine A26.getF (qn := 70) (i := 0) (j := 2) (tw hw 33 rfl) Via.refl d_prog_146_method_2_67 rfl rfl rfl (fun T27 A28 => ?_)
  refine A28.bipush (q := 72) (v := 8) d_prog_146_method_2_70 rfl rfl ?_
  refine A28.ishl (q := 73) d_prog_146_method_2_72 rfl ?_
  refine A28.aloadN (q := 74) d_prog_146_method_2_73 rfl rfl rfl ?_
  refine A28.iload (q := 76) d_prog_146_method_2_74 rfl rfl ?_
  refine A28.ldB (qn := 77) (i := 1) d_prog_146_method_2_76 rfl (by decide) rfl rfl ?_
  refine A28.sipush (q := 80) (v := 255) d_prog_146_method_2_77 rfl rfl ?_
  refine A28.iand (q := 81) d_prog_146_method_2_80 rfl ?_
  refine A28.ior (q := 82) d_prog_146_method_2_81 rfl ?_
  refine A28.putF (qn := 85) (i := 0) (j := 2) (ty := .int) (tw hw 33 rfl) Via.refl (Or.inl (tw hw 34 rfl)) (tw hw 11 rfl) (by decide) rfl rfl d_prog_146_method_2_82 rfl rfl rfl rfl (fun T29 A30 => ?_)
  have A31 := A30.cast (k2 := 0) (n2 := 0) (os2 := [(a, ob0 (.int 3) (.int 0) (.int (((0 : Int32) <<< ((8 : Int32) &&& 31)) ||| (w3 &&& (255 : Int32))))), (b, .inr (.byte, [(.int w0), (.int w1), (.int w2), (.int w3), (.int w4)]))]) rfl rfl rfl
  refine A31.aloadN (q := 86) d_prog_146_method_2_85 rfl rfl rfl ?_
  refine A31.dup (q := 87) d_prog_146_method_2_86 rfl rfl ?_
  refine A31.getF (qn := 90) (i := 0) (j := 0) (tw hw 29 rfl) Via.refl d_prog_146_method_2_87 rfl rfl rfl (fun T32 A33 => ?_)
  refine A33.iconst (q := 91) (v := 1) d_prog_146_method_2_90 rfl rfl ?_
  refine A33.iadd (q := 92) d_prog_146_method_2_91 rfl ?_
  refine Wp.top (v' := (.int 4)) rfl ?_
  refine A33.putF (qn := 95) (i := 0) (j := 0) (ty := .int) (tw hw 29 rfl) Via.refl (Or.inl (tw hw 30 rfl)) (tw hw 11 rfl) (by decide) rfl rfl d_prog_146_method_2_92 rfl rfl rfl rfl (fun T34 A35 => ?_)
  have A36 := A35.cast (k2 := 0) (n2 := 0) (os2 := [(a, ob0 (.int 4) (.int 0) (.int (((0 : Int32) <<< ((8 : Int32) &&& 31)) ||| (w3 &&& (255 : Int32))))), (b, .inr (.byte, [(.int w0), (.int w1), (.int w2), (.int w3), (.int w4)]))]) rfl rfl rfl
  refine A36.iinc (q := 98) (l' := #[.val (.ref a), .val (.ref b), .val (.int 1), .val (.int 4), .val (.int 4), .val (.int 5), .unset]) d_prog_146_method_2_95 rfl rfl rfl ?_
  refine A36.aloadN (q := 99) d_prog_146_method_2_98 rfl rfl rfl ?_
  refine A36.getF (qn := 102) (i := 0) (j := 0) (tw hw 29 rfl) Via.refl d_prog_146_method_2_99 rfl rfl rfl (fun T37 A38 => ?_)
  refine A38.iconst (q := 103) (v := 5) d_prog_146_method_2_102 rfl rfl ?_
  refine A38.icmpYes (q := 8) d_prog_146_method_2_103 (by decide) (by decide) (by decide) ?_
  refine A38.iload (q := 10) d_prog_146_method_2_8 rfl rfl ?_
  refine A38.iload (q := 12) d_prog_146_method_2_10 rfl rfl ?_
  refine A38.icmpNo (q := 15) d_prog_146_method_2_12 (by decide) rfl ?_
  refine A38.aloadN (q := 16) d_prog_146_method_2_15 rfl rfl rfl ?_
  refine A38.getF (qn := 19) (i := 0) (j := 1) (tw hw 31 rfl) Via.refl d_prog_146_method_2_16 rfl rfl rfl (fun T39 A40 => ?_)
  refine A40.ifYes (q := 57) d_prog_146_method_2_19 (by decide) (by decide) (by decide) ?_
  refine A40.aloadN (q := 58) d_prog_146_method_2_57 rfl rfl rfl ?_
  refine A40.getF (qn := 61) (i := 0) (j := 0) (tw hw 29 rfl) Via.refl d_prog_146_method_2_58 rfl rfl rfl (fun T41 A42 => ?_)
  refine A42.iconst (q := 62) (v := 3) d_prog_146_method_2_61 rfl rfl ?_
  refine A42.icmpNo (q := 65) d_prog_146_method_2_62 (by decide) rfl ?_
  refine A42.aloadN (q := 66) d_prog_146_method_2_65 rfl rfl rfl ?_
  refine A42.aloadN (q := 67) d_prog_146_method_2_66 rfl rfl rfl ?_
  refine A42.getF (qn := 70) (i := 0) (j := 2) (tw hw 33 rfl) Via.refl d_prog_146_method_2_67 rfl rfl rfl (fun T43 A44 => ?_)
  refine A44.bipush (q := 72) (v := 8) d_prog_146_method_2_70 rfl rfl ?_
  refine A44.ishl (q := 73) d_prog_146_method_2_72 rfl ?_
  refine A44.aloadN (q := 74) d_prog_146_method_2_73 rfl rfl rfl ?_
  refine A44.iload (q := 76) d_prog_146_method_2_74 rfl rfl ?_
  refine A44.ldB (qn := 77) (i := 1) d_prog_146_method_2_76 rfl (by decide) rfl rfl ?_
  refine A44.sipush (q := 80) (v := 255) d_prog_146_method_2_77 rfl rfl ?_
  refine A44.iand (q := 81) d_prog_146_method_2_80 rfl ?_
  refine A44.ior (q := 82) d_prog_146_method_2_81 rfl ?_
  refine A44.putF (qn := 85) (i := 0) (j := 2) (ty := .int) (tw hw 33 rfl) Via.refl (Or.inl (tw hw 34 rfl)) (tw hw 11 rfl) (by decide) rfl rfl d_prog_146_method_2_82 rfl rfl rfl rfl (fun T45 A46 => ?_)
  have A47 := A46.cast (k2 := 0) (n2 := 0) (os2 := [(a, ob0 (.int 4) (.int 0) (.int (((((0 : Int32) <<< ((8 : Int32) &&& 31)) ||| (w3 &&& (255 : Int32))) <<< ((8 : Int32) &&& 31)) ||| (w4 &&& (255 : Int32))))), (b, .inr (.byte, [(.int w0), (.int w1), (.int w2), (.int w3), (.int w4)]))]) rfl rfl rfl
  refine A47.aloadN (q := 86) d_prog_146_method_2_85 rfl rfl rfl ?_
  refine A47.dup (q := 87) d_prog_146_method_2_86 rfl rfl ?_
  refine A47.getF (qn := 90) (i := 0) (j := 0) (tw hw 29 rfl) Via.refl d_prog_146_method_2_87 rfl rfl rfl (fun T48 A49 => ?_)
  refine A49.iconst (q := 91) (v := 1) d_prog_146_method_2_90 rfl rfl ?_
  refine A49.iadd (q := 92) d_prog_146_method_2_91 rfl ?_
  refine Wp.top (v' := (.int 5)) rfl ?_
  refine A49.putF (qn := 95) (i := 0) (j := 0) (ty := .int) (tw hw 29 rfl) Via.refl (Or.inl (tw hw 30 rfl)) (tw hw 11 rfl) (by decide) rfl rfl d_prog_146_method_2_92 rfl rfl rfl rfl (fun T50 A51 => ?_)
  have A52 := A51.cast (k2 := 0) (n2 := 0) (os2 := [(a, ob0 (.int 5) (.int 0) (.int (((((0 : Int32) <<< ((8 : Int32) &&& 31)) ||| (w3 &&& (255 : Int32))) <<< ((8 : Int32) &&& 31)) ||| (w4 &&& (255 : Int32))))), (b, .inr (.byte, [(.int w0), (.int w1), (.int w2), (.int w3), (.int w4)]))]) rfl rfl rfl
  refine A52.iinc (q := 98) (l' := #[.val (.ref a), .val (.ref b), .val (.int 1), .val (.int 4), .val (.int 5), .val (.int 5), .unset]) d_prog_146_method_2_95 rfl rfl rfl ?_
  refine A52.aloadN (q := 99) d_prog_146_method_2_98 rfl rfl rfl ?_
  refine A52.getF (qn := 102) (i := 0) (j := 0) (tw hw 29 rfl) Via.refl d_prog_146_method_2_99 rfl rfl rfl (fun T53 A54 => ?_)
  refine A54.iconst (q := 103) (v := 5) d_prog_146_method_2_102 rfl rfl ?_
  refine A54.icmpNo (q := 106) d_prog_146_method_2_103 (by decide) rfl ?_
  refine A54.aloadN (q := 107) d_prog_146_method_2_106 rfl rfl rfl ?_
  refine A54.aloadN (q := 108) d_prog_146_method_2_107 rfl rfl rfl ?_
  refine A54.getF (qn := 111) (i := 0) (j := 2) (tw hw 33 rfl) Via.refl d_prog_146_method_2_108 rfl rfl rfl (fun T55 A56 => ?_)
  refine A56.putF (qn := 114) (i := 0) (j := 1) (ty := .int) (tw hw 31 rfl) Via.refl (Or.inl (tw hw 32 rfl)) (tw hw 11 rfl) (by decide) rfl rfl d_prog_146_method_2_111 rfl rfl rfl rfl (fun T57 A58 => ?_)
  have A59 := A58.cast (k2 := 0) (n2 := 0) (os2 := [(a, ob0 (.int 5) (.int (((((0 : Int32) <<< ((8 : Int32) &&& 31)) ||| (w3 &&& (255 : Int32))) <<< ((8 : Int32) &&& 31)) ||| (w4 &&& (255 : Int32)))) (.int (((((0 : Int32) <<< ((8 : Int32) &&& 31)) ||| (w3 &&& (255 : Int32))) <<< ((8 : Int32) &&& 31)) ||| (w4 &&& (255 : Int32))))), (b, .inr (.byte, [(.int w0), (.int w1), (.int w2), (.int w3), (.int w4)]))]) rfl rfl rfl
  refine A59.aloadN (q := 115) d_prog_146_method_2_114 rfl rfl rfl ?_
  refine A59.iconst (q := 116) (v := 0) d_prog_146_method_2_115 rfl rfl ?_
  refine A59.putF (qn := 119) (i := 0) (j := 0) (ty := .int) (tw hw 29 rfl) Via.refl (Or.inl (tw hw 30 rfl)) (tw hw 11 rfl) (by decide) rfl rfl d_prog_146_method_2_116 rfl rfl rfl rfl (fun T60 A61 => ?_)
  have A62 := A61.cast (k2 := 0) (n2 := 0) (os2 := [(a, ob0 (.int 0) (.int (((((0 : Int32) <<< ((8 : Int32) &&& 31)) ||| (w3 &&& (255 : Int32))) <<< ((8 : Int32) &&& 31)) ||| (w4 &&& (255 : Int32)))) (.int (((((0 : Int32) <<< ((8 : Int32) &&& 31)) ||| (w3 &&& (255 : Int32))) <<< ((8 : Int32) &&& 31)) ||| (w4 &&& (255 : Int32))))), (b, .inr (.byte, [(.int w0), (.int w1), (.int w2), (.int w3), (.int w4)]))]) rfl rfl rfl
  refine A62.aloadN (q := 120) d_prog_146_method_2_119 rfl rfl rfl ?_
  refine A62.iconst (q := 121) (v := 0) d_prog_146_method_2_120 rfl rfl ?_
  refine A62.putF (qn := 124) (i := 0) (j := 2) (ty := .int) (tw hw 33 rfl) Via.refl (Or.inl (tw hw 34 rfl)) (tw hw 11 rfl) (by decide) rfl rfl d_prog_146_method_2_121 rfl rfl rfl rfl (fun T63 A64 => ?_)
  have A65 := A64.cast (k2 := 0) (n2 := 0) (os2 := [(a, ob0 (.int 0) (.int (((((0 : Int32) <<< ((8 : Int32) &&& 31)) ||| (w3 &&& (255 : Int32))) <<< ((8 : Int32) &&& 31)) ||| (w4 &&& (255 : Int32)))) (.int 0)), (b, .inr (.byte, [(.int w0), (.int w1), (.int w2), (.int w3), (.int w4)]))]) rfl rfl rfl
  refine A65.goto (q := 8) d_prog_146_method_2_124 (by decide) (by decide) ?_
  refine A65.iload (q := 10) d_prog_146_method_2_8 rfl rfl ?_
  refine A65.iload (q := 12) d_prog_146_method_2_10 rfl rfl ?_
  refine A65.icmpYes (q := 127) d_prog_146_method_2_12 (by decide) (by decide) (by decide) ?_
  exact A65.retV d_prog_146_method_2_127 (by decide) (by decide) ⟨rfl, rfl⟩
theorem ef_m_p0_2 (m : MethodId) (x0 : Addr) (x1 : Addr) : entryFrame m #[(.ref x0), (.ref x1), (.int 0), (.int 2)] 7 = mkF m 0 #[.val (.ref x0), .val (.ref x1), .val (.int 0), .val (.int 2), .unset, .unset, .unset] [] := by first | (simp [entryFrame, mkF, argsToLocals, Value.category]; done) | rfl
set_option maxRecDepth 65536 in
set_option maxHeartbeats 40000000 in
theorem m_p0_2 (l : Launch) (Z : State) (a0 : Array Value) (hw : ∀ d ∈ tables_1, d.before a0 Z = true) (a : Addr) (b : Addr) (w0 : Int32) (w1 : Int32) (w2 : Int32) (w3 : Int32) (w4 : Int32) :
    Pays l Z a0 (⟨"com/example/wirecall/wirecall/Tls$Records", "passed", "([BII)V"⟩ : MethodName) prog_146_method_2_code 7 none ({ frames := 0, cells := 0, slots := 0, locals := 0 } : Room) #[(.ref a), (.ref b), (.int 0), (.int 2)] [(a, ob0 (.int 0) (.int 0) (.int 0)), (b, .inr (.byte, [(.int w0), (.int w1), (.int w2), (.int w3), (.int w4)]))] (([(a, ob0 (.int 0) (.int 0) (.int 0)), (b, .inr (.byte, [(.int w0), (.int w1), (.int w2), (.int w3), (.int w4)]))] : Hs).map (·.1)) (fun v os' => v = none ∧ os' = [(a, ob0 (.int 2) (.int 0) (.int 0)), (b, .inr (.byte, [(.int w0), (.int w1), (.int w2), (.int w3), (.int w4)]))]) := by
  refine Pays.of (Ls := #[.val (.ref a), .val (.ref b), .val (.int 0), .val (.int 2), .unset, .unset, .unset]) (plainFor_of_name pn_1) (fun m => ef_m_p0_2 m a b) ?_
  intro p e s m below meth c T0 A0
  refine A0.iloadN (q := 1) d_prog_146_method_2_0 rfl rfl ?_
  refine A0.istore (q := 3) (l' := #[.val (.ref a), .val (.ref b), .val (.int 0), .val (.int 2), .val (.int 0), .unset, .unset]) d_prog_146_method_2_1 rfl rfl ?_
  refine A0.iloadN (q := 4) d_prog_146_method_2_3 rfl rfl ?_
  refine A0.iloadN (q := 5) d_prog_146_method_2_4 rfl rfl ?_
  refine A0.iadd (q := 6) d_prog_146_method_2_5 rfl ?_
  refine Wp.top (v' := (.int 2)) rfl ?_
  refine A0.istore (q := 8) (l' := #[.val (.ref a), .val (.ref b), .val (.int 0), .val (.int 2), .val (.int 0), .val (.int 2), .unset]) d_prog_146_method_2_6 rfl rfl ?_
  refine A0.iload (q := 10) d_prog_146_method_2_8 rfl rfl ?_
  refine A0.iload (q := 12) d_prog_146_method_2_10 rfl rfl ?_
  refine A0.icmpNo (q := 15) d_prog_146_method_2_12 (by decide) rfl ?_
  refine A0.aloadN (q := 16) d_prog_146_method_2_15 rfl rfl rfl ?_
  refine A0.getF (qn := 19) (i := 0) (j := 1) (tw hw 31 rfl) Via.refl d_prog_146_method_2_16 rfl rfl rfl (fun T1 A2 => ?_)
  refine A2.ifYes (q := 57) d_prog_146_method_2_19 (by decide) (by decide) (by decide) ?_
  refine A2.aloadN (q := 58) d_prog_146_method_2_57 rfl rfl rfl ?_
  refine A2.getF (qn := 61) (i := 0) (j := 0) (tw hw 29 rfl) Via.refl d_prog_146_method_2_58 rfl rfl rfl (fun T3 A4 => ?_)
  refine A4.iconst (q := 62) (v := 3) d_prog_146_method_2_61 rfl rfl ?_
  refine A4.icmpYes (q := 85) d_prog_146_method_2_62 (by decide) (by decide) (by decide) ?_
  refine A4.aloadN (q := 86) d_prog_146_method_2_85 rfl rfl rfl ?_
  refine A4.dup (q := 87) d_prog_146_method_2_86 rfl rfl ?_
  refine A4.getF (qn := 90) (i := 0) (j := 0) (tw hw 29 rfl) Via.refl d_prog_146_method_2_87 rfl rfl rfl (fun T5 A6 => ?_)
  refine A6.iconst (q := 91) (v := 1) d_prog_146_method_2_90 rfl rfl ?_
  refine A6.iadd (q := 92) d_prog_146_method_2_91 rfl ?_
  refine Wp.top (v' := (.int 1)) rfl ?_
  refine A6.putF (qn := 95) (i := 0) (j := 0) (ty := .int) (tw hw 29 rfl) Via.refl (Or.inl (tw hw 30 rfl)) (tw hw 11 rfl) (by decide) rfl rfl d_prog_146_method_2_92 rfl rfl rfl rfl (fun T7 A8 => ?_)
  have A9 := A8.cast (k2 := 0) (n2 := 0) (os2 := [(a, ob0 (.int 1) (.int 0) (.int 0)), (b, .inr (.byte, [(.int w0), (.int w1), (.int w2), (.int w3), (.int w4)]))]) rfl rfl rfl
  refine A9.iinc (q := 98) (l' := #[.val (.ref a), .val (.ref b), .val (.int 0), .val (.int 2), .val (.int 1), .val (.int 2), .unset]) d_prog_146_method_2_95 rfl rfl rfl ?_
  refine A9.aloadN (q := 99) d_prog_146_method_2_98 rfl rfl rfl ?_
  refine A9.getF (qn := 102) (i := 0) (j := 0) (tw hw 29 rfl) Via.refl d_prog_146_method_2_99 rfl rfl rfl (fun T10 A11 => ?_)
  refine A11.iconst (q := 103) (v := 5) d_prog_146_method_2_102 rfl rfl ?_
  refine A11.icmpYes (q := 8) d_prog_146_method_2_103 (by decide) (by decide) (by decide) ?_
  refine A11.iload (q := 10) d_prog_146_method_2_8 rfl rfl ?_
  refine A11.iload (q := 12) d_prog_146_method_2_10 rfl rfl ?_
  refine A11.icmpNo (q := 15) d_prog_146_method_2_12 (by decide) rfl ?_
  refine A11.aloadN (q := 16) d_prog_146_method_2_15 rfl rfl rfl ?_
  refine A11.getF (qn := 19) (i := 0) (j := 1) (tw hw 31 rfl) Via.refl d_prog_146_method_2_16 rfl rfl rfl (fun T12 A13 => ?_)
  refine A13.ifYes (q := 57) d_prog_146_method_2_19 (by decide) (by decide) (by decide) ?_
  refine A13.aloadN (q := 58) d_prog_146_method_2_57 rfl rfl rfl ?_
  refine A13.getF (qn := 61) (i := 0) (j := 0) (tw hw 29 rfl) Via.refl d_prog_146_method_2_58 rfl rfl rfl (fun T14 A15 => ?_)
  refine A15.iconst (q := 62) (v := 3) d_prog_146_method_2_61 rfl rfl ?_
  refine A15.icmpYes (q := 85) d_prog_146_method_2_62 (by decide) (by decide) (by decide) ?_
  refine A15.aloadN (q := 86) d_prog_146_method_2_85 rfl rfl rfl ?_
  refine A15.dup (q := 87) d_prog_146_method_2_86 rfl rfl ?_
  refine A15.getF (qn := 90) (i := 0) (j := 0) (tw hw 29 rfl) Via.refl d_prog_146_method_2_87 rfl rfl rfl (fun T16 A17 => ?_)
  refine A17.iconst (q := 91) (v := 1) d_prog_146_method_2_90 rfl rfl ?_
  refine A17.iadd (q := 92) d_prog_146_method_2_91 rfl ?_
  refine Wp.top (v' := (.int 2)) rfl ?_
  refine A17.putF (qn := 95) (i := 0) (j := 0) (ty := .int) (tw hw 29 rfl) Via.refl (Or.inl (tw hw 30 rfl)) (tw hw 11 rfl) (by decide) rfl rfl d_prog_146_method_2_92 rfl rfl rfl rfl (fun T18 A19 => ?_)
  have A20 := A19.cast (k2 := 0) (n2 := 0) (os2 := [(a, ob0 (.int 2) (.int 0) (.int 0)), (b, .inr (.byte, [(.int w0), (.int w1), (.int w2), (.int w3), (.int w4)]))]) rfl rfl rfl
  refine A20.iinc (q := 98) (l' := #[.val (.ref a), .val (.ref b), .val (.int 0), .val (.int 2), .val (.int 2), .val (.int 2), .unset]) d_prog_146_method_2_95 rfl rfl rfl ?_
  refine A20.aloadN (q := 99) d_prog_146_method_2_98 rfl rfl rfl ?_
  refine A20.getF (qn := 102) (i := 0) (j := 0) (tw hw 29 rfl) Via.refl d_prog_146_method_2_99 rfl rfl rfl (fun T21 A22 => ?_)
  refine A22.iconst (q := 103) (v := 5) d_prog_146_method_2_102 rfl rfl ?_
  refine A22.icmpYes (q := 8) d_prog_146_method_2_103 (by decide) (by decide) (by decide) ?_
  refine A22.iload (q := 10) d_prog_146_method_2_8 rfl rfl ?_
  refine A22.iload (q := 12) d_prog_146_method_2_10 rfl rfl ?_
  refine A22.icmpYes (q := 127) d_prog_146_method_2_12 (by decide) (by decide) (by decide) ?_
  exact A22.retV d_prog_146_method_2_127 (by decide) (by decide) ⟨rfl, rfl⟩
theorem ef_m_p2_3 (m : MethodId) (x0 : Addr) (x1 : Addr) : entryFrame m #[(.ref x0), (.ref x1), (.int 2), (.int 3)] 7 = mkF m 0 #[.val (.ref x0), .val (.ref x1), .val (.int 2), .val (.int 3), .unset, .unset, .unset] [] := by first | (simp [entryFrame, mkF, argsToLocals, Value.category]; done) | rfl
set_option maxRecDepth 65536 in
set_option maxHeartbeats 40000000 in
theorem m_p2_3 (l : Launch) (Z : State) (a0 : Array Value) (hw : ∀ d ∈ tables_1, d.before a0 Z = true) (a : Addr) (b : Addr) (w0 : Int32) (w1 : Int32) (w2 : Int32) (w3 : Int32) (w4 : Int32) :
    Pays l Z a0 (⟨"com/example/wirecall/wirecall/Tls$Records", "passed", "([BII)V"⟩ : MethodName) prog_146_method_2_code 7 none ({ frames := 0, cells := 0, slots := 0, locals := 0 } : Room) #[(.ref a), (.ref b), (.int 2), (.int 3)] [(a, ob0 (.int 2) (.int 0) (.int 0)), (b, .inr (.byte, [(.int w0), (.int w1), (.int w2), (.int w3), (.int w4)]))] (([(a, ob0 (.int 2) (.int 0) (.int 0)), (b, .inr (.byte, [(.int w0), (.int w1), (.int w2), (.int w3), (.int w4)]))] : Hs).map (·.1)) (fun v os' => v = none ∧ os' = [(a, ob0 (.int 0) (.int (own_l w3 w4)) (.int 0)), (b, .inr (.byte, [(.int w0), (.int w1), (.int w2), (.int w3), (.int w4)]))]) := by
  refine Pays.of (Ls := #[.val (.ref a), .val (.ref b), .val (.int 2), .val (.int 3), .unset, .unset, .unset]) (plainFor_of_name pn_1) (fun m => ef_m_p2_3 m a b) ?_
  intro p e s m below meth c T0 A0
  refine A0.iloadN (q := 1) d_prog_146_method_2_0 rfl rfl ?_
  refine A0.istore (q := 3) (l' := #[.val (.ref a), .val (.ref b), .val (.int 2), .val (.int 3), .val (.int 2), .unset, .unset]) d_prog_146_method_2_1 rfl rfl ?_
  refine A0.iloadN (q := 4) d_prog_146_method_2_3 rfl rfl ?_
  refine A0.iloadN (q := 5) d_prog_146_method_2_4 rfl rfl ?_
  refine A0.iadd (q := 6) d_prog_146_method_2_5 rfl ?_
  refine Wp.top (v' := (.int 5)) rfl ?_
  refine A0.istore (q := 8) (l' := #[.val (.ref a), .val (.ref b), .val (.int 2), .val (.int 3), .val (.int 2), .val (.int 5), .unset]) d_prog_146_method_2_6 rfl rfl ?_
  refine A0.iload (q := 10) d_prog_146_method_2_8 rfl rfl ?_
  refine A0.iload (q := 12) d_prog_146_method_2_10 rfl rfl ?_
  refine A0.icmpNo (q := 15) d_prog_146_method_2_12 (by decide) rfl ?_
  refine A0.aloadN (q := 16) d_prog_146_method_2_15 rfl rfl rfl ?_
  refine A0.getF (qn := 19) (i := 0) (j := 1) (tw hw 31 rfl) Via.refl d_prog_146_method_2_16 rfl rfl rfl (fun T1 A2 => ?_)
  refine A2.ifYes (q := 57) d_prog_146_method_2_19 (by decide) (by decide) (by decide) ?_
  refine A2.aloadN (q := 58) d_prog_146_method_2_57 rfl rfl rfl ?_
  refine A2.getF (qn := 61) (i := 0) (j := 0) (tw hw 29 rfl) Via.refl d_prog_146_method_2_58 rfl rfl rfl (fun T3 A4 => ?_)
  refine A4.iconst (q := 62) (v := 3) d_prog_146_method_2_61 rfl rfl ?_
  refine A4.icmpYes (q := 85) d_prog_146_method_2_62 (by decide) (by decide) (by decide) ?_
  refine A4.aloadN (q := 86) d_prog_146_method_2_85 rfl rfl rfl ?_
  refine A4.dup (q := 87) d_prog_146_method_2_86 rfl rfl ?_
  refine A4.getF (qn := 90) (i := 0) (j := 0) (tw hw 29 rfl) Via.refl d_prog_146_method_2_87 rfl rfl rfl (fun T5 A6 => ?_)
  refine A6.iconst (q := 91) (v := 1) d_prog_146_method_2_90 rfl rfl ?_
  refine A6.iadd (q := 92) d_prog_146_method_2_91 rfl ?_
  refine Wp.top (v' := (.int 3)) rfl ?_
  refine A6.putF (qn := 95) (i := 0) (j := 0) (ty := .int) (tw hw 29 rfl) Via.refl (Or.inl (tw hw 30 rfl)) (tw hw 11 rfl) (by decide) rfl rfl d_prog_146_method_2_92 rfl rfl rfl rfl (fun T7 A8 => ?_)
  have A9 := A8.cast (k2 := 0) (n2 := 0) (os2 := [(a, ob0 (.int 3) (.int 0) (.int 0)), (b, .inr (.byte, [(.int w0), (.int w1), (.int w2), (.int w3), (.int w4)]))]) rfl rfl rfl
  refine A9.iinc (q := 98) (l' := #[.val (.ref a), .val (.ref b), .val (.int 2), .val (.int 3), .val (.int 3), .val (.int 5), .unset]) d_prog_146_method_2_95 rfl rfl rfl ?_
  refine A9.aloadN (q := 99) d_prog_146_method_2_98 rfl rfl rfl ?_
  refine A9.getF (qn := 102) (i := 0) (j := 0) (tw hw 29 rfl) Via.refl d_prog_146_method_2_99 rfl rfl rfl (fun T10 A11 => ?_)
  refine A11.iconst (q := 103) (v := 5) d_prog_146_method_2_102 rfl rfl ?_
  refine A11.icmpYes (q := 8) d_prog_146_method_2_103 (by decide) (by decide) (by decide) ?_
  refine A11.iload (q := 10) d_prog_146_method_2_8 rfl rfl ?_
  refine A11.iload (q := 12) d_prog_146_method_2_10 rfl rfl ?_
  refine A11.icmpNo (q := 15) d_prog_146_method_2_12 (by decide) rfl ?_
  refine A11.aloadN (q := 16) d_prog_146_method_2_15 rfl rfl rfl ?_
  refine A11.getF (qn := 19) (i := 0) (j := 1) (tw hw 31 rfl) Via.refl d_prog_146_method_2_16 rfl rfl rfl (fun T12 A13 => ?_)
  refine A13.ifYes (q := 57) d_prog_146_method_2_19 (by decide) (by decide) (by decide) ?_
  refine A13.aloadN (q := 58) d_prog_146_method_2_57 rfl rfl rfl ?_
  refine A13.getF (qn := 61) (i := 0) (j := 0) (tw hw 29 rfl) Via.refl d_prog_146_method_2_58 rfl rfl rfl (fun T14 A15 => ?_)
  refine A15.iconst (q := 62) (v := 3) d_prog_146_method_2_61 rfl rfl ?_
  refine A15.icmpNo (q := 65) d_prog_146_method_2_62 (by decide) rfl ?_
  refine A15.aloadN (q := 66) d_prog_146_method_2_65 rfl rfl rfl ?_
  refine A15.aloadN (q := 67) d_prog_146_method_2_66 rfl rfl rfl ?_
  refine A15.getF (qn := 70) (i := 0) (j := 2) (tw hw 33 rfl) Via.refl d_prog_146_method_2_67 rfl rfl rfl (fun T16 A17 => ?_)
  refine A17.bipush (q := 72) (v := 8) d_prog_146_method_2_70 rfl rfl ?_
  refine A17.ishl (q := 73) d_prog_146_method_2_72 rfl ?_
  refine A17.aloadN (q := 74) d_prog_146_method_2_73 rfl rfl rfl ?_
  refine A17.iload (q := 76) d_prog_146_method_2_74 rfl rfl ?_
  refine A17.ldB (qn := 77) (i := 1) d_prog_146_method_2_76 rfl (by decide) rfl rfl ?_
  refine A17.sipush (q := 80) (v := 255) d_prog_146_method_2_77 rfl rfl ?_
  refine A17.iand (q := 81) d_prog_146_method_2_80 rfl ?_
  refine A17.ior (q := 82) d_prog_146_method_2_81 rfl ?_
  refine A17.putF (qn := 85) (i := 0) (j := 2) (ty := .int) (tw hw 33 rfl) Via.refl (Or.inl (tw hw 34 rfl)) (tw hw 11 rfl) (by decide) rfl rfl d_prog_146_method_2_82 rfl rfl rfl rfl (fun T18 A19 => ?_)
  have A20 := A19.cast (k2 := 0) (n2 := 0) (os2 := [(a, ob0 (.int 3) (.int 0) (.int (((0 : Int32) <<< ((8 : Int32) &&& 31)) ||| (w3 &&& (255 : Int32))))), (b, .inr (.byte, [(.int w0), (.int w1), (.int w2), (.int w3), (.int w4)]))]) rfl rfl rfl
  refine A20.aloadN (q := 86) d_prog_146_method_2_85 rfl rfl rfl ?_
  refine A20.dup (q := 87) d_prog_146_method_2_86 rfl rfl ?_
  refine A20.getF (qn := 90) (i := 0) (j := 0) (tw hw 29 rfl) Via.refl d_prog_146_method_2_87 rfl rfl rfl (fun T21 A22 => ?_)
  refine A22.iconst (q := 91) (v := 1) d_prog_146_method_2_90 rfl rfl ?_
  refine A22.iadd (q := 92) d_prog_146_method_2_91 rfl ?_
  refine Wp.top (v' := (.int 4)) rfl ?_
  refine A22.putF (qn := 95) (i := 0) (j := 0) (ty := .int) (tw hw 29 rfl) Via.refl (Or.inl (tw hw 30 rfl)) (tw hw 11 rfl) (by decide) rfl rfl d_prog_146_method_2_92 rfl rfl rfl rfl (fun T23 A24 => ?_)
  have A25 := A24.cast (k2 := 0) (n2 := 0) (os2 := [(a, ob0 (.int 4) (.int 0) (.int (((0 : Int32) <<< ((8 : Int32) &&& 31)) ||| (w3 &&& (255 : Int32))))), (b, .inr (.byte, [(.int w0), (.int w1), (.int w2), (.int w3), (.int w4)]))]) rfl rfl rfl
  refine A25.iinc (q := 98) (l' := #[.val (.ref a), .val (.ref b), .val (.int 2), .val (.int 3), .val (.int 4), .val (.int 5), .unset]) d_prog_146_method_2_95 rfl rfl rfl ?_
  refine A25.aloadN (q := 99) d_prog_146_method_2_98 rfl rfl rfl ?_
  refine A25.getF (qn := 102) (i := 0) (j := 0) (tw hw 29 rfl) Via.refl d_prog_146_method_2_99 rfl rfl rfl (fun T26 A27 => ?_)
  refine A27.iconst (q := 103) (v := 5) d_prog_146_method_2_102 rfl rfl ?_
  refine A27.icmpYes (q := 8) d_prog_146_method_2_103 (by decide) (by decide) (by decide) ?_
  refine A27.iload (q := 10) d_prog_146_method_2_8 rfl rfl ?_
  refine A27.iload (q := 12) d_prog_146_method_2_10 rfl rfl ?_
  refine A27.icmpNo (q := 15) d_prog_146_method_2_12 (by decide) rfl ?_
  refine A27.aloadN (q := 16) d_prog_146_method_2_15 rfl rfl rfl ?_
  refine A27.getF (qn := 19) (i := 0) (j := 1) (tw hw 31 rfl) Via.refl d_prog_146_method_2_16 rfl rfl rfl (fun T28 A29 => ?_)
  refine A29.ifYes (q := 57) d_prog_146_method_2_19 (by decide) (by decide) (by decide) ?_
  refine A29.aloadN (q := 58) d_prog_146_method_2_57 rfl rfl rfl ?_
  refine A29.getF (qn := 61) (i := 0) (j := 0) (tw hw 29 rfl) Via.refl d_prog_146_method_2_58 rfl rfl rfl (fun T30 A31 => ?_)
  refine A31.iconst (q := 62) (v := 3) d_prog_146_method_2_61 rfl rfl ?_
  refine A31.icmpNo (q := 65) d_prog_146_method_2_62 (by decide) rfl ?_
  refine A31.aloadN (q := 66) d_prog_146_method_2_65 rfl rfl rfl ?_
  refine A31.aloadN (q := 67) d_prog_146_method_2_66 rfl rfl rfl ?_
  refine A31.getF (qn := 70) (i := 0) (j := 2) (tw hw 33 rfl) Via.refl d_prog_146_method_2_67 rfl rfl rfl (fun T32 A33 => ?_)
  refine A33.bipush (q := 72) (v := 8) d_prog_146_method_2_70 rfl rfl ?_
  refine A33.ishl (q := 73) d_prog_146_method_2_72 rfl ?_
  refine A33.aloadN (q := 74) d_prog_146_method_2_73 rfl rfl rfl ?_
  refine A33.iload (q := 76) d_prog_146_method_2_74 rfl rfl ?_
  refine A33.ldB (qn := 77) (i := 1) d_prog_146_method_2_76 rfl (by decide) rfl rfl ?_
  refine A33.sipush (q := 80) (v := 255) d_prog_146_method_2_77 rfl rfl ?_
  refine A33.iand (q := 81) d_prog_146_method_2_80 rfl ?_
  refine A33.ior (q := 82) d_prog_146_method_2_81 rfl ?_
  refine A33.putF (qn := 85) (i := 0) (j := 2) (ty := .int) (tw hw 33 rfl) Via.refl (Or.inl (tw hw 34 rfl)) (tw hw 11 rfl) (by decide) rfl rfl d_prog_146_method_2_82 rfl rfl rfl rfl (fun T34 A35 => ?_)
  have A36 := A35.cast (k2 := 0) (n2 := 0) (os2 := [(a, ob0 (.int 4) (.int 0) (.int (((((0 : Int32) <<< ((8 : Int32) &&& 31)) ||| (w3 &&& (255 : Int32))) <<< ((8 : Int32) &&& 31)) ||| (w4 &&& (255 : Int32))))), (b, .inr (.byte, [(.int w0), (.int w1), (.int w2), (.int w3), (.int w4)]))]) rfl rfl rfl
  refine A36.aloadN (q := 86) d_prog_146_method_2_85 rfl rfl rfl ?_
  refine A36.dup (q := 87) d_prog_146_method_2_86 rfl rfl ?_
  refine A36.getF (qn := 90) (i := 0) (j := 0) (tw hw 29 rfl) Via.refl d_prog_146_method_2_87 rfl rfl rfl (fun T37 A38 => ?_)
  refine A38.iconst (q := 91) (v := 1) d_prog_146_method_2_90 rfl rfl ?_
  refine A38.iadd (q := 92) d_prog_146_method_2_91 rfl ?_
  refine Wp.top (v' := (.int 5)) rfl ?_
  refine A38.putF (qn := 95) (i := 0) (j := 0) (ty := .int) (tw hw 29 rfl) Via.refl (Or.inl (tw hw 30 rfl)) (tw hw 11 rfl) (by decide) rfl rfl d_prog_146_method_2_92 rfl rfl rfl rfl (fun T39 A40 => ?_)
  have A41 := A40.cast (k2 := 0) (n2 := 0) (os2 := [(a, ob0 (.int 5) (.int 0) (.int (((((0 : Int32) <<< ((8 : Int32) &&& 31)) ||| (w3 &&& (255 : Int32))) <<< ((8 : Int32) &&& 31)) ||| (w4 &&& (255 : Int32))))), (b, .inr (.byte, [(.int w0), (.int w1), (.int w2), (.int w3), (.int w4)]))]) rfl rfl rfl
  refine A41.iinc (q := 98) (l' := #[.val (.ref a), .val (.ref b), .val (.int 2), .val (.int 3), .val (.int 5), .val (.int 5), .unset]) d_prog_146_method_2_95 rfl rfl rfl ?_
  refine A41.aloadN (q := 99) d_prog_146_method_2_98 rfl rfl rfl ?_
  refine A41.getF (qn := 102) (i := 0) (j := 0) (tw hw 29 rfl) Via.refl d_prog_146_method_2_99 rfl rfl rfl (fun T42 A43 => ?_)
  refine A43.iconst (q := 103) (v := 5) d_prog_146_method_2_102 rfl rfl ?_
  refine A43.icmpNo (q := 106) d_prog_146_method_2_103 (by decide) rfl ?_
  refine A43.aloadN (q := 107) d_prog_146_method_2_106 rfl rfl rfl ?_
  refine A43.aloadN (q := 108) d_prog_146_method_2_107 rfl rfl rfl ?_
  refine A43.getF (qn := 111) (i := 0) (j := 2) (tw hw 33 rfl) Via.refl d_prog_146_method_2_108 rfl rfl rfl (fun T44 A45 => ?_)
  refine A45.putF (qn := 114) (i := 0) (j := 1) (ty := .int) (tw hw 31 rfl) Via.refl (Or.inl (tw hw 32 rfl)) (tw hw 11 rfl) (by decide) rfl rfl d_prog_146_method_2_111 rfl rfl rfl rfl (fun T46 A47 => ?_)
  have A48 := A47.cast (k2 := 0) (n2 := 0) (os2 := [(a, ob0 (.int 5) (.int (((((0 : Int32) <<< ((8 : Int32) &&& 31)) ||| (w3 &&& (255 : Int32))) <<< ((8 : Int32) &&& 31)) ||| (w4 &&& (255 : Int32)))) (.int (((((0 : Int32) <<< ((8 : Int32) &&& 31)) ||| (w3 &&& (255 : Int32))) <<< ((8 : Int32) &&& 31)) ||| (w4 &&& (255 : Int32))))), (b, .inr (.byte, [(.int w0), (.int w1), (.int w2), (.int w3), (.int w4)]))]) rfl rfl rfl
  refine A48.aloadN (q := 115) d_prog_146_method_2_114 rfl rfl rfl ?_
  refine A48.iconst (q := 116) (v := 0) d_prog_146_method_2_115 rfl rfl ?_
  refine A48.putF (qn := 119) (i := 0) (j := 0) (ty := .int) (tw hw 29 rfl) Via.refl (Or.inl (tw hw 30 rfl)) (tw hw 11 rfl) (by decide) rfl rfl d_prog_146_method_2_116 rfl rfl rfl rfl (fun T49 A50 => ?_)
  have A51 := A50.cast (k2 := 0) (n2 := 0) (os2 := [(a, ob0 (.int 0) (.int (((((0 : Int32) <<< ((8 : Int32) &&& 31)) ||| (w3 &&& (255 : Int32))) <<< ((8 : Int32) &&& 31)) ||| (w4 &&& (255 : Int32)))) (.int (((((0 : Int32) <<< ((8 : Int32) &&& 31)) ||| (w3 &&& (255 : Int32))) <<< ((8 : Int32) &&& 31)) ||| (w4 &&& (255 : Int32))))), (b, .inr (.byte, [(.int w0), (.int w1), (.int w2), (.int w3), (.int w4)]))]) rfl rfl rfl
  refine A51.aloadN (q := 120) d_prog_146_method_2_119 rfl rfl rfl ?_
  refine A51.iconst (q := 121) (v := 0) d_prog_146_method_2_120 rfl rfl ?_
  refine A51.putF (qn := 124) (i := 0) (j := 2) (ty := .int) (tw hw 33 rfl) Via.refl (Or.inl (tw hw 34 rfl)) (tw hw 11 rfl) (by decide) rfl rfl d_prog_146_method_2_121 rfl rfl rfl rfl (fun T52 A53 => ?_)
  have A54 := A53.cast (k2 := 0) (n2 := 0) (os2 := [(a, ob0 (.int 0) (.int (((((0 : Int32) <<< ((8 : Int32) &&& 31)) ||| (w3 &&& (255 : Int32))) <<< ((8 : Int32) &&& 31)) ||| (w4 &&& (255 : Int32)))) (.int 0)), (b, .inr (.byte, [(.int w0), (.int w1), (.int w2), (.int w3), (.int w4)]))]) rfl rfl rfl
  refine A54.goto (q := 8) d_prog_146_method_2_124 (by decide) (by decide) ?_
  refine A54.iload (q := 10) d_prog_146_method_2_8 rfl rfl ?_
  refine A54.iload (q := 12) d_prog_146_method_2_10 rfl rfl ?_
  refine A54.icmpYes (q := 127) d_prog_146_method_2_12 (by decide) (by decide) (by decide) ?_
  exact A54.retV d_prog_146_method_2_127 (by decide) (by decide) ⟨rfl, rfl⟩
theorem ef_m_p0_3 (m : MethodId) (x0 : Addr) (x1 : Addr) : entryFrame m #[(.ref x0), (.ref x1), (.int 0), (.int 3)] 7 = mkF m 0 #[.val (.ref x0), .val (.ref x1), .val (.int 0), .val (.int 3), .unset, .unset, .unset] [] := by first | (simp [entryFrame, mkF, argsToLocals, Value.category]; done) | rfl
set_option maxRecDepth 65536 in
set_option maxHeartbeats 40000000 in
theorem m_p0_3 (l : Launch) (Z : State) (a0 : Array Value) (hw : ∀ d ∈ tables_1, d.before a0 Z = true) (a : Addr) (b : Addr) (w0 : Int32) (w1 : Int32) (w2 : Int32) (w3 : Int32) (w4 : Int32) :
    Pays l Z a0 (⟨"com/example/wirecall/wirecall/Tls$Records", "passed", "([BII)V"⟩ : MethodName) prog_146_method_2_code 7 none ({ frames := 0, cells := 0, slots := 0, locals := 0 } : Room) #[(.ref a), (.ref b), (.int 0), (.int 3)] [(a, ob0 (.int 0) (.int 0) (.int 0)), (b, .inr (.byte, [(.int w0), (.int w1), (.int w2), (.int w3), (.int w4)]))] (([(a, ob0 (.int 0) (.int 0) (.int 0)), (b, .inr (.byte, [(.int w0), (.int w1), (.int w2), (.int w3), (.int w4)]))] : Hs).map (·.1)) (fun v os' => v = none ∧ os' = [(a, ob0 (.int 3) (.int 0) (.int 0)), (b, .inr (.byte, [(.int w0), (.int w1), (.int w2), (.int w3), (.int w4)]))]) := by
  refine Pays.of (Ls := #[.val (.ref a), .val (.ref b), .val (.int 0), .val (.int 3), .unset, .unset, .unset]) (plainFor_of_name pn_1) (fun m => ef_m_p0_3 m a b) ?_
  intro p e s m below meth c T0 A0
  refine A0.iloadN (q := 1) d_prog_146_method_2_0 rfl rfl ?_
  refine A0.istore (q := 3) (l' := #[.val (.ref a), .val (.ref b), .val (.int 0), .val (.int 3), .val (.int 0), .unset, .unset]) d_prog_146_method_2_1 rfl rfl ?_
  refine A0.iloadN (q := 4) d_prog_146_method_2_3 rfl rfl ?_
  refine A0.iloadN (q := 5) d_prog_146_method_2_4 rfl rfl ?_
  refine A0.iadd (q := 6) d_prog_146_method_2_5 rfl ?_
  refine Wp.top (v' := (.int 3)) rfl ?_
  refine A0.istore (q := 8) (l' := #[.val (.ref a), .val (.ref b), .val (.int 0), .val (.int 3), .val (.int 0), .val (.int 3), .unset]) d_prog_146_method_2_6 rfl rfl ?_
  refine A0.iload (q := 10) d_prog_146_method_2_8 rfl rfl ?_
  refine A0.iload (q := 12) d_prog_146_method_2_10 rfl rfl ?_
  refine A0.icmpNo (q := 15) d_prog_146_method_2_12 (by decide) rfl ?_
  refine A0.aloadN (q := 16) d_prog_146_method_2_15 rfl rfl rfl ?_
  refine A0.getF (qn := 19) (i := 0) (j := 1) (tw hw 31 rfl) Via.refl d_prog_146_method_2_16 rfl rfl rfl (fun T1 A2 => ?_)
  refine A2.ifYes (q := 57) d_prog_146_method_2_19 (by decide) (by decide) (by decide) ?_
  refine A2.aloadN (q := 58) d_prog_146_method_2_57 rfl rfl rfl ?_
  refine A2.getF (qn := 61) (i := 0) (j := 0) (tw hw 29 rfl) Via.refl d_prog_146_method_2_58 rfl rfl rfl (fun T3 A4 => ?_)
  refine A4.iconst (q := 62) (v := 3) d_prog_146_method_2_61 rfl rfl ?_
  refine A4.icmpYes (q := 85) d_prog_146_method_2_62 (by decide) (by decide) (by decide) ?_
  refine A4.aloadN (q := 86) d_prog_146_method_2_85 rfl rfl rfl ?_
  refine A4.dup (q := 87) d_prog_146_method_2_86 rfl rfl ?_
  refine A4.getF (qn := 90) (i := 0) (j := 0) (tw hw 29 rfl) Via.refl d_prog_146_method_2_87 rfl rfl rfl (fun T5 A6 => ?_)
  refine A6.iconst (q := 91) (v := 1) d_prog_146_method_2_90 rfl rfl ?_
  refine A6.iadd (q := 92) d_prog_146_method_2_91 rfl ?_
  refine Wp.top (v' := (.int 1)) rfl ?_
  refine A6.putF (qn := 95) (i := 0) (j := 0) (ty := .int) (tw hw 29 rfl) Via.refl (Or.inl (tw hw 30 rfl)) (tw hw 11 rfl) (by decide) rfl rfl d_prog_146_method_2_92 rfl rfl rfl rfl (fun T7 A8 => ?_)
  have A9 := A8.cast (k2 := 0) (n2 := 0) (os2 := [(a, ob0 (.int 1) (.int 0) (.int 0)), (b, .inr (.byte, [(.int w0), (.int w1), (.int w2), (.int w3), (.int w4)]))]) rfl rfl rfl
  refine A9.iinc (q := 98) (l' := #[.val (.ref a), .val (.ref b), .val (.int 0), .val (.int 3), .val (.int 1), .val (.int 3), .unset]) d_prog_146_method_2_95 rfl rfl rfl ?_
  refine A9.aloadN (q := 99) d_prog_146_method_2_98 rfl rfl rfl ?_
  refine A9.getF (qn := 102) (i := 0) (j := 0) (tw hw 29 rfl) Via.refl d_prog_146_method_2_99 rfl rfl rfl (fun T10 A11 => ?_)
  refine A11.iconst (q := 103) (v := 5) d_prog_146_method_2_102 rfl rfl ?_
  refine A11.icmpYes (q := 8) d_prog_146_method_2_103 (by decide) (by decide) (by decide) ?_
  refine A11.iload (q := 10) d_prog_146_method_2_8 rfl rfl ?_
  refine A11.iload (q := 12) d_prog_146_method_2_10 rfl rfl ?_
  refine A11.icmpNo (q := 15) d_prog_146_method_2_12 (by decide) rfl ?_
  refine A11.aloadN (q := 16) d_prog_146_method_2_15 rfl rfl rfl ?_
  refine A11.getF (qn := 19) (i := 0) (j := 1) (tw hw 31 rfl) Via.refl d_prog_146_method_2_16 rfl rfl rfl (fun T12 A13 => ?_)
  refine A13.ifYes (q := 57) d_prog_146_method_2_19 (by decide) (by decide) (by decide) ?_
  refine A13.aloadN (q := 58) d_prog_146_method_2_57 rfl rfl rfl ?_
  refine A13.getF (qn := 61) (i := 0) (j := 0) (tw hw 29 rfl) Via.refl d_prog_146_method_2_58 rfl rfl rfl (fun T14 A15 => ?_)
  refine A15.iconst (q := 62) (v := 3) d_prog_146_method_2_61 rfl rfl ?_
  refine A15.icmpYes (q := 85) d_prog_146_method_2_62 (by decide) (by decide) (by decide) ?_
  refine A15.aloadN (q := 86) d_prog_146_method_2_85 rfl rfl rfl ?_
  refine A15.dup (q := 87) d_prog_146_method_2_86 rfl rfl ?_
  refine A15.getF (qn := 90) (i := 0) (j := 0) (tw hw 29 rfl) Via.refl d_prog_146_method_2_87 rfl rfl rfl (fun T16 A17 => ?_)
  refine A17.iconst (q := 91) (v := 1) d_prog_146_method_2_90 rfl rfl ?_
  refine A17.iadd (q := 92) d_prog_146_method_2_91 rfl ?_
  refine Wp.top (v' := (.int 2)) rfl ?_
  refine A17.putF (qn := 95) (i := 0) (j := 0) (ty := .int) (tw hw 29 rfl) Via.refl (Or.inl (tw hw 30 rfl)) (tw hw 11 rfl) (by decide) rfl rfl d_prog_146_method_2_92 rfl rfl rfl rfl (fun T18 A19 => ?_)
  have A20 := A19.cast (k2 := 0) (n2 := 0) (os2 := [(a, ob0 (.int 2) (.int 0) (.int 0)), (b, .inr (.byte, [(.int w0), (.int w1), (.int w2), (.int w3), (.int w4)]))]) rfl rfl rfl
  refine A20.iinc (q := 98) (l' := #[.val (.ref a), .val (.ref b), .val (.int 0), .val (.int 3), .val (.int 2), .val (.int 3), .unset]) d_prog_146_method_2_95 rfl rfl rfl ?_
  refine A20.aloadN (q := 99) d_prog_146_method_2_98 rfl rfl rfl ?_
  refine A20.getF (qn := 102) (i := 0) (j := 0) (tw hw 29 rfl) Via.refl d_prog_146_method_2_99 rfl rfl rfl (fun T21 A22 => ?_)
  refine A22.iconst (q := 103) (v := 5) d_prog_146_method_2_102 rfl rfl ?_
  refine A22.icmpYes (q := 8) d_prog_146_method_2_103 (by decide) (by decide) (by decide) ?_
  refine A22.iload (q := 10) d_prog_146_method_2_8 rfl rfl ?_
  refine A22.iload (q := 12) d_prog_146_method_2_10 rfl rfl ?_
  refine A22.icmpNo (q := 15) d_prog_146_method_2_12 (by decide) rfl ?_
  refine A22.aloadN (q := 16) d_prog_146_method_2_15 rfl rfl rfl ?_
  refine A22.getF (qn := 19) (i := 0) (j := 1) (tw hw 31 rfl) Via.refl d_prog_146_method_2_16 rfl rfl rfl (fun T23 A24 => ?_)
  refine A24.ifYes (q := 57) d_prog_146_method_2_19 (by decide) (by decide) (by decide) ?_
  refine A24.aloadN (q := 58) d_prog_146_method_2_57 rfl rfl rfl ?_
  refine A24.getF (qn := 61) (i := 0) (j := 0) (tw hw 29 rfl) Via.refl d_prog_146_method_2_58 rfl rfl rfl (fun T25 A26 => ?_)
  refine A26.iconst (q := 62) (v := 3) d_prog_146_method_2_61 rfl rfl ?_
  refine A26.icmpYes (q := 85) d_prog_146_method_2_62 (by decide) (by decide) (by decide) ?_
  refine A26.aloadN (q := 86) d_prog_146_method_2_85 rfl rfl rfl ?_
  refine A26.dup (q := 87) d_prog_146_method_2_86 rfl rfl ?_
  refine A26.getF (qn := 90) (i := 0) (j := 0) (tw hw 29 rfl) Via.refl d_prog_146_method_2_87 rfl rfl rfl (fun T27 A28 => ?_)
  refine A28.iconst (q := 91) (v := 1) d_prog_146_method_2_90 rfl rfl ?_
  refine A28.iadd (q := 92) d_prog_146_method_2_91 rfl ?_
  refine Wp.top (v' := (.int 3)) rfl ?_
  refine A28.putF (qn := 95) (i := 0) (j := 0) (ty := .int) (tw hw 29 rfl) Via.refl (Or.inl (tw hw 30 rfl)) (tw hw 11 rfl) (by decide) rfl rfl d_prog_146_method_2_92 rfl rfl rfl rfl (fun T29 A30 => ?_)
  have A31 := A30.cast (k2 := 0) (n2 := 0) (os2 := [(a, ob0 (.int 3) (.int 0) (.int 0)), (b, .inr (.byte, [(.int w0), (.int w1), (.int w2), (.int w3), (.int w4)]))]) rfl rfl rfl
  refine A31.iinc (q := 98) (l' := #[.val (.ref a), .val (.ref b), .val (.int 0), .val (.int 3), .val (.int 3), .val (.int 3), .unset]) d_prog_146_method_2_95 rfl rfl rfl ?_
  refine A31.aloadN (q := 99) d_prog_146_method_2_98 rfl rfl rfl ?_
  refine A31.getF (qn := 102) (i := 0) (j := 0) (tw hw 29 rfl) Via.refl d_prog_146_method_2_99 rfl rfl rfl (fun T32 A33 => ?_)
  refine A33.iconst (q := 103) (v := 5) d_prog_146_method_2_102 rfl rfl ?_
  refine A33.icmpYes (q := 8) d_prog_146_method_2_103 (by decide) (by decide) (by decide) ?_
  refine A33.iload (q := 10) d_prog_146_method_2_8 rfl rfl ?_
  refine A33.iload (q := 12) d_prog_146_method_2_10 rfl rfl ?_
  refine A33.icmpYes (q := 127) d_prog_146_method_2_12 (by decide) (by decide) (by decide) ?_
  exact A33.retV d_prog_146_method_2_127 (by decide) (by decide) ⟨rfl, rfl⟩
theorem ef_m_p3_2 (m : MethodId) (x0 : Addr) (x1 : Addr) : entryFrame m #[(.ref x0), (.ref x1), (.int 3), (.int 2)] 7 = mkF m 0 #[.val (.ref x0), .val (.ref x1), .val (.int 3), .val (.int 2), .unset, .unset, .unset] [] := by first | (simp [entryFrame, mkF, argsToLocals, Value.category]; done) | rfl
set_option maxRecDepth 65536 in
set_option maxHeartbeats 40000000 in
theorem m_p3_2 (l : Launch) (Z : State) (a0 : Array Value) (hw : ∀ d ∈ tables_1, d.before a0 Z = true) (a : Addr) (b : Addr) (w0 : Int32) (w1 : Int32) (w2 : Int32) (w3 : Int32) (w4 : Int32) :
    Pays l Z a0 (⟨"com/example/wirecall/wirecall/Tls$Records", "passed", "([BII)V"⟩ : MethodName) prog_146_method_2_code 7 none ({ frames := 0, cells := 0, slots := 0, locals := 0 } : Room) #[(.ref a), (.ref b), (.int 3), (.int 2)] [(a, ob0 (.int 3) (.int 0) (.int 0)), (b, .inr (.byte, [(.int w0), (.int w1), (.int w2), (.int w3), (.int w4)]))] (([(a, ob0 (.int 3) (.int 0) (.int 0)), (b, .inr (.byte, [(.int w0), (.int w1), (.int w2), (.int w3), (.int w4)]))] : Hs).map (·.1)) (fun v os' => v = none ∧ os' = [(a, ob0 (.int 0) (.int (own_l w3 w4)) (.int 0)), (b, .inr (.byte, [(.int w0), (.int w1), (.int w2), (.int w3), (.int w4)]))]) := by
  refine Pays.of (Ls := #[.val (.ref a), .val (.ref b), .val (.int 3), .val (.int 2), .unset, .unset, .unset]) (plainFor_of_name pn_1) (fun m => ef_m_p3_2 m a b) ?_
  intro p e s m below meth c T0 A0
  refine A0.iloadN (q := 1) d_prog_146_method_2_0 rfl rfl ?_
  refine A0.istore (q := 3) (l' := #[.val (.ref a), .val (.ref b), .val (.int 3), .val (.int 2), .val (.int 3), .unset, .unset]) d_prog_146_method_2_1 rfl rfl ?_
  refine A0.iloadN (q := 4) d_prog_146_method_2_3 rfl rfl ?_
  refine A0.iloadN (q := 5) d_prog_146_method_2_4 rfl rfl ?_
  refine A0.iadd (q := 6) d_prog_146_method_2_5 rfl ?_
  refine Wp.top (v' := (.int 5)) rfl ?_
  refine A0.istore (q := 8) (l' := #[.val (.ref a), .val (.ref b), .val (.int 3), .val (.int 2), .val (.int 3), .val (.int 5), .unset]) d_prog_146_method_2_6 rfl rfl ?_
  refine A0.iload (q := 10) d_prog_146_method_2_8 rfl rfl ?_
  refine A0.iload (q := 12) d_prog_146_method_2_10 rfl rfl ?_
  refine A0.icmpNo (q := 15) d_prog_146_method_2_12 (by decide) rfl ?_
  refine A0.aloadN (q := 16) d_prog_146_method_2_15 rfl rfl rfl ?_
  refine A0.getF (qn := 19) (i := 0) (j := 1) (tw hw 31 rfl) Via.refl d_prog_146_method_2_16 rfl rfl rfl (fun T1 A2 => ?_)
  refine A2.ifYes (q := 57) d_prog_146_method_2_19 (by decide) (by decide) (by decide) ?_
  refine A2.aloadN (q := 58) d_prog_146_method_2_57 rfl rfl rfl ?_
  refine A2.getF (qn := 61) (i := 0) (j := 0) (tw hw 29 rfl) Via.refl d_prog_146_method_2_58 rfl rfl rfl (fun T3 A4 => ?_)
  refine A4.iconst (q := 62) (v := 3) d_prog_146_method_2_61 rfl rfl ?_
  refine A4.icmpNo (q := 65) d_prog_146_method_2_62 (by decide) rfl ?_
  refine A4.aloadN (q := 66) d_prog_146_method_2_65 rfl rfl rfl ?_
  refine A4.aloadN (q := 67) d_prog_146_method_2_66 rfl rfl rfl ?_
  refine A4.getF (qn := 70) (i := 0) (j := 2) (tw hw 33 rfl) Via.refl d_prog_146_method_2_67 rfl rfl rfl (fun T5 A6 => ?_)
  refine A6.bipush (q := 72) (v := 8) d_prog_146_method_2_70 rfl rfl ?_
  refine A6.ishl (q := 73) d_prog_146_method_2_72 rfl ?_
  refine A6.aloadN (q := 74) d_prog_146_method_2_73 rfl rfl rfl ?_
  refine A6.iload (q := 76) d_prog_146_method_2_74 rfl rfl ?_
  refine A6.ldB (qn := 77) (i := 1) d_prog_146_method_2_76 rfl (by decide) rfl rfl ?_
  refine A6.sipush (q := 80) (v := 255) d_prog_146_method_2_77 rfl rfl ?_
  refine A6.iand (q := 81) d_prog_146_method_2_80 rfl ?_
  refine A6.ior (q := 82) d_prog_146_method_2_81 rfl ?_
  refine A6.putF (qn := 85) (i := 0) (j := 2) (ty := .int) (tw hw 33 rfl) Via.refl (Or.inl (tw hw 34 rfl)) (tw hw 11 rfl) (by decide) rfl rfl d_prog_146_method_2_82 rfl rfl rfl rfl (fun T7 A8 => ?_)
  have A9 := A8.cast (k2 := 0) (n2 := 0) (os2 := [(a, ob0 (.int 3) (.int 0) (.int (((0 : Int32) <<< ((8 : Int32) &&& 31)) ||| (w3 &&& (255 : Int32))))), (b, .inr (.byte, [(.int w0), (.int w1), (.int w2), (.int w3), (.int w4)]))]) rfl rfl rfl
  refine A9.aloadN (q := 86) d_prog_146_method_2_85 rfl rfl rfl ?_
  refine A9.dup (q := 87) d_prog_146_method_2_86 rfl rfl ?_
  refine A9.getF (qn := 90) (i := 0) (j := 0) (tw hw 29 rfl) Via.refl d_prog_146_method_2_87 rfl rfl rfl (fun T10 A11 => ?_)
  refine A11.iconst (q := 91) (v := 1) d_prog_146_method_2_90 rfl rfl ?_
  refine A11.iadd (q := 92) d_prog_146_method_2_91 rfl ?_
  refine Wp.top (v' := (.int 4)) rfl ?_
  refine A11.putF (qn := 95) (i := 0) (j := 0) (ty := .int) (tw hw 29 rfl) Via.refl (Or.inl (tw hw 30 rfl)) (tw hw 11 rfl) (by decide) rfl rfl d_prog_146_method_2_92 rfl rfl rfl rfl (fun T12 A13 => ?_)
  have A14 := A13.cast (k2 := 0) (n2 := 0) (os2 := [(a, ob0 (.int 4) (.int 0) (.int (((0 : Int32) <<< ((8 : Int32) &&& 31)) ||| (w3 &&& (255 : Int32))))), (b, .inr (.byte, [(.int w0), (.int w1), (.int w2), (.int w3), (.int w4)]))]) rfl rfl rfl
  refine A14.iinc (q := 98) (l' := #[.val (.ref a), .val (.ref b), .val (.int 3), .val (.int 2), .val (.int 4), .val (.int 5), .unset]) d_prog_146_method_2_95 rfl rfl rfl ?_
  refine A14.aloadN (q := 99) d_prog_146_method_2_98 rfl rfl rfl ?_
  refine A14.getF (qn := 102) (i := 0) (j := 0) (tw hw 29 rfl) Via.refl d_prog_146_method_2_99 rfl rfl rfl (fun T15 A16 => ?_)
  refine A16.iconst (q := 103) (v := 5) d_prog_146_method_2_102 rfl rfl ?_
  refine A16.icmpYes (q := 8) d_prog_146_method_2_103 (by decide) (by decide) (by decide) ?_
  refine A16.iload (q := 10) d_prog_146_method_2_8 rfl rfl ?_
  refine A16.iload (q := 12) d_prog_146_method_2_10 rfl rfl ?_
  refine A16.icmpNo (q := 15) d_prog_146_method_2_12 (by decide) rfl ?_
  refine A16.aloadN (q := 16) d_prog_146_method_2_15 rfl rfl rfl ?_
  refine A16.getF (qn := 19) (i := 0) (j := 1) (tw hw 31 rfl) Via.refl d_prog_146_method_2_16 rfl rfl rfl (fun T17 A18 => ?_)
  refine A18.ifYes (q := 57) d_prog_146_method_2_19 (by decide) (by decide) (by decide) ?_
  refine A18.aloadN (q := 58) d_prog_146_method_2_57 rfl rfl rfl ?_
  refine A18.getF (qn := 61) (i := 0) (j := 0) (tw hw 29 rfl) Via.refl d_prog_146_method_2_58 rfl rfl rfl (fun T19 A20 => ?_)
  refine A20.iconst (q := 62) (v := 3) d_prog_146_method_2_61 rfl rfl ?_
  refine A20.icmpNo (q := 65) d_prog_146_method_2_62 (by decide) rfl ?_
  refine A20.aloadN (q := 66) d_prog_146_method_2_65 rfl rfl rfl ?_
  refine A20.aloadN (q := 67) d_prog_146_method_2_66 rfl rfl rfl ?_
  refine A20.getF (qn := 70) (i := 0) (j := 2) (tw hw 33 rfl) Via.refl d_prog_146_method_2_67 rfl rfl rfl (fun T21 A22 => ?_)
  refine A22.bipush (q := 72) (v := 8) d_prog_146_method_2_70 rfl rfl ?_
  refine A22.ishl (q := 73) d_prog_146_method_2_72 rfl ?_
  refine A22.aloadN (q := 74) d_prog_146_method_2_73 rfl rfl rfl ?_
  refine A22.iload (q := 76) d_prog_146_method_2_74 rfl rfl ?_
  refine A22.ldB (qn := 77) (i := 1) d_prog_146_method_2_76 rfl (by decide) rfl rfl ?_
  refine A22.sipush (q := 80) (v := 255) d_prog_146_method_2_77 rfl rfl ?_
  refine A22.iand (q := 81) d_prog_146_method_2_80 rfl ?_
  refine A22.ior (q := 82) d_prog_146_method_2_81 rfl ?_
  refine A22.putF (qn := 85) (i := 0) (j := 2) (ty := .int) (tw hw 33 rfl) Via.refl (Or.inl (tw hw 34 rfl)) (tw hw 11 rfl) (by decide) rfl rfl d_prog_146_method_2_82 rfl rfl rfl rfl (fun T23 A24 => ?_)
  have A25 := A24.cast (k2 := 0) (n2 := 0) (os2 := [(a, ob0 (.int 4) (.int 0) (.int (((((0 : Int32) <<< ((8 : Int32) &&& 31)) ||| (w3 &&& (255 : Int32))) <<< ((8 : Int32) &&& 31)) ||| (w4 &&& (255 : Int32))))), (b, .inr (.byte, [(.int w0), (.int w1), (.int w2), (.int w3), (.int w4)]))]) rfl rfl rfl
  refine A25.aloadN (q := 86) d_prog_146_method_2_85 rfl rfl rfl ?_
  refine A25.dup (q := 87) d_prog_146_method_2_86 rfl rfl ?_
  refine A25.getF (qn := 90) (i := 0) (j := 0) (tw hw 29 rfl) Via.refl d_prog_146_method_2_87 rfl rfl rfl (fun T26 A27 => ?_)
  refine A27.iconst (q := 91) (v := 1) d_prog_146_method_2_90 rfl rfl ?_
  refine A27.iadd (q := 92) d_prog_146_method_2_91 rfl ?_
  refine Wp.top (v' := (.int 5)) rfl ?_
  refine A27.putF (qn := 95) (i := 0) (j := 0) (ty := .int) (tw hw 29 rfl) Via.refl (Or.inl (tw hw 30 rfl)) (tw hw 11 rfl) (by decide) rfl rfl d_prog_146_method_2_92 rfl rfl rfl rfl (fun T28 A29 => ?_)
  have A30 := A29.cast (k2 := 0) (n2 := 0) (os2 := [(a, ob0 (.int 5) (.int 0) (.int (((((0 : Int32) <<< ((8 : Int32) &&& 31)) ||| (w3 &&& (255 : Int32))) <<< ((8 : Int32) &&& 31)) ||| (w4 &&& (255 : Int32))))), (b, .inr (.byte, [(.int w0), (.int w1), (.int w2), (.int w3), (.int w4)]))]) rfl rfl rfl
  refine A30.iinc (q := 98) (l' := #[.val (.ref a), .val (.ref b), .val (.int 3), .val (.int 2), .val (.int 5), .val (.int 5), .unset]) d_prog_146_method_2_95 rfl rfl rfl ?_
  refine A30.aloadN (q := 99) d_prog_146_method_2_98 rfl rfl rfl ?_
  refine A30.getF (qn := 102) (i := 0) (j := 0) (tw hw 29 rfl) Via.refl d_prog_146_method_2_99 rfl rfl rfl (fun T31 A32 => ?_)
  refine A32.iconst (q := 103) (v := 5) d_prog_146_method_2_102 rfl rfl ?_
  refine A32.icmpNo (q := 106) d_prog_146_method_2_103 (by decide) rfl ?_
  refine A32.aloadN (q := 107) d_prog_146_method_2_106 rfl rfl rfl ?_
  refine A32.aloadN (q := 108) d_prog_146_method_2_107 rfl rfl rfl ?_
  refine A32.getF (qn := 111) (i := 0) (j := 2) (tw hw 33 rfl) Via.refl d_prog_146_method_2_108 rfl rfl rfl (fun T33 A34 => ?_)
  refine A34.putF (qn := 114) (i := 0) (j := 1) (ty := .int) (tw hw 31 rfl) Via.refl (Or.inl (tw hw 32 rfl)) (tw hw 11 rfl) (by decide) rfl rfl d_prog_146_method_2_111 rfl rfl rfl rfl (fun T35 A36 => ?_)
  have A37 := A36.cast (k2 := 0) (n2 := 0) (os2 := [(a, ob0 (.int 5) (.int (((((0 : Int32) <<< ((8 : Int32) &&& 31)) ||| (w3 &&& (255 : Int32))) <<< ((8 : Int32) &&& 31)) ||| (w4 &&& (255 : Int32)))) (.int (((((0 : Int32) <<< ((8 : Int32) &&& 31)) ||| (w3 &&& (255 : Int32))) <<< ((8 : Int32) &&& 31)) ||| (w4 &&& (255 : Int32))))), (b, .inr (.byte, [(.int w0), (.int w1), (.int w2), (.int w3), (.int w4)]))]) rfl rfl rfl
  refine A37.aloadN (q := 115) d_prog_146_method_2_114 rfl rfl rfl ?_
  refine A37.iconst (q := 116) (v := 0) d_prog_146_method_2_115 rfl rfl ?_
  refine A37.putF (qn := 119) (i := 0) (j := 0) (ty := .int) (tw hw 29 rfl) Via.refl (Or.inl (tw hw 30 rfl)) (tw hw 11 rfl) (by decide) rfl rfl d_prog_146_method_2_116 rfl rfl rfl rfl (fun T38 A39 => ?_)
  have A40 := A39.cast (k2 := 0) (n2 := 0) (os2 := [(a, ob0 (.int 0) (.int (((((0 : Int32) <<< ((8 : Int32) &&& 31)) ||| (w3 &&& (255 : Int32))) <<< ((8 : Int32) &&& 31)) ||| (w4 &&& (255 : Int32)))) (.int (((((0 : Int32) <<< ((8 : Int32) &&& 31)) ||| (w3 &&& (255 : Int32))) <<< ((8 : Int32) &&& 31)) ||| (w4 &&& (255 : Int32))))), (b, .inr (.byte, [(.int w0), (.int w1), (.int w2), (.int w3), (.int w4)]))]) rfl rfl rfl
  refine A40.aloadN (q := 120) d_prog_146_method_2_119 rfl rfl rfl ?_
  refine A40.iconst (q := 121) (v := 0) d_prog_146_method_2_120 rfl rfl ?_
  refine A40.putF (qn := 124) (i := 0) (j := 2) (ty := .int) (tw hw 33 rfl) Via.refl (Or.inl (tw hw 34 rfl)) (tw hw 11 rfl) (by decide) rfl rfl d_prog_146_method_2_121 rfl rfl rfl rfl (fun T41 A42 => ?_)
  have A43 := A42.cast (k2 := 0) (n2 := 0) (os2 := [(a, ob0 (.int 0) (.int (((((0 : Int32) <<< ((8 : Int32) &&& 31)) ||| (w3 &&& (255 : Int32))) <<< ((8 : Int32) &&& 31)) ||| (w4 &&& (255 : Int32)))) (.int 0)), (b, .inr (.byte, [(.int w0), (.int w1), (.int w2), (.int w3), (.int w4)]))]) rfl rfl rfl
  refine A43.goto (q := 8) d_prog_146_method_2_124 (by decide) (by decide) ?_
  refine A43.iload (q := 10) d_prog_146_method_2_8 rfl rfl ?_
  refine A43.iload (q := 12) d_prog_146_method_2_10 rfl rfl ?_
  refine A43.icmpYes (q := 127) d_prog_146_method_2_12 (by decide) (by decide) (by decide) ?_
  exact A43.retV d_prog_146_method_2_127 (by decide) (by decide) ⟨rfl, rfl⟩
theorem ef_m_p0_4 (m : MethodId) (x0 : Addr) (x1 : Addr) : entryFrame m #[(.ref x0), (.ref x1), (.int 0), (.int 4)] 7 = mkF m 0 #[.val (.ref x0), .val (.ref x1), .val (.int 0), .val (.int 4), .unset, .unset, .unset] [] := by first | (simp [entryFrame, mkF, argsToLocals, Value.category]; done) | rfl
set_option maxRecDepth 65536 in
set_option maxHeartbeats 40000000 in
theorem m_p0_4 (l : Launch) (Z : State) (a0 : Array Value) (hw : ∀ d ∈ tables_1, d.before a0 Z = true) (a : Addr) (b : Addr) (w0 : Int32) (w1 : Int32) (w2 : Int32) (w3 : Int32) (w4 : Int32) :
    Pays l Z a0 (⟨"com/example/wirecall/wirecall/Tls$Records", "passed", "([BII)V"⟩ : MethodName) prog_146_method_2_code 7 none ({ frames := 0, cells := 0, slots := 0, locals := 0 } : Room) #[(.ref a), (.ref b), (.int 0), (.int 4)] [(a, ob0 (.int 0) (.int 0) (.int 0)), (b, .inr (.byte, [(.int w0), (.int w1), (.int w2), (.int w3), (.int w4)]))] (([(a, ob0 (.int 0) (.int 0) (.int 0)), (b, .inr (.byte, [(.int w0), (.int w1), (.int w2), (.int w3), (.int w4)]))] : Hs).map (·.1)) (fun v os' => v = none ∧ os' = [(a, ob0 (.int 4) (.int 0) (.int (own_fl w3))), (b, .inr (.byte, [(.int w0), (.int w1), (.int w2), (.int w3), (.int w4)]))]) := by
  refine Pays.of (Ls := #[.val (.ref a), .val (.ref b), .val (.int 0), .val (.int 4), .unset, .unset, .unset]) (plainFor_of_name pn_1) (fun m => ef_m_p0_4 m a b) ?_
  intro p e s m below meth c T0 A0
  refine A0.iloadN (q := 1) d_prog_146_method_2_0 rfl rfl ?_
  refine A0.istore (q := 3) (l' := #[.val (.ref a), .val (.ref b), .val (.int 0), .val (.int 4), .val (.int 0), .unset, .unset]) d_prog_146_method_2_1 rfl rfl ?_
  refine A0.iloadN (q := 4) d_prog_146_method_2_3 rfl rfl ?_
  refine A0.iloadN (q := 5) d_prog_146_method_2_4 rfl rfl ?_
  refine A0.iadd (q := 6) d_prog_146_method_2_5 rfl ?_
  refine Wp.top (v' := (.int 4)) rfl ?_
  refine A0.istore (q := 8) (l' := #[.val (.ref a), .val (.ref b), .val (.int 0), .val (.int 4), .val (.int 0), .val (.int 4), .unset]) d_prog_146_method_2_6 rfl rfl ?_
  refine A0.iload (q := 10) d_prog_146_method_2_8 rfl rfl ?_
  refine A0.iload (q := 12) d_prog_146_method_2_10 rfl rfl ?_
  refine A0.icmpNo (q := 15) d_prog_146_method_2_12 (by decide) rfl ?_
  refine A0.aloadN (q := 16) d_prog_146_method_2_15 rfl rfl rfl ?_
  refine A0.getF (qn := 19) (i := 0) (j := 1) (tw hw 31 rfl) Via.refl d_prog_146_method_2_16 rfl rfl rfl (fun T1 A2 => ?_)
  refine A2.ifYes (q := 57) d_prog_146_method_2_19 (by decide) (by decide) (by decide) ?_
  refine A2.aloadN (q := 58) d_prog_146_method_2_57 rfl rfl rfl ?_
  refine A2.getF (qn := 61) (i := 0) (j := 0) (tw hw 29 rfl) Via.refl d_prog_146_method_2_58 rfl rfl rfl (fun T3 A4 => ?_)
  refine A4.iconst (q := 62) (v := 3) d_prog_146_method_2_61 rfl rfl ?_
  refine A4.icmpYes (q := 85) d_prog_146_method_2_62 (by decide) (by decide) (by decide) ?_
  refine A4.aloadN (q := 86) d_prog_146_method_2_85 rfl rfl rfl ?_
  refine A4.dup (q := 87) d_prog_146_method_2_86 rfl rfl ?_
  refine A4.getF (qn := 90) (i := 0) (j := 0) (tw hw 29 rfl) Via.refl d_prog_146_method_2_87 rfl rfl rfl (fun T5 A6 => ?_)
  refine A6.iconst (q := 91) (v := 1) d_prog_146_method_2_90 rfl rfl ?_
  refine A6.iadd (q := 92) d_prog_146_method_2_91 rfl ?_
  refine Wp.top (v' := (.int 1)) rfl ?_
  refine A6.putF (qn := 95) (i := 0) (j := 0) (ty := .int) (tw hw 29 rfl) Via.refl (Or.inl (tw hw 30 rfl)) (tw hw 11 rfl) (by decide) rfl rfl d_prog_146_method_2_92 rfl rfl rfl rfl (fun T7 A8 => ?_)
  have A9 := A8.cast (k2 := 0) (n2 := 0) (os2 := [(a, ob0 (.int 1) (.int 0) (.int 0)), (b, .inr (.byte, [(.int w0), (.int w1), (.int w2), (.int w3), (.int w4)]))]) rfl rfl rfl
  refine A9.iinc (q := 98) (l' := #[.val (.ref a), .val (.ref b), .val (.int 0), .val (.int 4), .val (.int 1), .val (.int 4), .unset]) d_prog_146_method_2_95 rfl rfl rfl ?_
  refine A9.aloadN (q := 99) d_prog_146_method_2_98 rfl rfl rfl ?_
  refine A9.getF (qn := 102) (i := 0) (j := 0) (tw hw 29 rfl) Via.refl d_prog_146_method_2_99 rfl rfl rfl (fun T10 A11 => ?_)
  refine A11.iconst (q := 103) (v := 5) d_prog_146_method_2_102 rfl rfl ?_
  refine A11.icmpYes (q := 8) d_prog_146_method_2_103 (by decide) (by decide) (by decide) ?_
  refine A11.iload (q := 10) d_prog_146_method_2_8 rfl rfl ?_
  refine A11.iload (q := 12) d_prog_146_method_2_10 rfl rfl ?_
  refine A11.icmpNo (q := 15) d_prog_146_method_2_12 (by decide) rfl ?_
  refine A11.aloadN (q := 16) d_prog_146_method_2_15 rfl rfl rfl ?_
  refine A11.getF (qn := 19) (i := 0) (j := 1) (tw hw 31 rfl) Via.refl d_prog_146_method_2_16 rfl rfl rfl (fun T12 A13 => ?_)
  refine A13.ifYes (q := 57) d_prog_146_method_2_19 (by decide) (by decide) (by decide) ?_
  refine A13.aloadN (q := 58) d_prog_146_method_2_57 rfl rfl rfl ?_
  refine A13.getF (qn := 61) (i := 0) (j := 0) (tw hw 29 rfl) Via.refl d_prog_146_method_2_58 rfl rfl rfl (fun T14 A15 => ?_)
  refine A15.iconst (q := 62) (v := 3) d_prog_146_method_2_61 rfl rfl ?_
  refine A15.icmpYes (q := 85) d_prog_146_method_2_62 (by decide) (by decide) (by decide) ?_
  refine A15.aloadN (q := 86) d_prog_146_method_2_85 rfl rfl rfl ?_
  refine A15.dup (q := 87) d_prog_146_method_2_86 rfl rfl ?_
  refine A15.getF (qn := 90) (i := 0) (j := 0) (tw hw 29 rfl) Via.refl d_prog_146_method_2_87 rfl rfl rfl (fun T16 A17 => ?_)
  refine A17.iconst (q := 91) (v := 1) d_prog_146_method_2_90 rfl rfl ?_
  refine A17.iadd (q := 92) d_prog_146_method_2_91 rfl ?_
  refine Wp.top (v' := (.int 2)) rfl ?_
  refine A17.putF (qn := 95) (i := 0) (j := 0) (ty := .int) (tw hw 29 rfl) Via.refl (Or.inl (tw hw 30 rfl)) (tw hw 11 rfl) (by decide) rfl rfl d_prog_146_method_2_92 rfl rfl rfl rfl (fun T18 A19 => ?_)
  have A20 := A19.cast (k2 := 0) (n2 := 0) (os2 := [(a, ob0 (.int 2) (.int 0) (.int 0)), (b, .inr (.byte, [(.int w0), (.int w1), (.int w2), (.int w3), (.int w4)]))]) rfl rfl rfl
  refine A20.iinc (q := 98) (l' := #[.val (.ref a), .val (.ref b), .val (.int 0), .val (.int 4), .val (.int 2), .val (.int 4), .unset]) d_prog_146_method_2_95 rfl rfl rfl ?_
  refine A20.aloadN (q := 99) d_prog_146_method_2_98 rfl rfl rfl ?_
  refine A20.getF (qn := 102) (i := 0) (j := 0) (tw hw 29 rfl) Via.refl d_prog_146_method_2_99 rfl rfl rfl (fun T21 A22 => ?_)
  refine A22.iconst (q := 103) (v := 5) d_prog_146_method_2_102 rfl rfl ?_
  refine A22.icmpYes (q := 8) d_prog_146_method_2_103 (by decide) (by decide) (by decide) ?_
  refine A22.iload (q := 10) d_prog_146_method_2_8 rfl rfl ?_
  refine A22.iload (q := 12) d_prog_146_method_2_10 rfl rfl ?_
  refine A22.icmpNo (q := 15) d_prog_146_method_2_12 (by decide) rfl ?_
  refine A22.aloadN (q := 16) d_prog_146_method_2_15 rfl rfl rfl ?_
  refine A22.getF (qn := 19) (i := 0) (j := 1) (tw hw 31 rfl) Via.refl d_prog_146_method_2_16 rfl rfl rfl (fun T23 A24 => ?_)
  refine A24.ifYes (q := 57) d_prog_146_method_2_19 (by decide) (by decide) (by decide) ?_
  refine A24.aloadN (q := 58) d_prog_146_method_2_57 rfl rfl rfl ?_
  refine A24.getF (qn := 61) (i := 0) (j := 0) (tw hw 29 rfl) Via.refl d_prog_146_method_2_58 rfl rfl rfl (fun T25 A26 => ?_)
  refine A26.iconst (q := 62) (v := 3) d_prog_146_method_2_61 rfl rfl ?_
  refine A26.icmpYes (q := 85) d_prog_146_method_2_62 (by decide) (by decide) (by decide) ?_
  refine A26.aloadN (q := 86) d_prog_146_method_2_85 rfl rfl rfl ?_
  refine A26.dup (q := 87) d_prog_146_method_2_86 rfl rfl ?_
  refine A26.getF (qn := 90) (i := 0) (j := 0) (tw hw 29 rfl) Via.refl d_prog_146_method_2_87 rfl rfl rfl (fun T27 A28 => ?_)
  refine A28.iconst (q := 91) (v := 1) d_prog_146_method_2_90 rfl rfl ?_
  refine A28.iadd (q := 92) d_prog_146_method_2_91 rfl ?_
  refine Wp.top (v' := (.int 3)) rfl ?_
  refine A28.putF (qn := 95) (i := 0) (j := 0) (ty := .int) (tw hw 29 rfl) Via.refl (Or.inl (tw hw 30 rfl)) (tw hw 11 rfl) (by decide) rfl rfl d_prog_146_method_2_92 rfl rfl rfl rfl (fun T29 A30 => ?_)
  have A31 := A30.cast (k2 := 0) (n2 := 0) (os2 := [(a, ob0 (.int 3) (.int 0) (.int 0)), (b, .inr (.byte, [(.int w0), (.int w1), (.int w2), (.int w3), (.int w4)]))]) rfl rfl rfl
  refine A31.iinc (q := 98) (l' := #[.val (.ref a), .val (.ref b), .val (.int 0), .val (.int 4), .val (.int 3), .val (.int 4), .unset]) d_prog_146_method_2_95 rfl rfl rfl ?_
  refine A31.aloadN (q := 99) d_prog_146_method_2_98 rfl rfl rfl ?_
  refine A31.getF (qn := 102) (i := 0) (j := 0) (tw hw 29 rfl) Via.refl d_prog_146_method_2_99 rfl rfl rfl (fun T32 A33 => ?_)
  refine A33.iconst (q := 103) (v := 5) d_prog_146_method_2_102 rfl rfl ?_
  refine A33.icmpYes (q := 8) d_prog_146_method_2_103 (by decide) (by decide) (by decide) ?_
  refine A33.iload (q := 10) d_prog_146_method_2_8 rfl rfl ?_
  refine A33.iload (q := 12) d_prog_146_method_2_10 rfl rfl ?_
  refine A33.icmpNo (q := 15) d_prog_146_method_2_12 (by decide) rfl ?_
  refine A33.aloadN (q := 16) d_prog_146_method_2_15 rfl rfl rfl ?_
  refine A33.getF (qn := 19) (i := 0) (j := 1) (tw hw 31 rfl) Via.refl d_prog_146_method_2_16 rfl rfl rfl (fun T34 A35 => ?_)
  refine A35.ifYes (q := 57) d_prog_146_method_2_19 (by decide) (by decide) (by decide) ?_
  refine A35.aloadN (q := 58) d_prog_146_method_2_57 rfl rfl rfl ?_
  refine A35.getF (qn := 61) (i := 0) (j := 0) (tw hw 29 rfl) Via.refl d_prog_146_method_2_58 rfl rfl rfl (fun T36 A37 => ?_)
  refine A37.iconst (q := 62) (v := 3) d_prog_146_method_2_61 rfl rfl ?_
  refine A37.icmpNo (q := 65) d_prog_146_method_2_62 (by decide) rfl ?_
  refine A37.aloadN (q := 66) d_prog_146_method_2_65 rfl rfl rfl ?_
  refine A37.aloadN (q := 67) d_prog_146_method_2_66 rfl rfl rfl ?_
  refine A37.getF (qn := 70) (i := 0) (j := 2) (tw hw 33 rfl) Via.refl d_prog_146_method_2_67 rfl rfl rfl (fun T38 A39 => ?_)
  refine A39.bipush (q := 72) (v := 8) d_prog_146_method_2_70 rfl rfl ?_
  refine A39.ishl (q := 73) d_prog_146_method_2_72 rfl ?_
  refine A39.aloadN (q := 74) d_prog_146_method_2_73 rfl rfl rfl ?_
  refine A39.iload (q := 76) d_prog_146_method_2_74 rfl rfl ?_
  refine A39.ldB (qn := 77) (i := 1) d_prog_146_method_2_76 rfl (by decide) rfl rfl ?_
  refine A39.sipush (q := 80) (v := 255) d_prog_146_method_2_77 rfl rfl ?_
  refine A39.iand (q := 81) d_prog_146_method_2_80 rfl ?_
  refine A39.ior (q := 82) d_prog_146_method_2_81 rfl ?_
  refine A39.putF (qn := 85) (i := 0) (j := 2) (ty := .int) (tw hw 33 rfl) Via.refl (Or.inl (tw hw 34 rfl)) (tw hw 11 rfl) (by decide) rfl rfl d_prog_146_method_2_82 rfl rfl rfl rfl (fun T40 A41 => ?_)
  have A42 := A41.cast (k2 := 0) (n2 := 0) (os2 := [(a, ob0 (.int 3) (.int 0) (.int (((0 : Int32) <<< ((8 : Int32) &&& 31)) ||| (w3 &&& (255 : Int32))))), (b, .inr (.byte, [(.int w0), (.int w1), (.int w2), (.int w3), (.int w4)]))]) rfl rfl rfl
  refine A42.aloadN (q := 86) d_prog_146_method_2_85 rfl rfl rfl ?_
  refine A42.dup (q := 87) d_prog_146_method_2_86 rfl rfl ?_
  refine A42.getF (qn := 90) (i := 0) (j := 0) (tw hw 29 rfl) Via.refl d_prog_146_method_2_87 rfl rfl rfl (fun T43 A44 => ?_)
  refine A44.iconst (q := 91) (v := 1) d_prog_146_method_2_90 rfl rfl ?_
  refine A44.iadd (q := 92) d_prog_146_method_2_91 rfl ?_
  refine Wp.top (v' := (.int 4)) rfl ?_
  refine A44.putF (qn := 95) (i := 0) (j := 0) (ty := .int) (tw hw 29 rfl) Via.refl (Or.inl (tw hw 30 rfl)) (tw hw 11 rfl) (by decide) rfl rfl d_prog_146_method_2_92 rfl rfl rfl rfl (fun T45 A46 => ?_)
  have A47 := A46.cast (k2 := 0) (n2 := 0) (os2 := [(a, ob0 (.int 4) (.int 0) (.int (((0 : Int32) <<< ((8 : Int32) &&& 31)) ||| (w3 &&& (255 : Int32))))), (b, .inr (.byte, [(.int w0), (.int w1), (.int w2), (.int w3), (.int w4)]))]) rfl rfl rfl
  refine A47.iinc (q := 98) (l' := #[.val (.ref a), .val (.ref b), .val (.int 0), .val (.int 4), .val (.int 4), .val (.int 4), .unset]) d_prog_146_method_2_95 rfl rfl rfl ?_
  refine A47.aloadN (q := 99) d_prog_146_method_2_98 rfl rfl rfl ?_
  refine A47.getF (qn := 102) (i := 0) (j := 0) (tw hw 29 rfl) Via.refl d_prog_146_method_2_99 rfl rfl rfl (fun T48 A49 => ?_)
  refine A49.iconst (q := 103) (v := 5) d_prog_146_method_2_102 rfl rfl ?_
  refine A49.icmpYes (q := 8) d_prog_146_method_2_103 (by decide) (by decide) (by decide) ?_
  refine A49.iload (q := 10) d_prog_146_method_2_8 rfl rfl ?_
  refine A49.iload (q := 12) d_prog_146_method_2_10 rfl rfl ?_
  refine A49.icmpYes (q := 127) d_prog_146_method_2_12 (by decide) (by decide) (by decide) ?_
  exact A49.retV d_prog_146_method_2_127 (by decide) (by decide) ⟨rfl, rfl⟩
theorem ef_m_p4_1 (m : MethodId) (x0 : Addr) (x1 : Addr) : entryFrame m #[(.ref x0), (.ref x1), (.int 4), (.int 1)] 7 = mkF m 0 #[.val (.ref x0), .val (.ref x1), .val (.int 4), .val (.int 1), .unset, .unset, .unset] [] := by first | (simp [entryFrame, mkF, argsToLocals, Value.category]; done) | rfl
set_option maxRecDepth 65536 in
set_option maxHeartbeats 40000000 in
theorem m_p4_1 (l : Launch) (Z : State) (a0 : Array Value) (hw : ∀ d ∈ tables_1, d.before a0 Z = true) (a : Addr) (b : Addr) (w0 : Int32) (w1 : Int32) (w2 : Int32) (w3 : Int32) (w4 : Int32) :
    Pays l Z a0 (⟨"com/example/wirecall/wirecall/Tls$Records", "passed", "([BII)V"⟩ : MethodName) prog_146_method_2_code 7 none ({ frames := 0, cells := 0, slots := 0, locals := 0 } : Room) #[(.ref a), (.ref b), (.int 4), (.int 1)] [(a, ob0 (.int 4) (.int 0) (.int (own_fl w3))), (b, .inr (.byte, [(.int w0), (.int w1), (.int w2), (.int w3), (.int w4)]))] (([(a, ob0 (.int 4) (.int 0) (.int (own_fl w3))), (b, .inr (.byte, [(.int w0), (.int w1), (.int w2), (.int w3), (.int w4)]))] : Hs).map (·.1)) (fun v os' => v = none ∧ os' = [(a, ob0 (.int 0) (.int (own_l w3 w4)) (.int 0)), (b, .inr (.byte, [(.int w0), (.int w1), (.int w2), (.int w3), (.int w4)]))]) := by
  refine Pays.of (Ls := #[.val (.ref a), .val (.ref b), .val (.int 4), .val (.int 1), .unset, .unset, .unset]) (plainFor_of_name pn_1) (fun m => ef_m_p4_1 m a b) ?_
  intro p e s m below meth c T0 A0
  refine A0.iloadN (q := 1) d_prog_146_method_2_0 rfl rfl ?_
  refine A0.istore (q := 3) (l' := #[.val (.ref a), .val (.ref b), .val (.int 4), .val (.int 1), .val (.int 4), .unset, .unset]) d_prog_146_method_2_1 rfl rfl ?_
  refine A0.iloadN (q := 4) d_prog_146_method_2_3 rfl rfl ?_
  refine A0.iloadN (q := 5) d_prog_146_method_2_4 rfl rfl ?_
  refine A0.iadd (q := 6) d_prog_146_method_2_5 rfl ?_
  refine Wp.top (v' := (.int 5)) rfl ?_
  refine A0.istore (q := 8) (l' := #[.val (.ref a), .val (.ref b), .val (.int 4), .val (.int 1), .val (.int 4), .val (.int 5), .unset]) d_prog_146_method_2_6 rfl rfl ?_
  refine A0.iload (q := 10) d_prog_146_method_2_8 rfl rfl ?_
  refine A0.iload (q := 12) d_prog_146_method_2_10 rfl rfl ?_
  refine A0.icmpNo (q := 15) d_prog_146_method_2_12 (by decide) rfl ?_
  refine A0.aloadN (q := 16) d_prog_146_method_2_15 rfl rfl rfl ?_
  refine A0.getF (qn := 19) (i := 0) (j := 1) (tw hw 31 rfl) Via.refl d_prog_146_method_2_16 rfl rfl rfl (fun T1 A2 => ?_)
  refine A2.ifYes (q := 57) d_prog_146_method_2_19 (by decide) (by decide) (by decide) ?_
  refine A2.aloadN (q := 58) d_prog_146_method_2_57 rfl rfl rfl ?_
  refine A2.getF (qn := 61) (i := 0) (j := 0) (tw hw 29 rfl) Via.refl d_prog_146_method_2_58 rfl rfl rfl (fun T3 A4 => ?_)
  refine A4.iconst (q := 62) (v := 3) d_prog_146_method_2_61 rfl rfl ?_
  refine A4.icmpNo (q := 65) d_prog_146_method_2_62 (by decide) rfl ?_
  refine A4.aloadN (q := 66) d_prog_146_method_2_65 rfl rfl rfl ?_
  refine A4.aloadN (q := 67) d_prog_146_method_2_66 rfl rfl rfl ?_
  refine A4.getF (qn := 70) (i := 0) (j := 2) (tw hw 33 rfl) Via.refl d_prog_146_method_2_67 rfl rfl rfl (fun T5 A6 => ?_)
  refine A6.bipush (q := 72) (v := 8) d_prog_146_method_2_70 rfl rfl ?_
  refine A6.ishl (q := 73) d_prog_146_method_2_72 rfl ?_
  refine A6.aloadN (q := 74) d_prog_146_method_2_73 rfl rfl rfl ?_
  refine A6.iload (q := 76) d_prog_146_method_2_74 rfl rfl ?_
  refine A6.ldB (qn := 77) (i := 1) d_prog_146_method_2_76 rfl (by decide) rfl rfl ?_
  refine A6.sipush (q := 80) (v := 255) d_prog_146_method_2_77 rfl rfl ?_
  refine A6.iand (q := 81) d_prog_146_method_2_80 rfl ?_
  refine A6.ior (q := 82) d_prog_146_method_2_81 rfl ?_
  refine A6.putF (qn := 85) (i := 0) (j := 2) (ty := .int) (tw hw 33 rfl) Via.refl (Or.inl (tw hw 34 rfl)) (tw hw 11 rfl) (by decide) rfl rfl d_prog_146_method_2_82 rfl rfl rfl rfl (fun T7 A8 => ?_)
  have A9 := A8.cast (k2 := 0) (n2 := 0) (os2 := [(a, ob0 (.int 4) (.int 0) (.int (((own_fl w3) <<< ((8 : Int32) &&& 31)) ||| (w4 &&& (255 : Int32))))), (b, .inr (.byte, [(.int w0), (.int w1), (.int w2), (.int w3), (.int w4)]))]) rfl rfl rfl
  refine A9.aloadN (q := 86) d_prog_146_method_2_85 rfl rfl rfl ?_
  refine A9.dup (q := 87) d_prog_146_method_2_86 rfl rfl ?_
  refine A9.getF (qn := 90) (i := 0) (j := 0) (tw hw 29 rfl) Via.refl d_prog_146_method_2_87 rfl rfl rfl (fun T10 A11 => ?_)
  refine A11.iconst (q := 91) (v := 1) d_prog_146_method_2_90 rfl rfl ?_
  refine A11.iadd (q := 92) d_prog_146_method_2_91 rfl ?_
  refine Wp.top (v' := (.int 5)) rfl ?_
  refine A11.putF (qn := 95) (i := 0) (j := 0) (ty := .int) (tw hw 29 rfl) Via.refl (Or.inl (tw hw 30 rfl)) (tw hw 11 rfl) (by decide) rfl rfl d_prog_146_method_2_92 rfl rfl rfl rfl (fun T12 A13 => ?_)
  have A14 := A13.cast (k2 := 0) (n2 := 0) (os2 := [(a, ob0 (.int 5) (.int 0) (.int (((own_fl w3) <<< ((8 : Int32) &&& 31)) ||| (w4 &&& (255 : Int32))))), (b, .inr (.byte, [(.int w0), (.int w1), (.int w2), (.int w3), (.int w4)]))]) rfl rfl rfl
  refine A14.iinc (q := 98) (l' := #[.val (.ref a), .val (.ref b), .val (.int 4), .val (.int 1), .val (.int 5), .val (.int 5), .unset]) d_prog_146_method_2_95 rfl rfl rfl ?_
  refine A14.aloadN (q := 99) d_prog_146_method_2_98 rfl rfl rfl ?_
  refine A14.getF (qn := 102) (i := 0) (j := 0) (tw hw 29 rfl) Via.refl d_prog_146_method_2_99 rfl rfl rfl (fun T15 A16 => ?_)
  refine A16.iconst (q := 103) (v := 5) d_prog_146_method_2_102 rfl rfl ?_
  refine A16.icmpNo (q := 106) d_prog_146_method_2_103 (by decide) rfl ?_
  refine A16.aloadN (q := 107) d_prog_146_method_2_106 rfl rfl rfl ?_
  refine A16.aloadN (q := 108) d_prog_146_method_2_107 rfl rfl rfl ?_
  refine A16.getF (qn := 111) (i := 0) (j := 2) (tw hw 33 rfl) Via.refl d_prog_146_method_2_108 rfl rfl rfl (fun T17 A18 => ?_)
  refine A18.putF (qn := 114) (i := 0) (j := 1) (ty := .int) (tw hw 31 rfl) Via.refl (Or.inl (tw hw 32 rfl)) (tw hw 11 rfl) (by decide) rfl rfl d_prog_146_method_2_111 rfl rfl rfl rfl (fun T19 A20 => ?_)
  have A21 := A20.cast (k2 := 0) (n2 := 0) (os2 := [(a, ob0 (.int 5) (.int (((own_fl w3) <<< ((8 : Int32) &&& 31)) ||| (w4 &&& (255 : Int32)))) (.int (((own_fl w3) <<< ((8 : Int32) &&& 31)) ||| (w4 &&& (255 : Int32))))), (b, .inr (.byte, [(.int w0), (.int w1), (.int w2), (.int w3), (.int w4)]))]) rfl rfl rfl
  refine A21.aloadN (q := 115) d_prog_146_method_2_114 rfl rfl rfl ?_
  refine A21.iconst (q := 116) (v := 0) d_prog_146_method_2_115 rfl rfl ?_
  refine A21.putF (qn := 119) (i := 0) (j := 0) (ty := .int) (tw hw 29 rfl) Via.refl (Or.inl (tw hw 30 rfl)) (tw hw 11 rfl) (by decide) rfl rfl d_prog_146_method_2_116 rfl rfl rfl rfl (fun T22 A23 => ?_)
  have A24 := A23.cast (k2 := 0) (n2 := 0) (os2 := [(a, ob0 (.int 0) (.int (((own_fl w3) <<< ((8 : Int32) &&& 31)) ||| (w4 &&& (255 : Int32)))) (.int (((own_fl w3) <<< ((8 : Int32) &&& 31)) ||| (w4 &&& (255 : Int32))))), (b, .inr (.byte, [(.int w0), (.int w1), (.int w2), (.int w3), (.int w4)]))]) rfl rfl rfl
  refine A24.aloadN (q := 120) d_prog_146_method_2_119 rfl rfl rfl ?_
  refine A24.iconst (q := 121) (v := 0) d_prog_146_method_2_120 rfl rfl ?_
  refine A24.putF (qn := 124) (i := 0) (j := 2) (ty := .int) (tw hw 33 rfl) Via.refl (Or.inl (tw hw 34 rfl)) (tw hw 11 rfl) (by decide) rfl rfl d_prog_146_method_2_121 rfl rfl rfl rfl (fun T25 A26 => ?_)
  have A27 := A26.cast (k2 := 0) (n2 := 0) (os2 := [(a, ob0 (.int 0) (.int (((own_fl w3) <<< ((8 : Int32) &&& 31)) ||| (w4 &&& (255 : Int32)))) (.int 0)), (b, .inr (.byte, [(.int w0), (.int w1), (.int w2), (.int w3), (.int w4)]))]) rfl rfl rfl
  refine A27.goto (q := 8) d_prog_146_method_2_124 (by decide) (by decide) ?_
  refine A27.iload (q := 10) d_prog_146_method_2_8 rfl rfl ?_
  refine A27.iload (q := 12) d_prog_146_method_2_10 rfl rfl ?_
  refine A27.icmpYes (q := 127) d_prog_146_method_2_12 (by decide) (by decide) (by decide) ?_
  exact A27.retV d_prog_146_method_2_127 (by decide) (by decide) ⟨rfl, rfl⟩
theorem ef_m_p5_0 (m : MethodId) (x0 : Addr) (x1 : Addr) : entryFrame m #[(.ref x0), (.ref x1), (.int 5), (.int 0)] 7 = mkF m 0 #[.val (.ref x0), .val (.ref x1), .val (.int 5), .val (.int 0), .unset, .unset, .unset] [] := by first | (simp [entryFrame, mkF, argsToLocals, Value.category]; done) | rfl
set_option maxRecDepth 65536 in
set_option maxHeartbeats 40000000 in
theorem m_p5_0 (l : Launch) (Z : State) (a0 : Array Value) (hw : ∀ d ∈ tables_1, d.before a0 Z = true) (a : Addr) (b : Addr) (w0 : Int32) (w1 : Int32) (w2 : Int32) (w3 : Int32) (w4 : Int32) :
    Pays l Z a0 (⟨"com/example/wirecall/wirecall/Tls$Records", "passed", "([BII)V"⟩ : MethodName) prog_146_method_2_code 7 none ({ frames := 0, cells := 0, slots := 0, locals := 0 } : Room) #[(.ref a), (.ref b), (.int 5), (.int 0)] [(a, ob0 (.int 0) (.int (own_l w3 w4)) (.int 0)), (b, .inr (.byte, [(.int w0), (.int w1), (.int w2), (.int w3), (.int w4)]))] (([(a, ob0 (.int 0) (.int (own_l w3 w4)) (.int 0)), (b, .inr (.byte, [(.int w0), (.int w1), (.int w2), (.int w3), (.int w4)]))] : Hs).map (·.1)) (fun v os' => v = none ∧ os' = [(a, ob0 (.int 0) (.int (own_l w3 w4)) (.int 0)), (b, .inr (.byte, [(.int w0), (.int w1), (.int w2), (.int w3), (.int w4)]))]) := by
  refine Pays.of (Ls := #[.val (.ref a), .val (.ref b), .val (.int 5), .val (.int 0), .unset, .unset, .unset]) (plainFor_of_name pn_1) (fun m => ef_m_p5_0 m a b) ?_
  intro p e s m below meth c T0 A0
  refine A0.iloadN (q := 1) d_prog_146_method_2_0 rfl rfl ?_
  refine A0.istore (q := 3) (l' := #[.val (.ref a), .val (.ref b), .val (.int 5), .val (.int 0), .val (.int 5), .unset, .unset]) d_prog_146_method_2_1 rfl rfl ?_
  refine A0.iloadN (q := 4) d_prog_146_method_2_3 rfl rfl ?_
  refine A0.iloadN (q := 5) d_prog_146_method_2_4 rfl rfl ?_
  refine A0.iadd (q := 6) d_prog_146_method_2_5 rfl ?_
  refine Wp.top (v' := (.int 5)) rfl ?_
  refine A0.istore (q := 8) (l' := #[.val (.ref a), .val (.ref b), .val (.int 5), .val (.int 0), .val (.int 5), .val (.int 5), .unset]) d_prog_146_method_2_6 rfl rfl ?_
  refine A0.iload (q := 10) d_prog_146_method_2_8 rfl rfl ?_
  refine A0.iload (q := 12) d_prog_146_method_2_10 rfl rfl ?_
  refine A0.icmpYes (q := 127) d_prog_146_method_2_12 (by decide) (by decide) (by decide) ?_
  exact A0.retV d_prog_146_method_2_127 (by decide) (by decide) ⟨rfl, rfl⟩
theorem d_prog_146_method_2_22 : decode prog_146_method_2_code 22 = .ok (.aload_n 0, 1) := by decide +kernel
theorem d_prog_146_method_2_23 : decode prog_146_method_2_code 23 = .ok (.getfield 7, 3) := by decide +kernel
theorem d_prog_146_method_2_26 : decode prog_146_method_2_code 26 = .ok (.iload 5, 2) := by decide +kernel
theorem d_prog_146_method_2_28 : decode prog_146_method_2_code 28 = .ok (.iload 4, 2) := by decide +kernel
theorem d_prog_146_method_2_30 : decode prog_146_method_2_code 30 = .ok (.isub, 1) := by decide +kernel
theorem d_prog_146_method_2_31 : decode prog_146_method_2_code 31 = .ok (.invokestatic 13, 3) := by decide +kernel
theorem pd_2 : parseMethodDescriptor "(II)I" = some ⟨[.int, .int], some .int⟩ := by decide +kernel
theorem d_prog_146_method_2_34 : decode prog_146_method_2_code 34 = .ok (.istore 6, 2) := by decide +kernel
theorem d_prog_146_method_2_36 : decode prog_146_method_2_code 36 = .ok (.aload_n 0, 1) := by decide +kernel
theorem d_prog_146_method_2_37 : decode prog_146_method_2_code 37 = .ok (.dup, 1) := by decide +kernel
theorem d_prog_146_method_2_38 : decode prog_146_method_2_code 38 = .ok (.getfield 7, 3) := by decide +kernel
theorem d_prog_146_method_2_41 : decode prog_146_method_2_code 41 = .ok (.iload 6, 2) := by decide +kernel
theorem d_prog_146_method_2_43 : decode prog_146_method_2_code 43 = .ok (.isub, 1) := by decide +kernel
theorem d_prog_146_method_2_44 : decode prog_146_method_2_code 44 = .ok (.putfield 7, 3) := by decide +kernel
theorem d_prog_146_method_2_47 : decode prog_146_method_2_code 47 = .ok (.iload 4, 2) := by decide +kernel
theorem d_prog_146_method_2_49 : decode prog_146_method_2_code 49 = .ok (.iload 6, 2) := by decide +kernel
theorem d_prog_146_method_2_51 : decode prog_146_method_2_code 51 = .ok (.iadd, 1) := by decide +kernel
theorem d_prog_146_method_2_52 : decode prog_146_method_2_code 52 = .ok (.istore 4, 2) := by decide +kernel
theorem d_prog_146_method_2_54 : decode prog_146_method_2_code 54 = .ok (.goto (-46), 3) := by decide +kernel
theorem ef_m_frag (m : MethodId) (x0 : Addr) (x1 : Addr) (x3 : Int32) : entryFrame m #[(.ref x0), (.ref x1), (.int 0), (.int x3)] 7 = mkF m 0 #[.val (.ref x0), .val (.ref x1), .val (.int 0), .val (.int x3), .unset, .unset, .unset] [] := by first | (simp [entryFrame, mkF, argsToLocals, Value.category]; done) | rfl
set_option maxRecDepth 65536 in
set_option maxHeartbeats 40000000 in
theorem m_frag (l : Launch) (Z : State) (a0 : Array Value) (hw : ∀ d ∈ tables_1, d.before a0 Z = true) (a : Addr) (b : Addr) (n : Int32) (f0 : Int32) (hn0 : 0 ≤ n.toInt) (hn1 : n.toInt ≤ f0.toInt) :
    Pays l Z a0 (⟨"com/example/wirecall/wirecall/Tls$Records", "passed", "([BII)V"⟩ : MethodName) prog_146_method_2_code 7 none ({ frames := 1, cells := 0, slots := 0, locals := 13 } : Room) #[(.ref a), (.ref b), (.int 0), (.int n)] [(a, ob0 (.int 0) (.int f0) (.int 0))] (([(a, ob0 (.int 0) (.int f0) (.int 0))] : Hs).map (·.1)) (fun v os' => ∃ (f1 : Int32), v = none ∧ os' = [(a, ob0 (.int 0) (.int f1) (.int 0))] ∧ f1.toInt = f0.toInt - n.toInt) := by
  refine Pays.of (Ls := #[.val (.ref a), .val (.ref b), .val (.int 0), .val (.int n), .unset, .unset, .unset]) (plainFor_of_name pn_1) (fun m => ef_m_frag m a b n) ?_
  intro p e s m below meth c T0 A0
  refine A0.iloadN (q := 1) d_prog_146_method_2_0 rfl rfl ?_
  refine A0.istore (q := 3) (l' := #[.val (.ref a), .val (.ref b), .val (.int 0), .val (.int n), .val (.int 0), .unset, .unset]) d_prog_146_method_2_1 rfl rfl ?_
  refine A0.iloadN (q := 4) d_prog_146_method_2_3 rfl rfl ?_
  refine A0.iloadN (q := 5) d_prog_146_method_2_4 rfl rfl ?_
  refine A0.iadd (q := 6) d_prog_146_method_2_5 rfl ?_
  refine A0.istore (q := 8) (l' := #[.val (.ref a), .val (.ref b), .val (.int 0), .val (.int n), .val (.int 0), .val (.int ((0 : Int32) + n)), .unset]) d_prog_146_method_2_6 rfl rfl ?_
  refine A0.iload (q := 10) d_prog_146_method_2_8 rfl rfl ?_
  refine A0.iload (q := 12) d_prog_146_method_2_10 rfl rfl ?_
  by_cases hc12_1 : (0 : Int32) < ((0 : Int32) + n)
  · refine A0.icmpNo (q := 15) d_prog_146_method_2_12 (tlt hc12_1).2.1 rfl ?_
    refine A0.aloadN (q := 16) d_prog_146_method_2_15 rfl rfl rfl ?_
    refine A0.getF (qn := 19) (i := 0) (j := 1) (tw hw 31 rfl) Via.refl d_prog_146_method_2_16 rfl rfl rfl (fun T2 A3 => ?_)
    have hc19_4 : (0 : Int32) < f0 := by
      clear hw A0 A3
      have b0 := n.toInt_lt
      have b1 := f0.toInt_lt
      (try simp only [true_and, and_true, false_and, and_false, true_or, or_true, false_or, or_false, not_true_eq_false, not_false_eq_true, Int32.lt_iff_toInt_lt, Int64.lt_iff_toInt_lt, Int32.le_iff_toInt_le, Int64.le_iff_toInt_le, ← Int32.toInt_inj, ← Int64.toInt_inj, Int32.toInt_add, Int32.toInt_sub, Int32.toInt_neg, Int64.toInt_add, Int64.toInt_sub, Int64.toInt_neg, Int64.toInt_mul, Int32.toInt_toInt64, bm32, bm64, l32_0, l32_1, l32_2, l32_3, l32_4, l32_5, l32_6, l32_2147483647] at hc12_1 hn0 hn1 ⊢) <;> omega
    refine A3.ifNo (q := 22) d_prog_146_method_2_19 ((if0 _ _).trans (tlt hc19_4).2.2.2) rfl ?_
    refine A3.aloadN (q := 23) d_prog_146_method_2_22 rfl rfl rfl ?_
    refine A3.getF (qn := 26) (i := 0) (j := 1) (tw hw 31 rfl) Via.refl d_prog_146_method_2_23 rfl rfl rfl (fun T5 A6 => ?_)
    refine A6.iload (q := 28) d_prog_146_method_2_26 rfl rfl ?_
    refine A6.iload (q := 30) d_prog_146_method_2_28 rfl rfl ?_
    refine A6.isub (q := 31) d_prog_146_method_2_30 rfl ?_
    refine Here.callS (qn := 34) (os1 := [(a, ob0 (.int 0) (.int f0) (.int 0))]) (os2 := []) (rest := []) (W := 0) (argsL := [(.int f0), (.int (((0 : Int32) + n) - (0 : Int32)))]) A6 (m_min l Z a0 hw f0 ((((0 : Int32) + n) - (0 : Int32)))) (Or.inl rfl) (tw hw 35 rfl) (tw hw 36 rfl) (tw hw 37 rfl) (tw hw 38 rfl) (by decide) d_prog_146_method_2_31 rfl (lenOf pd_2 rfl) rfl (Nat.le_of_eq rfl) (by decide) (by decide) (by decide) (by decide) rfl (fun T7 v8 os9 A10 P11 => ?_)
    obtain ⟨r_31, rfl, rfl, hq_31⟩ := P11
    have A12 := A10.cast (k2 := 0) (n2 := 0) (os2 := [(a, ob0 (.int 0) (.int f0) (.int 0))]) rfl rfl rfl
    refine A12.istore (q := 36) (l' := #[.val (.ref a), .val (.ref b), .val (.int 0), .val (.int n), .val (.int 0), .val (.int ((0 : Int32) + n)), .val (.int r_31)]) d_prog_146_method_2_34 rfl rfl ?_
    refine A12.aloadN (q := 37) d_prog_146_method_2_36 rfl rfl rfl ?_
    refine A12.dup (q := 38) d_prog_146_method_2_37 rfl rfl ?_
    refine A12.getF (qn := 41) (i := 0) (j := 1) (tw hw 31 rfl) Via.refl d_prog_146_method_2_38 rfl rfl rfl (fun T13 A14 => ?_)
    refine A14.iload (q := 43) d_prog_146_method_2_41 rfl rfl ?_
    refine A14.isub (q := 44) d_prog_146_method_2_43 rfl ?_
    refine A14.putF (qn := 47) (i := 0) (j := 1) (ty := .int) (tw hw 31 rfl) Via.refl (Or.inl (tw hw 32 rfl)) (tw hw 11 rfl) (by decide) rfl rfl d_prog_146_method_2_44 rfl rfl rfl rfl (fun T15 A16 => ?_)
    have A17 := A16.cast (k2 := 0) (n2 := 0) (os2 := [(a, ob0 (.int 0) (.int (f0 - r_31)) (.int 0))]) rfl rfl rfl
    refine A17.iload (q := 49) d_prog_146_method_2_47 rfl rfl ?_
    refine A17.iload (q := 51) d_prog_146_method_2_49 rfl rfl ?_
    refine A17.iadd (q := 52) d_prog_146_method_2_51 rfl ?_
    refine A17.istore (q := 54) (l' := #[.val (.ref a), .val (.ref b), .val (.int 0), .val (.int n), .val (.int ((0 : Int32) + r_31)), .val (.int ((0 : Int32) + n)), .val (.int r_31)]) d_prog_146_method_2_52 rfl rfl ?_
    refine A17.goto (q := 8) d_prog_146_method_2_54 (by decide) (by decide) ?_
    refine A17.iload (q := 10) d_prog_146_method_2_8 rfl rfl ?_
    refine A17.iload (q := 12) d_prog_146_method_2_10 rfl rfl ?_
    have hc12_18 : ¬ (((0 : Int32) + r_31) < ((0 : Int32) + n)) := by
      clear hw A0 A3 A6 A10 A12 A14 A16 A17
      have b0 := n.toInt_lt
      have b1 := f0.toInt_lt
      (try simp only [true_and, and_true, false_and, and_false, true_or, or_true, false_or, or_false, not_true_eq_false, not_false_eq_true, Int32.lt_iff_toInt_lt, Int64.lt_iff_toInt_lt, Int32.le_iff_toInt_le, Int64.le_iff_toInt_le, ← Int32.toInt_inj, ← Int64.toInt_inj, Int32.toInt_add, Int32.toInt_sub, Int32.toInt_neg, Int64.toInt_add, Int64.toInt_sub, Int64.toInt_neg, Int64.toInt_mul, Int32.toInt_toInt64, bm32, bm64, l32_0, l32_1, l32_2, l32_3, l32_4, l32_5, l32_6, l32_2147483647] at hc12_1 hc19_4 hq_31 hn0 hn1 ⊢) <;> omega
    refine A17.icmpYes (q := 127) d_prog_146_method_2_12 (flt hc12_18).2.1 (by decide) (by decide) ?_
    refine A17.retV d_prog_146_method_2_127 (by decide) (by decide) ⟨(f0 - r_31), rfl, rfl, ?_⟩
    clear hw A0 A3 A6 A10 A12 A14 A16 A17
    have b0 := n.toInt_lt
    have b1 := f0.toInt_lt
    (try simp only [true_and, and_true, false_and, and_false, true_or, or_true, false_or, or_false, not_true_eq_false, not_false_eq_true, Int32.lt_iff_toInt_lt, Int64.lt_iff_toInt_lt, Int32.le_iff_toInt_le, Int64.le_iff_toInt_le, ← Int32.toInt_inj, ← Int64.toInt_inj, Int32.toInt_add, Int32.toInt_sub, Int32.toInt_neg, Int64.toInt_add, Int64.toInt_sub, Int64.toInt_neg, Int64.toInt_mul, Int32.toInt_toInt64, bm32, bm64, l32_0, l32_1, l32_2, l32_3, l32_4, l32_5, l32_6, l32_2147483647] at hc12_1 hc19_4 hq_31 hc12_18 hn0 hn1 ⊢) <;> omega
  · refine A0.icmpYes (q := 127) d_prog_146_method_2_12 (flt hc12_1).2.1 (by decide) (by decide) ?_
    refine A0.retV d_prog_146_method_2_127 (by decide) (by decide) ⟨f0, rfl, rfl, ?_⟩
    clear hw A0
    have b0 := n.toInt_lt
    have b1 := f0.toInt_lt
    (try simp only [true_and, and_true, false_and, and_false, true_or, or_true, false_or, or_false, not_true_eq_false, not_false_eq_true, Int32.lt_iff_toInt_lt, Int64.lt_iff_toInt_lt, Int32.le_iff_toInt_le, Int64.le_iff_toInt_le, ← Int32.toInt_inj, ← Int64.toInt_inj, Int32.toInt_add, Int32.toInt_sub, Int32.toInt_neg, Int64.toInt_add, Int64.toInt_sub, Int64.toInt_neg, Int64.toInt_mul, Int32.toInt_toInt64, bm32, bm64, l32_0, l32_1, l32_2, l32_3, l32_4, l32_5, l32_6, l32_2147483647] at hc12_1 hn0 hn1 ⊢) <;> omega
theorem ef_m_last (m : MethodId) (x0 : Addr) (x1 : Addr) (x2 : Int32) (x3 : Int32) : entryFrame m #[(.ref x0), (.ref x1), (.int x2), (.int x3)] 7 = mkF m 0 #[.val (.ref x0), .val (.ref x1), .val (.int x2), .val (.int x3), .unset, .unset, .unset] [] := by first | (simp [entryFrame, mkF, argsToLocals, Value.category]; done) | rfl
set_option maxRecDepth 65536 in
set_option maxHeartbeats 40000000 in
theorem m_last (l : Launch) (Z : State) (a0 : Array Value) (hw : ∀ d ∈ tables_1, d.before a0 Z = true) (a : Addr) (b : Addr) (o : Int32) (n : Int32) (f0 : Int32) (w0 : Int32) (w1 : Int32) (w2 : Int32) (w3 : Int32) (w4 : Int32) (ho : o.toInt = - f0.toInt) (hn : n.toInt = f0.toInt + 5) (hf : 0 ≤ f0.toInt) (hg : f0.toInt ≤ 65535) :
    Pays l Z a0 (⟨"com/example/wirecall/wirecall/Tls$Records", "passed", "([BII)V"⟩ : MethodName) prog_146_method_2_code 7 none ({ frames := 1, cells := 0, slots := 0, locals := 13 } : Room) #[(.ref a), (.ref b), (.int o), (.int n)] [(a, ob0 (.int 0) (.int f0) (.int 0)), (b, .inr (.byte, [(.int w0), (.int w1), (.int w2), (.int w3), (.int w4)]))] (([(a, ob0 (.int 0) (.int f0) (.int 0)), (b, .inr (.byte, [(.int w0), (.int w1), (.int w2), (.int w3), (.int w4)]))] : Hs).map (·.1)) (fun v os' => v = none ∧ os' = [(a, ob0 (.int 0) (.int (own_l w3 w4)) (.int 0)), (b, .inr (.byte, [(.int w0), (.int w1), (.int w2), (.int w3), (.int w4)]))]) := by
  refine Pays.of (Ls := #[.val (.ref a), .val (.ref b), .val (.int o), .val (.int n), .unset, .unset, .unset]) (plainFor_of_name pn_1) (fun m => ef_m_last m a b o n) ?_
  intro p e s m below meth c T0 A0
  refine A0.iloadN (q := 1) d_prog_146_method_2_0 rfl rfl ?_
  refine A0.istore (q := 3) (l' := #[.val (.ref a), .val (.ref b), .val (.int o), .val (.int n), .val (.int o), .unset, .unset]) d_prog_146_method_2_1 rfl rfl ?_
  refine A0.iloadN (q := 4) d_prog_146_method_2_3 rfl rfl ?_
  refine A0.iloadN (q := 5) d_prog_146_method_2_4 rfl rfl ?_
  refine A0.iadd (q := 6) d_prog_146_method_2_5 rfl ?_
  have hv1 : (o + n) = (5 : Int32) := by
    clear hw A0
    (try simp only [true_and, and_true, false_and, and_false, true_or, or_true, false_or, or_false, not_true_eq_false, not_false_eq_true, Int32.lt_iff_toInt_lt, Int64.lt_iff_toInt_lt, Int32.le_iff_toInt_le, Int64.le_iff_toInt_le, ← Int32.toInt_inj, ← Int64.toInt_inj, Int32.toInt_add, Int32.toInt_sub, Int32.toInt_neg, Int64.toInt_add, Int64.toInt_sub, Int64.toInt_neg, Int64.toInt_mul, Int32.toInt_toInt64, bm32, bm64, l32_0, l32_1, l32_2, l32_3, l32_4, l32_5, l32_6, l32_2147483647] at  ho hn hf hg ⊢) <;> omega
  rw [hv1]
  refine A0.istore (q := 8) (l' := #[.val (.ref a), .val (.ref b), .val (.int o), .val (.int n), .val (.int o), .val (.int 5), .unset]) d_prog_146_method_2_6 rfl rfl ?_
  have J8 : ∀ (T2 : State) (q6 : Slot), Here p l e ({ frames := 1, cells := 0, slots := 0, locals := 13 } : Room) s m #[(.ref a), (.ref b), (.int o), (.int n)] below meth c Z a0 (⟨"com/example/wirecall/wirecall/Tls$Records", "passed", "([BII)V"⟩ : MethodName) prog_146_method_2_code 7 none (([(a, ob0 (.int 0) (.int f0) (.int 0)), (b, .inr (.byte, [(.int w0), (.int w1), (.int w2), (.int w3), (.int w4)]))] : Hs).map (·.1)) (([(a, ob0 (.int 0) (.int f0) (.int 0)), (b, .inr (.byte, [(.int w0), (.int w1), (.int w2), (.int w3), (.int w4)]))] : Hs).map (·.1)) T2 0 0 [(a, ob0 (.int 0) (.int 0) (.int 0)), (b, .inr (.byte, [(.int w0), (.int w1), (.int w2), (.int w3), (.int w4)]))] → Wp p e below Z a0 (([(a, ob0 (.int 0) (.int f0) (.int 0)), (b, .inr (.byte, [(.int w0), (.int w1), (.int w2), (.int w3), (.int w4)]))] : Hs).map (·.1)) (([(a, ob0 (.int 0) (.int f0) (.int 0)), (b, .inr (.byte, [(.int w0), (.int w1), (.int w2), (.int w3), (.int w4)]))] : Hs).map (·.1)) ({ frames := 1, cells := 0, slots := 0, locals := 13 } : Room) s (fun v os' => v = none ∧ os' = [(a, ob0 (.int 0) (.int (own_l w3 w4)) (.int 0)), (b, .inr (.byte, [(.int w0), (.int w1), (.int w2), (.int w3), (.int w4)]))]) T2 (mkF m 8 #[.val (.ref a), .val (.ref b), .val (.int o), .val (.int n), .val (.int 0), .val (.int 5), q6] []) := by
    intro T2 q6 A3 
    refine A3.iload (q := 10) d_prog_146_method_2_8 rfl rfl ?_
    refine A3.iload (q := 12) d_prog_146_method_2_10 rfl rfl ?_
    refine A3.icmpNo (q := 15) d_prog_146_method_2_12 (by decide) rfl ?_
    refine A3.aloadN (q := 16) d_prog_146_method_2_15 rfl rfl rfl ?_
    refine A3.getF (qn := 19) (i := 0) (j := 1) (tw hw 31 rfl) Via.refl d_prog_146_method_2_16 rfl rfl rfl (fun T4 A5 => ?_)
    refine A5.ifYes (q := 57) d_prog_146_method_2_19 (by decide) (by decide) (by decide) ?_
    refine A5.aloadN (q := 58) d_prog_146_method_2_57 rfl rfl rfl ?_
    refine A5.getF (qn := 61) (i := 0) (j := 0) (tw hw 29 rfl) Via.refl d_prog_146_method_2_58 rfl rfl rfl (fun T6 A7 => ?_)
    refine A7.iconst (q := 62) (v := 3) d_prog_146_method_2_61 rfl rfl ?_
    refine A7.icmpYes (q := 85) d_prog_146_method_2_62 (by decide) (by decide) (by decide) ?_
    refine A7.aloadN (q := 86) d_prog_146_method_2_85 rfl rfl rfl ?_
    refine A7.dup (q := 87) d_prog_146_method_2_86 rfl rfl ?_
    refine A7.getF (qn := 90) (i := 0) (j := 0) (tw hw 29 rfl) Via.refl d_prog_146_method_2_87 rfl rfl rfl (fun T8 A9 => ?_)
    refine A9.iconst (q := 91) (v := 1) d_prog_146_method_2_90 rfl rfl ?_
    refine A9.iadd (q := 92) d_prog_146_method_2_91 rfl ?_
    refine Wp.top (v' := (.int 1)) rfl ?_
    refine A9.putF (qn := 95) (i := 0) (j := 0) (ty := .int) (tw hw 29 rfl) Via.refl (Or.inl (tw hw 30 rfl)) (tw hw 11 rfl) (by decide) rfl rfl d_prog_146_method_2_92 rfl rfl rfl rfl (fun T10 A11 => ?_)
    have A12 := A11.cast (k2 := 0) (n2 := 0) (os2 := [(a, ob0 (.int 1) (.int 0) (.int 0)), (b, .inr (.byte, [(.int w0), (.int w1), (.int w2), (.int w3), (.int w4)]))]) rfl rfl rfl
    refine A12.iinc (q := 98) (l' := #[.val (.ref a), .val (.ref b), .val (.int o), .val (.int n), .val (.int 1), .val (.int 5), q6]) d_prog_146_method_2_95 rfl rfl rfl ?_
    refine A12.aloadN (q := 99) d_prog_146_method_2_98 rfl rfl rfl ?_
    refine A12.getF (qn := 102) (i := 0) (j := 0) (tw hw 29 rfl) Via.refl d_prog_146_method_2_99 rfl rfl rfl (fun T13 A14 => ?_)
    refine A14.iconst (q := 103) (v := 5) d_prog_146_method_2_102 rfl rfl ?_
    refine A14.icmpYes (q := 8) d_prog_146_method_2_103 (by decide) (by decide) (by decide) ?_
    refine A14.iload (q := 10) d_prog_146_method_2_8 rfl rfl ?_
    refine A14.iload (q := 12) d_prog_146_method_2_10 rfl rfl ?_
    refine A14.icmpNo (q := 15) d_prog_146_method_2_12 (by decide) rfl ?_
    refine A14.aloadN (q := 16) d_prog_146_method_2_15 rfl rfl rfl ?_
    refine A14.getF (qn := 19) (i := 0) (j := 1) (tw hw 31 rfl) Via.refl d_prog_146_method_2_16 rfl rfl rfl (fun T15 A16 => ?_)
    refine A16.ifYes (q := 57) d_prog_146_method_2_19 (by decide) (by decide) (by decide) ?_
    refine A16.aloadN (q := 58) d_prog_146_method_2_57 rfl rfl rfl ?_
    refine A16.getF (qn := 61) (i := 0) (j := 0) (tw hw 29 rfl) Via.refl d_prog_146_method_2_58 rfl rfl rfl (fun T17 A18 => ?_)
    refine A18.iconst (q := 62) (v := 3) d_prog_146_method_2_61 rfl rfl ?_
    refine A18.icmpYes (q := 85) d_prog_146_method_2_62 (by decide) (by decide) (by decide) ?_
    refine A18.aloadN (q := 86) d_prog_146_method_2_85 rfl rfl rfl ?_
    refine A18.dup (q := 87) d_prog_146_method_2_86 rfl rfl ?_
    refine A18.getF (qn := 90) (i := 0) (j := 0) (tw hw 29 rfl) Via.refl d_prog_146_method_2_87 rfl rfl rfl (fun T19 A20 => ?_)
    refine A20.iconst (q := 91) (v := 1) d_prog_146_method_2_90 rfl rfl ?_
    refine A20.iadd (q := 92) d_prog_146_method_2_91 rfl ?_
    refine Wp.top (v' := (.int 2)) rfl ?_
    refine A20.putF (qn := 95) (i := 0) (j := 0) (ty := .int) (tw hw 29 rfl) Via.refl (Or.inl (tw hw 30 rfl)) (tw hw 11 rfl) (by decide) rfl rfl d_prog_146_method_2_92 rfl rfl rfl rfl (fun T21 A22 => ?_)
    have A23 := A22.cast (k2 := 0) (n2 := 0) (os2 := [(a, ob0 (.int 2) (.int 0) (.int 0)), (b, .inr (.byte, [(.int w0), (.int w1), (.int w2), (.int w3), (.int w4)]))]) rfl rfl rfl
    refine A23.iinc (q := 98) (l' := #[.val (.ref a), .val (.ref b), .val (.int o), .val (.int n), .val (.int 2), .val (.int 5), q6]) d_prog_146_method_2_95 rfl rfl rfl ?_
    refine A23.aloadN (q := 99) d_prog_146_method_2_98 rfl rfl rfl ?_
    refine A23.getF (qn := 102) (i := 0) (j := 0) (tw hw 29 rfl) Via.refl d_prog_146_method_2_99 rfl rfl rfl (fun T24 A25 => ?_)
    refine A25.iconst (q := 103) (v := 5) d_prog_146_method_2_102 rfl rfl ?_
    refine A25.icmpYes (q := 8) d_prog_146_method_2_103 (by decide) (by decide) (by decide) ?_
    refine A25.iload (q := 10) d_prog_146_method_2_8 rfl rfl ?_
    refine A25.iload (q := 12) d_prog_146_method_2_10 rfl rfl ?_
    refine A25.icmpNo (q := 15) d_prog_146_method_2_12 (by decide) rfl ?_
    refine A25.aloadN (q := 16) d_prog_146_method_2_15 rfl rfl rfl ?_
    refine A25.getF (qn := 19) (i := 0) (j := 1) (tw hw 31 rfl) Via.refl d_prog_146_method_2_16 rfl rfl rfl (fun T26 A27 => ?_)
    refine A27.ifYes (q := 57) d_prog_146_method_2_19 (by decide) (by decide) (by decide) ?_
    refine A27.aloadN (q := 58) d_prog_146_method_2_57 rfl rfl rfl ?_
    refine A27.getF (qn := 61) (i := 0) (j := 0) (tw hw 29 rfl) Via.refl d_prog_146_method_2_58 rfl rfl rfl (fun T28 A29 => ?_)
    refine A29.iconst (q := 62) (v := 3) d_prog_146_method_2_61 rfl rfl ?_
    refine A29.icmpYes (q := 85) d_prog_146_method_2_62 (by decide) (by decide) (by decide) ?_
    refine A29.aloadN (q := 86) d_prog_146_method_2_85 rfl rfl rfl ?_
    refine A29.dup (q := 87) d_prog_146_method_2_86 rfl rfl ?_
    refine A29.getF (qn := 90) (i := 0) (j := 0) (tw hw 29 rfl) Via.refl d_prog_146_method_2_87 rfl rfl rfl (fun T30 A31 => ?_)
    refine A31.iconst (q := 91) (v := 1) d_prog_146_method_2_90 rfl rfl ?_
    refine A31.iadd (q := 92) d_prog_146_method_2_91 rfl ?_
    refine Wp.top (v' := (.int 3)) rfl ?_
    refine A31.putF (qn := 95) (i := 0) (j := 0) (ty := .int) (tw hw 29 rfl) Via.refl (Or.inl (tw hw 30 rfl)) (tw hw 11 rfl) (by decide) rfl rfl d_prog_146_method_2_92 rfl rfl rfl rfl (fun T32 A33 => ?_)
    have A34 := A33.cast (k2 := 0) (n2 := 0) (os2 := [(a, ob0 (.int 3) (.int 0) (.int 0)), (b, .inr (.byte, [(.int w0), (.int w1), (.int w2), (.int w3), (.int w4)]))]) rfl rfl rfl
    refine A34.iinc (q := 98) (l' := #[.val (.ref a), .val (.ref b), .val (.int o), .val (.int n), .val (.int 3), .val (.int 5), q6]) d_prog_146_method_2_95 rfl rfl rfl ?_
    refine A34.aloadN (q := 99) d_prog_146_method_2_98 rfl rfl rfl ?_
    refine A34.getF (qn := 102) (i := 0) (j := 0) (tw hw 29 rfl) Via.refl d_prog_146_method_2_99 rfl rfl rfl (fun T35 A36 => ?_)
    refine A36.iconst (q := 103) (v := 5) d_prog_146_method_2_102 rfl rfl ?_
    refine A36.icmpYes (q := 8) d_prog_146_method_2_103 (by decide) (by decide) (by decide) ?_
    refine A36.iload (q := 10) d_prog_146_method_2_8 rfl rfl ?_
    refine A36.iload (q := 12) d_prog_146_method_2_10 rfl rfl ?_
    refine A36.icmpNo (q := 15) d_prog_146_method_2_12 (by decide) rfl ?_
    refine A36.aloadN (q := 16) d_prog_146_method_2_15 rfl rfl rfl ?_
    refine A36.getF (qn := 19) (i := 0) (j := 1) (tw hw 31 rfl) Via.refl d_prog_146_method_2_16 rfl rfl rfl (fun T37 A38 => ?_)
    refine A38.ifYes (q := 57) d_prog_146_method_2_19 (by decide) (by decide) (by decide) ?_
    refine A38.aloadN (q := 58) d_prog_146_method_2_57 rfl rfl rfl ?_
    refine A38.getF (qn := 61) (i := 0) (j := 0) (tw hw 29 rfl) Via.refl d_prog_146_method_2_58 rfl rfl rfl (fun T39 A40 => ?_)
    refine A40.iconst (q := 62) (v := 3) d_prog_146_method_2_61 rfl rfl ?_
    refine A40.icmpNo (q := 65) d_prog_146_method_2_62 (by decide) rfl ?_
    refine A40.aloadN (q := 66) d_prog_146_method_2_65 rfl rfl rfl ?_
    refine A40.aloadN (q := 67) d_prog_146_method_2_66 rfl rfl rfl ?_
    refine A40.getF (qn := 70) (i := 0) (j := 2) (tw hw 33 rfl) Via.refl d_prog_146_method_2_67 rfl rfl rfl (fun T41 A42 => ?_)
    refine A42.bipush (q := 72) (v := 8) d_prog_146_method_2_70 rfl rfl ?_
    refine A42.ishl (q := 73) d_prog_146_method_2_72 rfl ?_
    refine A42.aloadN (q := 74) d_prog_146_method_2_73 rfl rfl rfl ?_
    refine A42.iload (q := 76) d_prog_146_method_2_74 rfl rfl ?_
    refine A42.ldB (qn := 77) (i := 1) d_prog_146_method_2_76 rfl (by decide) rfl rfl ?_
    refine A42.sipush (q := 80) (v := 255) d_prog_146_method_2_77 rfl rfl ?_
    refine A42.iand (q := 81) d_prog_146_method_2_80 rfl ?_
    refine A42.ior (q := 82) d_prog_146_method_2_81 rfl ?_
    refine A42.putF (qn := 85) (i := 0) (j := 2) (ty := .int) (tw hw 33 rfl) Via.refl (Or.inl (tw hw 34 rfl)) (tw hw 11 rfl) (by decide) rfl rfl d_prog_146_method_2_82 rfl rfl rfl rfl (fun T43 A44 => ?_)
    have A45 := A44.cast (k2 := 0) (n2 := 0) (os2 := [(a, ob0 (.int 3) (.int 0) (.int (((0 : Int32) <<< ((8 : Int32) &&& 31)) ||| (w3 &&& (255 : Int32))))), (b, .inr (.byte, [(.int w0), (.int w1), (.int w2), (.int w3), (.int w4)]))]) rfl rfl rfl
    refine A45.aloadN (q := 86) d_prog_146_method_2_85 rfl rfl rfl ?_
    refine A45.dup (q := 87) d_prog_146_method_2_86 rfl rfl ?_
    refine A45.getF (qn := 90) (i := 0) (j := 0) (tw hw 29 rfl) Via.refl d_prog_146_method_2_87 rfl rfl rfl (fun T46 A47 => ?_)
    refine A47.iconst (q := 91) (v := 1) d_prog_146_method_2_90 rfl rfl ?_
    refine A47.iadd (q := 92) d_prog_146_method_2_91 rfl ?_
    refine Wp.top (v' := (.int 4)) rfl ?_
    refine A47.putF (qn := 95) (i := 0) (j := 0) (ty := .int) (tw hw 29 rfl) Via.refl (Or.inl (tw hw 30 rfl)) (tw hw 11 rfl) (by decide) rfl rfl d_prog_146_method_2_92 rfl rfl rfl rfl (fun T48 A49 => ?_)
    have A50 := A49.cast (k2 := 0) (n2 := 0) (os2 := [(a, ob0 (.int 4) (.int 0) (.int (((0 : Int32) <<< ((8 : Int32) &&& 31)) ||| (w3 &&& (255 : Int32))))), (b, .inr (.byte, [(.int w0), (.int w1), (.int w2), (.int w3), (.int w4)]))]) rfl rfl rfl
    refine A50.iinc (q := 98) (l' := #[.val (.ref a), .val (.ref b), .val (.int o), .val (.int n), .val (.int 4), .val (.int 5), q6]) d_prog_146_method_2_95 rfl rfl rfl ?_
    refine A50.aloadN (q := 99) d_prog_146_method_2_98 rfl rfl rfl ?_
    refine A50.getF (qn := 102) (i := 0) (j := 0) (tw hw 29 rfl) Via.refl d_prog_146_method_2_99 rfl rfl rfl (fun T51 A52 => ?_)
    refine A52.iconst (q := 103) (v := 5) d_prog_146_method_2_102 rfl rfl ?_
    refine A52.icmpYes (q := 8) d_prog_146_method_2_103 (by decide) (by decide) (by decide) ?_
    refine A52.iload (q := 10) d_prog_146_method_2_8 rfl rfl ?_
    refine A52.iload (q := 12) d_prog_146_method_2_10 rfl rfl ?_
    refine A52.icmpNo (q := 15) d_prog_146_method_2_12 (by decide) rfl ?_
    refine A52.aloadN (q := 16) d_prog_146_method_2_15 rfl rfl rfl ?_
    refine A52.getF (qn := 19) (i := 0) (j := 1) (tw hw 31 rfl) Via.refl d_prog_146_method_2_16 rfl rfl rfl (fun T53 A54 => ?_)
    refine A54.ifYes (q := 57) d_prog_146_method_2_19 (by decide) (by decide) (by decide) ?_
    refine A54.aloadN (q := 58) d_prog_146_method_2_57 rfl rfl rfl ?_
    refine A54.getF (qn := 61) (i := 0) (j := 0) (tw hw 29 rfl) Via.refl d_prog_146_method_2_58 rfl rfl rfl (fun T55 A56 => ?_)
    refine A56.iconst (q := 62) (v := 3) d_prog_146_method_2_61 rfl rfl ?_
    refine A56.icmpNo (q := 65) d_prog_146_method_2_62 (by decide) rfl ?_
    refine A56.aloadN (q := 66) d_prog_146_method_2_65 rfl rfl rfl ?_
    refine A56.aloadN (q := 67) d_prog_146_method_2_66 rfl rfl rfl ?_
    refine A56.getF (qn := 70) (i := 0) (j := 2) (tw hw 33 rfl) Via.refl d_prog_146_method_2_67 rfl rfl rfl (fun T57 A58 => ?_)
    refine A58.bipush (q := 72) (v := 8) d_prog_146_method_2_70 rfl rfl ?_
    refine A58.ishl (q := 73) d_prog_146_method_2_72 rfl ?_
    refine A58.aloadN (q := 74) d_prog_146_method_2_73 rfl rfl rfl ?_
    refine A58.iload (q := 76) d_prog_146_method_2_74 rfl rfl ?_
    refine A58.ldB (qn := 77) (i := 1) d_prog_146_method_2_76 rfl (by decide) rfl rfl ?_
    refine A58.sipush (q := 80) (v := 255) d_prog_146_method_2_77 rfl rfl ?_
    refine A58.iand (q := 81) d_prog_146_method_2_80 rfl ?_
    refine A58.ior (q := 82) d_prog_146_method_2_81 rfl ?_
    refine A58.putF (qn := 85) (i := 0) (j := 2) (ty := .int) (tw hw 33 rfl) Via.refl (Or.inl (tw hw 34 rfl)) (tw hw 11 rfl) (by decide) rfl rfl d_prog_146_method_2_82 rfl rfl rfl rfl (fun T59 A60 => ?_)
    have A61 := A60.cast (k2 := 0) (n2 := 0) (os2 := [(a, ob0 (.int 4) (.int 0) (.int (((((0 : Int32) <<< ((8 : Int32) &&& 31)) ||| (w3 &&& (255 : Int32))) <<< ((8 : Int32) &&& 31)) ||| (w4 &&& (255 : Int32))))), (b, .inr (.byte, [(.int w0), (.int w1), (.int w2), (.int w3), (.int w4)]))]) rfl rfl rfl
    refine A61.aloadN (q := 86) d_prog_146_method_2_85 rfl rfl rfl ?_
    refine A61.dup (q := 87) d_prog_146_method_2_86 rfl rfl ?_
    refine A61.getF (qn := 90) (i := 0) (j := 0) (tw hw 29 rfl) Via.refl d_prog_146_method_2_87 rfl rfl rfl (fun T62 A63 => ?_)
    refine A63.iconst (q := 91) (v := 1) d_prog_146_method_2_90 rfl rfl ?_
    refine A63.iadd (q := 92) d_prog_146_method_2_91 rfl ?_
    refine Wp.top (v' := (.int 5)) rfl ?_
    refine A63.putF (qn := 95) (i := 0) (j := 0) (ty := .int) (tw hw 29 rfl) Via.refl (Or.inl (tw hw 30 rfl)) (tw hw 11 rfl) (by decide) rfl rfl d_prog_146_method_2_92 rfl rfl rfl rfl (fun T64 A65 => ?_)
    have A66 := A65.cast (k2 := 0) (n2 := 0) (os2 := [(a, ob0 (.int 5) (.int 0) (.int (((((0 : Int32) <<< ((8 : Int32) &&& 31)) ||| (w3 &&& (255 : Int32))) <<< ((8 : Int32) &&& 31)) ||| (w4 &&& (255 : Int32))))), (b, .inr (.byte, [(.int w0), (.int w1), (.int w2), (.int w3), (.int w4)]))]) rfl rfl rfl
    refine A66.iinc (q := 98) (l' := #[.val (.ref a), .val (.ref b), .val (.int o), .val (.int n), .val (.int 5), .val (.int 5), q6]) d_prog_146_method_2_95 rfl rfl rfl ?_
    refine A66.aloadN (q := 99) d_prog_146_method_2_98 rfl rfl rfl ?_
    refine A66.getF (qn := 102) (i := 0) (j := 0) (tw hw 29 rfl) Via.refl d_prog_146_method_2_99 rfl rfl rfl (fun T67 A68 => ?_)
    refine A68.iconst (q := 103) (v := 5) d_prog_146_method_2_102 rfl rfl ?_
    refine A68.icmpNo (q := 106) d_prog_146_method_2_103 (by decide) rfl ?_
    refine A68.aloadN (q := 107) d_prog_146_method_2_106 rfl rfl rfl ?_
    refine A68.aloadN (q := 108) d_prog_146_method_2_107 rfl rfl rfl ?_
    refine A68.getF (qn := 111) (i := 0) (j := 2) (tw hw 33 rfl) Via.refl d_prog_146_method_2_108 rfl rfl rfl (fun T69 A70 => ?_)
    refine A70.putF (qn := 114) (i := 0) (j := 1) (ty := .int) (tw hw 31 rfl) Via.refl (Or.inl (tw hw 32 rfl)) (tw hw 11 rfl) (by decide) rfl rfl d_prog_146_method_2_111 rfl rfl rfl rfl (fun T71 A72 => ?_)
    have A73 := A72.cast (k2 := 0) (n2 := 0) (os2 := [(a, ob0 (.int 5) (.int (((((0 : Int32) <<< ((8 : Int32) &&& 31)) ||| (w3 &&& (255 : Int32))) <<< ((8 : Int32) &&& 31)) ||| (w4 &&& (255 : Int32)))) (.int (((((0 : Int32) <<< ((8 : Int32) &&& 31)) ||| (w3 &&& (255 : Int32))) <<< ((8 : Int32) &&& 31)) ||| (w4 &&& (255 : Int32))))), (b, .inr (.byte, [(.int w0), (.int w1), (.int w2), (.int w3), (.int w4)]))]) rfl rfl rfl
    refine A73.aloadN (q := 115) d_prog_146_method_2_114 rfl rfl rfl ?_
    refine A73.iconst (q := 116) (v := 0) d_prog_146_method_2_115 rfl rfl ?_
    refine A73.putF (qn := 119) (i := 0) (j := 0) (ty := .int) (tw hw 29 rfl) Via.refl (Or.inl (tw hw 30 rfl)) (tw hw 11 rfl) (by decide) rfl rfl d_prog_146_method_2_116 rfl rfl rfl rfl (fun T74 A75 => ?_)
    have A76 := A75.cast (k2 := 0) (n2 := 0) (os2 := [(a, ob0 (.int 0) (.int (((((0 : Int32) <<< ((8 : Int32) &&& 31)) ||| (w3 &&& (255 : Int32))) <<< ((8 : Int32) &&& 31)) ||| (w4 &&& (255 : Int32)))) (.int (((((0 : Int32) <<< ((8 : Int32) &&& 31)) ||| (w3 &&& (255 : Int32))) <<< ((8 : Int32) &&& 31)) ||| (w4 &&& (255 : Int32))))), (b, .inr (.byte, [(.int w0), (.int w1), (.int w2), (.int w3), (.int w4)]))]) rfl rfl rfl
    refine A76.aloadN (q := 120) d_prog_146_method_2_119 rfl rfl rfl ?_
    refine A76.iconst (q := 121) (v := 0) d_prog_146_method_2_120 rfl rfl ?_
    refine A76.putF (qn := 124) (i := 0) (j := 2) (ty := .int) (tw hw 33 rfl) Via.refl (Or.inl (tw hw 34 rfl)) (tw hw 11 rfl) (by decide) rfl rfl d_prog_146_method_2_121 rfl rfl rfl rfl (fun T77 A78 => ?_)
    have A79 := A78.cast (k2 := 0) (n2 := 0) (os2 := [(a, ob0 (.int 0) (.int (((((0 : Int32) <<< ((8 : Int32) &&& 31)) ||| (w3 &&& (255 : Int32))) <<< ((8 : Int32) &&& 31)) ||| (w4 &&& (255 : Int32)))) (.int 0)), (b, .inr (.byte, [(.int w0), (.int w1), (.int w2), (.int w3), (.int w4)]))]) rfl rfl rfl
    refine A79.goto (q := 8) d_prog_146_method_2_124 (by decide) (by decide) ?_
    refine A79.iload (q := 10) d_prog_146_method_2_8 rfl rfl ?_
    refine A79.iload (q := 12) d_prog_146_method_2_10 rfl rfl ?_
    refine A79.icmpYes (q := 127) d_prog_146_method_2_12 (by decide) (by decide) (by decide) ?_
    exact A79.retV d_prog_146_method_2_127 (by decide) (by decide) ⟨rfl, rfl⟩
  by_cases hz : f0 = 0
  · subst hz
    obtain rfl : o = 0 := by
      clear hw J8 A0
      (try simp only [true_and, and_true, false_and, and_false, true_or, or_true, false_or, or_false, not_true_eq_false, not_false_eq_true, Int32.lt_iff_toInt_lt, Int64.lt_iff_toInt_lt, Int32.le_iff_toInt_le, Int64.le_iff_toInt_le, ← Int32.toInt_inj, ← Int64.toInt_inj, Int32.toInt_add, Int32.toInt_sub, Int32.toInt_neg, Int64.toInt_add, Int64.toInt_sub, Int64.toInt_neg, Int64.toInt_mul, Int32.toInt_toInt64, bm32, bm64, l32_0, l32_1, l32_2, l32_3, l32_4, l32_5, l32_6, l32_2147483647] at  ho hn hf hg ⊢) <;> omega
    exact J8 T0 .unset A0
  refine A0.iload (q := 10) d_prog_146_method_2_8 rfl rfl ?_
  refine A0.iload (q := 12) d_prog_146_method_2_10 rfl rfl ?_
  have hc12_80 : o < (5 : Int32) := by
    clear hw J8 A0
    (try simp only [true_and, and_true, false_and, and_false, true_or, or_true, false_or, or_false, not_true_eq_false, not_false_eq_true, Int32.lt_iff_toInt_lt, Int64.lt_iff_toInt_lt, Int32.le_iff_toInt_le, Int64.le_iff_toInt_le, ← Int32.toInt_inj, ← Int64.toInt_inj, Int32.toInt_add, Int32.toInt_sub, Int32.toInt_neg, Int64.toInt_add, Int64.toInt_sub, Int64.toInt_neg, Int64.toInt_mul, Int32.toInt_toInt64, bm32, bm64, l32_0, l32_1, l32_2, l32_3, l32_4, l32_5, l32_6, l32_2147483647] at hz ho hn hf hg ⊢) <;> omega
  refine A0.icmpNo (q := 15) d_prog_146_method_2_12 (tlt hc12_80).2.1 rfl ?_
  refine A0.aloadN (q := 16) d_prog_146_method_2_15 rfl rfl rfl ?_
  refine A0.getF (qn := 19) (i := 0) (j := 1) (tw hw 31 rfl) Via.refl d_prog_146_method_2_16 rfl rfl rfl (fun T81 A82 => ?_)
  have hc19_83 : (0 : Int32) < f0 := by
    clear hw J8 A0 A82
    (try simp only [true_and, and_true, false_and, and_false, true_or, or_true, false_or, or_false, not_true_eq_false, not_false_eq_true, Int32.lt_iff_toInt_lt, Int64.lt_iff_toInt_lt, Int32.le_iff_toInt_le, Int64.le_iff_toInt_le, ← Int32.toInt_inj, ← Int64.toInt_inj, Int32.toInt_add, Int32.toInt_sub, Int32.toInt_neg, Int64.toInt_add, Int64.toInt_sub, Int64.toInt_neg, Int64.toInt_mul, Int32.toInt_toInt64, bm32, bm64, l32_0, l32_1, l32_2, l32_3, l32_4, l32_5, l32_6, l32_2147483647] at hz hc12_80 ho hn hf hg ⊢) <;> omega
  refine A82.ifNo (q := 22) d_prog_146_method_2_19 ((if0 _ _).trans (tlt hc19_83).2.2.2) rfl ?_
  refine A82.aloadN (q := 23) d_prog_146_method_2_22 rfl rfl rfl ?_
  refine A82.getF (qn := 26) (i := 0) (j := 1) (tw hw 31 rfl) Via.refl d_prog_146_method_2_23 rfl rfl rfl (fun T84 A85 => ?_)
  refine A85.iload (q := 28) d_prog_146_method_2_26 rfl rfl ?_
  refine A85.iload (q := 30) d_prog_146_method_2_28 rfl rfl ?_
  refine A85.isub (q := 31) d_prog_146_method_2_30 rfl ?_
  refine Here.callS (qn := 34) (os1 := [(a, ob0 (.int 0) (.int f0) (.int 0)), (b, .inr (.byte, [(.int w0), (.int w1), (.int w2), (.int w3), (.int w4)]))]) (os2 := []) (rest := []) (W := 0) (argsL := [(.int f0), (.int ((5 : Int32) - o))]) A85 (m_min l Z a0 hw f0 (((5 : Int32) - o))) (Or.inl rfl) (tw hw 35 rfl) (tw hw 36 rfl) (tw hw 37 rfl) (tw hw 38 rfl) (by decide) d_prog_146_method_2_31 rfl (lenOf pd_2 rfl) rfl (Nat.le_of_eq rfl) (by decide) (by decide) (by decide) (by decide) rfl (fun T86 v87 os88 A89 P90 => ?_)
  obtain ⟨r_31, rfl, rfl, hq_31⟩ := P90
  have A91 := A89.cast (k2 := 0) (n2 := 0) (os2 := [(a, ob0 (.int 0) (.int f0) (.int 0)), (b, .inr (.byte, [(.int w0), (.int w1), (.int w2), (.int w3), (.int w4)]))]) rfl rfl rfl
  refine A91.istore (q := 36) (l' := #[.val (.ref a), .val (.ref b), .val (.int o), .val (.int n), .val (.int o), .val (.int 5), .val (.int r_31)]) d_prog_146_method_2_34 rfl rfl ?_
  refine A91.aloadN (q := 37) d_prog_146_method_2_36 rfl rfl rfl ?_
  refine A91.dup (q := 38) d_prog_146_method_2_37 rfl rfl ?_
  refine A91.getF (qn := 41) (i := 0) (j := 1) (tw hw 31 rfl) Via.refl d_prog_146_method_2_38 rfl rfl rfl (fun T92 A93 => ?_)
  refine A93.iload (q := 43) d_prog_146_method_2_41 rfl rfl ?_
  refine A93.isub (q := 44) d_prog_146_method_2_43 rfl ?_
  have hv94 : (f0 - r_31) = (0 : Int32) := by
    clear hw J8 A0 A82 A85 A89 A91 A93
    (try simp only [true_and, and_true, false_and, and_false, true_or, or_true, false_or, or_false, not_true_eq_false, not_false_eq_true, Int32.lt_iff_toInt_lt, Int64.lt_iff_toInt_lt, Int32.le_iff_toInt_le, Int64.le_iff_toInt_le, ← Int32.toInt_inj, ← Int64.toInt_inj, Int32.toInt_add, Int32.toInt_sub, Int32.toInt_neg, Int64.toInt_add, Int64.toInt_sub, Int64.toInt_neg, Int64.toInt_mul, Int32.toInt_toInt64, bm32, bm64, l32_0, l32_1, l32_2, l32_3, l32_4, l32_5, l32_6, l32_2147483647] at hz hc12_80 hc19_83 hq_31 ho hn hf hg ⊢) <;> omega
  rw [hv94]
  refine A93.putF (qn := 47) (i := 0) (j := 1) (ty := .int) (tw hw 31 rfl) Via.refl (Or.inl (tw hw 32 rfl)) (tw hw 11 rfl) (by decide) rfl rfl d_prog_146_method_2_44 rfl rfl rfl rfl (fun T95 A96 => ?_)
  have A97 := A96.cast (k2 := 0) (n2 := 0) (os2 := [(a, ob0 (.int 0) (.int 0) (.int 0)), (b, .inr (.byte, [(.int w0), (.int w1), (.int w2), (.int w3), (.int w4)]))]) rfl rfl rfl
  refine A97.iload (q := 49) d_prog_146_method_2_47 rfl rfl ?_
  refine A97.iload (q := 51) d_prog_146_method_2_49 rfl rfl ?_
  refine A97.iadd (q := 52) d_prog_146_method_2_51 rfl ?_
  have hv98 : (o + r_31) = (0 : Int32) := by
    clear hw J8 A0 A82 A85 A89 A91 A93 A96 A97
    (try simp only [true_and, and_true, false_and, and_false, true_or, or_true, false_or, or_false, not_true_eq_false, not_false_eq_true, Int32.lt_iff_toInt_lt, Int64.lt_iff_toInt_lt, Int32.le_iff_toInt_le, Int64.le_iff_toInt_le, ← Int32.toInt_inj, ← Int64.toInt_inj, Int32.toInt_add, Int32.toInt_sub, Int32.toInt_neg, Int64.toInt_add, Int64.toInt_sub, Int64.toInt_neg, Int64.toInt_mul, Int32.toInt_toInt64, bm32, bm64, l32_0, l32_1, l32_2, l32_3, l32_4, l32_5, l32_6, l32_2147483647] at hz hc12_80 hc19_83 hq_31 ho hn hf hg ⊢) <;> omega
  rw [hv98]
  refine A97.istore (q := 54) (l' := #[.val (.ref a), .val (.ref b), .val (.int o), .val (.int n), .val (.int 0), .val (.int 5), .val (.int r_31)]) d_prog_146_method_2_52 rfl rfl ?_
  refine A97.goto (q := 8) d_prog_146_method_2_54 (by decide) (by decide) ?_
  exact J8 T95 ((.val (.int r_31))) A97
theorem pd_3 : parseMethodDescriptor "(J)[B" = some ⟨[.long], some (.array .byte)⟩ := by decide +kernel
theorem pd_4 : parseMethodDescriptor "(J)I" = some ⟨[.long], some .int⟩ := by decide +kernel
theorem pd_5 : parseMethodDescriptor "()V" = some ⟨[], none⟩ := by decide +kernel
theorem pd_6 : parseMethodDescriptor "([BII)V" = some ⟨[(.array .byte), .int, .int], none⟩ := by decide +kernel
theorem pd_7 : parseMethodDescriptor "()Z" = some ⟨[], some .boolean⟩ := by decide +kernel
theorem ef_m_law (m : MethodId) (x0 : Int64) (x1 : Int64) (x2 : Int32) (x3 : Int32) : entryFrame m #[(.long x0), (.long x1), (.int x2), (.int x3)] maxLocals = mkF m 0 #[.val (.long x0), .second, .val (.long x1), .second, .val (.int x2), .val (.int x3), .unset, .unset, .unset, .unset, .unset, .unset, .unset, .unset, .unset, .unset, .unset, .unset] [] := by first | (simp [entryFrame, mkF, argsToLocals, Value.category, maxLocals]; done) | rfl
set_option maxRecDepth 65536 in
set_option maxHeartbeats 40000000 in
theorem m_law (l : Launch) (Z : State) (a0 : Array Value) (hw : ∀ d ∈ tables_1, d.before a0 Z = true) (x0 : Int64) (x1 : Int64) (x2 : Int32) (x3 : Int32) :
    Pays l Z a0 x code maxLocals ret room_1 #[(.long x0), (.long x1), (.int x2), (.int x3)] [] (([] : Hs).map (·.1)) (fun v os' => v = some (.int 1) ∧ True) := by
  refine Pays.of (Ls := #[.val (.long x0), .second, .val (.long x1), .second, .val (.int x2), .val (.int x3), .unset, .unset, .unset, .unset, .unset, .unset, .unset, .unset, .unset, .unset, .unset, .unset]) (plainFor_of_name pn_0) (fun m => ef_m_law m x0 x1 x2 x3) ?_
  intro p e s m below meth c T0 A0
  refine A0.lloadN (q := 1) at_0 rfl rfl ?_
  refine Here.callS (qn := 4) (os1 := []) (os2 := []) (rest := []) (W := 0) (argsL := [(.long x0)]) A0 (m_hdr l Z a0 hw x0) (Or.inl rfl) (tw hw 0 rfl) (tw hw 1 rfl) (tw hw 2 rfl) (tw hw 3 rfl) (by decide) at_1 rfl (lenOf pd_3 rfl) rfl (Nat.le_of_eq rfl) (by decide) (by decide) (by decide) (by decide) rfl (fun T1 v2 os3 A4 P5 => ?_)
  obtain ⟨b_1, rfl, rfl⟩ := P5
  have A6 := A4.cast (k2 := 1) (n2 := 5) (os2 := [(b_1, .inr (.byte, [(.int (own_b0 x0)), (.int (own_by 8 x0)), (.int (own_by 16 x0)), (.int (own_by 24 x0)), (.int (own_by 32 x0))]))]) rfl rfl rfl
  refine A6.astore (q := 6) (l' := #[.val (.long x0), .second, .val (.long x1), .second, .val (.int x2), .val (.int x3), .val (.ref b_1), .unset, .unset, .unset, .unset, .unset, .unset, .unset, .unset, .unset, .unset, .unset]) at_4 rfl rfl rfl ?_
  refine A6.lloadN (q := 7) at_6 rfl rfl ?_
  refine Here.callS (qn := 10) (os1 := [(b_1, .inr (.byte, [(.int (own_b0 x0)), (.int (own_by 8 x0)), (.int (own_by 16 x0)), (.int (own_by 24 x0)), (.int (own_by 32 x0))]))]) (os2 := []) (rest := []) (W := 0) (argsL := [(.long x1)]) A6 (m_hdr l Z a0 hw x1) (Or.inl rfl) (tw hw 0 rfl) (tw hw 1 rfl) (tw hw 2 rfl) (tw hw 3 rfl) (by decide) at_7 rfl (lenOf pd_3 rfl) rfl (Nat.le_of_eq rfl) (by decide) (by decide) (by decide) (by decide) rfl (fun T7 v8 os9 A10 P11 => ?_)
  obtain ⟨b_7, rfl, rfl⟩ := P11
  have A12 := A10.cast (k2 := 2) (n2 := 10) (os2 := [(b_1, .inr (.byte, [(.int (own_b0 x0)), (.int (own_by 8 x0)), (.int (own_by 16 x0)), (.int (own_by 24 x0)), (.int (own_by 32 x0))])), (b_7, .inr (.byte, [(.int (own_b0 x1)), (.int (own_by 8 x1)), (.int (own_by 16 x1)), (.int (own_by 24 x1)), (.int (own_by 32 x1))]))]) rfl rfl rfl
  refine A12.astore (q := 12) (l' := #[.val (.long x0), .second, .val (.long x1), .second, .val (.int x2), .val (.int x3), .val (.ref b_1), .val (.ref b_7), .unset, .unset, .unset, .unset, .unset, .unset, .unset, .unset, .unset, .unset]) at_10 rfl rfl rfl ?_
  refine A12.lloadN (q := 13) at_12 rfl rfl ?_
  refine Here.callS (qn := 16) (os1 := [(b_1, .inr (.byte, [(.int (own_b0 x0)), (.int (own_by 8 x0)), (.int (own_by 16 x0)), (.int (own_by 24 x0)), (.int (own_by 32 x0))])), (b_7, .inr (.byte, [(.int (own_b0 x1)), (.int (own_by 8 x1)), (.int (own_by 16 x1)), (.int (own_by 24 x1)), (.int (own_by 32 x1))]))]) (os2 := []) (rest := []) (W := 0) (argsL := [(.long x0)]) A12 (m_len l Z a0 hw x0) (Or.inl rfl) (tw hw 5 rfl) (tw hw 6 rfl) (tw hw 2 rfl) (tw hw 7 rfl) (by decide) at_13 rfl (lenOf pd_4 rfl) rfl (Nat.le_of_eq rfl) (by decide) (by decide) (by decide) (by decide) rfl (fun T13 v14 os15 A16 P17 => ?_)
  obtain ⟨rfl, rfl⟩ := P17
  have A18 := A16.cast (k2 := 2) (n2 := 10) (os2 := [(b_1, .inr (.byte, [(.int (own_b0 x0)), (.int (own_by 8 x0)), (.int (own_by 16 x0)), (.int (own_by 24 x0)), (.int (own_by 32 x0))])), (b_7, .inr (.byte, [(.int (own_b0 x1)), (.int (own_by 8 x1)), (.int (own_by 16 x1)), (.int (own_by 24 x1)), (.int (own_by 32 x1))]))]) rfl rfl rfl
  refine A18.istore (q := 18) (l' := #[.val (.long x0), .second, .val (.long x1), .second, .val (.int x2), .val (.int x3), .val (.ref b_1), .val (.ref b_7), .val (.int (own_len x0)), .unset, .unset, .unset, .unset, .unset, .unset, .unset, .unset, .unset]) at_16 rfl rfl ?_
  refine A18.lloadN (q := 19) at_18 rfl rfl ?_
  refine Here.callS (qn := 22) (os1 := [(b_1, .inr (.byte, [(.int (own_b0 x0)), (.int (own_by 8 x0)), (.int (own_by 16 x0)), (.int (own_by 24 x0)), (.int (own_by 32 x0))])), (b_7, .inr (.byte, [(.int (own_b0 x1)), (.int (own_by 8 x1)), (.int (own_by 16 x1)), (.int (own_by 24 x1)), (.int (own_by 32 x1))]))]) (os2 := []) (rest := []) (W := 0) (argsL := [(.long x1)]) A18 (m_len l Z a0 hw x1) (Or.inl rfl) (tw hw 5 rfl) (tw hw 6 rfl) (tw hw 2 rfl) (tw hw 7 rfl) (by decide) at_19 rfl (lenOf pd_4 rfl) rfl (Nat.le_of_eq rfl) (by decide) (by decide) (by decide) (by decide) rfl (fun T19 v20 os21 A22 P23 => ?_)
  obtain ⟨rfl, rfl⟩ := P23
  have A24 := A22.cast (k2 := 2) (n2 := 10) (os2 := [(b_1, .inr (.byte, [(.int (own_b0 x0)), (.int (own_by 8 x0)), (.int (own_by 16 x0)), (.int (own_by 24 x0)), (.int (own_by 32 x0))])), (b_7, .inr (.byte, [(.int (own_b0 x1)), (.int (own_by 8 x1)), (.int (own_by 16 x1)), (.int (own_by 24 x1)), (.int (own_by 32 x1))]))]) rfl rfl rfl
  refine A24.istore (q := 24) (l' := #[.val (.long x0), .second, .val (.long x1), .second, .val (.int x2), .val (.int x3), .val (.ref b_1), .val (.ref b_7), .val (.int (own_len x0)), .val (.int (own_len x1)), .unset, .unset, .unset, .unset, .unset, .unset, .unset, .unset]) at_22 rfl rfl ?_
  refine A24.iload (q := 26) at_24 rfl rfl ?_
  refine A24.ldc (qn := 28) (v := 2147483647) (tw hw 9 rfl) at_26 rfl ?_
  refine A24.iand (q := 29) at_28 rfl ?_
  refine A24.bipush (q := 31) (v := 6) at_29 rfl rfl ?_
  refine A24.irem (qn := 32) at_31 (by decide) rfl ?_
  refine A24.istore (q := 34) (l' := #[.val (.long x0), .second, .val (.long x1), .second, .val (.int x2), .val (.int x3), .val (.ref b_1), .val (.ref b_7), .val (.int (own_len x0)), .val (.int (own_len x1)), .val (.int ((x2 &&& (2147483647 : Int32)) % (6 : Int32))), .unset, .unset, .unset, .unset, .unset, .unset, .unset]) at_32 rfl rfl ?_
  refine A24.iload (q := 36) at_34 rfl rfl ?_
  refine A24.ldc (qn := 38) (v := 2147483647) (tw hw 9 rfl) at_36 rfl ?_
  refine A24.iand (q := 39) at_38 rfl ?_
  refine A24.iload (q := 41) at_39 rfl rfl ?_
  refine A24.iconst (q := 42) (v := 1) at_41 rfl rfl ?_
  refine A24.iadd (q := 43) at_42 rfl ?_
  refine A24.irem (qn := 44) at_43 (own_nz x0) rfl ?_
  refine A24.istore (q := 46) (l' := #[.val (.long x0), .second, .val (.long x1), .second, .val (.int x2), .val (.int x3), .val (.ref b_1), .val (.ref b_7), .val (.int (own_len x0)), .val (.int (own_len x1)), .val (.int ((x2 &&& (2147483647 : Int32)) % (6 : Int32))), .val (.int ((x3 &&& (2147483647 : Int32)) % ((own_len x0) + (1 : Int32)))), .unset, .unset, .unset, .unset, .unset, .unset]) at_44 rfl rfl ?_
  refine A24.iload (q := 48) at_46 rfl rfl ?_
  refine A24.iload (q := 50) at_48 rfl rfl ?_
  refine A24.isub (q := 51) at_50 rfl ?_
  refine A24.istore (q := 53) (l' := #[.val (.long x0), .second, .val (.long x1), .second, .val (.int x2), .val (.int x3), .val (.ref b_1), .val (.ref b_7), .val (.int (own_len x0)), .val (.int (own_len x1)), .val (.int ((x2 &&& (2147483647 : Int32)) % (6 : Int32))), .val (.int ((x3 &&& (2147483647 : Int32)) % ((own_len x0) + (1 : Int32)))), .val (.int ((own_len x0) - ((x3 &&& (2147483647 : Int32)) % ((own_len x0) + (1 : Int32))))), .unset, .unset, .unset, .unset, .unset]) at_51 rfl rfl ?_
  refine A24.newO (qn := 56) (C := "com/example/wirecall/wirecall/Tls$Records") (fs := [("com/example/wirecall/wirecall/Tls$Records", "headerRead", "I", (.int 0)), ("com/example/wirecall/wirecall/Tls$Records", "fragmentLeft", "I", (.int 0)), ("com/example/wirecall/wirecall/Tls$Records", "fragmentLength", "I", (.int 0))]) (tw hw 10 rfl) (tw hw 11 rfl) (tw hw 12 rfl) at_53 (by decide) (by decide) (by decide) (List.forall_mem_cons.mpr ⟨⟨Or.inl (tw hw 30 rfl), .int, by decide, rfl⟩, (List.forall_mem_cons.mpr ⟨⟨Or.inl (tw hw 32 rfl), .int, by decide, rfl⟩, (List.forall_mem_cons.mpr ⟨⟨Or.inl (tw hw 34 rfl), .int, by decide, rfl⟩, (List.forall_mem_nil _)⟩)⟩)⟩) rfl (fun T25 b27 A26 => ?_)
  have A28 := A26.cast (k2 := 3) (n2 := 13) (os2 := [(b_1, .inr (.byte, [(.int (own_b0 x0)), (.int (own_by 8 x0)), (.int (own_by 16 x0)), (.int (own_by 24 x0)), (.int (own_by 32 x0))])), (b_7, .inr (.byte, [(.int (own_b0 x1)), (.int (own_by 8 x1)), (.int (own_by 16 x1)), (.int (own_by 24 x1)), (.int (own_by 32 x1))])), (b27, ob0 (.int 0) (.int 0) (.int 0))]) rfl rfl rfl
  refine A28.dup (q := 57) at_56 rfl rfl ?_
  refine Here.callI (qn := 60) (os1 := [(b_1, .inr (.byte, [(.int (own_b0 x0)), (.int (own_by 8 x0)), (.int (own_by 16 x0)), (.int (own_by 24 x0)), (.int (own_by 32 x0))])), (b_7, .inr (.byte, [(.int (own_b0 x1)), (.int (own_by 8 x1)), (.int (own_by 16 x1)), (.int (own_by 24 x1)), (.int (own_by 32 x1))])), (b27, ob0 (.int 0) (.int 0) (.int 0))]) (os2 := []) (rest := [(.ref b27)]) (W := 1) (argsL := []) (a := b27) A28 (m_ini l Z a0 hw b27) (Or.inl rfl) rfl (tw hw 13 rfl) (tw hw 14 rfl) (tw hw 12 rfl) (tw hw 15 rfl) (by decide) at_57 rfl (lenOf pd_5 rfl) rfl (Nat.le_of_eq rfl) (by decide) (by decide) (by decide) (by decide) rfl (fun T29 v30 os31 A32 P33 => ?_)
  obtain ⟨rfl, rfl⟩ := P33
  have A34 := A32.cast (k2 := 3) (n2 := 13) (os2 := [(b_1, .inr (.byte, [(.int (own_b0 x0)), (.int (own_by 8 x0)), (.int (own_by 16 x0)), (.int (own_by 24 x0)), (.int (own_by 32 x0))])), (b_7, .inr (.byte, [(.int (own_b0 x1)), (.int (own_by 8 x1)), (.int (own_by 16 x1)), (.int (own_by 24 x1)), (.int (own_by 32 x1))])), (b27, ob0 (.int 0) (.int 0) (.int 0))]) rfl rfl rfl
  refine A34.astore (q := 62) (l' := #[.val (.long x0), .second, .val (.long x1), .second, .val (.int x2), .val (.int x3), .val (.ref b_1), .val (.ref b_7), .val (.int (own_len x0)), .val (.int (own_len x1)), .val (.int ((x2 &&& (2147483647 : Int32)) % (6 : Int32))), .val (.int ((x3 &&& (2147483647 : Int32)) % ((own_len x0) + (1 : Int32)))), .val (.int ((own_len x0) - ((x3 &&& (2147483647 : Int32)) % ((own_len x0) + (1 : Int32))))), .val (.ref b27), .unset, .unset, .unset, .unset]) at_60 rfl rfl rfl ?_
  have hl1 := own_len_le x0
  have hn := own_modn x3 (own_len x0) hl1.1 hl1.2
  generalize hnn : ((x3 &&& (2147483647 : Int32)) % ((own_len x0) + (1 : Int32))) = nn at hn ⊢
  show Wp _ _ _ _ _ _ _ _ _ _ T29 (mkF m 62 #[.val (.long x0), .second, .val (.long x1), .second, .val (.int x2), .val (.int x3), .val (.ref b_1), .val (.ref b_7), .val (.int (own_len x0)), .val (.int (own_len x1)), .val (.int ((x2 &&& (2147483647 : Int32)) % (6 : Int32))), .val (.int nn), .val (.int ((own_len x0) - nn)), .val (.ref b27), .unset, .unset, .unset, .unset] [])
  have J97 : ∀ (T35 : State) (kv : Int32) (v1 : Int32) (v2 : Int32), Here p l e room_1 s m #[(.long x0), (.long x1), (.int x2), (.int x3)] below meth c Z a0 x code maxLocals ret (([] : Hs).map (·.1)) (([] : Hs).map (·.1)) T35 3 13 [(b_1, .inr (.byte, [(.int (own_b0 x0)), (.int (own_by 8 x0)), (.int (own_by 16 x0)), (.int (own_by 24 x0)), (.int (own_by 32 x0))])), (b_7, .inr (.byte, [(.int (own_b0 x1)), (.int (own_by 8 x1)), (.int (own_by 16 x1)), (.int (own_by 24 x1)), (.int (own_by 32 x1))])), (b27, ob0 (.int 0) (.int (own_l (own_by 24 x0) (own_by 32 x0))) (.int 0))] → (((v1 = 1 ∧ (kv = 0 ∨ (kv = 5 ∧ (own_len x0) = 0))) ∨ (v1 = 0 ∧ ¬ (kv = 0 ∨ (kv = 5 ∧ (own_len x0) = 0)))) ∧ ((v2 = 1 ∧ (own_len x0) = 0) ∨ (v2 = 0 ∧ ¬ (own_len x0) = 0))) → Wp p e below Z a0 (([] : Hs).map (·.1)) (([] : Hs).map (·.1)) room_1 s (fun v os' => v = some (.int 1) ∧ True) T35 (mkF m 97 #[.val (.long x0), .second, .val (.long x1), .second, .val (.int x2), .val (.int x3), .val (.ref b_1), .val (.ref b_7), .val (.int (own_len x0)), .val (.int (own_len x1)), .val (.int kv), .val (.int nn), .val (.int ((own_len x0) - nn)), .val (.ref b27), .val (.int v1), .unset, .unset, .unset] [(.int v2)]) := by
    intro T35 kv v1 v2 A36 hJ97
    refine A36.istore (q := 99) (l' := #[.val (.long x0), .second, .val (.long x1), .second, .val (.int x2), .val (.int x3), .val (.ref b_1), .val (.ref b_7), .val (.int (own_len x0)), .val (.int (own_len x1)), .val (.int kv), .val (.int nn), .val (.int ((own_len x0) - nn)), .val (.ref b27), .val (.int v1), .val (.int v2), .unset, .unset]) at_97 rfl rfl ?_
    refine A36.aload (q := 101) at_99 rfl rfl rfl ?_
    refine A36.aload (q := 103) at_101 rfl rfl rfl ?_
    refine A36.iconst (q := 104) (v := 0) at_103 rfl rfl ?_
    refine A36.iload (q := 106) at_104 rfl rfl ?_
    refine Here.callV (qn := 109) (os1 := [(b_1, .inr (.byte, [(.int (own_b0 x0)), (.int (own_by 8 x0)), (.int (own_by 16 x0)), (.int (own_by 24 x0)), (.int (own_by 32 x0))])), (b_7, .inr (.byte, [(.int (own_b0 x1)), (.int (own_by 8 x1)), (.int (own_by 16 x1)), (.int (own_by 24 x1)), (.int (own_by 32 x1))]))]) (os2 := [(b27, ob0 (.int 0) (.int (own_l (own_by 24 x0) (own_by 32 x0))) (.int 0))]) (rest := []) (W := 0) (argsL := [(.ref b_1), (.int 0), (.int nn)]) (a := b27) (i := 2) A36 (m_frag l Z a0 hw b27 b_1 nn ((own_l (own_by 24 x0) (own_by 32 x0))) ((by (try simp only [true_and, and_true, false_and, and_false, true_or, or_true, false_or, or_false, not_true_eq_false, not_false_eq_true, Int32.lt_iff_toInt_lt, Int64.lt_iff_toInt_lt, Int32.le_iff_toInt_le, Int64.le_iff_toInt_le, ← Int32.toInt_inj, ← Int64.toInt_inj, Int32.toInt_add, Int32.toInt_sub, Int32.toInt_neg, Int64.toInt_add, Int64.toInt_sub, Int64.toInt_neg, Int64.toInt_mul, Int32.toInt_toInt64, bm32, bm64, l32_0, l32_1, l32_2, l32_3, l32_4, l32_5, l32_6, l32_2147483647, own_len_eq] at hl1 hn hJ97 ⊢) <;> omega)) ((by (try simp only [true_and, and_true, false_and, and_false, true_or, or_true, false_or, or_false, not_true_eq_false, not_false_eq_true, Int32.lt_iff_toInt_lt, Int64.lt_iff_toInt_lt, Int32.le_iff_toInt_le, Int64.le_iff_toInt_le, ← Int32.toInt_inj, ← Int64.toInt_inj, Int32.toInt_add, Int32.toInt_sub, Int32.toInt_neg, Int64.toInt_add, Int64.toInt_sub, Int64.toInt_neg, Int64.toInt_mul, Int32.toInt_toInt64, bm32, bm64, l32_0, l32_1, l32_2, l32_3, l32_4, l32_5, l32_6, l32_2147483647, own_len_eq] at hl1 hn hJ97 ⊢) <;> omega))) (Or.inr ⟨rfl, rfl⟩) rfl (tw hw 19 rfl) (tw hw 20 rfl) (tw hw 22 rfl) (tw hw 21 rfl) (tw hw 12 rfl) (tw hw 23 rfl) (by decide) at_106 rfl (lenOf pd_6 rfl) rfl (Nat.le_of_eq rfl) (by decide) (by decide) (by decide) (by decide) rfl (fun T37 v38 os39 A40 P41 => ?_)
    obtain ⟨f1_106, rfl, rfl, hq_106⟩ := P41
    have A42 := A40.cast (k2 := 3) (n2 := 13) (os2 := [(b_1, .inr (.byte, [(.int (own_b0 x0)), (.int (own_by 8 x0)), (.int (own_by 16 x0)), (.int (own_by 24 x0)), (.int (own_by 32 x0))])), (b_7, .inr (.byte, [(.int (own_b0 x1)), (.int (own_by 8 x1)), (.int (own_by 16 x1)), (.int (own_by 24 x1)), (.int (own_by 32 x1))])), (b27, ob0 (.int 0) (.int f1_106) (.int 0))]) rfl rfl rfl
    refine A42.aload (q := 111) at_109 rfl rfl rfl ?_
    refine Here.callV (qn := 114) (os1 := [(b_1, .inr (.byte, [(.int (own_b0 x0)), (.int (own_by 8 x0)), (.int (own_by 16 x0)), (.int (own_by 24 x0)), (.int (own_by 32 x0))])), (b_7, .inr (.byte, [(.int (own_b0 x1)), (.int (own_by 8 x1)), (.int (own_by 16 x1)), (.int (own_by 24 x1)), (.int (own_by 32 x1))]))]) (os2 := [(b27, ob0 (.int 0) (.int f1_106) (.int 0))]) (rest := []) (W := 0) (argsL := []) (a := b27) (i := 2) A42 (m_btw l Z a0 hw b27 f1_106 ((0 : Int32)) ((0 : Int32))) (Or.inr ⟨rfl, rfl⟩) rfl (tw hw 24 rfl) (tw hw 25 rfl) (tw hw 27 rfl) (tw hw 26 rfl) (tw hw 12 rfl) (tw hw 28 rfl) (by decide) at_111 rfl (lenOf pd_7 rfl) rfl (Nat.le_of_eq rfl) (by decide) (by decide) (by decide) (by decide) rfl (fun T43 v44 os45 A46 P47 => ?_)
    obtain ⟨r_111, rfl, rfl, hq_111⟩ := P47
    have A48 := A46.cast (k2 := 3) (n2 := 13) (os2 := [(b_1, .inr (.byte, [(.int (own_b0 x0)), (.int (own_by 8 x0)), (.int (own_by 16 x0)), (.int (own_by 24 x0)), (.int (own_by 32 x0))])), (b_7, .inr (.byte, [(.int (own_b0 x1)), (.int (own_by 8 x1)), (.int (own_by 16 x1)), (.int (own_by 24 x1)), (.int (own_by 32 x1))])), (b27, ob0 (.int 0) (.int f1_106) (.int 0))]) rfl rfl rfl
    refine A48.istore (q := 116) (l' := #[.val (.long x0), .second, .val (.long x1), .second, .val (.int x2), .val (.int x3), .val (.ref b_1), .val (.ref b_7), .val (.int (own_len x0)), .val (.int (own_len x1)), .val (.int kv), .val (.int nn), .val (.int ((own_len x0) - nn)), .val (.ref b27), .val (.int v1), .val (.int v2), .val (.int r_111), .unset]) at_114 rfl rfl ?_
    refine A48.aload (q := 118) at_116 rfl rfl rfl ?_
    refine A48.aload (q := 120) at_118 rfl rfl rfl ?_
    refine A48.iload (q := 122) at_120 rfl rfl ?_
    refine A48.ineg (q := 123) at_122 rfl ?_
    refine A48.iload (q := 125) at_123 rfl rfl ?_
    refine A48.iconst (q := 126) (v := 5) at_125 rfl rfl ?_
    refine A48.iadd (q := 127) at_126 rfl ?_
    have A49 := A48.pick (is := [0, 2, 1]) (os2 := [(b_1, .inr (.byte, [(.int (own_b0 x0)), (.int (own_by 8 x0)), (.int (own_by 16 x0)), (.int (own_by 24 x0)), (.int (own_by 32 x0))])), (b27, ob0 (.int 0) (.int f1_106) (.int 0)), (b_7, .inr (.byte, [(.int (own_b0 x1)), (.int (own_by 8 x1)), (.int (own_by 16 x1)), (.int (own_by 24 x1)), (.int (own_by 32 x1))]))]) (by decide) rfl
    refine Here.callV (qn := 130) (os1 := [(b_1, .inr (.byte, [(.int (own_b0 x0)), (.int (own_by 8 x0)), (.int (own_by 16 x0)), (.int (own_by 24 x0)), (.int (own_by 32 x0))]))]) (os2 := [(b27, ob0 (.int 0) (.int f1_106) (.int 0)), (b_7, .inr (.byte, [(.int (own_b0 x1)), (.int (own_by 8 x1)), (.int (own_by 16 x1)), (.int (own_by 24 x1)), (.int (own_by 32 x1))]))]) (rest := []) (W := 0) (argsL := [(.ref b_7), (.int (-((own_len x0) - nn))), (.int (((own_len x0) - nn) + (5 : Int32)))]) (a := b27) (i := 1) A49 (m_last l Z a0 hw b27 b_7 ((-((own_len x0) - nn))) ((((own_len x0) - nn) + (5 : Int32))) f1_106 ((own_b0 x1)) ((own_by 8 x1)) ((own_by 16 x1)) ((own_by 24 x1)) ((own_by 32 x1)) ((by (try simp only [true_and, and_true, false_and, and_false, true_or, or_true, false_or, or_false, not_true_eq_false, not_false_eq_true, Int32.lt_iff_toInt_lt, Int64.lt_iff_toInt_lt, Int32.le_iff_toInt_le, Int64.le_iff_toInt_le, ← Int32.toInt_inj, ← Int64.toInt_inj, Int32.toInt_add, Int32.toInt_sub, Int32.toInt_neg, Int64.toInt_add, Int64.toInt_sub, Int64.toInt_neg, Int64.toInt_mul, Int32.toInt_toInt64, bm32, bm64, l32_0, l32_1, l32_2, l32_3, l32_4, l32_5, l32_6, l32_2147483647, own_len_eq] at hl1 hn hJ97 hq_106 hq_111 ⊢) <;> omega)) ((by (try simp only [true_and, and_true, false_and, and_false, true_or, or_true, false_or, or_false, not_true_eq_false, not_false_eq_true, Int32.lt_iff_toInt_lt, Int64.lt_iff_toInt_lt, Int32.le_iff_toInt_le, Int64.le_iff_toInt_le, ← Int32.toInt_inj, ← Int64.toInt_inj, Int32.toInt_add, Int32.toInt_sub, Int32.toInt_neg, Int64.toInt_add, Int64.toInt_sub, Int64.toInt_neg, Int64.toInt_mul, Int32.toInt_toInt64, bm32, bm64, l32_0, l32_1, l32_2, l32_3, l32_4, l32_5, l32_6, l32_2147483647, own_len_eq] at hl1 hn hJ97 hq_106 hq_111 ⊢) <;> omega)) ((by (try simp only [true_and, and_true, false_and, and_false, true_or, or_true, false_or, or_false, not_true_eq_false, not_false_eq_true, Int32.lt_iff_toInt_lt, Int64.lt_iff_toInt_lt, Int32.le_iff_toInt_le, Int64.le_iff_toInt_le, ← Int32.toInt_inj, ← Int64.toInt_inj, Int32.toInt_add, Int32.toInt_sub, Int32.toInt_neg, Int64.toInt_add, Int64.toInt_sub, Int64.toInt_neg, Int64.toInt_mul, Int32.toInt_toInt64, bm32, bm64, l32_0, l32_1, l32_2, l32_3, l32_4, l32_5, l32_6, l32_2147483647, own_len_eq] at hl1 hn hJ97 hq_106 hq_111 ⊢) <;> omega)) ((by (try simp only [true_and, and_true, false_and, and_false, true_or, or_true, false_or, or_false, not_true_eq_false, not_false_eq_true, Int32.lt_iff_toInt_lt, Int64.lt_iff_toInt_lt, Int32.le_iff_toInt_le, Int64.le_iff_toInt_le, ← Int32.toInt_inj, ← Int64.toInt_inj, Int32.toInt_add, Int32.toInt_sub, Int32.toInt_neg, Int64.toInt_add, Int64.toInt_sub, Int64.toInt_neg, Int64.toInt_mul, Int32.toInt_toInt64, bm32, bm64, l32_0, l32_1, l32_2, l32_3, l32_4, l32_5, l32_6, l32_2147483647, own_len_eq] at hl1 hn hJ97 hq_106 hq_111 ⊢) <;> omega))) (Or.inr ⟨rfl, rfl⟩) rfl (tw hw 19 rfl) (tw hw 20 rfl) (tw hw 22 rfl) (tw hw 21 rfl) (tw hw 12 rfl) (tw hw 23 rfl) (by decide) at_127 rfl (lenOf pd_6 rfl) rfl (Nat.le_of_eq rfl) (by decide) (by decide) (by decide) (by decide) rfl (fun T50 v51 os52 A53 P54 => ?_)
    obtain ⟨rfl, rfl⟩ := P54
    have A55 := A53.cast (k2 := 3) (n2 := 13) (os2 := [(b_1, .inr (.byte, [(.int (own_b0 x0)), (.int (own_by 8 x0)), (.int (own_by 16 x0)), (.int (own_by 24 x0)), (.int (own_by 32 x0))])), (b27, ob0 (.int 0) (.int (own_l (own_by 24 x1) (own_by 32 x1))) (.int 0)), (b_7, .inr (.byte, [(.int (own_b0 x1)), (.int (own_by 8 x1)), (.int (own_by 16 x1)), (.int (own_by 24 x1)), (.int (own_by 32 x1))]))]) rfl rfl rfl
    refine A55.aload (q := 132) at_130 rfl rfl rfl ?_
    have A56 := A55.pick (is := [0, 2, 1]) (os2 := [(b_1, .inr (.byte, [(.int (own_b0 x0)), (.int (own_by 8 x0)), (.int (own_by 16 x0)), (.int (own_by 24 x0)), (.int (own_by 32 x0))])), (b_7, .inr (.byte, [(.int (own_b0 x1)), (.int (own_by 8 x1)), (.int (own_by 16 x1)), (.int (own_by 24 x1)), (.int (own_by 32 x1))])), (b27, ob0 (.int 0) (.int (own_l (own_by 24 x1) (own_by 32 x1))) (.int 0))]) (by decide) rfl
    refine Here.callV (qn := 135) (os1 := [(b_1, .inr (.byte, [(.int (own_b0 x0)), (.int (own_by 8 x0)), (.int (own_by 16 x0)), (.int (own_by 24 x0)), (.int (own_by 32 x0))])), (b_7, .inr (.byte, [(.int (own_b0 x1)), (.int (own_by 8 x1)), (.int (own_by 16 x1)), (.int (own_by 24 x1)), (.int (own_by 32 x1))]))]) (os2 := [(b27, ob0 (.int 0) (.int (own_l (own_by 24 x1) (own_by 32 x1))) (.int 0))]) (rest := []) (W := 0) (argsL := []) (a := b27) (i := 2) A56 (m_btw l Z a0 hw b27 ((own_l (own_by 24 x1) (own_by 32 x1))) ((0 : Int32)) ((0 : Int32))) (Or.inr ⟨rfl, rfl⟩) rfl (tw hw 24 rfl) (tw hw 25 rfl) (tw hw 27 rfl) (tw hw 26 rfl) (tw hw 12 rfl) (tw hw 28 rfl) (by decide) at_132 rfl (lenOf pd_7 rfl) rfl (Nat.le_of_eq rfl) (by decide) (by decide) (by decide) (by decide) rfl (fun T57 v58 os59 A60 P61 => ?_)
    obtain ⟨r_132, rfl, rfl, hq_132⟩ := P61
    have A62 := A60.cast (k2 := 3) (n2 := 13) (os2 := [(b_1, .inr (.byte, [(.int (own_b0 x0)), (.int (own_by 8 x0)), (.int (own_by 16 x0)), (.int (own_by 24 x0)), (.int (own_by 32 x0))])), (b_7, .inr (.byte, [(.int (own_b0 x1)), (.int (own_by 8 x1)), (.int (own_by 16 x1)), (.int (own_by 24 x1)), (.int (own_by 32 x1))])), (b27, ob0 (.int 0) (.int (own_l (own_by 24 x1) (own_by 32 x1))) (.int 0))]) rfl rfl rfl
    refine A62.istore (q := 137) (l' := #[.val (.long x0), .second, .val (.long x1), .second, .val (.int x2), .val (.int x3), .val (.ref b_1), .val (.ref b_7), .val (.int (own_len x0)), .val (.int (own_len x1)), .val (.int kv), .val (.int nn), .val (.int ((own_len x0) - nn)), .val (.ref b27), .val (.int v1), .val (.int v2), .val (.int r_111), .val (.int r_132)]) at_135 rfl rfl ?_
    refine A62.iload (q := 139) at_137 rfl rfl ?_
    refine A62.iload (q := 141) at_139 rfl rfl ?_
    by_cases hc141_63 : kv = (0 : Int32)
    · refine A62.ifYes (q := 155) at_141 ((if0 _ _).trans (teq hc141_63).1) (by decide) (by decide) ?_
      refine A62.iconst (q := 156) (v := 1) at_155 rfl rfl ?_
      refine A62.goto (q := 160) at_156 (by decide) (by decide) ?_
      have hc160_64 : v1 = (1 : Int32) := by
        clear hw A0 A4 A6 A10 A12 A16 A18 A22 A24 A26 A28 A32 A34 A36 A40 A42 A46 A48 A49 A53 A55 A56 A60 A62
        (try simp only [true_and, and_true, false_and, and_false, true_or, or_true, false_or, or_false, not_true_eq_false, not_false_eq_true, Int32.lt_iff_toInt_lt, Int64.lt_iff_toInt_lt, Int32.le_iff_toInt_le, Int64.le_iff_toInt_le, ← Int32.toInt_inj, ← Int64.toInt_inj, Int32.toInt_add, Int32.toInt_sub, Int32.toInt_neg, Int64.toInt_add, Int64.toInt_sub, Int64.toInt_neg, Int64.toInt_mul, Int32.toInt_toInt64, bm32, bm64, l32_0, l32_1, l32_2, l32_3, l32_4, l32_5, l32_6, l32_2147483647, own_len_eq] at hl1 hn hJ97 hq_106 hq_111 hq_132 hc141_63 ⊢) <;> omega
      refine A62.icmpNo (q := 163) at_160 (teq hc160_64).2 rfl ?_
      refine A62.iload (q := 165) at_163 rfl rfl ?_
      refine A62.iload (q := 167) at_165 rfl rfl ?_
      by_cases hc167_65 : (own_len x0) = (0 : Int32)
      · refine A62.ifNo (q := 170) at_167 ((if0 _ _).trans (teq hc167_65).2) rfl ?_
        refine A62.iconst (q := 171) (v := 1) at_170 rfl rfl ?_
        refine A62.goto (q := 175) at_171 (by decide) (by decide) ?_
        have hc175_66 : v2 = (1 : Int32) := by
          clear hw A0 A4 A6 A10 A12 A16 A18 A22 A24 A26 A28 A32 A34 A36 A40 A42 A46 A48 A49 A53 A55 A56 A60 A62
          (try simp only [true_and, and_true, false_and, and_false, true_or, or_true, false_or, or_false, not_true_eq_false, not_false_eq_true, Int32.lt_iff_toInt_lt, Int64.lt_iff_toInt_lt, Int32.le_iff_toInt_le, Int64.le_iff_toInt_le, ← Int32.toInt_inj, ← Int64.toInt_inj, Int32.toInt_add, Int32.toInt_sub, Int32.toInt_neg, Int64.toInt_add, Int64.toInt_sub, Int64.toInt_neg, Int64.toInt_mul, Int32.toInt_toInt64, bm32, bm64, l32_0, l32_1, l32_2, l32_3, l32_4, l32_5, l32_6, l32_2147483647, own_len_eq] at hl1 hn hJ97 hq_106 hq_111 hq_132 hc141_63 hc160_64 hc167_65 ⊢) <;> omega
        refine A62.icmpNo (q := 178) at_175 (teq hc175_66).2 rfl ?_
        refine A62.iload (q := 180) at_178 rfl rfl ?_
        refine A62.iload (q := 182) at_180 rfl rfl ?_
        refine A62.iload (q := 184) at_182 rfl rfl ?_
        by_cases hc184_67 : nn = (own_len x0)
        · refine A62.icmpNo (q := 187) at_184 (teq hc184_67).2 rfl ?_
          refine A62.iconst (q := 188) (v := 1) at_187 rfl rfl ?_
          refine A62.goto (q := 192) at_188 (by decide) (by decide) ?_
          have hc192_68 : r_111 = (1 : Int32) := by
            clear hw A0 A4 A6 A10 A12 A16 A18 A22 A24 A26 A28 A32 A34 A36 A40 A42 A46 A48 A49 A53 A55 A56 A60 A62
            (try simp only [true_and, and_true, false_and, and_false, true_or, or_true, false_or, or_false, not_true_eq_false, not_false_eq_true, Int32.lt_iff_toInt_lt, Int64.lt_iff_toInt_lt, Int32.le_iff_toInt_le, Int64.le_iff_toInt_le, ← Int32.toInt_inj, ← Int64.toInt_inj, Int32.toInt_add, Int32.toInt_sub, Int32.toInt_neg, Int64.toInt_add, Int64.toInt_sub, Int64.toInt_neg, Int64.toInt_mul, Int32.toInt_toInt64, bm32, bm64, l32_0, l32_1, l32_2, l32_3, l32_4, l32_5, l32_6, l32_2147483647, own_len_eq] at hl1 hn hJ97 hq_106 hq_111 hq_132 hc141_63 hc160_64 hc167_65 hc175_66 hc184_67 ⊢) <;> omega
          refine A62.icmpNo (q := 195) at_192 (teq hc192_68).2 rfl ?_
          refine A62.iload (q := 197) at_195 rfl rfl ?_
          refine A62.iload (q := 199) at_197 rfl rfl ?_
          by_cases hc199_69 : (own_len x1) = (0 : Int32)
          · refine A62.ifNo (q := 202) at_199 ((if0 _ _).trans (teq hc199_69).2) rfl ?_
            refine A62.iconst (q := 203) (v := 1) at_202 rfl rfl ?_
            refine A62.goto (q := 207) at_203 (by decide) (by decide) ?_
            have hc207_70 : r_132 = (1 : Int32) := by
              clear hw A0 A4 A6 A10 A12 A16 A18 A22 A24 A26 A28 A32 A34 A36 A40 A42 A46 A48 A49 A53 A55 A56 A60 A62
              (try simp only [true_and, and_true, false_and, and_false, true_or, or_true, false_or, or_false, not_true_eq_false, not_false_eq_true, Int32.lt_iff_toInt_lt, Int64.lt_iff_toInt_lt, Int32.le_iff_toInt_le, Int64.le_iff_toInt_le, ← Int32.toInt_inj, ← Int64.toInt_inj, Int32.toInt_add, Int32.toInt_sub, Int32.toInt_neg, Int64.toInt_add, Int64.toInt_sub, Int64.toInt_neg, Int64.toInt_mul, Int32.toInt_toInt64, bm32, bm64, l32_0, l32_1, l32_2, l32_3, l32_4, l32_5, l32_6, l32_2147483647, own_len_eq] at hl1 hn hJ97 hq_106 hq_111 hq_132 hc141_63 hc160_64 hc167_65 hc175_66 hc184_67 hc192_68 hc199_69 ⊢) <;> omega
            refine A62.icmpNo (q := 210) at_207 (teq hc207_70).2 rfl ?_
            refine A62.iconst (q := 211) (v := 1) at_210 rfl rfl ?_
            refine A62.goto (q := 215) at_211 (by decide) (by decide) ?_
            exact A62.retN (by simp) at_215 (by decide) (by decide) ⟨rfl, trivial⟩
          · refine A62.ifYes (q := 206) at_199 ((if0 _ _).trans (feq hc199_69).2) (by decide) (by decide) ?_
            refine A62.iconst (q := 207) (v := 0) at_206 rfl rfl ?_
            have hc207_71 : r_132 = (0 : Int32) := by
              clear hw A0 A4 A6 A10 A12 A16 A18 A22 A24 A26 A28 A32 A34 A36 A40 A42 A46 A48 A49 A53 A55 A56 A60 A62
              (try simp only [true_and, and_true, false_and, and_false, true_or, or_true, false_or, or_false, not_true_eq_false, not_false_eq_true, Int32.lt_iff_toInt_lt, Int64.lt_iff_toInt_lt, Int32.le_iff_toInt_le, Int64.le_iff_toInt_le, ← Int32.toInt_inj, ← Int64.toInt_inj, Int32.toInt_add, Int32.toInt_sub, Int32.toInt_neg, Int64.toInt_add, Int64.toInt_sub, Int64.toInt_neg, Int64.toInt_mul, Int32.toInt_toInt64, bm32, bm64, l32_0, l32_1, l32_2, l32_3, l32_4, l32_5, l32_6, l32_2147483647, own_len_eq] at hl1 hn hJ97 hq_106 hq_111 hq_132 hc141_63 hc160_64 hc167_65 hc175_66 hc184_67 hc192_68 hc199_69 ⊢) <;> omega
            refine A62.icmpNo (q := 210) at_207 (teq hc207_71).2 rfl ?_
            refine A62.iconst (q := 211) (v := 1) at_210 rfl rfl ?_
            refine A62.goto (q := 215) at_211 (by decide) (by decide) ?_
            exact A62.retN (by simp) at_215 (by decide) (by decide) ⟨rfl, trivial⟩
        · refine A62.icmpYes (q := 191) at_184 (feq hc184_67).2 (by decide) (by decide) ?_
          refine A62.iconst (q := 192) (v := 0) at_191 rfl rfl ?_
          have hc192_72 : r_111 = (0 : Int32) := by
            clear hw A0 A4 A6 A10 A12 A16 A18 A22 A24 A26 A28 A32 A34 A36 A40 A42 A46 A48 A49 A53 A55 A56 A60 A62
            (try simp only [true_and, and_true, false_and, and_false, true_or, or_true, false_or, or_false, not_true_eq_false, not_false_eq_true, Int32.lt_iff_toInt_lt, Int64.lt_iff_toInt_lt, Int32.le_iff_toInt_le, Int64.le_iff_toInt_le, ← Int32.toInt_inj, ← Int64.toInt_inj, Int32.toInt_add, Int32.toInt_sub, Int32.toInt_neg, Int64.toInt_add, Int64.toInt_sub, Int64.toInt_neg, Int64.toInt_mul, Int32.toInt_toInt64, bm32, bm64, l32_0, l32_1, l32_2, l32_3, l32_4, l32_5, l32_6, l32_2147483647, own_len_eq] at hl1 hn hJ97 hq_106 hq_111 hq_132 hc141_63 hc160_64 hc167_65 hc175_66 hc184_67 ⊢) <;> omega
          refine A62.icmpNo (q := 195) at_192 (teq hc192_72).2 rfl ?_
          refine A62.iload (q := 197) at_195 rfl rfl ?_
          refine A62.iload (q := 199) at_197 rfl rfl ?_
          by_cases hc199_73 : (own_len x1) = (0 : Int32)
          · refine A62.ifNo (q := 202) at_199 ((if0 _ _).trans (teq hc199_73).2) rfl ?_
            refine A62.iconst (q := 203) (v := 1) at_202 rfl rfl ?_
            refine A62.goto (q := 207) at_203 (by decide) (by decide) ?_
            have hc207_74 : r_132 = (1 : Int32) := by
              clear hw A0 A4 A6 A10 A12 A16 A18 A22 A24 A26 A28 A32 A34 A36 A40 A42 A46 A48 A49 A53 A55 A56 A60 A62
              (try simp only [true_and, and_true, false_and, and_false, true_or, or_true, false_or, or_false, not_true_eq_false, not_false_eq_true, Int32.lt_iff_toInt_lt, Int64.lt_iff_toInt_lt, Int32.le_iff_toInt_le, Int64.le_iff_toInt_le, ← Int32.toInt_inj, ← Int64.toInt_inj, Int32.toInt_add, Int32.toInt_sub, Int32.toInt_neg, Int64.toInt_add, Int64.toInt_sub, Int64.toInt_neg, Int64.toInt_mul, Int32.toInt_toInt64, bm32, bm64, l32_0, l32_1, l32_2, l32_3, l32_4, l32_5, l32_6, l32_2147483647, own_len_eq] at hl1 hn hJ97 hq_106 hq_111 hq_132 hc141_63 hc160_64 hc167_65 hc175_66 hc184_67 hc192_72 hc199_73 ⊢) <;> omega
            refine A62.icmpNo (q := 210) at_207 (teq hc207_74).2 rfl ?_
            refine A62.iconst (q := 211) (v := 1) at_210 rfl rfl ?_
            refine A62.goto (q := 215) at_211 (by decide) (by decide) ?_
            exact A62.retN (by simp) at_215 (by decide) (by decide) ⟨rfl, trivial⟩
          · refine A62.ifYes (q := 206) at_199 ((if0 _ _).trans (feq hc199_73).2) (by decide) (by decide) ?_
            refine A62.iconst (q := 207) (v := 0) at_206 rfl rfl ?_
            have hc207_75 : r_132 = (0 : Int32) := by
              clear hw A0 A4 A6 A10 A12 A16 A18 A22 A24 A26 A28 A32 A34 A36 A40 A42 A46 A48 A49 A53 A55 A56 A60 A62
              (try simp only [true_and, and_true, false_and, and_false, true_or, or_true, false_or, or_false, not_true_eq_false, not_false_eq_true, Int32.lt_iff_toInt_lt, Int64.lt_iff_toInt_lt, Int32.le_iff_toInt_le, Int64.le_iff_toInt_le, ← Int32.toInt_inj, ← Int64.toInt_inj, Int32.toInt_add, Int32.toInt_sub, Int32.toInt_neg, Int64.toInt_add, Int64.toInt_sub, Int64.toInt_neg, Int64.toInt_mul, Int32.toInt_toInt64, bm32, bm64, l32_0, l32_1, l32_2, l32_3, l32_4, l32_5, l32_6, l32_2147483647, own_len_eq] at hl1 hn hJ97 hq_106 hq_111 hq_132 hc141_63 hc160_64 hc167_65 hc175_66 hc184_67 hc192_72 hc199_73 ⊢) <;> omega
            refine A62.icmpNo (q := 210) at_207 (teq hc207_75).2 rfl ?_
            refine A62.iconst (q := 211) (v := 1) at_210 rfl rfl ?_
            refine A62.goto (q := 215) at_211 (by decide) (by decide) ?_
            exact A62.retN (by simp) at_215 (by decide) (by decide) ⟨rfl, trivial⟩
      · refine A62.ifYes (q := 174) at_167 ((if0 _ _).trans (feq hc167_65).2) (by decide) (by decide) ?_
        refine A62.iconst (q := 175) (v := 0) at_174 rfl rfl ?_
        have hc175_76 : v2 = (0 : Int32) := by
          clear hw A0 A4 A6 A10 A12 A16 A18 A22 A24 A26 A28 A32 A34 A36 A40 A42 A46 A48 A49 A53 A55 A56 A60 A62
          (try simp only [true_and, and_true, false_and, and_false, true_or, or_true, false_or, or_false, not_true_eq_false, not_false_eq_true, Int32.lt_iff_toInt_lt, Int64.lt_iff_toInt_lt, Int32.le_iff_toInt_le, Int64.le_iff_toInt_le, ← Int32.toInt_inj, ← Int64.toInt_inj, Int32.toInt_add, Int32.toInt_sub, Int32.toInt_neg, Int64.toInt_add, Int64.toInt_sub, Int64.toInt_neg, Int64.toInt_mul, Int32.toInt_toInt64, bm32, bm64, l32_0, l32_1, l32_2, l32_3, l32_4, l32_5, l32_6, l32_2147483647, own_len_eq] at hl1 hn hJ97 hq_106 hq_111 hq_132 hc141_63 hc160_64 hc167_65 ⊢) <;> omega
        refine A62.icmpNo (q := 178) at_175 (teq hc175_76).2 rfl ?_
        refine A62.iload (q := 180) at_178 rfl rfl ?_
        refine A62.iload (q := 182) at_180 rfl rfl ?_
        refine A62.iload (q := 184) at_182 rfl rfl ?_
        by_cases hc184_77 : nn = (own_len x0)
        · refine A62.icmpNo (q := 187) at_184 (teq hc184_77).2 rfl ?_
          refine A62.iconst (q := 188) (v := 1) at_187 rfl rfl ?_
          refine A62.goto (q := 192) at_188 (by decide) (by decide) ?_
          have hc192_78 : r_111 = (1 : Int32) := by
            clear hw A0 A4 A6 A10 A12 A16 A18 A22 A24 A26 A28 A32 A34 A36 A40 A42 A46 A48 A49 A53 A55 A56 A60 A62
            (try simp only [true_and, and_true, false_and, and_false, true_or, or_true, false_or, or_false, not_true_eq_false, not_false_eq_true, Int32.lt_iff_toInt_lt, Int64.lt_iff_toInt_lt, Int32.le_iff_toInt_le, Int64.le_iff_toInt_le, ← Int32.toInt_inj, ← Int64.toInt_inj, Int32.toInt_add, Int32.toInt_sub, Int32.toInt_neg, Int64.toInt_add, Int64.toInt_sub, Int64.toInt_neg, Int64.toInt_mul, Int32.toInt_toInt64, bm32, bm64, l32_0, l32_1, l32_2, l32_3, l32_4, l32_5, l32_6, l32_2147483647, own_len_eq] at hl1 hn hJ97 hq_106 hq_111 hq_132 hc141_63 hc160_64 hc167_65 hc175_76 hc184_77 ⊢) <;> omega
          refine A62.icmpNo (q := 195) at_192 (teq hc192_78).2 rfl ?_
          refine A62.iload (q := 197) at_195 rfl rfl ?_
          refine A62.iload (q := 199) at_197 rfl rfl ?_
          by_cases hc199_79 : (own_len x1) = (0 : Int32)
          · refine A62.ifNo (q := 202) at_199 ((if0 _ _).trans (teq hc199_79).2) rfl ?_
            refine A62.iconst (q := 203) (v := 1) at_202 rfl rfl ?_
            refine A62.goto (q := 207) at_203 (by decide) (by decide) ?_
            have hc207_80 : r_132 = (1 : Int32) := by
              clear hw A0 A4 A6 A10 A12 A16 A18 A22 A24 A26 A28 A32 A34 A36 A40 A42 A46 A48 A49 A53 A55 A56 A60 A62
              (try simp only [true_and, and_true, false_and, and_false, true_or, or_true, false_or, or_false, not_true_eq_false, not_false_eq_true, Int32.lt_iff_toInt_lt, Int64.lt_iff_toInt_lt, Int32.le_iff_toInt_le, Int64.le_iff_toInt_le, ← Int32.toInt_inj, ← Int64.toInt_inj, Int32.toInt_add, Int32.toInt_sub, Int32.toInt_neg, Int64.toInt_add, Int64.toInt_sub, Int64.toInt_neg, Int64.toInt_mul, Int32.toInt_toInt64, bm32, bm64, l32_0, l32_1, l32_2, l32_3, l32_4, l32_5, l32_6, l32_2147483647, own_len_eq] at hl1 hn hJ97 hq_106 hq_111 hq_132 hc141_63 hc160_64 hc167_65 hc175_76 hc184_77 hc192_78 hc199_79 ⊢) <;> omega
            refine A62.icmpNo (q := 210) at_207 (teq hc207_80).2 rfl ?_
            refine A62.iconst (q := 211) (v := 1) at_210 rfl rfl ?_
            refine A62.goto (q := 215) at_211 (by decide) (by decide) ?_
            exact A62.retN (by simp) at_215 (by decide) (by decide) ⟨rfl, trivial⟩
          · refine A62.ifYes (q := 206) at_199 ((if0 _ _).trans (feq hc199_79).2) (by decide) (by decide) ?_
            refine A62.iconst (q := 207) (v := 0) at_206 rfl rfl ?_
            have hc207_81 : r_132 = (0 : Int32) := by
              clear hw A0 A4 A6 A10 A12 A16 A18 A22 A24 A26 A28 A32 A34 A36 A40 A42 A46 A48 A49 A53 A55 A56 A60 A62
              (try simp only [true_and, and_true, false_and, and_false, true_or, or_true, false_or, or_false, not_true_eq_false, not_false_eq_true, Int32.lt_iff_toInt_lt, Int64.lt_iff_toInt_lt, Int32.le_iff_toInt_le, Int64.le_iff_toInt_le, ← Int32.toInt_inj, ← Int64.toInt_inj, Int32.toInt_add, Int32.toInt_sub, Int32.toInt_neg, Int64.toInt_add, Int64.toInt_sub, Int64.toInt_neg, Int64.toInt_mul, Int32.toInt_toInt64, bm32, bm64, l32_0, l32_1, l32_2, l32_3, l32_4, l32_5, l32_6, l32_2147483647, own_len_eq] at hl1 hn hJ97 hq_106 hq_111 hq_132 hc141_63 hc160_64 hc167_65 hc175_76 hc184_77 hc192_78 hc199_79 ⊢) <;> omega
            refine A62.icmpNo (q := 210) at_207 (teq hc207_81).2 rfl ?_
            refine A62.iconst (q := 211) (v := 1) at_210 rfl rfl ?_
            refine A62.goto (q := 215) at_211 (by decide) (by decide) ?_
            exact A62.retN (by simp) at_215 (by decide) (by decide) ⟨rfl, trivial⟩
        · refine A62.icmpYes (q := 191) at_184 (feq hc184_77).2 (by decide) (by decide) ?_
          refine A62.iconst (q := 192) (v := 0) at_191 rfl rfl ?_
          have hc192_82 : r_111 = (0 : Int32) := by
            clear hw A0 A4 A6 A10 A12 A16 A18 A22 A24 A26 A28 A32 A34 A36 A40 A42 A46 A48 A49 A53 A55 A56 A60 A62
            (try simp only [true_and, and_true, false_and, and_false, true_or, or_true, false_or, or_false, not_true_eq_false, not_false_eq_true, Int32.lt_iff_toInt_lt, Int64.lt_iff_toInt_lt, Int32.le_iff_toInt_le, Int64.le_iff_toInt_le, ← Int32.toInt_inj, ← Int64.toInt_inj, Int32.toInt_add, Int32.toInt_sub, Int32.toInt_neg, Int64.toInt_add, Int64.toInt_sub, Int64.toInt_neg, Int64.toInt_mul, Int32.toInt_toInt64, bm32, bm64, l32_0, l32_1, l32_2, l32_3, l32_4, l32_5, l32_6, l32_2147483647, own_len_eq] at hl1 hn hJ97 hq_106 hq_111 hq_132 hc141_63 hc160_64 hc167_65 hc175_76 hc184_77 ⊢) <;> omega
          refine A62.icmpNo (q := 195) at_192 (teq hc192_82).2 rfl ?_
          refine A62.iload (q := 197) at_195 rfl rfl ?_
          refine A62.iload (q := 199) at_197 rfl rfl ?_
          by_cases hc199_83 : (own_len x1) = (0 : Int32)
          · refine A62.ifNo (q := 202) at_199 ((if0 _ _).trans (teq hc199_83).2) rfl ?_
            refine A62.iconst (q := 203) (v := 1) at_202 rfl rfl ?_
            refine A62.goto (q := 207) at_203 (by decide) (by decide) ?_
            have hc207_84 : r_132 = (1 : Int32) := by
              clear hw A0 A4 A6 A10 A12 A16 A18 A22 A24 A26 A28 A32 A34 A36 A40 A42 A46 A48 A49 A53 A55 A56 A60 A62
              (try simp only [true_and, and_true, false_and, and_false, true_or, or_true, false_or, or_false, not_true_eq_false, not_false_eq_true, Int32.lt_iff_toInt_lt, Int64.lt_iff_toInt_lt, Int32.le_iff_toInt_le, Int64.le_iff_toInt_le, ← Int32.toInt_inj, ← Int64.toInt_inj, Int32.toInt_add, Int32.toInt_sub, Int32.toInt_neg, Int64.toInt_add, Int64.toInt_sub, Int64.toInt_neg, Int64.toInt_mul, Int32.toInt_toInt64, bm32, bm64, l32_0, l32_1, l32_2, l32_3, l32_4, l32_5, l32_6, l32_2147483647, own_len_eq] at hl1 hn hJ97 hq_106 hq_111 hq_132 hc141_63 hc160_64 hc167_65 hc175_76 hc184_77 hc192_82 hc199_83 ⊢) <;> omega
            refine A62.icmpNo (q := 210) at_207 (teq hc207_84).2 rfl ?_
            refine A62.iconst (q := 211) (v := 1) at_210 rfl rfl ?_
            refine A62.goto (q := 215) at_211 (by decide) (by decide) ?_
            exact A62.retN (by simp) at_215 (by decide) (by decide) ⟨rfl, trivial⟩
          · refine A62.ifYes (q := 206) at_199 ((if0 _ _).trans (feq hc199_83).2) (by decide) (by decide) ?_
            refine A62.iconst (q := 207) (v := 0) at_206 rfl rfl ?_
            have hc207_85 : r_132 = (0 : Int32) := by
              clear hw A0 A4 A6 A10 A12 A16 A18 A22 A24 A26 A28 A32 A34 A36 A40 A42 A46 A48 A49 A53 A55 A56 A60 A62
              (try simp only [true_and, and_true, false_and, and_false, true_or, or_true, false_or, or_false, not_true_eq_false, not_false_eq_true, Int32.lt_iff_toInt_lt, Int64.lt_iff_toInt_lt, Int32.le_iff_toInt_le, Int64.le_iff_toInt_le, ← Int32.toInt_inj, ← Int64.toInt_inj, Int32.toInt_add, Int32.toInt_sub, Int32.toInt_neg, Int64.toInt_add, Int64.toInt_sub, Int64.toInt_neg, Int64.toInt_mul, Int32.toInt_toInt64, bm32, bm64, l32_0, l32_1, l32_2, l32_3, l32_4, l32_5, l32_6, l32_2147483647, own_len_eq] at hl1 hn hJ97 hq_106 hq_111 hq_132 hc141_63 hc160_64 hc167_65 hc175_76 hc184_77 hc192_82 hc199_83 ⊢) <;> omega
            refine A62.icmpNo (q := 210) at_207 (teq hc207_85).2 rfl ?_
            refine A62.iconst (q := 211) (v := 1) at_210 rfl rfl ?_
            refine A62.goto (q := 215) at_211 (by decide) (by decide) ?_
            exact A62.retN (by simp) at_215 (by decide) (by decide) ⟨rfl, trivial⟩
    · refine A62.ifNo (q := 144) at_141 ((if0 _ _).trans (feq hc141_63).1) rfl ?_
      refine A62.iload (q := 146) at_144 rfl rfl ?_
      refine A62.iconst (q := 147) (v := 5) at_146 rfl rfl ?_
      by_cases hc147_86 : kv = (5 : Int32)
      · refine A62.icmpNo (q := 150) at_147 (teq hc147_86).2 rfl ?_
        refine A62.iload (q := 152) at_150 rfl rfl ?_
        by_cases hc152_87 : (own_len x0) = (0 : Int32)
        · refine A62.ifNo (q := 155) at_152 ((if0 _ _).trans (teq hc152_87).2) rfl ?_
          refine A62.iconst (q := 156) (v := 1) at_155 rfl rfl ?_
          refine A62.goto (q := 160) at_156 (by decide) (by decide) ?_
          have hc160_88 : v1 = (1 : Int32) := by
            clear hw A0 A4 A6 A10 A12 A16 A18 A22 A24 A26 A28 A32 A34 A36 A40 A42 A46 A48 A49 A53 A55 A56 A60 A62
            (try simp only [true_and, and_true, false_and, and_false, true_or, or_true, false_or, or_false, not_true_eq_false, not_false_eq_true, Int32.lt_iff_toInt_lt, Int64.lt_iff_toInt_lt, Int32.le_iff_toInt_le, Int64.le_iff_toInt_le, ← Int32.toInt_inj, ← Int64.toInt_inj, Int32.toInt_add, Int32.toInt_sub, Int32.toInt_neg, Int64.toInt_add, Int64.toInt_sub, Int64.toInt_neg, Int64.toInt_mul, Int32.toInt_toInt64, bm32, bm64, l32_0, l32_1, l32_2, l32_3, l32_4, l32_5, l32_6, l32_2147483647, own_len_eq] at hl1 hn hJ97 hq_106 hq_111 hq_132 hc141_63 hc147_86 hc152_87 ⊢) <;> omega
          refine A62.icmpNo (q := 163) at_160 (teq hc160_88).2 rfl ?_
          refine A62.iload (q := 165) at_163 rfl rfl ?_
          refine A62.iload (q := 167) at_165 rfl rfl ?_
          by_cases hc167_89 : (own_len x0) = (0 : Int32)
          · refine A62.ifNo (q := 170) at_167 ((if0 _ _).trans (teq hc167_89).2) rfl ?_
            refine A62.iconst (q := 171) (v := 1) at_170 rfl rfl ?_
            refine A62.goto (q := 175) at_171 (by decide) (by decide) ?_
            have hc175_90 : v2 = (1 : Int32) := by
              clear hw A0 A4 A6 A10 A12 A16 A18 A22 A24 A26 A28 A32 A34 A36 A40 A42 A46 A48 A49 A53 A55 A56 A60 A62
              (try simp only [true_and, and_true, false_and, and_false, true_or, or_true, false_or, or_false, not_true_eq_false, not_false_eq_true, Int32.lt_iff_toInt_lt, Int64.lt_iff_toInt_lt, Int32.le_iff_toInt_le, Int64.le_iff_toInt_le, ← Int32.toInt_inj, ← Int64.toInt_inj, Int32.toInt_add, Int32.toInt_sub, Int32.toInt_neg, Int64.toInt_add, Int64.toInt_sub, Int64.toInt_neg, Int64.toInt_mul, Int32.toInt_toInt64, bm32, bm64, l32_0, l32_1, l32_2, l32_3, l32_4, l32_5, l32_6, l32_2147483647, own_len_eq] at hl1 hn hJ97 hq_106 hq_111 hq_132 hc141_63 hc147_86 hc152_87 hc160_88 hc167_89 ⊢) <;> omega
            refine A62.icmpNo (q := 178) at_175 (teq hc175_90).2 rfl ?_
            refine A62.iload (q := 180) at_178 rfl rfl ?_
            refine A62.iload (q := 182) at_180 rfl rfl ?_
            refine A62.iload (q := 184) at_182 rfl rfl ?_
            by_cases hc184_91 : nn = (own_len x0)
            · refine A62.icmpNo (q := 187) at_184 (teq hc184_91).2 rfl ?_
              refine A62.iconst (q := 188) (v := 1) at_187 rfl rfl ?_
              refine A62.goto (q := 192) at_188 (by decide) (by decide) ?_
              have hc192_92 : r_111 = (1 : Int32) := by
                clear hw A0 A4 A6 A10 A12 A16 A18 A22 A24 A26 A28 A32 A34 A36 A40 A42 A46 A48 A49 A53 A55 A56 A60 A62
                (try simp only [true_and, and_true, false_and, and_false, true_or, or_true, false_or, or_false, not_true_eq_false, not_false_eq_true, Int32.lt_iff_toInt_lt, Int64.lt_iff_toInt_lt, Int32.le_iff_toInt_le, Int64.le_iff_toInt_le, ← Int32.toInt_inj, ← Int64.toInt_inj, Int32.toInt_add, Int32.toInt_sub, Int32.toInt_neg, Int64.toInt_add, Int64.toInt_sub, Int64.toInt_neg, Int64.toInt_mul, Int32.toInt_toInt64, bm32, bm64, l32_0, l32_1, l32_2, l32_3, l32_4, l32_5, l32_6, l32_2147483647, own_len_eq] at hl1 hn hJ97 hq_106 hq_111 hq_132 hc141_63 hc147_86 hc152_87 hc160_88 hc167_89 hc175_90 hc184_91 ⊢) <;> omega
              refine A62.icmpNo (q := 195) at_192 (teq hc192_92).2 rfl ?_
              refine A62.iload (q := 197) at_195 rfl rfl ?_
              refine A62.iload (q := 199) at_197 rfl rfl ?_
              by_cases hc199_93 : (own_len x1) = (0 : Int32)
              · refine A62.ifNo (q := 202) at_199 ((if0 _ _).trans (teq hc199_93).2) rfl ?_
                refine A62.iconst (q := 203) (v := 1) at_202 rfl rfl ?_
                refine A62.goto (q := 207) at_203 (by decide) (by decide) ?_
                have hc207_94 : r_132 = (1 : Int32) := by
                  clear hw A0 A4 A6 A10 A12 A16 A18 A22 A24 A26 A28 A32 A34 A36 A40 A42 A46 A48 A49 A53 A55 A56 A60 A62
                  (try simp only [true_and, and_true, false_and, and_false, true_or, or_true, false_or, or_false, not_true_eq_false, not_false_eq_true, Int32.lt_iff_toInt_lt, Int64.lt_iff_toInt_lt, Int32.le_iff_toInt_le, Int64.le_iff_toInt_le, ← Int32.toInt_inj, ← Int64.toInt_inj, Int32.toInt_add, Int32.toInt_sub, Int32.toInt_neg, Int64.toInt_add, Int64.toInt_sub, Int64.toInt_neg, Int64.toInt_mul, Int32.toInt_toInt64, bm32, bm64, l32_0, l32_1, l32_2, l32_3, l32_4, l32_5, l32_6, l32_2147483647, own_len_eq] at hl1 hn hJ97 hq_106 hq_111 hq_132 hc141_63 hc147_86 hc152_87 hc160_88 hc167_89 hc175_90 hc184_91 hc192_92 hc199_93 ⊢) <;> omega
                refine A62.icmpNo (q := 210) at_207 (teq hc207_94).2 rfl ?_
                refine A62.iconst (q := 211) (v := 1) at_210 rfl rfl ?_
                refine A62.goto (q := 215) at_211 (by decide) (by decide) ?_
                exact A62.retN (by simp) at_215 (by decide) (by decide) ⟨rfl, trivial⟩
              · refine A62.ifYes (q := 206) at_199 ((if0 _ _).trans (feq hc199_93).2) (by decide) (by decide) ?_
                refine A62.iconst (q := 207) (v := 0) at_206 rfl rfl ?_
                have hc207_95 : r_132 = (0 : Int32) := by
                  clear hw A0 A4 A6 A10 A12 A16 A18 A22 A24 A26 A28 A32 A34 A36 A40 A42 A46 A48 A49 A53 A55 A56 A60 A62
                  (try simp only [true_and, and_true, false_and, and_false, true_or, or_true, false_or, or_false, not_true_eq_false, not_false_eq_true, Int32.lt_iff_toInt_lt, Int64.lt_iff_toInt_lt, Int32.le_iff_toInt_le, Int64.le_iff_toInt_le, ← Int32.toInt_inj, ← Int64.toInt_inj, Int32.toInt_add, Int32.toInt_sub, Int32.toInt_neg, Int64.toInt_add, Int64.toInt_sub, Int64.toInt_neg, Int64.toInt_mul, Int32.toInt_toInt64, bm32, bm64, l32_0, l32_1, l32_2, l32_3, l32_4, l32_5, l32_6, l32_2147483647, own_len_eq] at hl1 hn hJ97 hq_106 hq_111 hq_132 hc141_63 hc147_86 hc152_87 hc160_88 hc167_89 hc175_90 hc184_91 hc192_92 hc199_93 ⊢) <;> omega
                refine A62.icmpNo (q := 210) at_207 (teq hc207_95).2 rfl ?_
                refine A62.iconst (q := 211) (v := 1) at_210 rfl rfl ?_
                refine A62.goto (q := 215) at_211 (by decide) (by decide) ?_
                exact A62.retN (by simp) at_215 (by decide) (by decide) ⟨rfl, trivial⟩
            · refine A62.icmpYes (q := 191) at_184 (feq hc184_91).2 (by decide) (by decide) ?_
              refine A62.iconst (q := 192) (v := 0) at_191 rfl rfl ?_
              have hc192_96 : r_111 = (0 : Int32) := by
                clear hw A0 A4 A6 A10 A12 A16 A18 A22 A24 A26 A28 A32 A34 A36 A40 A42 A46 A48 A49 A53 A55 A56 A60 A62
                (try simp only [true_and, and_true, false_and, and_false, true_or, or_true, false_or, or_false, not_true_eq_false, not_false_eq_true, Int32.lt_iff_toInt_lt, Int64.lt_iff_toInt_lt, Int32.le_iff_toInt_le, Int64.le_iff_toInt_le, ← Int32.toInt_inj, ← Int64.toInt_inj, Int32.toInt_add, Int32.toInt_sub, Int32.toInt_neg, Int64.toInt_add, Int64.toInt_sub, Int64.toInt_neg, Int64.toInt_mul, Int32.toInt_toInt64, bm32, bm64, l32_0, l32_1, l32_2, l32_3, l32_4, l32_5, l32_6, l32_2147483647, own_len_eq] at hl1 hn hJ97 hq_106 hq_111 hq_132 hc141_63 hc147_86 hc152_87 hc160_88 hc167_89 hc175_90 hc184_91 ⊢) <;> omega
              refine A62.icmpNo (q := 195) at_192 (teq hc192_96).2 rfl ?_
              refine A62.iload (q := 197) at_195 rfl rfl ?_
              refine A62.iload (q := 199) at_197 rfl rfl ?_
              by_cases hc199_97 : (own_len x1) = (0 : Int32)
              · refine A62.ifNo (q := 202) at_199 ((if0 _ _).trans (teq hc199_97).2) rfl ?_
                refine A62.iconst (q := 203) (v := 1) at_202 rfl rfl ?_
                refine A62.goto (q := 207) at_203 (by decide) (by decide) ?_
                have hc207_98 : r_132 = (1 : Int32) := by
                  clear hw A0 A4 A6 A10 A12 A16 A18 A22 A24 A26 A28 A32 A34 A36 A40 A42 A46 A48 A49 A53 A55 A56 A60 A62
                  (try simp only [true_and, and_true, false_and, and_false, true_or, or_true, false_or, or_false, not_true_eq_false, not_false_eq_true, Int32.lt_iff_toInt_lt, Int64.lt_iff_toInt_lt, Int32.le_iff_toInt_le, Int64.le_iff_toInt_le, ← Int32.toInt_inj, ← Int64.toInt_inj, Int32.toInt_add, Int32.toInt_sub, Int32.toInt_neg, Int64.toInt_add, Int64.toInt_sub, Int64.toInt_neg, Int64.toInt_mul, Int32.toInt_toInt64, bm32, bm64, l32_0, l32_1, l32_2, l32_3, l32_4, l32_5, l32_6, l32_2147483647, own_len_eq] at hl1 hn hJ97 hq_106 hq_111 hq_132 hc141_63 hc147_86 hc152_87 hc160_88 hc167_89 hc175_90 hc184_91 hc192_96 hc199_97 ⊢) <;> omega
                refine A62.icmpNo (q := 210) at_207 (teq hc207_98).2 rfl ?_
                refine A62.iconst (q := 211) (v := 1) at_210 rfl rfl ?_
                refine A62.goto (q := 215) at_211 (by decide) (by decide) ?_
                exact A62.retN (by simp) at_215 (by decide) (by decide) ⟨rfl, trivial⟩
              · refine A62.ifYes (q := 206) at_199 ((if0 _ _).trans (feq hc199_97).2) (by decide) (by decide) ?_
                refine A62.iconst (q := 207) (v := 0) at_206 rfl rfl ?_
                have hc207_99 : r_132 = (0 : Int32) := by
                  clear hw A0 A4 A6 A10 A12 A16 A18 A22 A24 A26 A28 A32 A34 A36 A40 A42 A46 A48 A49 A53 A55 A56 A60 A62
                  (try simp only [true_and, and_true, false_and, and_false, true_or, or_true, false_or, or_false, not_true_eq_false, not_false_eq_true, Int32.lt_iff_toInt_lt, Int64.lt_iff_toInt_lt, Int32.le_iff_toInt_le, Int64.le_iff_toInt_le, ← Int32.toInt_inj, ← Int64.toInt_inj, Int32.toInt_add, Int32.toInt_sub, Int32.toInt_neg, Int64.toInt_add, Int64.toInt_sub, Int64.toInt_neg, Int64.toInt_mul, Int32.toInt_toInt64, bm32, bm64, l32_0, l32_1, l32_2, l32_3, l32_4, l32_5, l32_6, l32_2147483647, own_len_eq] at hl1 hn hJ97 hq_106 hq_111 hq_132 hc141_63 hc147_86 hc152_87 hc160_88 hc167_89 hc175_90 hc184_91 hc192_96 hc199_97 ⊢) <;> omega
                refine A62.icmpNo (q := 210) at_207 (teq hc207_99).2 rfl ?_
                refine A62.iconst (q := 211) (v := 1) at_210 rfl rfl ?_
                refine A62.goto (q := 215) at_211 (by decide) (by decide) ?_
                exact A62.retN (by simp) at_215 (by decide) (by decide) ⟨rfl, trivial⟩
          · refine A62.ifYes (q := 174) at_167 ((if0 _ _).trans (feq hc167_89).2) (by decide) (by decide) ?_
            refine A62.iconst (q := 175) (v := 0) at_174 rfl rfl ?_
            have hc175_100 : v2 = (0 : Int32) := by
              clear hw A0 A4 A6 A10 A12 A16 A18 A22 A24 A26 A28 A32 A34 A36 A40 A42 A46 A48 A49 A53 A55 A56 A60 A62
              (try simp only [true_and, and_true, false_and, and_false, true_or, or_true, false_or, or_false, not_true_eq_false, not_false_eq_true, Int32.lt_iff_toInt_lt, Int64.lt_iff_toInt_lt, Int32.le_iff_toInt_le, Int64.le_iff_toInt_le, ← Int32.toInt_inj, ← Int64.toInt_inj, Int32.toInt_add, Int32.toInt_sub, Int32.toInt_neg, Int64.toInt_add, Int64.toInt_sub, Int64.toInt_neg, Int64.toInt_mul, Int32.toInt_toInt64, bm32, bm64, l32_0, l32_1, l32_2, l32_3, l32_4, l32_5, l32_6, l32_2147483647, own_len_eq] at hl1 hn hJ97 hq_106 hq_111 hq_132 hc141_63 hc147_86 hc152_87 hc160_88 hc167_89 ⊢) <;> omega
            refine A62.icmpNo (q := 178) at_175 (teq hc175_100).2 rfl ?_
            refine A62.iload (q := 180) at_178 rfl rfl ?_
            refine A62.iload (q := 182) at_180 rfl rfl ?_
            refine A62.iload (q := 184) at_182 rfl rfl ?_
            by_cases hc184_101 : nn = (own_len x0)
            · refine A62.icmpNo (q := 187) at_184 (teq hc184_101).2 rfl ?_
              refine A62.iconst (q := 188) (v := 1) at_187 rfl rfl ?_
              refine A62.goto (q := 192) at_188 (by decide) (by decide) ?_
              have hc192_102 : r_111 = (1 : Int32) := by
                clear hw A0 A4 A6 A10 A12 A16 A18 A22 A24 A26 A28 A32 A34 A36 A40 A42 A46 A48 A49 A53 A55 A56 A60 A62
                (try simp only [true_and, and_true, false_and, and_false, true_or, or_true, false_or, or_false, not_true_eq_false, not_false_eq_true, Int32.lt_iff_toInt_lt, Int64.lt_iff_toInt_lt, Int32.le_iff_toInt_le, Int64.le_iff_toInt_le, ← Int32.toInt_inj, ← Int64.toInt_inj, Int32.toInt_add, Int32.toInt_sub, Int32.toInt_neg, Int64.toInt_add, Int64.toInt_sub, Int64.toInt_neg, Int64.toInt_mul, Int32.toInt_toInt64, bm32, bm64, l32_0, l32_1, l32_2, l32_3, l32_4, l32_5, l32_6, l32_2147483647, own_len_eq] at hl1 hn hJ97 hq_106 hq_111 hq_132 hc141_63 hc147_86 hc152_87 hc160_88 hc167_89 hc175_100 hc184_101 ⊢) <;> omega
              refine A62.icmpNo (q := 195) at_192 (teq hc192_102).2 rfl ?_
              refine A62.iload (q := 197) at_195 rfl rfl ?_
              refine A62.iload (q := 199) at_197 rfl rfl ?_
              by_cases hc199_103 : (own_len x1) = (0 : Int32)
              · refine A62.ifNo (q := 202) at_199 ((if0 _ _).trans (teq hc199_103).2) rfl ?_
                refine A62.iconst (q := 203) (v := 1) at_202 rfl rfl ?_
                refine A62.goto (q := 207) at_203 (by decide) (by decide) ?_
                have hc207_104 : r_132 = (1 : Int32) := by
                  clear hw A0 A4 A6 A10 A12 A16 A18 A22 A24 A26 A28 A32 A34 A36 A40 A42 A46 A48 A49 A53 A55 A56 A60 A62
                  (try simp only [true_and, and_true, false_and, and_false, true_or, or_true, false_or, or_false, not_true_eq_false, not_false_eq_true, Int32.lt_iff_toInt_lt, Int64.lt_iff_toInt_lt, Int32.le_iff_toInt_le, Int64.le_iff_toInt_le, ← Int32.toInt_inj, ← Int64.toInt_inj, Int32.toInt_add, Int32.toInt_sub, Int32.toInt_neg, Int64.toInt_add, Int64.toInt_sub, Int64.toInt_neg, Int64.toInt_mul, Int32.toInt_toInt64, bm32, bm64, l32_0, l32_1, l32_2, l32_3, l32_4, l32_5, l32_6, l32_2147483647, own_len_eq] at hl1 hn hJ97 hq_106 hq_111 hq_132 hc141_63 hc147_86 hc152_87 hc160_88 hc167_89 hc175_100 hc184_101 hc192_102 hc199_103 ⊢) <;> omega
                refine A62.icmpNo (q := 210) at_207 (teq hc207_104).2 rfl ?_
                refine A62.iconst (q := 211) (v := 1) at_210 rfl rfl ?_
                refine A62.goto (q := 215) at_211 (by decide) (by decide) ?_
                exact A62.retN (by simp) at_215 (by decide) (by decide) ⟨rfl, trivial⟩
              · refine A62.ifYes (q := 206) at_199 ((if0 _ _).trans (feq hc199_103).2) (by decide) (by decide) ?_
                refine A62.iconst (q := 207) (v := 0) at_206 rfl rfl ?_
                have hc207_105 : r_132 = (0 : Int32) := by
                  clear hw A0 A4 A6 A10 A12 A16 A18 A22 A24 A26 A28 A32 A34 A36 A40 A42 A46 A48 A49 A53 A55 A56 A60 A62
                  (try simp only [true_and, and_true, false_and, and_false, true_or, or_true, false_or, or_false, not_true_eq_false, not_false_eq_true, Int32.lt_iff_toInt_lt, Int64.lt_iff_toInt_lt, Int32.le_iff_toInt_le, Int64.le_iff_toInt_le, ← Int32.toInt_inj, ← Int64.toInt_inj, Int32.toInt_add, Int32.toInt_sub, Int32.toInt_neg, Int64.toInt_add, Int64.toInt_sub, Int64.toInt_neg, Int64.toInt_mul, Int32.toInt_toInt64, bm32, bm64, l32_0, l32_1, l32_2, l32_3, l32_4, l32_5, l32_6, l32_2147483647, own_len_eq] at hl1 hn hJ97 hq_106 hq_111 hq_132 hc141_63 hc147_86 hc152_87 hc160_88 hc167_89 hc175_100 hc184_101 hc192_102 hc199_103 ⊢) <;> omega
                refine A62.icmpNo (q := 210) at_207 (teq hc207_105).2 rfl ?_
                refine A62.iconst (q := 211) (v := 1) at_210 rfl rfl ?_
                refine A62.goto (q := 215) at_211 (by decide) (by decide) ?_
                exact A62.retN (by simp) at_215 (by decide) (by decide) ⟨rfl, trivial⟩
            · refine A62.icmpYes (q := 191) at_184 (feq hc184_101).2 (by decide) (by decide) ?_
              refine A62.iconst (q := 192) (v := 0) at_191 rfl rfl ?_
              have hc192_106 : r_111 = (0 : Int32) := by
                clear hw A0 A4 A6 A10 A12 A16 A18 A22 A24 A26 A28 A32 A34 A36 A40 A42 A46 A48 A49 A53 A55 A56 A60 A62
                (try simp only [true_and, and_true, false_and, and_false, true_or, or_true, false_or, or_false, not_true_eq_false, not_false_eq_true, Int32.lt_iff_toInt_lt, Int64.lt_iff_toInt_lt, Int32.le_iff_toInt_le, Int64.le_iff_toInt_le, ← Int32.toInt_inj, ← Int64.toInt_inj, Int32.toInt_add, Int32.toInt_sub, Int32.toInt_neg, Int64.toInt_add, Int64.toInt_sub, Int64.toInt_neg, Int64.toInt_mul, Int32.toInt_toInt64, bm32, bm64, l32_0, l32_1, l32_2, l32_3, l32_4, l32_5, l32_6, l32_2147483647, own_len_eq] at hl1 hn hJ97 hq_106 hq_111 hq_132 hc141_63 hc147_86 hc152_87 hc160_88 hc167_89 hc175_100 hc184_101 ⊢) <;> omega
              refine A62.icmpNo (q := 195) at_192 (teq hc192_106).2 rfl ?_
              refine A62.iload (q := 197) at_195 rfl rfl ?_
              refine A62.iload (q := 199) at_197 rfl rfl ?_
              by_cases hc199_107 : (own_len x1) = (0 : Int32)
              · refine A62.ifNo (q := 202) at_199 ((if0 _ _).trans (teq hc199_107).2) rfl ?_
                refine A62.iconst (q := 203) (v := 1) at_202 rfl rfl ?_
                refine A62.goto (q := 207) at_203 (by decide) (by decide) ?_
                have hc207_108 : r_132 = (1 : Int32) := by
                  clear hw A0 A4 A6 A10 A12 A16 A18 A22 A24 A26 A28 A32 A34 A36 A40 A42 A46 A48 A49 A53 A55 A56 A60 A62
                  (try simp only [true_and, and_true, false_and, and_false, true_or, or_true, false_or, or_false, not_true_eq_false, not_false_eq_true, Int32.lt_iff_toInt_lt, Int64.lt_iff_toInt_lt, Int32.le_iff_toInt_le, Int64.le_iff_toInt_le, ← Int32.toInt_inj, ← Int64.toInt_inj, Int32.toInt_add, Int32.toInt_sub, Int32.toInt_neg, Int64.toInt_add, Int64.toInt_sub, Int64.toInt_neg, Int64.toInt_mul, Int32.toInt_toInt64, bm32, bm64, l32_0, l32_1, l32_2, l32_3, l32_4, l32_5, l32_6, l32_2147483647, own_len_eq] at hl1 hn hJ97 hq_106 hq_111 hq_132 hc141_63 hc147_86 hc152_87 hc160_88 hc167_89 hc175_100 hc184_101 hc192_106 hc199_107 ⊢) <;> omega
                refine A62.icmpNo (q := 210) at_207 (teq hc207_108).2 rfl ?_
                refine A62.iconst (q := 211) (v := 1) at_210 rfl rfl ?_
                refine A62.goto (q := 215) at_211 (by decide) (by decide) ?_
                exact A62.retN (by simp) at_215 (by decide) (by decide) ⟨rfl, trivial⟩
              · refine A62.ifYes (q := 206) at_199 ((if0 _ _).trans (feq hc199_107).2) (by decide) (by decide) ?_
                refine A62.iconst (q := 207) (v := 0) at_206 rfl rfl ?_
                have hc207_109 : r_132 = (0 : Int32) := by
                  clear hw A0 A4 A6 A10 A12 A16 A18 A22 A24 A26 A28 A32 A34 A36 A40 A42 A46 A48 A49 A53 A55 A56 A60 A62
                  (try simp only [true_and, and_true, false_and, and_false, true_or, or_true, false_or, or_false, not_true_eq_false, not_false_eq_true, Int32.lt_iff_toInt_lt, Int64.lt_iff_toInt_lt, Int32.le_iff_toInt_le, Int64.le_iff_toInt_le, ← Int32.toInt_inj, ← Int64.toInt_inj, Int32.toInt_add, Int32.toInt_sub, Int32.toInt_neg, Int64.toInt_add, Int64.toInt_sub, Int64.toInt_neg, Int64.toInt_mul, Int32.toInt_toInt64, bm32, bm64, l32_0, l32_1, l32_2, l32_3, l32_4, l32_5, l32_6, l32_2147483647, own_len_eq] at hl1 hn hJ97 hq_106 hq_111 hq_132 hc141_63 hc147_86 hc152_87 hc160_88 hc167_89 hc175_100 hc184_101 hc192_106 hc199_107 ⊢) <;> omega
                refine A62.icmpNo (q := 210) at_207 (teq hc207_109).2 rfl ?_
                refine A62.iconst (q := 211) (v := 1) at_210 rfl rfl ?_
                refine A62.goto (q := 215) at_211 (by decide) (by decide) ?_
                exact A62.retN (by simp) at_215 (by decide) (by decide) ⟨rfl, trivial⟩
        · refine A62.ifYes (q := 159) at_152 ((if0 _ _).trans (feq hc152_87).2) (by decide) (by decide) ?_
          refine A62.iconst (q := 160) (v := 0) at_159 rfl rfl ?_
          have hc160_110 : v1 = (0 : Int32) := by
            clear hw A0 A4 A6 A10 A12 A16 A18 A22 A24 A26 A28 A32 A34 A36 A40 A42 A46 A48 A49 A53 A55 A56 A60 A62
            (try simp only [true_and, and_true, false_and, and_false, true_or, or_true, false_or, or_false, not_true_eq_false, not_false_eq_true, Int32.lt_iff_toInt_lt, Int64.lt_iff_toInt_lt, Int32.le_iff_toInt_le, Int64.le_iff_toInt_le, ← Int32.toInt_inj, ← Int64.toInt_inj, Int32.toInt_add, Int32.toInt_sub, Int32.toInt_neg, Int64.toInt_add, Int64.toInt_sub, Int64.toInt_neg, Int64.toInt_mul, Int32.toInt_toInt64, bm32, bm64, l32_0, l32_1, l32_2, l32_3, l32_4, l32_5, l32_6, l32_2147483647, own_len_eq] at hl1 hn hJ97 hq_106 hq_111 hq_132 hc141_63 hc147_86 hc152_87 ⊢) <;> omega
          refine A62.icmpNo (q := 163) at_160 (teq hc160_110).2 rfl ?_
          refine A62.iload (q := 165) at_163 rfl rfl ?_
          refine A62.iload (q := 167) at_165 rfl rfl ?_
          by_cases hc167_111 : (own_len x0) = (0 : Int32)
          · refine A62.ifNo (q := 170) at_167 ((if0 _ _).trans (teq hc167_111).2) rfl ?_
            refine A62.iconst (q := 171) (v := 1) at_170 rfl rfl ?_
            refine A62.goto (q := 175) at_171 (by decide) (by decide) ?_
            have hc175_112 : v2 = (1 : Int32) := by
              clear hw A0 A4 A6 A10 A12 A16 A18 A22 A24 A26 A28 A32 A34 A36 A40 A42 A46 A48 A49 A53 A55 A56 A60 A62
              (try simp only [true_and, and_true, false_and, and_false, true_or, or_true, false_or, or_false, not_true_eq_false, not_false_eq_true, Int32.lt_iff_toInt_lt, Int64.lt_iff_toInt_lt, Int32.le_iff_toInt_le, Int64.le_iff_toInt_le, ← Int32.toInt_inj, ← Int64.toInt_inj, Int32.toInt_add, Int32.toInt_sub, Int32.toInt_neg, Int64.toInt_add, Int64.toInt_sub, Int64.toInt_neg, Int64.toInt_mul, Int32.toInt_toInt64, bm32, bm64, l32_0, l32_1, l32_2, l32_3, l32_4, l32_5, l32_6, l32_2147483647, own_len_eq] at hl1 hn hJ97 hq_106 hq_111 hq_132 hc141_63 hc147_86 hc152_87 hc160_110 hc167_111 ⊢) <;> omega
            refine A62.icmpNo (q := 178) at_175 (teq hc175_112).2 rfl ?_
            refine A62.iload (q := 180) at_178 rfl rfl ?_
            refine A62.iload (q := 182) at_180 rfl rfl ?_
            refine A62.iload (q := 184) at_182 rfl rfl ?_
            by_cases hc184_113 : nn = (own_len x0)
            · refine A62.icmpNo (q := 187) at_184 (teq hc184_113).2 rfl ?_
              refine A62.iconst (q := 188) (v := 1) at_187 rfl rfl ?_
              refine A62.goto (q := 192) at_188 (by decide) (by decide) ?_
              have hc192_114 : r_111 = (1 : Int32) := by
                clear hw A0 A4 A6 A10 A12 A16 A18 A22 A24 A26 A28 A32 A34 A36 A40 A42 A46 A48 A49 A53 A55 A56 A60 A62
                (try simp only [true_and, and_true, false_and, and_false, true_or, or_true, false_or, or_false, not_true_eq_false, not_false_eq_true, Int32.lt_iff_toInt_lt, Int64.lt_iff_toInt_lt, Int32.le_iff_toInt_le, Int64.le_iff_toInt_le, ← Int32.toInt_inj, ← Int64.toInt_inj, Int32.toInt_add, Int32.toInt_sub, Int32.toInt_neg, Int64.toInt_add, Int64.toInt_sub, Int64.toInt_neg, Int64.toInt_mul, Int32.toInt_toInt64, bm32, bm64, l32_0, l32_1, l32_2, l32_3, l32_4, l32_5, l32_6, l32_2147483647, own_len_eq] at hl1 hn hJ97 hq_106 hq_111 hq_132 hc141_63 hc147_86 hc152_87 hc160_110 hc167_111 hc175_112 hc184_113 ⊢) <;> omega
              refine A62.icmpNo (q := 195) at_192 (teq hc192_114).2 rfl ?_
              refine A62.iload (q := 197) at_195 rfl rfl ?_
              refine A62.iload (q := 199) at_197 rfl rfl ?_
              by_cases hc199_115 : (own_len x1) = (0 : Int32)
              · refine A62.ifNo (q := 202) at_199 ((if0 _ _).trans (teq hc199_115).2) rfl ?_
                refine A62.iconst (q := 203) (v := 1) at_202 rfl rfl ?_
                refine A62.goto (q := 207) at_203 (by decide) (by decide) ?_
                have hc207_116 : r_132 = (1 : Int32) := by
                  clear hw A0 A4 A6 A10 A12 A16 A18 A22 A24 A26 A28 A32 A34 A36 A40 A42 A46 A48 A49 A53 A55 A56 A60 A62
                  (try simp only [true_and, and_true, false_and, and_false, true_or, or_true, false_or, or_false, not_true_eq_false, not_false_eq_true, Int32.lt_iff_toInt_lt, Int64.lt_iff_toInt_lt, Int32.le_iff_toInt_le, Int64.le_iff_toInt_le, ← Int32.toInt_inj, ← Int64.toInt_inj, Int32.toInt_add, Int32.toInt_sub, Int32.toInt_neg, Int64.toInt_add, Int64.toInt_sub, Int64.toInt_neg, Int64.toInt_mul, Int32.toInt_toInt64, bm32, bm64, l32_0, l32_1, l32_2, l32_3, l32_4, l32_5, l32_6, l32_2147483647, own_len_eq] at hl1 hn hJ97 hq_106 hq_111 hq_132 hc141_63 hc147_86 hc152_87 hc160_110 hc167_111 hc175_112 hc184_113 hc192_114 hc199_115 ⊢) <;> omega
                refine A62.icmpNo (q := 210) at_207 (teq hc207_116).2 rfl ?_
                refine A62.iconst (q := 211) (v := 1) at_210 rfl rfl ?_
                refine A62.goto (q := 215) at_211 (by decide) (by decide) ?_
                exact A62.retN (by simp) at_215 (by decide) (by decide) ⟨rfl, trivial⟩
              · refine A62.ifYes (q := 206) at_199 ((if0 _ _).trans (feq hc199_115).2) (by decide) (by decide) ?_
                refine A62.iconst (q := 207) (v := 0) at_206 rfl rfl ?_
                have hc207_117 : r_132 = (0 : Int32) := by
                  clear hw A0 A4 A6 A10 A12 A16 A18 A22 A24 A26 A28 A32 A34 A36 A40 A42 A46 A48 A49 A53 A55 A56 A60 A62
                  (try simp only [true_and, and_true, false_and, and_false, true_or, or_true, false_or, or_false, not_true_eq_false, not_false_eq_true, Int32.lt_iff_toInt_lt, Int64.lt_iff_toInt_lt, Int32.le_iff_toInt_le, Int64.le_iff_toInt_le, ← Int32.toInt_inj, ← Int64.toInt_inj, Int32.toInt_add, Int32.toInt_sub, Int32.toInt_neg, Int64.toInt_add, Int64.toInt_sub, Int64.toInt_neg, Int64.toInt_mul, Int32.toInt_toInt64, bm32, bm64, l32_0, l32_1, l32_2, l32_3, l32_4, l32_5, l32_6, l32_2147483647, own_len_eq] at hl1 hn hJ97 hq_106 hq_111 hq_132 hc141_63 hc147_86 hc152_87 hc160_110 hc167_111 hc175_112 hc184_113 hc192_114 hc199_115 ⊢) <;> omega
                refine A62.icmpNo (q := 210) at_207 (teq hc207_117).2 rfl ?_
                refine A62.iconst (q := 211) (v := 1) at_210 rfl rfl ?_
                refine A62.goto (q := 215) at_211 (by decide) (by decide) ?_
                exact A62.retN (by simp) at_215 (by decide) (by decide) ⟨rfl, trivial⟩
            · refine A62.icmpYes (q := 191) at_184 (feq hc184_113).2 (by decide) (by decide) ?_
              refine A62.iconst (q := 192) (v := 0) at_191 rfl rfl ?_
              have hc192_118 : r_111 = (0 : Int32) := by
                clear hw A0 A4 A6 A10 A12 A16 A18 A22 A24 A26 A28 A32 A34 A36 A40 A42 A46 A48 A49 A53 A55 A56 A60 A62
                (try simp only [true_and, and_true, false_and, and_false, true_or, or_true, false_or, or_false, not_true_eq_false, not_false_eq_true, Int32.lt_iff_toInt_lt, Int64.lt_iff_toInt_lt, Int32.le_iff_toInt_le, Int64.le_iff_toInt_le, ← Int32.toInt_inj, ← Int64.toInt_inj, Int32.toInt_add, Int32.toInt_sub, Int32.toInt_neg, Int64.toInt_add, Int64.toInt_sub, Int64.toInt_neg, Int64.toInt_mul, Int32.toInt_toInt64, bm32, bm64, l32_0, l32_1, l32_2, l32_3, l32_4, l32_5, l32_6, l32_2147483647, own_len_eq] at hl1 hn hJ97 hq_106 hq_111 hq_132 hc141_63 hc147_86 hc152_87 hc160_110 hc167_111 hc175_112 hc184_113 ⊢) <;> omega
              refine A62.icmpNo (q := 195) at_192 (teq hc192_118).2 rfl ?_
              refine A62.iload (q := 197) at_195 rfl rfl ?_
              refine A62.iload (q := 199) at_197 rfl rfl ?_
              by_cases hc199_119 : (own_len x1) = (0 : Int32)
              · refine A62.ifNo (q := 202) at_199 ((if0 _ _).trans (teq hc199_119).2) rfl ?_
                refine A62.iconst (q := 203) (v := 1) at_202 rfl rfl ?_
                refine A62.goto (q := 207) at_203 (by decide) (by decide) ?_
                have hc207_120 : r_132 = (1 : Int32) := by
                  clear hw A0 A4 A6 A10 A12 A16 A18 A22 A24 A26 A28 A32 A34 A36 A40 A42 A46 A48 A49 A53 A55 A56 A60 A62
                  (try simp only [true_and, and_true, false_and, and_false, true_or, or_true, false_or, or_false, not_true_eq_false, not_false_eq_true, Int32.lt_iff_toInt_lt, Int64.lt_iff_toInt_lt, Int32.le_iff_toInt_le, Int64.le_iff_toInt_le, ← Int32.toInt_inj, ← Int64.toInt_inj, Int32.toInt_add, Int32.toInt_sub, Int32.toInt_neg, Int64.toInt_add, Int64.toInt_sub, Int64.toInt_neg, Int64.toInt_mul, Int32.toInt_toInt64, bm32, bm64, l32_0, l32_1, l32_2, l32_3, l32_4, l32_5, l32_6, l32_2147483647, own_len_eq] at hl1 hn hJ97 hq_106 hq_111 hq_132 hc141_63 hc147_86 hc152_87 hc160_110 hc167_111 hc175_112 hc184_113 hc192_118 hc199_119 ⊢) <;> omega
                refine A62.icmpNo (q := 210) at_207 (teq hc207_120).2 rfl ?_
                refine A62.iconst (q := 211) (v := 1) at_210 rfl rfl ?_
                refine A62.goto (q := 215) at_211 (by decide) (by decide) ?_
                exact A62.retN (by simp) at_215 (by decide) (by decide) ⟨rfl, trivial⟩
              · refine A62.ifYes (q := 206) at_199 ((if0 _ _).trans (feq hc199_119).2) (by decide) (by decide) ?_
                refine A62.iconst (q := 207) (v := 0) at_206 rfl rfl ?_
                have hc207_121 : r_132 = (0 : Int32) := by
                  clear hw A0 A4 A6 A10 A12 A16 A18 A22 A24 A26 A28 A32 A34 A36 A40 A42 A46 A48 A49 A53 A55 A56 A60 A62
                  (try simp only [true_and, and_true, false_and, and_false, true_or, or_true, false_or, or_false, not_true_eq_false, not_false_eq_true, Int32.lt_iff_toInt_lt, Int64.lt_iff_toInt_lt, Int32.le_iff_toInt_le, Int64.le_iff_toInt_le, ← Int32.toInt_inj, ← Int64.toInt_inj, Int32.toInt_add, Int32.toInt_sub, Int32.toInt_neg, Int64.toInt_add, Int64.toInt_sub, Int64.toInt_neg, Int64.toInt_mul, Int32.toInt_toInt64, bm32, bm64, l32_0, l32_1, l32_2, l32_3, l32_4, l32_5, l32_6, l32_2147483647, own_len_eq] at hl1 hn hJ97 hq_106 hq_111 hq_132 hc141_63 hc147_86 hc152_87 hc160_110 hc167_111 hc175_112 hc184_113 hc192_118 hc199_119 ⊢) <;> omega
                refine A62.icmpNo (q := 210) at_207 (teq hc207_121).2 rfl ?_
                refine A62.iconst (q := 211) (v := 1) at_210 rfl rfl ?_
                refine A62.goto (q := 215) at_211 (by decide) (by decide) ?_
                exact A62.retN (by simp) at_215 (by decide) (by decide) ⟨rfl, trivial⟩
          · refine A62.ifYes (q := 174) at_167 ((if0 _ _).trans (feq hc167_111).2) (by decide) (by decide) ?_
            refine A62.iconst (q := 175) (v := 0) at_174 rfl rfl ?_
            have hc175_122 : v2 = (0 : Int32) := by
              clear hw A0 A4 A6 A10 A12 A16 A18 A22 A24 A26 A28 A32 A34 A36 A40 A42 A46 A48 A49 A53 A55 A56 A60 A62
              (try simp only [true_and, and_true, false_and, and_false, true_or, or_true, false_or, or_false, not_true_eq_false, not_false_eq_true, Int32.lt_iff_toInt_lt, Int64.lt_iff_toInt_lt, Int32.le_iff_toInt_le, Int64.le_iff_toInt_le, ← Int32.toInt_inj, ← Int64.toInt_inj, Int32.toInt_add, Int32.toInt_sub, Int32.toInt_neg, Int64.toInt_add, Int64.toInt_sub, Int64.toInt_neg, Int64.toInt_mul, Int32.toInt_toInt64, bm32, bm64, l32_0, l32_1, l32_2, l32_3, l32_4, l32_5, l32_6, l32_2147483647, own_len_eq] at hl1 hn hJ97 hq_106 hq_111 hq_132 hc141_63 hc147_86 hc152_87 hc160_110 hc167_111 ⊢) <;> omega
            refine A62.icmpNo (q := 178) at_175 (teq hc175_122).2 rfl ?_
            refine A62.iload (q := 180) at_178 rfl rfl ?_
            refine A62.iload (q := 182) at_180 rfl rfl ?_
            refine A62.iload (q := 184) at_182 rfl rfl ?_
            by_cases hc184_123 : nn = (own_len x0)
            · refine A62.icmpNo (q := 187) at_184 (teq hc184_123).2 rfl ?_
              refine A62.iconst (q := 188) (v := 1) at_187 rfl rfl ?_
              refine A62.goto (q := 192) at_188 (by decide) (by decide) ?_
              have hc192_124 : r_111 = (1 : Int32) := by
                clear hw A0 A4 A6 A10 A12 A16 A18 A22 A24 A26 A28 A32 A34 A36 A40 A42 A46 A48 A49 A53 A55 A56 A60 A62
                (try simp only [true_and, and_true, false_and, and_false, true_or, or_true, false_or, or_false, not_true_eq_false, not_false_eq_true, Int32.lt_iff_toInt_lt, Int64.lt_iff_toInt_lt, Int32.le_iff_toInt_le, Int64.le_iff_toInt_le, ← Int32.toInt_inj, ← Int64.toInt_inj, Int32.toInt_add, Int32.toInt_sub, Int32.toInt_neg, Int64.toInt_add, Int64.toInt_sub, Int64.toInt_neg, Int64.toInt_mul, Int32.toInt_toInt64, bm32, bm64, l32_0, l32_1, l32_2, l32_3, l32_4, l32_5, l32_6, l32_2147483647, own_len_eq] at hl1 hn hJ97 hq_106 hq_111 hq_132 hc141_63 hc147_86 hc152_87 hc160_110 hc167_111 hc175_122 hc184_123 ⊢) <;> omega
              refine A62.icmpNo (q := 195) at_192 (teq hc192_124).2 rfl ?_
              refine A62.iload (q := 197) at_195 rfl rfl ?_
              refine A62.iload (q := 199) at_197 rfl rfl ?_
              by_cases hc199_125 : (own_len x1) = (0 : Int32)
              · refine A62.ifNo (q := 202) at_199 ((if0 _ _).trans (teq hc199_125).2) rfl ?_
                refine A62.iconst (q := 203) (v := 1) at_202 rfl rfl ?_
                refine A62.goto (q := 207) at_203 (by decide) (by decide) ?_
                have hc207_126 : r_132 = (1 : Int32) := by
                  clear hw A0 A4 A6 A10 A12 A16 A18 A22 A24 A26 A28 A32 A34 A36 A40 A42 A46 A48 A49 A53 A55 A56 A60 A62
                  (try simp only [true_and, and_true, false_and, and_false, true_or, or_true, false_or, or_false, not_true_eq_false, not_false_eq_true, Int32.lt_iff_toInt_lt, Int64.lt_iff_toInt_lt, Int32.le_iff_toInt_le, Int64.le_iff_toInt_le, ← Int32.toInt_inj, ← Int64.toInt_inj, Int32.toInt_add, Int32.toInt_sub, Int32.toInt_neg, Int64.toInt_add, Int64.toInt_sub, Int64.toInt_neg, Int64.toInt_mul, Int32.toInt_toInt64, bm32, bm64, l32_0, l32_1, l32_2, l32_3, l32_4, l32_5, l32_6, l32_2147483647, own_len_eq] at hl1 hn hJ97 hq_106 hq_111 hq_132 hc141_63 hc147_86 hc152_87 hc160_110 hc167_111 hc175_122 hc184_123 hc192_124 hc199_125 ⊢) <;> omega
                refine A62.icmpNo (q := 210) at_207 (teq hc207_126).2 rfl ?_
                refine A62.iconst (q := 211) (v := 1) at_210 rfl rfl ?_
                refine A62.goto (q := 215) at_211 (by decide) (by decide) ?_
                exact A62.retN (by simp) at_215 (by decide) (by decide) ⟨rfl, trivial⟩
              · refine A62.ifYes (q := 206) at_199 ((if0 _ _).trans (feq hc199_125).2) (by decide) (by decide) ?_
                refine A62.iconst (q := 207) (v := 0) at_206 rfl rfl ?_
                have hc207_127 : r_132 = (0 : Int32) := by
                  clear hw A0 A4 A6 A10 A12 A16 A18 A22 A24 A26 A28 A32 A34 A36 A40 A42 A46 A48 A49 A53 A55 A56 A60 A62
                  (try simp only [true_and, and_true, false_and, and_false, true_or, or_true, false_or, or_false, not_true_eq_false, not_false_eq_true, Int32.lt_iff_toInt_lt, Int64.lt_iff_toInt_lt, Int32.le_iff_toInt_le, Int64.le_iff_toInt_le, ← Int32.toInt_inj, ← Int64.toInt_inj, Int32.toInt_add, Int32.toInt_sub, Int32.toInt_neg, Int64.toInt_add, Int64.toInt_sub, Int64.toInt_neg, Int64.toInt_mul, Int32.toInt_toInt64, bm32, bm64, l32_0, l32_1, l32_2, l32_3, l32_4, l32_5, l32_6, l32_2147483647, own_len_eq] at hl1 hn hJ97 hq_106 hq_111 hq_132 hc141_63 hc147_86 hc152_87 hc160_110 hc167_111 hc175_122 hc184_123 hc192_124 hc199_125 ⊢) <;> omega
                refine A62.icmpNo (q := 210) at_207 (teq hc207_127).2 rfl ?_
                refine A62.iconst (q := 211) (v := 1) at_210 rfl rfl ?_
                refine A62.goto (q := 215) at_211 (by decide) (by decide) ?_
                exact A62.retN (by simp) at_215 (by decide) (by decide) ⟨rfl, trivial⟩
            · refine A62.icmpYes (q := 191) at_184 (feq hc184_123).2 (by decide) (by decide) ?_
              refine A62.iconst (q := 192) (v := 0) at_191 rfl rfl ?_
              have hc192_128 : r_111 = (0 : Int32) := by
                clear hw A0 A4 A6 A10 A12 A16 A18 A22 A24 A26 A28 A32 A34 A36 A40 A42 A46 A48 A49 A53 A55 A56 A60 A62
                (try simp only [true_and, and_true, false_and, and_false, true_or, or_true, false_or, or_false, not_true_eq_false, not_false_eq_true, Int32.lt_iff_toInt_lt, Int64.lt_iff_toInt_lt, Int32.le_iff_toInt_le, Int64.le_iff_toInt_le, ← Int32.toInt_inj, ← Int64.toInt_inj, Int32.toInt_add, Int32.toInt_sub, Int32.toInt_neg, Int64.toInt_add, Int64.toInt_sub, Int64.toInt_neg, Int64.toInt_mul, Int32.toInt_toInt64, bm32, bm64, l32_0, l32_1, l32_2, l32_3, l32_4, l32_5, l32_6, l32_2147483647, own_len_eq] at hl1 hn hJ97 hq_106 hq_111 hq_132 hc141_63 hc147_86 hc152_87 hc160_110 hc167_111 hc175_122 hc184_123 ⊢) <;> omega
              refine A62.icmpNo (q := 195) at_192 (teq hc192_128).2 rfl ?_
              refine A62.iload (q := 197) at_195 rfl rfl ?_
              refine A62.iload (q := 199) at_197 rfl rfl ?_
              by_cases hc199_129 : (own_len x1) = (0 : Int32)
              · refine A62.ifNo (q := 202) at_199 ((if0 _ _).trans (teq hc199_129).2) rfl ?_
                refine A62.iconst (q := 203) (v := 1) at_202 rfl rfl ?_
                refine A62.goto (q := 207) at_203 (by decide) (by decide) ?_
                have hc207_130 : r_132 = (1 : Int32) := by
                  clear hw A0 A4 A6 A10 A12 A16 A18 A22 A24 A26 A28 A32 A34 A36 A40 A42 A46 A48 A49 A53 A55 A56 A60 A62
                  (try simp only [true_and, and_true, false_and, and_false, true_or, or_true, false_or, or_false, not_true_eq_false, not_false_eq_true, Int32.lt_iff_toInt_lt, Int64.lt_iff_toInt_lt, Int32.le_iff_toInt_le, Int64.le_iff_toInt_le, ← Int32.toInt_inj, ← Int64.toInt_inj, Int32.toInt_add, Int32.toInt_sub, Int32.toInt_neg, Int64.toInt_add, Int64.toInt_sub, Int64.toInt_neg, Int64.toInt_mul, Int32.toInt_toInt64, bm32, bm64, l32_0, l32_1, l32_2, l32_3, l32_4, l32_5, l32_6, l32_2147483647, own_len_eq] at hl1 hn hJ97 hq_106 hq_111 hq_132 hc141_63 hc147_86 hc152_87 hc160_110 hc167_111 hc175_122 hc184_123 hc192_128 hc199_129 ⊢) <;> omega
                refine A62.icmpNo (q := 210) at_207 (teq hc207_130).2 rfl ?_
                refine A62.iconst (q := 211) (v := 1) at_210 rfl rfl ?_
                refine A62.goto (q := 215) at_211 (by decide) (by decide) ?_
                exact A62.retN (by simp) at_215 (by decide) (by decide) ⟨rfl, trivial⟩
              · refine A62.ifYes (q := 206) at_199 ((if0 _ _).trans (feq hc199_129).2) (by decide) (by decide) ?_
                refine A62.iconst (q := 207) (v := 0) at_206 rfl rfl ?_
                have hc207_131 : r_132 = (0 : Int32) := by
                  clear hw A0 A4 A6 A10 A12 A16 A18 A22 A24 A26 A28 A32 A34 A36 A40 A42 A46 A48 A49 A53 A55 A56 A60 A62
                  (try simp only [true_and, and_true, false_and, and_false, true_or, or_true, false_or, or_false, not_true_eq_false, not_false_eq_true, Int32.lt_iff_toInt_lt, Int64.lt_iff_toInt_lt, Int32.le_iff_toInt_le, Int64.le_iff_toInt_le, ← Int32.toInt_inj, ← Int64.toInt_inj, Int32.toInt_add, Int32.toInt_sub, Int32.toInt_neg, Int64.toInt_add, Int64.toInt_sub, Int64.toInt_neg, Int64.toInt_mul, Int32.toInt_toInt64, bm32, bm64, l32_0, l32_1, l32_2, l32_3, l32_4, l32_5, l32_6, l32_2147483647, own_len_eq] at hl1 hn hJ97 hq_106 hq_111 hq_132 hc141_63 hc147_86 hc152_87 hc160_110 hc167_111 hc175_122 hc184_123 hc192_128 hc199_129 ⊢) <;> omega
                refine A62.icmpNo (q := 210) at_207 (teq hc207_131).2 rfl ?_
                refine A62.iconst (q := 211) (v := 1) at_210 rfl rfl ?_
                refine A62.goto (q := 215) at_211 (by decide) (by decide) ?_
                exact A62.retN (by simp) at_215 (by decide) (by decide) ⟨rfl, trivial⟩
      · refine A62.icmpYes (q := 159) at_147 (feq hc147_86).2 (by decide) (by decide) ?_
        refine A62.iconst (q := 160) (v := 0) at_159 rfl rfl ?_
        have hc160_132 : v1 = (0 : Int32) := by
          clear hw A0 A4 A6 A10 A12 A16 A18 A22 A24 A26 A28 A32 A34 A36 A40 A42 A46 A48 A49 A53 A55 A56 A60 A62
          (try simp only [true_and, and_true, false_and, and_false, true_or, or_true, false_or, or_false, not_true_eq_false, not_false_eq_true, Int32.lt_iff_toInt_lt, Int64.lt_iff_toInt_lt, Int32.le_iff_toInt_le, Int64.le_iff_toInt_le, ← Int32.toInt_inj, ← Int64.toInt_inj, Int32.toInt_add, Int32.toInt_sub, Int32.toInt_neg, Int64.toInt_add, Int64.toInt_sub, Int64.toInt_neg, Int64.toInt_mul, Int32.toInt_toInt64, bm32, bm64, l32_0, l32_1, l32_2, l32_3, l32_4, l32_5, l32_6, l32_2147483647, own_len_eq] at hl1 hn hJ97 hq_106 hq_111 hq_132 hc141_63 hc147_86 ⊢) <;> omega
        refine A62.icmpNo (q := 163) at_160 (teq hc160_132).2 rfl ?_
        refine A62.iload (q := 165) at_163 rfl rfl ?_
        refine A62.iload (q := 167) at_165 rfl rfl ?_
        by_cases hc167_133 : (own_len x0) = (0 : Int32)
        · refine A62.ifNo (q := 170) at_167 ((if0 _ _).trans (teq hc167_133).2) rfl ?_
          refine A62.iconst (q := 171) (v := 1) at_170 rfl rfl ?_
          refine A62.goto (q := 175) at_171 (by decide) (by decide) ?_
          have hc175_134 : v2 = (1 : Int32) := by
            clear hw A0 A4 A6 A10 A12 A16 A18 A22 A24 A26 A28 A32 A34 A36 A40 A42 A46 A48 A49 A53 A55 A56 A60 A62
            (try simp only [true_and, and_true, false_and, and_false, true_or, or_true, false_or, or_false, not_true_eq_false, not_false_eq_true, Int32.lt_iff_toInt_lt, Int64.lt_iff_toInt_lt, Int32.le_iff_toInt_le, Int64.le_iff_toInt_le, ← Int32.toInt_inj, ← Int64.toInt_inj, Int32.toInt_add, Int32.toInt_sub, Int32.toInt_neg, Int64.toInt_add, Int64.toInt_sub, Int64.toInt_neg, Int64.toInt_mul, Int32.toInt_toInt64, bm32, bm64, l32_0, l32_1, l32_2, l32_3, l32_4, l32_5, l32_6, l32_2147483647, own_len_eq] at hl1 hn hJ97 hq_106 hq_111 hq_132 hc141_63 hc147_86 hc160_132 hc167_133 ⊢) <;> omega
          refine A62.icmpNo (q := 178) at_175 (teq hc175_134).2 rfl ?_
          refine A62.iload (q := 180) at_178 rfl rfl ?_
          refine A62.iload (q := 182) at_180 rfl rfl ?_
          refine A62.iload (q := 184) at_182 rfl rfl ?_
          by_cases hc184_135 : nn = (own_len x0)
          · refine A62.icmpNo (q := 187) at_184 (teq hc184_135).2 rfl ?_
            refine A62.iconst (q := 188) (v := 1) at_187 rfl rfl ?_
            refine A62.goto (q := 192) at_188 (by decide) (by decide) ?_
            have hc192_136 : r_111 = (1 : Int32) := by
              clear hw A0 A4 A6 A10 A12 A16 A18 A22 A24 A26 A28 A32 A34 A36 A40 A42 A46 A48 A49 A53 A55 A56 A60 A62
              (try simp only [true_and, and_true, false_and, and_false, true_or, or_true, false_or, or_false, not_true_eq_false, not_false_eq_true, Int32.lt_iff_toInt_lt, Int64.lt_iff_toInt_lt, Int32.le_iff_toInt_le, Int64.le_iff_toInt_le, ← Int32.toInt_inj, ← Int64.toInt_inj, Int32.toInt_add, Int32.toInt_sub, Int32.toInt_neg, Int64.toInt_add, Int64.toInt_sub, Int64.toInt_neg, Int64.toInt_mul, Int32.toInt_toInt64, bm32, bm64, l32_0, l32_1, l32_2, l32_3, l32_4, l32_5, l32_6, l32_2147483647, own_len_eq] at hl1 hn hJ97 hq_106 hq_111 hq_132 hc141_63 hc147_86 hc160_132 hc167_133 hc175_134 hc184_135 ⊢) <;> omega
            refine A62.icmpNo (q := 195) at_192 (teq hc192_136).2 rfl ?_
            refine A62.iload (q := 197) at_195 rfl rfl ?_
            refine A62.iload (q := 199) at_197 rfl rfl ?_
            by_cases hc199_137 : (own_len x1) = (0 : Int32)
            · refine A62.ifNo (q := 202) at_199 ((if0 _ _).trans (teq hc199_137).2) rfl ?_
              refine A62.iconst (q := 203) (v := 1) at_202 rfl rfl ?_
              refine A62.goto (q := 207) at_203 (by decide) (by decide) ?_
              have hc207_138 : r_132 = (1 : Int32) := by
                clear hw A0 A4 A6 A10 A12 A16 A18 A22 A24 A26 A28 A32 A34 A36 A40 A42 A46 A48 A49 A53 A55 A56 A60 A62
                (try simp only [true_and, and_true, false_and, and_false, true_or, or_true, false_or, or_false, not_true_eq_false, not_false_eq_true, Int32.lt_iff_toInt_lt, Int64.lt_iff_toInt_lt, Int32.le_iff_toInt_le, Int64.le_iff_toInt_le, ← Int32.toInt_inj, ← Int64.toInt_inj, Int32.toInt_add, Int32.toInt_sub, Int32.toInt_neg, Int64.toInt_add, Int64.toInt_sub, Int64.toInt_neg, Int64.toInt_mul, Int32.toInt_toInt64, bm32, bm64, l32_0, l32_1, l32_2, l32_3, l32_4, l32_5, l32_6, l32_2147483647, own_len_eq] at hl1 hn hJ97 hq_106 hq_111 hq_132 hc141_63 hc147_86 hc160_132 hc167_133 hc175_134 hc184_135 hc192_136 hc199_137 ⊢) <;> omega
              refine A62.icmpNo (q := 210) at_207 (teq hc207_138).2 rfl ?_
              refine A62.iconst (q := 211) (v := 1) at_210 rfl rfl ?_
              refine A62.goto (q := 215) at_211 (by decide) (by decide) ?_
              exact A62.retN (by simp) at_215 (by decide) (by decide) ⟨rfl, trivial⟩
            · refine A62.ifYes (q := 206) at_199 ((if0 _ _).trans (feq hc199_137).2) (by decide) (by decide) ?_
              refine A62.iconst (q := 207) (v := 0) at_206 rfl rfl ?_
              have hc207_139 : r_132 = (0 : Int32) := by
                clear hw A0 A4 A6 A10 A12 A16 A18 A22 A24 A26 A28 A32 A34 A36 A40 A42 A46 A48 A49 A53 A55 A56 A60 A62
                (try simp only [true_and, and_true, false_and, and_false, true_or, or_true, false_or, or_false, not_true_eq_false, not_false_eq_true, Int32.lt_iff_toInt_lt, Int64.lt_iff_toInt_lt, Int32.le_iff_toInt_le, Int64.le_iff_toInt_le, ← Int32.toInt_inj, ← Int64.toInt_inj, Int32.toInt_add, Int32.toInt_sub, Int32.toInt_neg, Int64.toInt_add, Int64.toInt_sub, Int64.toInt_neg, Int64.toInt_mul, Int32.toInt_toInt64, bm32, bm64, l32_0, l32_1, l32_2, l32_3, l32_4, l32_5, l32_6, l32_2147483647, own_len_eq] at hl1 hn hJ97 hq_106 hq_111 hq_132 hc141_63 hc147_86 hc160_132 hc167_133 hc175_134 hc184_135 hc192_136 hc199_137 ⊢) <;> omega
              refine A62.icmpNo (q := 210) at_207 (teq hc207_139).2 rfl ?_
              refine A62.iconst (q := 211) (v := 1) at_210 rfl rfl ?_
              refine A62.goto (q := 215) at_211 (by decide) (by decide) ?_
              exact A62.retN (by simp) at_215 (by decide) (by decide) ⟨rfl, trivial⟩
          · refine A62.icmpYes (q := 191) at_184 (feq hc184_135).2 (by decide) (by decide) ?_
            refine A62.iconst (q := 192) (v := 0) at_191 rfl rfl ?_
            have hc192_140 : r_111 = (0 : Int32) := by
              clear hw A0 A4 A6 A10 A12 A16 A18 A22 A24 A26 A28 A32 A34 A36 A40 A42 A46 A48 A49 A53 A55 A56 A60 A62
              (try simp only [true_and, and_true, false_and, and_false, true_or, or_true, false_or, or_false, not_true_eq_false, not_false_eq_true, Int32.lt_iff_toInt_lt, Int64.lt_iff_toInt_lt, Int32.le_iff_toInt_le, Int64.le_iff_toInt_le, ← Int32.toInt_inj, ← Int64.toInt_inj, Int32.toInt_add, Int32.toInt_sub, Int32.toInt_neg, Int64.toInt_add, Int64.toInt_sub, Int64.toInt_neg, Int64.toInt_mul, Int32.toInt_toInt64, bm32, bm64, l32_0, l32_1, l32_2, l32_3, l32_4, l32_5, l32_6, l32_2147483647, own_len_eq] at hl1 hn hJ97 hq_106 hq_111 hq_132 hc141_63 hc147_86 hc160_132 hc167_133 hc175_134 hc184_135 ⊢) <;> omega
            refine A62.icmpNo (q := 195) at_192 (teq hc192_140).2 rfl ?_
            refine A62.iload (q := 197) at_195 rfl rfl ?_
            refine A62.iload (q := 199) at_197 rfl rfl ?_
            by_cases hc199_141 : (own_len x1) = (0 : Int32)
            · refine A62.ifNo (q := 202) at_199 ((if0 _ _).trans (teq hc199_141).2) rfl ?_
              refine A62.iconst (q := 203) (v := 1) at_202 rfl rfl ?_
              refine A62.goto (q := 207) at_203 (by decide) (by decide) ?_
              have hc207_142 : r_132 = (1 : Int32) := by
                clear hw A0 A4 A6 A10 A12 A16 A18 A22 A24 A26 A28 A32 A34 A36 A40 A42 A46 A48 A49 A53 A55 A56 A60 A62
                (try simp only [true_and, and_true, false_and, and_false, true_or, or_true, false_or, or_false, not_true_eq_false, not_false_eq_true, Int32.lt_iff_toInt_lt, Int64.lt_iff_toInt_lt, Int32.le_iff_toInt_le, Int64.le_iff_toInt_le, ← Int32.toInt_inj, ← Int64.toInt_inj, Int32.toInt_add, Int32.toInt_sub, Int32.toInt_neg, Int64.toInt_add, Int64.toInt_sub, Int64.toInt_neg, Int64.toInt_mul, Int32.toInt_toInt64, bm32, bm64, l32_0, l32_1, l32_2, l32_3, l32_4, l32_5, l32_6, l32_2147483647, own_len_eq] at hl1 hn hJ97 hq_106 hq_111 hq_132 hc141_63 hc147_86 hc160_132 hc167_133 hc175_134 hc184_135 hc192_140 hc199_141 ⊢) <;> omega
              refine A62.icmpNo (q := 210) at_207 (teq hc207_142).2 rfl ?_
              refine A62.iconst (q := 211) (v := 1) at_210 rfl rfl ?_
              refine A62.goto (q := 215) at_211 (by decide) (by decide) ?_
              exact A62.retN (by simp) at_215 (by decide) (by decide) ⟨rfl, trivial⟩
            · refine A62.ifYes (q := 206) at_199 ((if0 _ _).trans (feq hc199_141).2) (by decide) (by decide) ?_
              refine A62.iconst (q := 207) (v := 0) at_206 rfl rfl ?_
              have hc207_143 : r_132 = (0 : Int32) := by
                clear hw A0 A4 A6 A10 A12 A16 A18 A22 A24 A26 A28 A32 A34 A36 A40 A42 A46 A48 A49 A53 A55 A56 A60 A62
                (try simp only [true_and, and_true, false_and, and_false, true_or, or_true, false_or, or_false, not_true_eq_false, not_false_eq_true, Int32.lt_iff_toInt_lt, Int64.lt_iff_toInt_lt, Int32.le_iff_toInt_le, Int64.le_iff_toInt_le, ← Int32.toInt_inj, ← Int64.toInt_inj, Int32.toInt_add, Int32.toInt_sub, Int32.toInt_neg, Int64.toInt_add, Int64.toInt_sub, Int64.toInt_neg, Int64.toInt_mul, Int32.toInt_toInt64, bm32, bm64, l32_0, l32_1, l32_2, l32_3, l32_4, l32_5, l32_6, l32_2147483647, own_len_eq] at hl1 hn hJ97 hq_106 hq_111 hq_132 hc141_63 hc147_86 hc160_132 hc167_133 hc175_134 hc184_135 hc192_140 hc199_141 ⊢) <;> omega
              refine A62.icmpNo (q := 210) at_207 (teq hc207_143).2 rfl ?_
              refine A62.iconst (q := 211) (v := 1) at_210 rfl rfl ?_
              refine A62.goto (q := 215) at_211 (by decide) (by decide) ?_
              exact A62.retN (by simp) at_215 (by decide) (by decide) ⟨rfl, trivial⟩
        · refine A62.ifYes (q := 174) at_167 ((if0 _ _).trans (feq hc167_133).2) (by decide) (by decide) ?_
          refine A62.iconst (q := 175) (v := 0) at_174 rfl rfl ?_
          have hc175_144 : v2 = (0 : Int32) := by
            clear hw A0 A4 A6 A10 A12 A16 A18 A22 A24 A26 A28 A32 A34 A36 A40 A42 A46 A48 A49 A53 A55 A56 A60 A62
            (try simp only [true_and, and_true, false_and, and_false, true_or, or_true, false_or, or_false, not_true_eq_false, not_false_eq_true, Int32.lt_iff_toInt_lt, Int64.lt_iff_toInt_lt, Int32.le_iff_toInt_le, Int64.le_iff_toInt_le, ← Int32.toInt_inj, ← Int64.toInt_inj, Int32.toInt_add, Int32.toInt_sub, Int32.toInt_neg, Int64.toInt_add, Int64.toInt_sub, Int64.toInt_neg, Int64.toInt_mul, Int32.toInt_toInt64, bm32, bm64, l32_0, l32_1, l32_2, l32_3, l32_4, l32_5, l32_6, l32_2147483647, own_len_eq] at hl1 hn hJ97 hq_106 hq_111 hq_132 hc141_63 hc147_86 hc160_132 hc167_133 ⊢) <;> omega
          refine A62.icmpNo (q := 178) at_175 (teq hc175_144).2 rfl ?_
          refine A62.iload (q := 180) at_178 rfl rfl ?_
          refine A62.iload (q := 182) at_180 rfl rfl ?_
          refine A62.iload (q := 184) at_182 rfl rfl ?_
          by_cases hc184_145 : nn = (own_len x0)
          · refine A62.icmpNo (q := 187) at_184 (teq hc184_145).2 rfl ?_
            refine A62.iconst (q := 188) (v := 1) at_187 rfl rfl ?_
            refine A62.goto (q := 192) at_188 (by decide) (by decide) ?_
            have hc192_146 : r_111 = (1 : Int32) := by
              clear hw A0 A4 A6 A10 A12 A16 A18 A22 A24 A26 A28 A32 A34 A36 A40 A42 A46 A48 A49 A53 A55 A56 A60 A62
              (try simp only [true_and, and_true, false_and, and_false, true_or, or_true, false_or, or_false, not_true_eq_false, not_false_eq_true, Int32.lt_iff_toInt_lt, Int64.lt_iff_toInt_lt, Int32.le_iff_toInt_le, Int64.le_iff_toInt_le, ← Int32.toInt_inj, ← Int64.toInt_inj, Int32.toInt_add, Int32.toInt_sub, Int32.toInt_neg, Int64.toInt_add, Int64.toInt_sub, Int64.toInt_neg, Int64.toInt_mul, Int32.toInt_toInt64, bm32, bm64, l32_0, l32_1, l32_2, l32_3, l32_4, l32_5, l32_6, l32_2147483647, own_len_eq] at hl1 hn hJ97 hq_106 hq_111 hq_132 hc141_63 hc147_86 hc160_132 hc167_133 hc175_144 hc184_145 ⊢) <;> omega
            refine A62.icmpNo (q := 195) at_192 (teq hc192_146).2 rfl ?_
            refine A62.iload (q := 197) at_195 rfl rfl ?_
            refine A62.iload (q := 199) at_197 rfl rfl ?_
            by_cases hc199_147 : (own_len x1) = (0 : Int32)
            · refine A62.ifNo (q := 202) at_199 ((if0 _ _).trans (teq hc199_147).2) rfl ?_
              refine A62.iconst (q := 203) (v := 1) at_202 rfl rfl ?_
              refine A62.goto (q := 207) at_203 (by decide) (by decide) ?_
              have hc207_148 : r_132 = (1 : Int32) := by
                clear hw A0 A4 A6 A10 A12 A16 A18 A22 A24 A26 A28 A32 A34 A36 A40 A42 A46 A48 A49 A53 A55 A56 A60 A62
                (try simp only [true_and, and_true, false_and, and_false, true_or, or_true, false_or, or_false, not_true_eq_false, not_false_eq_true, Int32.lt_iff_toInt_lt, Int64.lt_iff_toInt_lt, Int32.le_iff_toInt_le, Int64.le_iff_toInt_le, ← Int32.toInt_inj, ← Int64.toInt_inj, Int32.toInt_add, Int32.toInt_sub, Int32.toInt_neg, Int64.toInt_add, Int64.toInt_sub, Int64.toInt_neg, Int64.toInt_mul, Int32.toInt_toInt64, bm32, bm64, l32_0, l32_1, l32_2, l32_3, l32_4, l32_5, l32_6, l32_2147483647, own_len_eq] at hl1 hn hJ97 hq_106 hq_111 hq_132 hc141_63 hc147_86 hc160_132 hc167_133 hc175_144 hc184_145 hc192_146 hc199_147 ⊢) <;> omega
              refine A62.icmpNo (q := 210) at_207 (teq hc207_148).2 rfl ?_
              refine A62.iconst (q := 211) (v := 1) at_210 rfl rfl ?_
              refine A62.goto (q := 215) at_211 (by decide) (by decide) ?_
              exact A62.retN (by simp) at_215 (by decide) (by decide) ⟨rfl, trivial⟩
            · refine A62.ifYes (q := 206) at_199 ((if0 _ _).trans (feq hc199_147).2) (by decide) (by decide) ?_
              refine A62.iconst (q := 207) (v := 0) at_206 rfl rfl ?_
              have hc207_149 : r_132 = (0 : Int32) := by
                clear hw A0 A4 A6 A10 A12 A16 A18 A22 A24 A26 A28 A32 A34 A36 A40 A42 A46 A48 A49 A53 A55 A56 A60 A62
                (try simp only [true_and, and_true, false_and, and_false, true_or, or_true, false_or, or_false, not_true_eq_false, not_false_eq_true, Int32.lt_iff_toInt_lt, Int64.lt_iff_toInt_lt, Int32.le_iff_toInt_le, Int64.le_iff_toInt_le, ← Int32.toInt_inj, ← Int64.toInt_inj, Int32.toInt_add, Int32.toInt_sub, Int32.toInt_neg, Int64.toInt_add, Int64.toInt_sub, Int64.toInt_neg, Int64.toInt_mul, Int32.toInt_toInt64, bm32, bm64, l32_0, l32_1, l32_2, l32_3, l32_4, l32_5, l32_6, l32_2147483647, own_len_eq] at hl1 hn hJ97 hq_106 hq_111 hq_132 hc141_63 hc147_86 hc160_132 hc167_133 hc175_144 hc184_145 hc192_146 hc199_147 ⊢) <;> omega
              refine A62.icmpNo (q := 210) at_207 (teq hc207_149).2 rfl ?_
              refine A62.iconst (q := 211) (v := 1) at_210 rfl rfl ?_
              refine A62.goto (q := 215) at_211 (by decide) (by decide) ?_
              exact A62.retN (by simp) at_215 (by decide) (by decide) ⟨rfl, trivial⟩
          · refine A62.icmpYes (q := 191) at_184 (feq hc184_145).2 (by decide) (by decide) ?_
            refine A62.iconst (q := 192) (v := 0) at_191 rfl rfl ?_
            have hc192_150 : r_111 = (0 : Int32) := by
              clear hw A0 A4 A6 A10 A12 A16 A18 A22 A24 A26 A28 A32 A34 A36 A40 A42 A46 A48 A49 A53 A55 A56 A60 A62
              (try simp only [true_and, and_true, false_and, and_false, true_or, or_true, false_or, or_false, not_true_eq_false, not_false_eq_true, Int32.lt_iff_toInt_lt, Int64.lt_iff_toInt_lt, Int32.le_iff_toInt_le, Int64.le_iff_toInt_le, ← Int32.toInt_inj, ← Int64.toInt_inj, Int32.toInt_add, Int32.toInt_sub, Int32.toInt_neg, Int64.toInt_add, Int64.toInt_sub, Int64.toInt_neg, Int64.toInt_mul, Int32.toInt_toInt64, bm32, bm64, l32_0, l32_1, l32_2, l32_3, l32_4, l32_5, l32_6, l32_2147483647, own_len_eq] at hl1 hn hJ97 hq_106 hq_111 hq_132 hc141_63 hc147_86 hc160_132 hc167_133 hc175_144 hc184_145 ⊢) <;> omega
            refine A62.icmpNo (q := 195) at_192 (teq hc192_150).2 rfl ?_
            refine A62.iload (q := 197) at_195 rfl rfl ?_
            refine A62.iload (q := 199) at_197 rfl rfl ?_
            by_cases hc199_151 : (own_len x1) = (0 : Int32)
            · refine A62.ifNo (q := 202) at_199 ((if0 _ _).trans (teq hc199_151).2) rfl ?_
              refine A62.iconst (q := 203) (v := 1) at_202 rfl rfl ?_
              refine A62.goto (q := 207) at_203 (by decide) (by decide) ?_
              have hc207_152 : r_132 = (1 : Int32) := by
                clear hw A0 A4 A6 A10 A12 A16 A18 A22 A24 A26 A28 A32 A34 A36 A40 A42 A46 A48 A49 A53 A55 A56 A60 A62
                (try simp only [true_and, and_true, false_and, and_false, true_or, or_true, false_or, or_false, not_true_eq_false, not_false_eq_true, Int32.lt_iff_toInt_lt, Int64.lt_iff_toInt_lt, Int32.le_iff_toInt_le, Int64.le_iff_toInt_le, ← Int32.toInt_inj, ← Int64.toInt_inj, Int32.toInt_add, Int32.toInt_sub, Int32.toInt_neg, Int64.toInt_add, Int64.toInt_sub, Int64.toInt_neg, Int64.toInt_mul, Int32.toInt_toInt64, bm32, bm64, l32_0, l32_1, l32_2, l32_3, l32_4, l32_5, l32_6, l32_2147483647, own_len_eq] at hl1 hn hJ97 hq_106 hq_111 hq_132 hc141_63 hc147_86 hc160_132 hc167_133 hc175_144 hc184_145 hc192_150 hc199_151 ⊢) <;> omega
              refine A62.icmpNo (q := 210) at_207 (teq hc207_152).2 rfl ?_
              refine A62.iconst (q := 211) (v := 1) at_210 rfl rfl ?_
              refine A62.goto (q := 215) at_211 (by decide) (by decide) ?_
              exact A62.retN (by simp) at_215 (by decide) (by decide) ⟨rfl, trivial⟩
            · refine A62.ifYes (q := 206) at_199 ((if0 _ _).trans (feq hc199_151).2) (by decide) (by decide) ?_
              refine A62.iconst (q := 207) (v := 0) at_206 rfl rfl ?_
              have hc207_153 : r_132 = (0 : Int32) := by
                clear hw A0 A4 A6 A10 A12 A16 A18 A22 A24 A26 A28 A32 A34 A36 A40 A42 A46 A48 A49 A53 A55 A56 A60 A62
                (try simp only [true_and, and_true, false_and, and_false, true_or, or_true, false_or, or_false, not_true_eq_false, not_false_eq_true, Int32.lt_iff_toInt_lt, Int64.lt_iff_toInt_lt, Int32.le_iff_toInt_le, Int64.le_iff_toInt_le, ← Int32.toInt_inj, ← Int64.toInt_inj, Int32.toInt_add, Int32.toInt_sub, Int32.toInt_neg, Int64.toInt_add, Int64.toInt_sub, Int64.toInt_neg, Int64.toInt_mul, Int32.toInt_toInt64, bm32, bm64, l32_0, l32_1, l32_2, l32_3, l32_4, l32_5, l32_6, l32_2147483647, own_len_eq] at hl1 hn hJ97 hq_106 hq_111 hq_132 hc141_63 hc147_86 hc160_132 hc167_133 hc175_144 hc184_145 hc192_150 hc199_151 ⊢) <;> omega
              refine A62.icmpNo (q := 210) at_207 (teq hc207_153).2 rfl ?_
              refine A62.iconst (q := 211) (v := 1) at_210 rfl rfl ?_
              refine A62.goto (q := 215) at_211 (by decide) (by decide) ?_
              exact A62.retN (by simp) at_215 (by decide) (by decide) ⟨rfl, trivial⟩
  rcases own_r6 x2 with hk | hk | hk | hk | hk | hk
  · rw [hk]
    show Wp _ _ _ _ _ _ _ _ _ _ T29 (mkF m 62 #[.val (.long x0), .second, .val (.long x1), .second, .val (.int x2), .val (.int x3), .val (.ref b_1), .val (.ref b_7), .val (.int (own_len x0)), .val (.int (own_len x1)), .val (.int 0), .val (.int nn), .val (.int ((own_len x0) - nn)), .val (.ref b27), .unset, .unset, .unset, .unset] [])
    refine A34.aload (q := 64) at_62 rfl rfl rfl ?_
    refine A34.aload (q := 66) at_64 rfl rfl rfl ?_
    refine A34.iconst (q := 67) (v := 0) at_66 rfl rfl ?_
    refine A34.iload (q := 69) at_67 rfl rfl ?_
    have A154 := A34.pick (is := [1, 2, 0]) (os2 := [(b_7, .inr (.byte, [(.int (own_b0 x1)), (.int (own_by 8 x1)), (.int (own_by 16 x1)), (.int (own_by 24 x1)), (.int (own_by 32 x1))])), (b27, ob0 (.int 0) (.int 0) (.int 0)), (b_1, .inr (.byte, [(.int (own_b0 x0)), (.int (own_by 8 x0)), (.int (own_by 16 x0)), (.int (own_by 24 x0)), (.int (own_by 32 x0))]))]) (by decide) rfl
    refine Here.callV (qn := 72) (os1 := [(b_7, .inr (.byte, [(.int (own_b0 x1)), (.int (own_by 8 x1)), (.int (own_by 16 x1)), (.int (own_by 24 x1)), (.int (own_by 32 x1))]))]) (os2 := [(b27, ob0 (.int 0) (.int 0) (.int 0)), (b_1, .inr (.byte, [(.int (own_b0 x0)), (.int (own_by 8 x0)), (.int (own_by 16 x0)), (.int (own_by 24 x0)), (.int (own_by 32 x0))]))]) (rest := []) (W := 0) (argsL := [(.ref b_1), (.int 0), (.int 0)]) (a := b27) (i := 1) A154 (m_p0_0 l Z a0 hw b27 b_1 ((own_b0 x0)) ((own_by 8 x0)) ((own_by 16 x0)) ((own_by 24 x0)) ((own_by 32 x0))) (Or.inr ⟨rfl, rfl⟩) rfl (tw hw 19 rfl) (tw hw 20 rfl) (tw hw 22 rfl) (tw hw 21 rfl) (tw hw 12 rfl) (tw hw 23 rfl) (by decide) at_69 rfl (lenOf pd_6 rfl) rfl (Nat.le_of_eq rfl) (by decide) (by decide) (by decide) (by decide) rfl (fun T155 v156 os157 A158 P159 => ?_)
    obtain ⟨rfl, rfl⟩ := P159
    have A160 := A158.cast (k2 := 3) (n2 := 13) (os2 := [(b_7, .inr (.byte, [(.int (own_b0 x1)), (.int (own_by 8 x1)), (.int (own_by 16 x1)), (.int (own_by 24 x1)), (.int (own_by 32 x1))])), (b27, ob0 (.int 0) (.int 0) (.int 0)), (b_1, .inr (.byte, [(.int (own_b0 x0)), (.int (own_by 8 x0)), (.int (own_by 16 x0)), (.int (own_by 24 x0)), (.int (own_by 32 x0))]))]) rfl rfl rfl
    refine A160.aload (q := 74) at_72 rfl rfl rfl ?_
    have A161 := A160.pick (is := [0, 2, 1]) (os2 := [(b_7, .inr (.byte, [(.int (own_b0 x1)), (.int (own_by 8 x1)), (.int (own_by 16 x1)), (.int (own_by 24 x1)), (.int (own_by 32 x1))])), (b_1, .inr (.byte, [(.int (own_b0 x0)), (.int (own_by 8 x0)), (.int (own_by 16 x0)), (.int (own_by 24 x0)), (.int (own_by 32 x0))])), (b27, ob0 (.int 0) (.int 0) (.int 0))]) (by decide) rfl
    refine Here.callV (qn := 77) (os1 := [(b_7, .inr (.byte, [(.int (own_b0 x1)), (.int (own_by 8 x1)), (.int (own_by 16 x1)), (.int (own_by 24 x1)), (.int (own_by 32 x1))])), (b_1, .inr (.byte, [(.int (own_b0 x0)), (.int (own_by 8 x0)), (.int (own_by 16 x0)), (.int (own_by 24 x0)), (.int (own_by 32 x0))]))]) (os2 := [(b27, ob0 (.int 0) (.int 0) (.int 0))]) (rest := []) (W := 0) (argsL := []) (a := b27) (i := 2) A161 (m_btw l Z a0 hw b27 ((0 : Int32)) ((0 : Int32)) ((0 : Int32))) (Or.inr ⟨rfl, rfl⟩) rfl (tw hw 24 rfl) (tw hw 25 rfl) (tw hw 27 rfl) (tw hw 26 rfl) (tw hw 12 rfl) (tw hw 28 rfl) (by decide) at_74 rfl (lenOf pd_7 rfl) rfl (Nat.le_of_eq rfl) (by decide) (by decide) (by decide) (by decide) rfl (fun T162 v163 os164 A165 P166 => ?_)
    obtain ⟨r_74, rfl, rfl, hq_74⟩ := P166
    have A167 := A165.cast (k2 := 3) (n2 := 13) (os2 := [(b_7, .inr (.byte, [(.int (own_b0 x1)), (.int (own_by 8 x1)), (.int (own_by 16 x1)), (.int (own_by 24 x1)), (.int (own_by 32 x1))])), (b_1, .inr (.byte, [(.int (own_b0 x0)), (.int (own_by 8 x0)), (.int (own_by 16 x0)), (.int (own_by 24 x0)), (.int (own_by 32 x0))])), (b27, ob0 (.int 0) (.int 0) (.int 0))]) rfl rfl rfl
    refine A167.istore (q := 79) (l' := #[.val (.long x0), .second, .val (.long x1), .second, .val (.int x2), .val (.int x3), .val (.ref b_1), .val (.ref b_7), .val (.int (own_len x0)), .val (.int (own_len x1)), .val (.int 0), .val (.int nn), .val (.int ((own_len x0) - nn)), .val (.ref b27), .val (.int r_74), .unset, .unset, .unset]) at_77 rfl rfl ?_
    refine A167.aload (q := 81) at_79 rfl rfl rfl ?_
    refine A167.aload (q := 83) at_81 rfl rfl rfl ?_
    refine A167.iload (q := 85) at_83 rfl rfl ?_
    refine A167.iconst (q := 86) (v := 5) at_85 rfl rfl ?_
    refine A167.iload (q := 88) at_86 rfl rfl ?_
    refine A167.isub (q := 89) at_88 rfl ?_
    refine Wp.top (v' := (.int 5)) rfl ?_
    have A168 := A167.pick (is := [0, 2, 1]) (os2 := [(b_7, .inr (.byte, [(.int (own_b0 x1)), (.int (own_by 8 x1)), (.int (own_by 16 x1)), (.int (own_by 24 x1)), (.int (own_by 32 x1))])), (b27, ob0 (.int 0) (.int 0) (.int 0)), (b_1, .inr (.byte, [(.int (own_b0 x0)), (.int (own_by 8 x0)), (.int (own_by 16 x0)), (.int (own_by 24 x0)), (.int (own_by 32 x0))]))]) (by decide) rfl
    refine Here.callV (qn := 92) (os1 := [(b_7, .inr (.byte, [(.int (own_b0 x1)), (.int (own_by 8 x1)), (.int (own_by 16 x1)), (.int (own_by 24 x1)), (.int (own_by 32 x1))]))]) (os2 := [(b27, ob0 (.int 0) (.int 0) (.int 0)), (b_1, .inr (.byte, [(.int (own_b0 x0)), (.int (own_by 8 x0)), (.int (own_by 16 x0)), (.int (own_by 24 x0)), (.int (own_by 32 x0))]))]) (rest := []) (W := 0) (argsL := [(.ref b_1), (.int 0), (.int 5)]) (a := b27) (i := 1) A168 (m_p0_5 l Z a0 hw b27 b_1 ((own_b0 x0)) ((own_by 8 x0)) ((own_by 16 x0)) ((own_by 24 x0)) ((own_by 32 x0))) (Or.inr ⟨rfl, rfl⟩) rfl (tw hw 19 rfl) (tw hw 20 rfl) (tw hw 22 rfl) (tw hw 21 rfl) (tw hw 12 rfl) (tw hw 23 rfl) (by decide) at_89 rfl (lenOf pd_6 rfl) rfl (Nat.le_of_eq rfl) (by decide) (by decide) (by decide) (by decide) rfl (fun T169 v170 os171 A172 P173 => ?_)
    obtain ⟨rfl, rfl⟩ := P173
    have A174 := A172.cast (k2 := 3) (n2 := 13) (os2 := [(b_7, .inr (.byte, [(.int (own_b0 x1)), (.int (own_by 8 x1)), (.int (own_by 16 x1)), (.int (own_by 24 x1)), (.int (own_by 32 x1))])), (b27, ob0 (.int 0) (.int (own_l (own_by 24 x0) (own_by 32 x0))) (.int 0)), (b_1, .inr (.byte, [(.int (own_b0 x0)), (.int (own_by 8 x0)), (.int (own_by 16 x0)), (.int (own_by 24 x0)), (.int (own_by 32 x0))]))]) rfl rfl rfl
    refine A174.aload (q := 94) at_92 rfl rfl rfl ?_
    have A175 := A174.pick (is := [0, 2, 1]) (os2 := [(b_7, .inr (.byte, [(.int (own_b0 x1)), (.int (own_by 8 x1)), (.int (own_by 16 x1)), (.int (own_by 24 x1)), (.int (own_by 32 x1))])), (b_1, .inr (.byte, [(.int (own_b0 x0)), (.int (own_by 8 x0)), (.int (own_by 16 x0)), (.int (own_by 24 x0)), (.int (own_by 32 x0))])), (b27, ob0 (.int 0) (.int (own_l (own_by 24 x0) (own_by 32 x0))) (.int 0))]) (by decide) rfl
    refine Here.callV (qn := 97) (os1 := [(b_7, .inr (.byte, [(.int (own_b0 x1)), (.int (own_by 8 x1)), (.int (own_by 16 x1)), (.int (own_by 24 x1)), (.int (own_by 32 x1))])), (b_1, .inr (.byte, [(.int (own_b0 x0)), (.int (own_by 8 x0)), (.int (own_by 16 x0)), (.int (own_by 24 x0)), (.int (own_by 32 x0))]))]) (os2 := [(b27, ob0 (.int 0) (.int (own_l (own_by 24 x0) (own_by 32 x0))) (.int 0))]) (rest := []) (W := 0) (argsL := []) (a := b27) (i := 2) A175 (m_btw l Z a0 hw b27 ((own_l (own_by 24 x0) (own_by 32 x0))) ((0 : Int32)) ((0 : Int32))) (Or.inr ⟨rfl, rfl⟩) rfl (tw hw 24 rfl) (tw hw 25 rfl) (tw hw 27 rfl) (tw hw 26 rfl) (tw hw 12 rfl) (tw hw 28 rfl) (by decide) at_94 rfl (lenOf pd_7 rfl) rfl (Nat.le_of_eq rfl) (by decide) (by decide) (by decide) (by decide) rfl (fun T176 v177 os178 A179 P180 => ?_)
    obtain ⟨r_94, rfl, rfl, hq_94⟩ := P180
    have A181 := A179.cast (k2 := 3) (n2 := 13) (os2 := [(b_7, .inr (.byte, [(.int (own_b0 x1)), (.int (own_by 8 x1)), (.int (own_by 16 x1)), (.int (own_by 24 x1)), (.int (own_by 32 x1))])), (b_1, .inr (.byte, [(.int (own_b0 x0)), (.int (own_by 8 x0)), (.int (own_by 16 x0)), (.int (own_by 24 x0)), (.int (own_by 32 x0))])), (b27, ob0 (.int 0) (.int (own_l (own_by 24 x0) (own_by 32 x0))) (.int 0))]) rfl rfl rfl
    have A182 := A181.pick (is := [1, 0, 2]) (os2 := [(b_1, .inr (.byte, [(.int (own_b0 x0)), (.int (own_by 8 x0)), (.int (own_by 16 x0)), (.int (own_by 24 x0)), (.int (own_by 32 x0))])), (b_7, .inr (.byte, [(.int (own_b0 x1)), (.int (own_by 8 x1)), (.int (own_by 16 x1)), (.int (own_by 24 x1)), (.int (own_by 32 x1))])), (b27, ob0 (.int 0) (.int (own_l (own_by 24 x0) (own_by 32 x0))) (.int 0))]) (by decide) rfl
    refine J97 T176 ((0 : Int32)) (r_74) (r_94) A182 ?_
    clear hw A0 A4 A6 A10 A12 A16 A18 A22 A24 A26 A28 A32 A34 A154 A158 A160 A161 A165 A167 A168 A172 A174 A175 A179 A181 A182
    (try simp only [true_and, and_true, false_and, and_false, true_or, or_true, false_or, or_false, not_true_eq_false, not_false_eq_true, Int32.lt_iff_toInt_lt, Int64.lt_iff_toInt_lt, Int32.le_iff_toInt_le, Int64.le_iff_toInt_le, ← Int32.toInt_inj, ← Int64.toInt_inj, Int32.toInt_add, Int32.toInt_sub, Int32.toInt_neg, Int64.toInt_add, Int64.toInt_sub, Int64.toInt_neg, Int64.toInt_mul, Int32.toInt_toInt64, bm32, bm64, l32_0, l32_1, l32_2, l32_3, l32_4, l32_5, l32_6, l32_2147483647, own_len_eq] at hl1 hn hq_74 hq_94 ⊢) <;> omega
  · rw [hk]
    show Wp _ _ _ _ _ _ _ _ _ _ T29 (mkF m 62 #[.val (.long x0), .second, .val (.long x1), .second, .val (.int x2), .val (.int x3), .val (.ref b_1), .val (.ref b_7), .val (.int (own_len x0)), .val (.int (own_len x1)), .val (.int 1), .val (.int nn), .val (.int ((own_len x0) - nn)), .val (.ref b27), .unset, .unset, .unset, .unset] [])
    refine A34.aload (q := 64) at_62 rfl rfl rfl ?_
    refine A34.aload (q := 66) at_64 rfl rfl rfl ?_
    refine A34.iconst (q := 67) (v := 0) at_66 rfl rfl ?_
    refine A34.iload (q := 69) at_67 rfl rfl ?_
    have A183 := A34.pick (is := [1, 2, 0]) (os2 := [(b_7, .inr (.byte, [(.int (own_b0 x1)), (.int (own_by 8 x1)), (.int (own_by 16 x1)), (.int (own_by 24 x1)), (.int (own_by 32 x1))])), (b27, ob0 (.int 0) (.int 0) (.int 0)), (b_1, .inr (.byte, [(.int (own_b0 x0)), (.int (own_by 8 x0)), (.int (own_by 16 x0)), (.int (own_by 24 x0)), (.int (own_by 32 x0))]))]) (by decide) rfl
    refine Here.callV (qn := 72) (os1 := [(b_7, .inr (.byte, [(.int (own_b0 x1)), (.int (own_by 8 x1)), (.int (own_by 16 x1)), (.int (own_by 24 x1)), (.int (own_by 32 x1))]))]) (os2 := [(b27, ob0 (.int 0) (.int 0) (.int 0)), (b_1, .inr (.byte, [(.int (own_b0 x0)), (.int (own_by 8 x0)), (.int (own_by 16 x0)), (.int (own_by 24 x0)), (.int (own_by 32 x0))]))]) (rest := []) (W := 0) (argsL := [(.ref b_1), (.int 0), (.int 1)]) (a := b27) (i := 1) A183 (m_p0_1 l Z a0 hw b27 b_1 ((own_b0 x0)) ((own_by 8 x0)) ((own_by 16 x0)) ((own_by 24 x0)) ((own_by 32 x0))) (Or.inr ⟨rfl, rfl⟩) rfl (tw hw 19 rfl) (tw hw 20 rfl) (tw hw 22 rfl) (tw hw 21 rfl) (tw hw 12 rfl) (tw hw 23 rfl) (by decide) at_69 rfl (lenOf pd_6 rfl) rfl (Nat.le_of_eq rfl) (by decide) (by decide) (by decide) (by decide) rfl (fun T184 v185 os186 A187 P188 => ?_)
    obtain ⟨rfl, rfl⟩ := P188
    have A189 := A187.cast (k2 := 3) (n2 := 13) (os2 := [(b_7, .inr (.byte, [(.int (own_b0 x1)), (.int (own_by 8 x1)), (.int (own_by 16 x1)), (.int (own_by 24 x1)), (.int (own_by 32 x1))])), (b27, ob0 (.int 1) (.int 0) (.int 0)), (b_1, .inr (.byte, [(.int (own_b0 x0)), (.int (own_by 8 x0)), (.int (own_by 16 x0)), (.int (own_by 24 x0)), (.int (own_by 32 x0))]))]) rfl rfl rfl
    refine A189.aload (q := 74) at_72 rfl rfl rfl ?_
    have A190 := A189.pick (is := [0, 2, 1]) (os2 := [(b_7, .inr (.byte, [(.int (own_b0 x1)), (.int (own_by 8 x1)), (.int (own_by 16 x1)), (.int (own_by 24 x1)), (.int (own_by 32 x1))])), (b_1, .inr (.byte, [(.int (own_b0 x0)), (.int (own_by 8 x0)), (.int (own_by 16 x0)), (.int (own_by 24 x0)), (.int (own_by 32 x0))])), (b27, ob0 (.int 1) (.int 0) (.int 0))]) (by decide) rfl
    refine Here.callV (qn := 77) (os1 := [(b_7, .inr (.byte, [(.int (own_b0 x1)), (.int (own_by 8 x1)), (.int (own_by 16 x1)), (.int (own_by 24 x1)), (.int (own_by 32 x1))])), (b_1, .inr (.byte, [(.int (own_b0 x0)), (.int (own_by 8 x0)), (.int (own_by 16 x0)), (.int (own_by 24 x0)), (.int (own_by 32 x0))]))]) (os2 := [(b27, ob0 (.int 1) (.int 0) (.int 0))]) (rest := []) (W := 0) (argsL := []) (a := b27) (i := 2) A190 (m_btw l Z a0 hw b27 ((0 : Int32)) ((1 : Int32)) ((0 : Int32))) (Or.inr ⟨rfl, rfl⟩) rfl (tw hw 24 rfl) (tw hw 25 rfl) (tw hw 27 rfl) (tw hw 26 rfl) (tw hw 12 rfl) (tw hw 28 rfl) (by decide) at_74 rfl (lenOf pd_7 rfl) rfl (Nat.le_of_eq rfl) (by decide) (by decide) (by decide) (by decide) rfl (fun T191 v192 os193 A194 P195 => ?_)
    obtain ⟨r_74, rfl, rfl, hq_74⟩ := P195
    have A196 := A194.cast (k2 := 3) (n2 := 13) (os2 := [(b_7, .inr (.byte, [(.int (own_b0 x1)), (.int (own_by 8 x1)), (.int (own_by 16 x1)), (.int (own_by 24 x1)), (.int (own_by 32 x1))])), (b_1, .inr (.byte, [(.int (own_b0 x0)), (.int (own_by 8 x0)), (.int (own_by 16 x0)), (.int (own_by 24 x0)), (.int (own_by 32 x0))])), (b27, ob0 (.int 1) (.int 0) (.int 0))]) rfl rfl rfl
    refine A196.istore (q := 79) (l' := #[.val (.long x0), .second, .val (.long x1), .second, .val (.int x2), .val (.int x3), .val (.ref b_1), .val (.ref b_7), .val (.int (own_len x0)), .val (.int (own_len x1)), .val (.int 1), .val (.int nn), .val (.int ((own_len x0) - nn)), .val (.ref b27), .val (.int r_74), .unset, .unset, .unset]) at_77 rfl rfl ?_
    refine A196.aload (q := 81) at_79 rfl rfl rfl ?_
    refine A196.aload (q := 83) at_81 rfl rfl rfl ?_
    refine A196.iload (q := 85) at_83 rfl rfl ?_
    refine A196.iconst (q := 86) (v := 5) at_85 rfl rfl ?_
    refine A196.iload (q := 88) at_86 rfl rfl ?_
    refine A196.isub (q := 89) at_88 rfl ?_
    refine Wp.top (v' := (.int 4)) rfl ?_
    have A197 := A196.pick (is := [0, 2, 1]) (os2 := [(b_7, .inr (.byte, [(.int (own_b0 x1)), (.int (own_by 8 x1)), (.int (own_by 16 x1)), (.int (own_by 24 x1)), (.int (own_by 32 x1))])), (b27, ob0 (.int 1) (.int 0) (.int 0)), (b_1, .inr (.byte, [(.int (own_b0 x0)), (.int (own_by 8 x0)), (.int (own_by 16 x0)), (.int (own_by 24 x0)), (.int (own_by 32 x0))]))]) (by decide) rfl
    refine Here.callV (qn := 92) (os1 := [(b_7, .inr (.byte, [(.int (own_b0 x1)), (.int (own_by 8 x1)), (.int (own_by 16 x1)), (.int (own_by 24 x1)), (.int (own_by 32 x1))]))]) (os2 := [(b27, ob0 (.int 1) (.int 0) (.int 0)), (b_1, .inr (.byte, [(.int (own_b0 x0)), (.int (own_by 8 x0)), (.int (own_by 16 x0)), (.int (own_by 24 x0)), (.int (own_by 32 x0))]))]) (rest := []) (W := 0) (argsL := [(.ref b_1), (.int 1), (.int 4)]) (a := b27) (i := 1) A197 (m_p1_4 l Z a0 hw b27 b_1 ((own_b0 x0)) ((own_by 8 x0)) ((own_by 16 x0)) ((own_by 24 x0)) ((own_by 32 x0))) (Or.inr ⟨rfl, rfl⟩) rfl (tw hw 19 rfl) (tw hw 20 rfl) (tw hw 22 rfl) (tw hw 21 rfl) (tw hw 12 rfl) (tw hw 23 rfl) (by decide) at_89 rfl (lenOf pd_6 rfl) rfl (Nat.le_of_eq rfl) (by decide) (by decide) (by decide) (by decide) rfl (fun T198 v199 os200 A201 P202 => ?_)
    obtain ⟨rfl, rfl⟩ := P202
    have A203 := A201.cast (k2 := 3) (n2 := 13) (os2 := [(b_7, .inr (.byte, [(.int (own_b0 x1)), (.int (own_by 8 x1)), (.int (own_by 16 x1)), (.int (own_by 24 x1)), (.int (own_by 32 x1))])), (b27, ob0 (.int 0) (.int (own_l (own_by 24 x0) (own_by 32 x0))) (.int 0)), (b_1, .inr (.byte, [(.int (own_b0 x0)), (.int (own_by 8 x0)), (.int (own_by 16 x0)), (.int (own_by 24 x0)), (.int (own_by 32 x0))]))]) rfl rfl rfl
    refine A203.aload (q := 94) at_92 rfl rfl rfl ?_
    have A204 := A203.pick (is := [0, 2, 1]) (os2 := [(b_7, .inr (.byte, [(.int (own_b0 x1)), (.int (own_by 8 x1)), (.int (own_by 16 x1)), (.int (own_by 24 x1)), (.int (own_by 32 x1))])), (b_1, .inr (.byte, [(.int (own_b0 x0)), (.int (own_by 8 x0)), (.int (own_by 16 x0)), (.int (own_by 24 x0)), (.int (own_by 32 x0))])), (b27, ob0 (.int 0) (.int (own_l (own_by 24 x0) (own_by 32 x0))) (.int 0))]) (by decide) rfl
    refine Here.callV (qn := 97) (os1 := [(b_7, .inr (.byte, [(.int (own_b0 x1)), (.int (own_by 8 x1)), (.int (own_by 16 x1)), (.int (own_by 24 x1)), (.int (own_by 32 x1))])), (b_1, .inr (.byte, [(.int (own_b0 x0)), (.int (own_by 8 x0)), (.int (own_by 16 x0)), (.int (own_by 24 x0)), (.int (own_by 32 x0))]))]) (os2 := [(b27, ob0 (.int 0) (.int (own_l (own_by 24 x0) (own_by 32 x0))) (.int 0))]) (rest := []) (W := 0) (argsL := []) (a := b27) (i := 2) A204 (m_btw l Z a0 hw b27 ((own_l (own_by 24 x0) (own_by 32 x0))) ((0 : Int32)) ((0 : Int32))) (Or.inr ⟨rfl, rfl⟩) rfl (tw hw 24 rfl) (tw hw 25 rfl) (tw hw 27 rfl) (tw hw 26 rfl) (tw hw 12 rfl) (tw hw 28 rfl) (by decide) at_94 rfl (lenOf pd_7 rfl) rfl (Nat.le_of_eq rfl) (by decide) (by decide) (by decide) (by decide) rfl (fun T205 v206 os207 A208 P209 => ?_)
    obtain ⟨r_94, rfl, rfl, hq_94⟩ := P209
    have A210 := A208.cast (k2 := 3) (n2 := 13) (os2 := [(b_7, .inr (.byte, [(.int (own_b0 x1)), (.int (own_by 8 x1)), (.int (own_by 16 x1)), (.int (own_by 24 x1)), (.int (own_by 32 x1))])), (b_1, .inr (.byte, [(.int (own_b0 x0)), (.int (own_by 8 x0)), (.int (own_by 16 x0)), (.int (own_by 24 x0)), (.int (own_by 32 x0))])), (b27, ob0 (.int 0) (.int (own_l (own_by 24 x0) (own_by 32 x0))) (.int 0))]) rfl rfl rfl
    have A211 := A210.pick (is := [1, 0, 2]) (os2 := [(b_1, .inr (.byte, [(.int (own_b0 x0)), (.int (own_by 8 x0)), (.int (own_by 16 x0)), (.int (own_by 24 x0)), (.int (own_by 32 x0))])), (b_7, .inr (.byte, [(.int (own_b0 x1)), (.int (own_by 8 x1)), (.int (own_by 16 x1)), (.int (own_by 24 x1)), (.int (own_by 32 x1))])), (b27, ob0 (.int 0) (.int (own_l (own_by 24 x0) (own_by 32 x0))) (.int 0))]) (by decide) rfl
    refine J97 T205 ((1 : Int32)) (r_74) (r_94) A211 ?_
    clear hw A0 A4 A6 A10 A12 A16 A18 A22 A24 A26 A28 A32 A34 A183 A187 A189 A190 A194 A196 A197 A201 A203 A204 A208 A210 A211
    (try simp only [true_and, and_true, false_and, and_false, true_or, or_true, false_or, or_false, not_true_eq_false, not_false_eq_true, Int32.lt_iff_toInt_lt, Int64.lt_iff_toInt_lt, Int32.le_iff_toInt_le, Int64.le_iff_toInt_le, ← Int32.toInt_inj, ← Int64.toInt_inj, Int32.toInt_add, Int32.toInt_sub, Int32.toInt_neg, Int64.toInt_add, Int64.toInt_sub, Int64.toInt_neg, Int64.toInt_mul, Int32.toInt_toInt64, bm32, bm64, l32_0, l32_1, l32_2, l32_3, l32_4, l32_5, l32_6, l32_2147483647, own_len_eq] at hl1 hn hq_74 hq_94 ⊢) <;> omega
  · rw [hk]
    show Wp _ _ _ _ _ _ _ _ _ _ T29 (mkF m 62 #[.val (.long x0), .second, .val (.long x1), .second, .val (.int x2), .val (.int x3), .val (.ref b_1), .val (.ref b_7), .val (.int (own_len x0)), .val (.int (own_len x1)), .val (.int 2), .val (.int nn), .val (.int ((own_len x0) - nn)), .val (.ref b27), .unset, .unset, .unset, .unset] [])
    refine A34.aload (q := 64) at_62 rfl rfl rfl ?_
    refine A34.aload (q := 66) at_64 rfl rfl rfl ?_
    refine A34.iconst (q := 67) (v := 0) at_66 rfl rfl ?_
    refine A34.iload (q := 69) at_67 rfl rfl ?_
    have A212 := A34.pick (is := [1, 2, 0]) (os2 := [(b_7, .inr (.byte, [(.int (own_b0 x1)), (.int (own_by 8 x1)), (.int (own_by 16 x1)), (.int (own_by 24 x1)), (.int (own_by 32 x1))])), (b27, ob0 (.int 0) (.int 0) (.int 0)), (b_1, .inr (.byte, [(.int (own_b0 x0)), (.int (own_by 8 x0)), (.int (own_by 16 x0)), (.int (own_by 24 x0)), (.int (own_by 32 x0))]))]) (by decide) rfl
    refine Here.callV (qn := 72) (os1 := [(b_7, .inr (.byte, [(.int (own_b0 x1)), (.int (own_by 8 x1)), (.int (own_by 16 x1)), (.int (own_by 24 x1)), (.int (own_by 32 x1))]))]) (os2 := [(b27, ob0 (.int 0) (.int 0) (.int 0)), (b_1, .inr (.byte, [(.int (own_b0 x0)), (.int (own_by 8 x0)), (.int (own_by 16 x0)), (.int (own_by 24 x0)), (.int (own_by 32 x0))]))]) (rest := []) (W := 0) (argsL := [(.ref b_1), (.int 0), (.int 2)]) (a := b27) (i := 1) A212 (m_p0_2 l Z a0 hw b27 b_1 ((own_b0 x0)) ((own_by 8 x0)) ((own_by 16 x0)) ((own_by 24 x0)) ((own_by 32 x0))) (Or.inr ⟨rfl, rfl⟩) rfl (tw hw 19 rfl) (tw hw 20 rfl) (tw hw 22 rfl) (tw hw 21 rfl) (tw hw 12 rfl) (tw hw 23 rfl) (by decide) at_69 rfl (lenOf pd_6 rfl) rfl (Nat.le_of_eq rfl) (by decide) (by decide) (by decide) (by decide) rfl (fun T213 v214 os215 A216 P217 => ?_)
    obtain ⟨rfl, rfl⟩ := P217
    have A218 := A216.cast (k2 := 3) (n2 := 13) (os2 := [(b_7, .inr (.byte, [(.int (own_b0 x1)), (.int (own_by 8 x1)), (.int (own_by 16 x1)), (.int (own_by 24 x1)), (.int (own_by 32 x1))])), (b27, ob0 (.int 2) (.int 0) (.int 0)), (b_1, .inr (.byte, [(.int (own_b0 x0)), (.int (own_by 8 x0)), (.int (own_by 16 x0)), (.int (own_by 24 x0)), (.int (own_by 32 x0))]))]) rfl rfl rfl
    refine A218.aload (q := 74) at_72 rfl rfl rfl ?_
    have A219 := A218.pick (is := [0, 2, 1]) (os2 := [(b_7, .inr (.byte, [(.int (own_b0 x1)), (.int (own_by 8 x1)), (.int (own_by 16 x1)), (.int (own_by 24 x1)), (.int (own_by 32 x1))])), (b_1, .inr (.byte, [(.int (own_b0 x0)), (.int (own_by 8 x0)), (.int (own_by 16 x0)), (.int (own_by 24 x0)), (.int (own_by 32 x0))])), (b27, ob0 (.int 2) (.int 0) (.int 0))]) (by decide) rfl
    refine Here.callV (qn := 77) (os1 := [(b_7, .inr (.byte, [(.int (own_b0 x1)), (.int (own_by 8 x1)), (.int (own_by 16 x1)), (.int (own_by 24 x1)), (.int (own_by 32 x1))])), (b_1, .inr (.byte, [(.int (own_b0 x0)), (.int (own_by 8 x0)), (.int (own_by 16 x0)), (.int (own_by 24 x0)), (.int (own_by 32 x0))]))]) (os2 := [(b27, ob0 (.int 2) (.int 0) (.int 0))]) (rest := []) (W := 0) (argsL := []) (a := b27) (i := 2) A219 (m_btw l Z a0 hw b27 ((0 : Int32)) ((2 : Int32)) ((0 : Int32))) (Or.inr ⟨rfl, rfl⟩) rfl (tw hw 24 rfl) (tw hw 25 rfl) (tw hw 27 rfl) (tw hw 26 rfl) (tw hw 12 rfl) (tw hw 28 rfl) (by decide) at_74 rfl (lenOf pd_7 rfl) rfl (Nat.le_of_eq rfl) (by decide) (by decide) (by decide) (by decide) rfl (fun T220 v221 os222 A223 P224 => ?_)
    obtain ⟨r_74, rfl, rfl, hq_74⟩ := P224
    have A225 := A223.cast (k2 := 3) (n2 := 13) (os2 := [(b_7, .inr (.byte, [(.int (own_b0 x1)), (.int (own_by 8 x1)), (.int (own_by 16 x1)), (.int (own_by 24 x1)), (.int (own_by 32 x1))])), (b_1, .inr (.byte, [(.int (own_b0 x0)), (.int (own_by 8 x0)), (.int (own_by 16 x0)), (.int (own_by 24 x0)), (.int (own_by 32 x0))])), (b27, ob0 (.int 2) (.int 0) (.int 0))]) rfl rfl rfl
    refine A225.istore (q := 79) (l' := #[.val (.long x0), .second, .val (.long x1), .second, .val (.int x2), .val (.int x3), .val (.ref b_1), .val (.ref b_7), .val (.int (own_len x0)), .val (.int (own_len x1)), .val (.int 2), .val (.int nn), .val (.int ((own_len x0) - nn)), .val (.ref b27), .val (.int r_74), .unset, .unset, .unset]) at_77 rfl rfl ?_
    refine A225.aload (q := 81) at_79 rfl rfl rfl ?_
    refine A225.aload (q := 83) at_81 rfl rfl rfl ?_
    refine A225.iload (q := 85) at_83 rfl rfl ?_
    refine A225.iconst (q := 86) (v := 5) at_85 rfl rfl ?_
    refine A225.iload (q := 88) at_86 rfl rfl ?_
    refine A225.isub (q := 89) at_88 rfl ?_
    refine Wp.top (v' := (.int 3)) rfl ?_
    have A226 := A225.pick (is := [0, 2, 1]) (os2 := [(b_7, .inr (.byte, [(.int (own_b0 x1)), (.int (own_by 8 x1)), (.int (own_by 16 x1)), (.int (own_by 24 x1)), (.int (own_by 32 x1))])), (b27, ob0 (.int 2) (.int 0) (.int 0)), (b_1, .inr (.byte, [(.int (own_b0 x0)), (.int (own_by 8 x0)), (.int (own_by 16 x0)), (.int (own_by 24 x0)), (.int (own_by 32 x0))]))]) (by decide) rfl
    refine Here.callV (qn := 92) (os1 := [(b_7, .inr (.byte, [(.int (own_b0 x1)), (.int (own_by 8 x1)), (.int (own_by 16 x1)), (.int (own_by 24 x1)), (.int (own_by 32 x1))]))]) (os2 := [(b27, ob0 (.int 2) (.int 0) (.int 0)), (b_1, .inr (.byte, [(.int (own_b0 x0)), (.int (own_by 8 x0)), (.int (own_by 16 x0)), (.int (own_by 24 x0)), (.int (own_by 32 x0))]))]) (rest := []) (W := 0) (argsL := [(.ref b_1), (.int 2), (.int 3)]) (a := b27) (i := 1) A226 (m_p2_3 l Z a0 hw b27 b_1 ((own_b0 x0)) ((own_by 8 x0)) ((own_by 16 x0)) ((own_by 24 x0)) ((own_by 32 x0))) (Or.inr ⟨rfl, rfl⟩) rfl (tw hw 19 rfl) (tw hw 20 rfl) (tw hw 22 rfl) (tw hw 21 rfl) (tw hw 12 rfl) (tw hw 23 rfl) (by decide) at_89 rfl (lenOf pd_6 rfl) rfl (Nat.le_of_eq rfl) (by decide) (by decide) (by decide) (by decide) rfl (fun T227 v228 os229 A230 P231 => ?_)
    obtain ⟨rfl, rfl⟩ := P231
    have A232 := A230.cast (k2 := 3) (n2 := 13) (os2 := [(b_7, .inr (.byte, [(.int (own_b0 x1)), (.int (own_by 8 x1)), (.int (own_by 16 x1)), (.int (own_by 24 x1)), (.int (own_by 32 x1))])), (b27, ob0 (.int 0) (.int (own_l (own_by 24 x0) (own_by 32 x0))) (.int 0)), (b_1, .inr (.byte, [(.int (own_b0 x0)), (.int (own_by 8 x0)), (.int (own_by 16 x0)), (.int (own_by 24 x0)), (.int (own_by 32 x0))]))]) rfl rfl rfl
    refine A232.aload (q := 94) at_92 rfl rfl rfl ?_
    have A233 := A232.pick (is := [0, 2, 1]) (os2 := [(b_7, .inr (.byte, [(.int (own_b0 x1)), (.int (own_by 8 x1)), (.int (own_by 16 x1)), (.int (own_by 24 x1)), (.int (own_by 32 x1))])), (b_1, .inr (.byte, [(.int (own_b0 x0)), (.int (own_by 8 x0)), (.int (own_by 16 x0)), (.int (own_by 24 x0)), (.int (own_by 32 x0))])), (b27, ob0 (.int 0) (.int (own_l (own_by 24 x0) (own_by 32 x0))) (.int 0))]) (by decide) rfl
    refine Here.callV (qn := 97) (os1 := [(b_7, .inr (.byte, [(.int (own_b0 x1)), (.int (own_by 8 x1)), (.int (own_by 16 x1)), (.int (own_by 24 x1)), (.int (own_by 32 x1))])), (b_1, .inr (.byte, [(.int (own_b0 x0)), (.int (own_by 8 x0)), (.int (own_by 16 x0)), (.int (own_by 24 x0)), (.int (own_by 32 x0))]))]) (os2 := [(b27, ob0 (.int 0) (.int (own_l (own_by 24 x0) (own_by 32 x0))) (.int 0))]) (rest := []) (W := 0) (argsL := []) (a := b27) (i := 2) A233 (m_btw l Z a0 hw b27 ((own_l (own_by 24 x0) (own_by 32 x0))) ((0 : Int32)) ((0 : Int32))) (Or.inr ⟨rfl, rfl⟩) rfl (tw hw 24 rfl) (tw hw 25 rfl) (tw hw 27 rfl) (tw hw 26 rfl) (tw hw 12 rfl) (tw hw 28 rfl) (by decide) at_94 rfl (lenOf pd_7 rfl) rfl (Nat.le_of_eq rfl) (by decide) (by decide) (by decide) (by decide) rfl (fun T234 v235 os236 A237 P238 => ?_)
    obtain ⟨r_94, rfl, rfl, hq_94⟩ := P238
    have A239 := A237.cast (k2 := 3) (n2 := 13) (os2 := [(b_7, .inr (.byte, [(.int (own_b0 x1)), (.int (own_by 8 x1)), (.int (own_by 16 x1)), (.int (own_by 24 x1)), (.int (own_by 32 x1))])), (b_1, .inr (.byte, [(.int (own_b0 x0)), (.int (own_by 8 x0)), (.int (own_by 16 x0)), (.int (own_by 24 x0)), (.int (own_by 32 x0))])), (b27, ob0 (.int 0) (.int (own_l (own_by 24 x0) (own_by 32 x0))) (.int 0))]) rfl rfl rfl
    have A240 := A239.pick (is := [1, 0, 2]) (os2 := [(b_1, .inr (.byte, [(.int (own_b0 x0)), (.int (own_by 8 x0)), (.int (own_by 16 x0)), (.int (own_by 24 x0)), (.int (own_by 32 x0))])), (b_7, .inr (.byte, [(.int (own_b0 x1)), (.int (own_by 8 x1)), (.int (own_by 16 x1)), (.int (own_by 24 x1)), (.int (own_by 32 x1))])), (b27, ob0 (.int 0) (.int (own_l (own_by 24 x0) (own_by 32 x0))) (.int 0))]) (by decide) rfl
    refine J97 T234 ((2 : Int32)) (r_74) (r_94) A240 ?_
    clear hw A0 A4 A6 A10 A12 A16 A18 A22 A24 A26 A28 A32 A34 A212 A216 A218 A219 A223 A225 A226 A230 A232 A233 A237 A239 A240
    (try simp only [true_and, and_true, false_and, and_false, true_or, or_true, false_or, or_false, not_true_eq_false, not_false_eq_true, Int32.lt_iff_toInt_lt, Int64.lt_iff_toInt_lt, Int32.le_iff_toInt_le, Int64.le_iff_toInt_le, ← Int32.toInt_inj, ← Int64.toInt_inj, Int32.toInt_add, Int32.toInt_sub, Int32.toInt_neg, Int64.toInt_add, Int64.toInt_sub, Int64.toInt_neg, Int64.toInt_mul, Int32.toInt_toInt64, bm32, bm64, l32_0, l32_1, l32_2, l32_3, l32_4, l32_5, l32_6, l32_2147483647, own_len_eq] at hl1 hn hq_74 hq_94 ⊢) <;> omega
  · rw [hk]
    show Wp _ _ _ _ _ _ _ _ _ _ T29 (mkF m 62 #[.val (.long x0), .second, .val (.long x1), .second, .val (.int x2), .val (.int x3), .val (.ref b_1), .val (.ref b_7), .val (.int (own_len x0)), .val (.int (own_len x1)), .val (.int 3), .val (.int nn), .val (.int ((own_len x0) - nn)), .val (.ref b27), .unset, .unset, .unset, .unset] [])
    refine A34.aload (q := 64) at_62 rfl rfl rfl ?_
    refine A34.aload (q := 66) at_64 rfl rfl rfl ?_
    refine A34.iconst (q := 67) (v := 0) at_66 rfl rfl ?_
    refine A34.iload (q := 69) at_67 rfl rfl ?_
    have A241 := A34.pick (is := [1, 2, 0]) (os2 := [(b_7, .inr (.byte, [(.int (own_b0 x1)), (.int (own_by 8 x1)), (.int (own_by 16 x1)), (.int (own_by 24 x1)), (.int (own_by 32 x1))])), (b27, ob0 (.int 0) (.int 0) (.int 0)), (b_1, .inr (.byte, [(.int (own_b0 x0)), (.int (own_by 8 x0)), (.int (own_by 16 x0)), (.int (own_by 24 x0)), (.int (own_by 32 x0))]))]) (by decide) rfl
    refine Here.callV (qn := 72) (os1 := [(b_7, .inr (.byte, [(.int (own_b0 x1)), (.int (own_by 8 x1)), (.int (own_by 16 x1)), (.int (own_by 24 x1)), (.int (own_by 32 x1))]))]) (os2 := [(b27, ob0 (.int 0) (.int 0) (.int 0)), (b_1, .inr (.byte, [(.int (own_b0 x0)), (.int (own_by 8 x0)), (.int (own_by 16 x0)), (.int (own_by 24 x0)), (.int (own_by 32 x0))]))]) (rest := []) (W := 0) (argsL := [(.ref b_1), (.int 0), (.int 3)]) (a := b27) (i := 1) A241 (m_p0_3 l Z a0 hw b27 b_1 ((own_b0 x0)) ((own_by 8 x0)) ((own_by 16 x0)) ((own_by 24 x0)) ((own_by 32 x0))) (Or.inr ⟨rfl, rfl⟩) rfl (tw hw 19 rfl) (tw hw 20 rfl) (tw hw 22 rfl) (tw hw 21 rfl) (tw hw 12 rfl) (tw hw 23 rfl) (by decide) at_69 rfl (lenOf pd_6 rfl) rfl (Nat.le_of_eq rfl) (by decide) (by decide) (by decide) (by decide) rfl (fun T242 v243 os244 A245 P246 => ?_)
    obtain ⟨rfl, rfl⟩ := P246
    have A247 := A245.cast (k2 := 3) (n2 := 13) (os2 := [(b_7, .inr (.byte, [(.int (own_b0 x1)), (.int (own_by 8 x1)), (.int (own_by 16 x1)), (.int (own_by 24 x1)), (.int (own_by 32 x1))])), (b27, ob0 (.int 3) (.int 0) (.int 0)), (b_1, .inr (.byte, [(.int (own_b0 x0)), (.int (own_by 8 x0)), (.int (own_by 16 x0)), (.int (own_by 24 x0)), (.int (own_by 32 x0))]))]) rfl rfl rfl
    refine A247.aload (q := 74) at_72 rfl rfl rfl ?_
    have A248 := A247.pick (is := [0, 2, 1]) (os2 := [(b_7, .inr (.byte, [(.int (own_b0 x1)), (.int (own_by 8 x1)), (.int (own_by 16 x1)), (.int (own_by 24 x1)), (.int (own_by 32 x1))])), (b_1, .inr (.byte, [(.int (own_b0 x0)), (.int (own_by 8 x0)), (.int (own_by 16 x0)), (.int (own_by 24 x0)), (.int (own_by 32 x0))])), (b27, ob0 (.int 3) (.int 0) (.int 0))]) (by decide) rfl
    refine Here.callV (qn := 77) (os1 := [(b_7, .inr (.byte, [(.int (own_b0 x1)), (.int (own_by 8 x1)), (.int (own_by 16 x1)), (.int (own_by 24 x1)), (.int (own_by 32 x1))])), (b_1, .inr (.byte, [(.int (own_b0 x0)), (.int (own_by 8 x0)), (.int (own_by 16 x0)), (.int (own_by 24 x0)), (.int (own_by 32 x0))]))]) (os2 := [(b27, ob0 (.int 3) (.int 0) (.int 0))]) (rest := []) (W := 0) (argsL := []) (a := b27) (i := 2) A248 (m_btw l Z a0 hw b27 ((0 : Int32)) ((3 : Int32)) ((0 : Int32))) (Or.inr ⟨rfl, rfl⟩) rfl (tw hw 24 rfl) (tw hw 25 rfl) (tw hw 27 rfl) (tw hw 26 rfl) (tw hw 12 rfl) (tw hw 28 rfl) (by decide) at_74 rfl (lenOf pd_7 rfl) rfl (Nat.le_of_eq rfl) (by decide) (by decide) (by decide) (by decide) rfl (fun T249 v250 os251 A252 P253 => ?_)
    obtain ⟨r_74, rfl, rfl, hq_74⟩ := P253
    have A254 := A252.cast (k2 := 3) (n2 := 13) (os2 := [(b_7, .inr (.byte, [(.int (own_b0 x1)), (.int (own_by 8 x1)), (.int (own_by 16 x1)), (.int (own_by 24 x1)), (.int (own_by 32 x1))])), (b_1, .inr (.byte, [(.int (own_b0 x0)), (.int (own_by 8 x0)), (.int (own_by 16 x0)), (.int (own_by 24 x0)), (.int (own_by 32 x0))])), (b27, ob0 (.int 3) (.int 0) (.int 0))]) rfl rfl rfl
    refine A254.istore (q := 79) (l' := #[.val (.long x0), .second, .val (.long x1), .second, .val (.int x2), .val (.int x3), .val (.ref b_1), .val (.ref b_7), .val (.int (own_len x0)), .val (.int (own_len x1)), .val (.int 3), .val (.int nn), .val (.int ((own_len x0) - nn)), .val (.ref b27), .val (.int r_74), .unset, .unset, .unset]) at_77 rfl rfl ?_
    refine A254.aload (q := 81) at_79 rfl rfl rfl ?_
    refine A254.aload (q := 83) at_81 rfl rfl rfl ?_
    refine A254.iload (q := 85) at_83 rfl rfl ?_
    refine A254.iconst (q := 86) (v := 5) at_85 rfl rfl ?_
    refine A254.iload (q := 88) at_86 rfl rfl ?_
    refine A254.isub (q := 89) at_88 rfl ?_
    refine Wp.top (v' := (.int 2)) rfl ?_
    have A255 := A254.pick (is := [0, 2, 1]) (os2 := [(b_7, .inr (.byte, [(.int (own_b0 x1)), (.int (own_by 8 x1)), (.int (own_by 16 x1)), (.int (own_by 24 x1)), (.int (own_by 32 x1))])), (b27, ob0 (.int 3) (.int 0) (.int 0)), (b_1, .inr (.byte, [(.int (own_b0 x0)), (.int (own_by 8 x0)), (.int (own_by 16 x0)), (.int (own_by 24 x0)), (.int (own_by 32 x0))]))]) (by decide) rfl
    refine Here.callV (qn := 92) (os1 := [(b_7, .inr (.byte, [(.int (own_b0 x1)), (.int (own_by 8 x1)), (.int (own_by 16 x1)), (.int (own_by 24 x1)), (.int (own_by 32 x1))]))]) (os2 := [(b27, ob0 (.int 3) (.int 0) (.int 0)), (b_1, .inr (.byte, [(.int (own_b0 x0)), (.int (own_by 8 x0)), (.int (own_by 16 x0)), (.int (own_by 24 x0)), (.int (own_by 32 x0))]))]) (rest := []) (W := 0) (argsL := [(.ref b_1), (.int 3), (.int 2)]) (a := b27) (i := 1) A255 (m_p3_2 l Z a0 hw b27 b_1 ((own_b0 x0)) ((own_by 8 x0)) ((own_by 16 x0)) ((own_by 24 x0)) ((own_by 32 x0))) (Or.inr ⟨rfl, rfl⟩) rfl (tw hw 19 rfl) (tw hw 20 rfl) (tw hw 22 rfl) (tw hw 21 rfl) (tw hw 12 rfl) (tw hw 23 rfl) (by decide) at_89 rfl (lenOf pd_6 rfl) rfl (Nat.le_of_eq rfl) (by decide) (by decide) (by decide) (by decide) rfl (fun T256 v257 os258 A259 P260 => ?_)
    obtain ⟨rfl, rfl⟩ := P260
    have A261 := A259.cast (k2 := 3) (n2 := 13) (os2 := [(b_7, .inr (.byte, [(.int (own_b0 x1)), (.int (own_by 8 x1)), (.int (own_by 16 x1)), (.int (own_by 24 x1)), (.int (own_by 32 x1))])), (b27, ob0 (.int 0) (.int (own_l (own_by 24 x0) (own_by 32 x0))) (.int 0)), (b_1, .inr (.byte, [(.int (own_b0 x0)), (.int (own_by 8 x0)), (.int (own_by 16 x0)), (.int (own_by 24 x0)), (.int (own_by 32 x0))]))]) rfl rfl rfl
    refine A261.aload (q := 94) at_92 rfl rfl rfl ?_
    have A262 := A261.pick (is := [0, 2, 1]) (os2 := [(b_7, .inr (.byte, [(.int (own_b0 x1)), (.int (own_by 8 x1)), (.int (own_by 16 x1)), (.int (own_by 24 x1)), (.int (own_by 32 x1))])), (b_1, .inr (.byte, [(.int (own_b0 x0)), (.int (own_by 8 x0)), (.int (own_by 16 x0)), (.int (own_by 24 x0)), (.int (own_by 32 x0))])), (b27, ob0 (.int 0) (.int (own_l (own_by 24 x0) (own_by 32 x0))) (.int 0))]) (by decide) rfl
    refine Here.callV (qn := 97) (os1 := [(b_7, .inr (.byte, [(.int (own_b0 x1)), (.int (own_by 8 x1)), (.int (own_by 16 x1)), (.int (own_by 24 x1)), (.int (own_by 32 x1))])), (b_1, .inr (.byte, [(.int (own_b0 x0)), (.int (own_by 8 x0)), (.int (own_by 16 x0)), (.int (own_by 24 x0)), (.int (own_by 32 x0))]))]) (os2 := [(b27, ob0 (.int 0) (.int (own_l (own_by 24 x0) (own_by 32 x0))) (.int 0))]) (rest := []) (W := 0) (argsL := []) (a := b27) (i := 2) A262 (m_btw l Z a0 hw b27 ((own_l (own_by 24 x0) (own_by 32 x0))) ((0 : Int32)) ((0 : Int32))) (Or.inr ⟨rfl, rfl⟩) rfl (tw hw 24 rfl) (tw hw 25 rfl) (tw hw 27 rfl) (tw hw 26 rfl) (tw hw 12 rfl) (tw hw 28 rfl) (by decide) at_94 rfl (lenOf pd_7 rfl) rfl (Nat.le_of_eq rfl) (by decide) (by decide) (by decide) (by decide) rfl (fun T263 v264 os265 A266 P267 => ?_)
    obtain ⟨r_94, rfl, rfl, hq_94⟩ := P267
    have A268 := A266.cast (k2 := 3) (n2 := 13) (os2 := [(b_7, .inr (.byte, [(.int (own_b0 x1)), (.int (own_by 8 x1)), (.int (own_by 16 x1)), (.int (own_by 24 x1)), (.int (own_by 32 x1))])), (b_1, .inr (.byte, [(.int (own_b0 x0)), (.int (own_by 8 x0)), (.int (own_by 16 x0)), (.int (own_by 24 x0)), (.int (own_by 32 x0))])), (b27, ob0 (.int 0) (.int (own_l (own_by 24 x0) (own_by 32 x0))) (.int 0))]) rfl rfl rfl
    have A269 := A268.pick (is := [1, 0, 2]) (os2 := [(b_1, .inr (.byte, [(.int (own_b0 x0)), (.int (own_by 8 x0)), (.int (own_by 16 x0)), (.int (own_by 24 x0)), (.int (own_by 32 x0))])), (b_7, .inr (.byte, [(.int (own_b0 x1)), (.int (own_by 8 x1)), (.int (own_by 16 x1)), (.int (own_by 24 x1)), (.int (own_by 32 x1))])), (b27, ob0 (.int 0) (.int (own_l (own_by 24 x0) (own_by 32 x0))) (.int 0))]) (by decide) rfl
    refine J97 T263 ((3 : Int32)) (r_74) (r_94) A269 ?_
    clear hw A0 A4 A6 A10 A12 A16 A18 A22 A24 A26 A28 A32 A34 A241 A245 A247 A248 A252 A254 A255 A259 A261 A262 A266 A268 A269
    (try simp only [true_and, and_true, false_and, and_false, true_or, or_true, false_or, or_false, not_true_eq_false, not_false_eq_true, Int32.lt_iff_toInt_lt, Int64.lt_iff_toInt_lt, Int32.le_iff_toInt_le, Int64.le_iff_toInt_le, ← Int32.toInt_inj, ← Int64.toInt_inj, Int32.toInt_add, Int32.toInt_sub, Int32.toInt_neg, Int64.toInt_add, Int64.toInt_sub, Int64.toInt_neg, Int64.toInt_mul, Int32.toInt_toInt64, bm32, bm64, l32_0, l32_1, l32_2, l32_3, l32_4, l32_5, l32_6, l32_2147483647, own_len_eq] at hl1 hn hq_74 hq_94 ⊢) <;> omega
  · rw [hk]
    show Wp _ _ _ _ _ _ _ _ _ _ T29 (mkF m 62 #[.val (.long x0), .second, .val (.long x1), .second, .val (.int x2), .val (.int x3), .val (.ref b_1), .val (.ref b_7), .val (.int (own_len x0)), .val (.int (own_len x1)), .val (.int 4), .val (.int nn), .val (.int ((own_len x0) - nn)), .val (.ref b27), .unset, .unset, .unset, .unset] [])
    refine A34.aload (q := 64) at_62 rfl rfl rfl ?_
    refine A34.aload (q := 66) at_64 rfl rfl rfl ?_
    refine A34.iconst (q := 67) (v := 0) at_66 rfl rfl ?_
    refine A34.iload (q := 69) at_67 rfl rfl ?_
    have A270 := A34.pick (is := [1, 2, 0]) (os2 := [(b_7, .inr (.byte, [(.int (own_b0 x1)), (.int (own_by 8 x1)), (.int (own_by 16 x1)), (.int (own_by 24 x1)), (.int (own_by 32 x1))])), (b27, ob0 (.int 0) (.int 0) (.int 0)), (b_1, .inr (.byte, [(.int (own_b0 x0)), (.int (own_by 8 x0)), (.int (own_by 16 x0)), (.int (own_by 24 x0)), (.int (own_by 32 x0))]))]) (by decide) rfl
    refine Here.callV (qn := 72) (os1 := [(b_7, .inr (.byte, [(.int (own_b0 x1)), (.int (own_by 8 x1)), (.int (own_by 16 x1)), (.int (own_by 24 x1)), (.int (own_by 32 x1))]))]) (os2 := [(b27, ob0 (.int 0) (.int 0) (.int 0)), (b_1, .inr (.byte, [(.int (own_b0 x0)), (.int (own_by 8 x0)), (.int (own_by 16 x0)), (.int (own_by 24 x0)), (.int (own_by 32 x0))]))]) (rest := []) (W := 0) (argsL := [(.ref b_1), (.int 0), (.int 4)]) (a := b27) (i := 1) A270 (m_p0_4 l Z a0 hw b27 b_1 ((own_b0 x0)) ((own_by 8 x0)) ((own_by 16 x0)) ((own_by 24 x0)) ((own_by 32 x0))) (Or.inr ⟨rfl, rfl⟩) rfl (tw hw 19 rfl) (tw hw 20 rfl) (tw hw 22 rfl) (tw hw 21 rfl) (tw hw 12 rfl) (tw hw 23 rfl) (by decide) at_69 rfl (lenOf pd_6 rfl) rfl (Nat.le_of_eq rfl) (by decide) (by decide) (by decide) (by decide) rfl (fun T271 v272 os273 A274 P275 => ?_)
    obtain ⟨rfl, rfl⟩ := P275
    have A276 := A274.cast (k2 := 3) (n2 := 13) (os2 := [(b_7, .inr (.byte, [(.int (own_b0 x1)), (.int (own_by 8 x1)), (.int (own_by 16 x1)), (.int (own_by 24 x1)), (.int (own_by 32 x1))])), (b27, ob0 (.int 4) (.int 0) (.int (own_fl (own_by 24 x0)))), (b_1, .inr (.byte, [(.int (own_b0 x0)), (.int (own_by 8 x0)), (.int (own_by 16 x0)), (.int (own_by 24 x0)), (.int (own_by 32 x0))]))]) rfl rfl rfl
    refine A276.aload (q := 74) at_72 rfl rfl rfl ?_
    have A277 := A276.pick (is := [0, 2, 1]) (os2 := [(b_7, .inr (.byte, [(.int (own_b0 x1)), (.int (own_by 8 x1)), (.int (own_by 16 x1)), (.int (own_by 24 x1)), (.int (own_by 32 x1))])), (b_1, .inr (.byte, [(.int (own_b0 x0)), (.int (own_by 8 x0)), (.int (own_by 16 x0)), (.int (own_by 24 x0)), (.int (own_by 32 x0))])), (b27, ob0 (.int 4) (.int 0) (.int (own_fl (own_by 24 x0))))]) (by decide) rfl
    refine Here.callV (qn := 77) (os1 := [(b_7, .inr (.byte, [(.int (own_b0 x1)), (.int (own_by 8 x1)), (.int (own_by 16 x1)), (.int (own_by 24 x1)), (.int (own_by 32 x1))])), (b_1, .inr (.byte, [(.int (own_b0 x0)), (.int (own_by 8 x0)), (.int (own_by 16 x0)), (.int (own_by 24 x0)), (.int (own_by 32 x0))]))]) (os2 := [(b27, ob0 (.int 4) (.int 0) (.int (own_fl (own_by 24 x0))))]) (rest := []) (W := 0) (argsL := []) (a := b27) (i := 2) A277 (m_btw l Z a0 hw b27 ((0 : Int32)) ((4 : Int32)) ((own_fl (own_by 24 x0)))) (Or.inr ⟨rfl, rfl⟩) rfl (tw hw 24 rfl) (tw hw 25 rfl) (tw hw 27 rfl) (tw hw 26 rfl) (tw hw 12 rfl) (tw hw 28 rfl) (by decide) at_74 rfl (lenOf pd_7 rfl) rfl (Nat.le_of_eq rfl) (by decide) (by decide) (by decide) (by decide) rfl (fun T278 v279 os280 A281 P282 => ?_)
    obtain ⟨r_74, rfl, rfl, hq_74⟩ := P282
    have A283 := A281.cast (k2 := 3) (n2 := 13) (os2 := [(b_7, .inr (.byte, [(.int (own_b0 x1)), (.int (own_by 8 x1)), (.int (own_by 16 x1)), (.int (own_by 24 x1)), (.int (own_by 32 x1))])), (b_1, .inr (.byte, [(.int (own_b0 x0)), (.int (own_by 8 x0)), (.int (own_by 16 x0)), (.int (own_by 24 x0)), (.int (own_by 32 x0))])), (b27, ob0 (.int 4) (.int 0) (.int (own_fl (own_by 24 x0))))]) rfl rfl rfl
    refine A283.istore (q := 79) (l' := #[.val (.long x0), .second, .val (.long x1), .second, .val (.int x2), .val (.int x3), .val (.ref b_1), .val (.ref b_7), .val (.int (own_len x0)), .val (.int (own_len x1)), .val (.int 4), .val (.int nn), .val (.int ((own_len x0) - nn)), .val (.ref b27), .val (.int r_74), .unset, .unset, .unset]) at_77 rfl rfl ?_
    refine A283.aload (q := 81) at_79 rfl rfl rfl ?_
    refine A283.aload (q := 83) at_81 rfl rfl rfl ?_
    refine A283.iload (q := 85) at_83 rfl rfl ?_
    refine A283.iconst (q := 86) (v := 5) at_85 rfl rfl ?_
    refine A283.iload (q := 88) at_86 rfl rfl ?_
    refine A283.isub (q := 89) at_88 rfl ?_
    refine Wp.top (v' := (.int 1)) rfl ?_
    have A284 := A283.pick (is := [0, 2, 1]) (os2 := [(b_7, .inr (.byte, [(.int (own_b0 x1)), (.int (own_by 8 x1)), (.int (own_by 16 x1)), (.int (own_by 24 x1)), (.int (own_by 32 x1))])), (b27, ob0 (.int 4) (.int 0) (.int (own_fl (own_by 24 x0)))), (b_1, .inr (.byte, [(.int (own_b0 x0)), (.int (own_by 8 x0)), (.int (own_by 16 x0)), (.int (own_by 24 x0)), (.int (own_by 32 x0))]))]) (by decide) rfl
    refine Here.callV (qn := 92) (os1 := [(b_7, .inr (.byte, [(.int (own_b0 x1)), (.int (own_by 8 x1)), (.int (own_by 16 x1)), (.int (own_by 24 x1)), (.int (own_by 32 x1))]))]) (os2 := [(b27, ob0 (.int 4) (.int 0) (.int (own_fl (own_by 24 x0)))), (b_1, .inr (.byte, [(.int (own_b0 x0)), (.int (own_by 8 x0)), (.int (own_by 16 x0)), (.int (own_by 24 x0)), (.int (own_by 32 x0))]))]) (rest := []) (W := 0) (argsL := [(.ref b_1), (.int 4), (.int 1)]) (a := b27) (i := 1) A284 (m_p4_1 l Z a0 hw b27 b_1 ((own_b0 x0)) ((own_by 8 x0)) ((own_by 16 x0)) ((own_by 24 x0)) ((own_by 32 x0))) (Or.inr ⟨rfl, rfl⟩) rfl (tw hw 19 rfl) (tw hw 20 rfl) (tw hw 22 rfl) (tw hw 21 rfl) (tw hw 12 rfl) (tw hw 23 rfl) (by decide) at_89 rfl (lenOf pd_6 rfl) rfl (Nat.le_of_eq rfl) (by decide) (by decide) (by decide) (by decide) rfl (fun T285 v286 os287 A288 P289 => ?_)
    obtain ⟨rfl, rfl⟩ := P289
    have A290 := A288.cast (k2 := 3) (n2 := 13) (os2 := [(b_7, .inr (.byte, [(.int (own_b0 x1)), (.int (own_by 8 x1)), (.int (own_by 16 x1)), (.int (own_by 24 x1)), (.int (own_by 32 x1))])), (b27, ob0 (.int 0) (.int (own_l (own_by 24 x0) (own_by 32 x0))) (.int 0)), (b_1, .inr (.byte, [(.int (own_b0 x0)), (.int (own_by 8 x0)), (.int (own_by 16 x0)), (.int (own_by 24 x0)), (.int (own_by 32 x0))]))]) rfl rfl rfl
    refine A290.aload (q := 94) at_92 rfl rfl rfl ?_
    have A291 := A290.pick (is := [0, 2, 1]) (os2 := [(b_7, .inr (.byte, [(.int (own_b0 x1)), (.int (own_by 8 x1)), (.int (own_by 16 x1)), (.int (own_by 24 x1)), (.int (own_by 32 x1))])), (b_1, .inr (.byte, [(.int (own_b0 x0)), (.int (own_by 8 x0)), (.int (own_by 16 x0)), (.int (own_by 24 x0)), (.int (own_by 32 x0))])), (b27, ob0 (.int 0) (.int (own_l (own_by 24 x0) (own_by 32 x0))) (.int 0))]) (by decide) rfl
    refine Here.callV (qn := 97) (os1 := [(b_7, .inr (.byte, [(.int (own_b0 x1)), (.int (own_by 8 x1)), (.int (own_by 16 x1)), (.int (own_by 24 x1)), (.int (own_by 32 x1))])), (b_1, .inr (.byte, [(.int (own_b0 x0)), (.int (own_by 8 x0)), (.int (own_by 16 x0)), (.int (own_by 24 x0)), (.int (own_by 32 x0))]))]) (os2 := [(b27, ob0 (.int 0) (.int (own_l (own_by 24 x0) (own_by 32 x0))) (.int 0))]) (rest := []) (W := 0) (argsL := []) (a := b27) (i := 2) A291 (m_btw l Z a0 hw b27 ((own_l (own_by 24 x0) (own_by 32 x0))) ((0 : Int32)) ((0 : Int32))) (Or.inr ⟨rfl, rfl⟩) rfl (tw hw 24 rfl) (tw hw 25 rfl) (tw hw 27 rfl) (tw hw 26 rfl) (tw hw 12 rfl) (tw hw 28 rfl) (by decide) at_94 rfl (lenOf pd_7 rfl) rfl (Nat.le_of_eq rfl) (by decide) (by decide) (by decide) (by decide) rfl (fun T292 v293 os294 A295 P296 => ?_)
    obtain ⟨r_94, rfl, rfl, hq_94⟩ := P296
    have A297 := A295.cast (k2 := 3) (n2 := 13) (os2 := [(b_7, .inr (.byte, [(.int (own_b0 x1)), (.int (own_by 8 x1)), (.int (own_by 16 x1)), (.int (own_by 24 x1)), (.int (own_by 32 x1))])), (b_1, .inr (.byte, [(.int (own_b0 x0)), (.int (own_by 8 x0)), (.int (own_by 16 x0)), (.int (own_by 24 x0)), (.int (own_by 32 x0))])), (b27, ob0 (.int 0) (.int (own_l (own_by 24 x0) (own_by 32 x0))) (.int 0))]) rfl rfl rfl
    have A298 := A297.pick (is := [1, 0, 2]) (os2 := [(b_1, .inr (.byte, [(.int (own_b0 x0)), (.int (own_by 8 x0)), (.int (own_by 16 x0)), (.int (own_by 24 x0)), (.int (own_by 32 x0))])), (b_7, .inr (.byte, [(.int (own_b0 x1)), (.int (own_by 8 x1)), (.int (own_by 16 x1)), (.int (own_by 24 x1)), (.int (own_by 32 x1))])), (b27, ob0 (.int 0) (.int (own_l (own_by 24 x0) (own_by 32 x0))) (.int 0))]) (by decide) rfl
    refine J97 T292 ((4 : Int32)) (r_74) (r_94) A298 ?_
    clear hw A0 A4 A6 A10 A12 A16 A18 A22 A24 A26 A28 A32 A34 A270 A274 A276 A277 A281 A283 A284 A288 A290 A291 A295 A297 A298
    (try simp only [true_and, and_true, false_and, and_false, true_or, or_true, false_or, or_false, not_true_eq_false, not_false_eq_true, Int32.lt_iff_toInt_lt, Int64.lt_iff_toInt_lt, Int32.le_iff_toInt_le, Int64.le_iff_toInt_le, ← Int32.toInt_inj, ← Int64.toInt_inj, Int32.toInt_add, Int32.toInt_sub, Int32.toInt_neg, Int64.toInt_add, Int64.toInt_sub, Int64.toInt_neg, Int64.toInt_mul, Int32.toInt_toInt64, bm32, bm64, l32_0, l32_1, l32_2, l32_3, l32_4, l32_5, l32_6, l32_2147483647, own_len_eq] at hl1 hn hq_74 hq_94 ⊢) <;> omega
  · rw [hk]
    show Wp _ _ _ _ _ _ _ _ _ _ T29 (mkF m 62 #[.val (.long x0), .second, .val (.long x1), .second, .val (.int x2), .val (.int x3), .val (.ref b_1), .val (.ref b_7), .val (.int (own_len x0)), .val (.int (own_len x1)), .val (.int 5), .val (.int nn), .val (.int ((own_len x0) - nn)), .val (.ref b27), .unset, .unset, .unset, .unset] [])
    refine A34.aload (q := 64) at_62 rfl rfl rfl ?_
    refine A34.aload (q := 66) at_64 rfl rfl rfl ?_
    refine A34.iconst (q := 67) (v := 0) at_66 rfl rfl ?_
    refine A34.iload (q := 69) at_67 rfl rfl ?_
    have A299 := A34.pick (is := [1, 2, 0]) (os2 := [(b_7, .inr (.byte, [(.int (own_b0 x1)), (.int (own_by 8 x1)), (.int (own_by 16 x1)), (.int (own_by 24 x1)), (.int (own_by 32 x1))])), (b27, ob0 (.int 0) (.int 0) (.int 0)), (b_1, .inr (.byte, [(.int (own_b0 x0)), (.int (own_by 8 x0)), (.int (own_by 16 x0)), (.int (own_by 24 x0)), (.int (own_by 32 x0))]))]) (by decide) rfl
    refine Here.callV (qn := 72) (os1 := [(b_7, .inr (.byte, [(.int (own_b0 x1)), (.int (own_by 8 x1)), (.int (own_by 16 x1)), (.int (own_by 24 x1)), (.int (own_by 32 x1))]))]) (os2 := [(b27, ob0 (.int 0) (.int 0) (.int 0)), (b_1, .inr (.byte, [(.int (own_b0 x0)), (.int (own_by 8 x0)), (.int (own_by 16 x0)), (.int (own_by 24 x0)), (.int (own_by 32 x0))]))]) (rest := []) (W := 0) (argsL := [(.ref b_1), (.int 0), (.int 5)]) (a := b27) (i := 1) A299 (m_p0_5 l Z a0 hw b27 b_1 ((own_b0 x0)) ((own_by 8 x0)) ((own_by 16 x0)) ((own_by 24 x0)) ((own_by 32 x0))) (Or.inr ⟨rfl, rfl⟩) rfl (tw hw 19 rfl) (tw hw 20 rfl) (tw hw 22 rfl) (tw hw 21 rfl) (tw hw 12 rfl) (tw hw 23 rfl) (by decide) at_69 rfl (lenOf pd_6 rfl) rfl (Nat.le_of_eq rfl) (by decide) (by decide) (by decide) (by decide) rfl (fun T300 v301 os302 A303 P304 => ?_)
    obtain ⟨rfl, rfl⟩ := P304
    have A305 := A303.cast (k2 := 3) (n2 := 13) (os2 := [(b_7, .inr (.byte, [(.int (own_b0 x1)), (.int (own_by 8 x1)), (.int (own_by 16 x1)), (.int (own_by 24 x1)), (.int (own_by 32 x1))])), (b27, ob0 (.int 0) (.int (own_l (own_by 24 x0) (own_by 32 x0))) (.int 0)), (b_1, .inr (.byte, [(.int (own_b0 x0)), (.int (own_by 8 x0)), (.int (own_by 16 x0)), (.int (own_by 24 x0)), (.int (own_by 32 x0))]))]) rfl rfl rfl
    refine A305.aload (q := 74) at_72 rfl rfl rfl ?_
    have A306 := A305.pick (is := [0, 2, 1]) (os2 := [(b_7, .inr (.byte, [(.int (own_b0 x1)), (.int (own_by 8 x1)), (.int (own_by 16 x1)), (.int (own_by 24 x1)), (.int (own_by 32 x1))])), (b_1, .inr (.byte, [(.int (own_b0 x0)), (.int (own_by 8 x0)), (.int (own_by 16 x0)), (.int (own_by 24 x0)), (.int (own_by 32 x0))])), (b27, ob0 (.int 0) (.int (own_l (own_by 24 x0) (own_by 32 x0))) (.int 0))]) (by decide) rfl
    refine Here.callV (qn := 77) (os1 := [(b_7, .inr (.byte, [(.int (own_b0 x1)), (.int (own_by 8 x1)), (.int (own_by 16 x1)), (.int (own_by 24 x1)), (.int (own_by 32 x1))])), (b_1, .inr (.byte, [(.int (own_b0 x0)), (.int (own_by 8 x0)), (.int (own_by 16 x0)), (.int (own_by 24 x0)), (.int (own_by 32 x0))]))]) (os2 := [(b27, ob0 (.int 0) (.int (own_l (own_by 24 x0) (own_by 32 x0))) (.int 0))]) (rest := []) (W := 0) (argsL := []) (a := b27) (i := 2) A306 (m_btw l Z a0 hw b27 ((own_l (own_by 24 x0) (own_by 32 x0))) ((0 : Int32)) ((0 : Int32))) (Or.inr ⟨rfl, rfl⟩) rfl (tw hw 24 rfl) (tw hw 25 rfl) (tw hw 27 rfl) (tw hw 26 rfl) (tw hw 12 rfl) (tw hw 28 rfl) (by decide) at_74 rfl (lenOf pd_7 rfl) rfl (Nat.le_of_eq rfl) (by decide) (by decide) (by decide) (by decide) rfl (fun T307 v308 os309 A310 P311 => ?_)
    obtain ⟨r_74, rfl, rfl, hq_74⟩ := P311
    have A312 := A310.cast (k2 := 3) (n2 := 13) (os2 := [(b_7, .inr (.byte, [(.int (own_b0 x1)), (.int (own_by 8 x1)), (.int (own_by 16 x1)), (.int (own_by 24 x1)), (.int (own_by 32 x1))])), (b_1, .inr (.byte, [(.int (own_b0 x0)), (.int (own_by 8 x0)), (.int (own_by 16 x0)), (.int (own_by 24 x0)), (.int (own_by 32 x0))])), (b27, ob0 (.int 0) (.int (own_l (own_by 24 x0) (own_by 32 x0))) (.int 0))]) rfl rfl rfl
    refine A312.istore (q := 79) (l' := #[.val (.long x0), .second, .val (.long x1), .second, .val (.int x2), .val (.int x3), .val (.ref b_1), .val (.ref b_7), .val (.int (own_len x0)), .val (.int (own_len x1)), .val (.int 5), .val (.int nn), .val (.int ((own_len x0) - nn)), .val (.ref b27), .val (.int r_74), .unset, .unset, .unset]) at_77 rfl rfl ?_
    refine A312.aload (q := 81) at_79 rfl rfl rfl ?_
    refine A312.aload (q := 83) at_81 rfl rfl rfl ?_
    refine A312.iload (q := 85) at_83 rfl rfl ?_
    refine A312.iconst (q := 86) (v := 5) at_85 rfl rfl ?_
    refine A312.iload (q := 88) at_86 rfl rfl ?_
    refine A312.isub (q := 89) at_88 rfl ?_
    refine Wp.top (v' := (.int 0)) rfl ?_
    have A313 := A312.pick (is := [0, 2, 1]) (os2 := [(b_7, .inr (.byte, [(.int (own_b0 x1)), (.int (own_by 8 x1)), (.int (own_by 16 x1)), (.int (own_by 24 x1)), (.int (own_by 32 x1))])), (b27, ob0 (.int 0) (.int (own_l (own_by 24 x0) (own_by 32 x0))) (.int 0)), (b_1, .inr (.byte, [(.int (own_b0 x0)), (.int (own_by 8 x0)), (.int (own_by 16 x0)), (.int (own_by 24 x0)), (.int (own_by 32 x0))]))]) (by decide) rfl
    refine Here.callV (qn := 92) (os1 := [(b_7, .inr (.byte, [(.int (own_b0 x1)), (.int (own_by 8 x1)), (.int (own_by 16 x1)), (.int (own_by 24 x1)), (.int (own_by 32 x1))]))]) (os2 := [(b27, ob0 (.int 0) (.int (own_l (own_by 24 x0) (own_by 32 x0))) (.int 0)), (b_1, .inr (.byte, [(.int (own_b0 x0)), (.int (own_by 8 x0)), (.int (own_by 16 x0)), (.int (own_by 24 x0)), (.int (own_by 32 x0))]))]) (rest := []) (W := 0) (argsL := [(.ref b_1), (.int 5), (.int 0)]) (a := b27) (i := 1) A313 (m_p5_0 l Z a0 hw b27 b_1 ((own_b0 x0)) ((own_by 8 x0)) ((own_by 16 x0)) ((own_by 24 x0)) ((own_by 32 x0))) (Or.inr ⟨rfl, rfl⟩) rfl (tw hw 19 rfl) (tw hw 20 rfl) (tw hw 22 rfl) (tw hw 21 rfl) (tw hw 12 rfl) (tw hw 23 rfl) (by decide) at_89 rfl (lenOf pd_6 rfl) rfl (Nat.le_of_eq rfl) (by decide) (by decide) (by decide) (by decide) rfl (fun T314 v315 os316 A317 P318 => ?_)
    obtain ⟨rfl, rfl⟩ := P318
    have A319 := A317.cast (k2 := 3) (n2 := 13) (os2 := [(b_7, .inr (.byte, [(.int (own_b0 x1)), (.int (own_by 8 x1)), (.int (own_by 16 x1)), (.int (own_by 24 x1)), (.int (own_by 32 x1))])), (b27, ob0 (.int 0) (.int (own_l (own_by 24 x0) (own_by 32 x0))) (.int 0)), (b_1, .inr (.byte, [(.int (own_b0 x0)), (.int (own_by 8 x0)), (.int (own_by 16 x0)), (.int (own_by 24 x0)), (.int (own_by 32 x0))]))]) rfl rfl rfl
    refine A319.aload (q := 94) at_92 rfl rfl rfl ?_
    have A320 := A319.pick (is := [0, 2, 1]) (os2 := [(b_7, .inr (.byte, [(.int (own_b0 x1)), (.int (own_by 8 x1)), (.int (own_by 16 x1)), (.int (own_by 24 x1)), (.int (own_by 32 x1))])), (b_1, .inr (.byte, [(.int (own_b0 x0)), (.int (own_by 8 x0)), (.int (own_by 16 x0)), (.int (own_by 24 x0)), (.int (own_by 32 x0))])), (b27, ob0 (.int 0) (.int (own_l (own_by 24 x0) (own_by 32 x0))) (.int 0))]) (by decide) rfl
    refine Here.callV (qn := 97) (os1 := [(b_7, .inr (.byte, [(.int (own_b0 x1)), (.int (own_by 8 x1)), (.int (own_by 16 x1)), (.int (own_by 24 x1)), (.int (own_by 32 x1))])), (b_1, .inr (.byte, [(.int (own_b0 x0)), (.int (own_by 8 x0)), (.int (own_by 16 x0)), (.int (own_by 24 x0)), (.int (own_by 32 x0))]))]) (os2 := [(b27, ob0 (.int 0) (.int (own_l (own_by 24 x0) (own_by 32 x0))) (.int 0))]) (rest := []) (W := 0) (argsL := []) (a := b27) (i := 2) A320 (m_btw l Z a0 hw b27 ((own_l (own_by 24 x0) (own_by 32 x0))) ((0 : Int32)) ((0 : Int32))) (Or.inr ⟨rfl, rfl⟩) rfl (tw hw 24 rfl) (tw hw 25 rfl) (tw hw 27 rfl) (tw hw 26 rfl) (tw hw 12 rfl) (tw hw 28 rfl) (by decide) at_94 rfl (lenOf pd_7 rfl) rfl (Nat.le_of_eq rfl) (by decide) (by decide) (by decide) (by decide) rfl (fun T321 v322 os323 A324 P325 => ?_)
    obtain ⟨r_94, rfl, rfl, hq_94⟩ := P325
    have A326 := A324.cast (k2 := 3) (n2 := 13) (os2 := [(b_7, .inr (.byte, [(.int (own_b0 x1)), (.int (own_by 8 x1)), (.int (own_by 16 x1)), (.int (own_by 24 x1)), (.int (own_by 32 x1))])), (b_1, .inr (.byte, [(.int (own_b0 x0)), (.int (own_by 8 x0)), (.int (own_by 16 x0)), (.int (own_by 24 x0)), (.int (own_by 32 x0))])), (b27, ob0 (.int 0) (.int (own_l (own_by 24 x0) (own_by 32 x0))) (.int 0))]) rfl rfl rfl
    have A327 := A326.pick (is := [1, 0, 2]) (os2 := [(b_1, .inr (.byte, [(.int (own_b0 x0)), (.int (own_by 8 x0)), (.int (own_by 16 x0)), (.int (own_by 24 x0)), (.int (own_by 32 x0))])), (b_7, .inr (.byte, [(.int (own_b0 x1)), (.int (own_by 8 x1)), (.int (own_by 16 x1)), (.int (own_by 24 x1)), (.int (own_by 32 x1))])), (b27, ob0 (.int 0) (.int (own_l (own_by 24 x0) (own_by 32 x0))) (.int 0))]) (by decide) rfl
    refine J97 T321 ((5 : Int32)) (r_74) (r_94) A327 ?_
    clear hw A0 A4 A6 A10 A12 A16 A18 A22 A24 A26 A28 A32 A34 A299 A303 A305 A306 A310 A312 A313 A317 A319 A320 A324 A326 A327
    (try simp only [true_and, and_true, false_and, and_false, true_or, or_true, false_or, or_false, not_true_eq_false, not_false_eq_true, Int32.lt_iff_toInt_lt, Int64.lt_iff_toInt_lt, Int32.le_iff_toInt_le, Int64.le_iff_toInt_le, ← Int32.toInt_inj, ← Int64.toInt_inj, Int32.toInt_add, Int32.toInt_sub, Int32.toInt_neg, Int64.toInt_add, Int64.toInt_sub, Int64.toInt_neg, Int64.toInt_mul, Int32.toInt_toInt64, bm32, bm64, l32_0, l32_1, l32_2, l32_3, l32_4, l32_5, l32_6, l32_2147483647, own_len_eq] at hl1 hn hq_74 hq_94 ⊢) <;> omega
set_option maxRecDepth 65536 in
set_option maxHeartbeats 40000000 in
theorem comes_1 {Post : Tables → Env → Array Value → State → Outcome → State → Prop} (hpost : ∀ tb e args s v u, (limb_1_1.after args s (.returned v) u = true ∧ limb_1_2.after args s (.returned v) u = true ∧ True) → FrameEnd s (.returned v) u (Jvm.fieldLocs frame_1_writes args s ++ Jvm.arrayLocs frame_1_arrays args s ++ Jvm.staticLocs frame_1_statics s) 16 128 → Post tb e args s (.returned v) u) :
    ArmFor flags0 classFile x code maxLocals ret World_1 tables_1 room_1 Calls_1 rest_1 Pre_1 Post := by
  intro l hfl _ _ p e ha hc hk s m args below hf hA hF happ hP
  obtain ⟨hcalls, hrest, hpre⟩ := hP
  obtain ⟨-, -, -, hnamed, -, -, -, hat⟩ := (Spec.applies_iff hf).mp happ
  obtain ⟨hg, hn⟩ := and_e (Cond.before_iff.mp (show (Jvm.Cond.and given_1 narrow_1).before args s = true from hpre))
  obtain ⟨g11, g12⟩ := and_e hg
  obtain ⟨g13, g14⟩ := and_e g12
  obtain ⟨g15, g16⟩ := and_e g14
  obtain ⟨g17, g18⟩ := and_e g16
  obtain ⟨w0, w1, w2, w3, rfl⟩ : ∃ w0 w1 w2 w3 : Value, args = #[w0, w1, w2, w3] := by
    have hs : args.size = 4 := by simpa [Cond.value, given_1] using g11
    obtain ⟨L⟩ := args
    match L, hs with
    | [w0, w1, w2, w3], _ => exact ⟨w0, w1, w2, w3, rfl⟩
  have hw := fun d (hd : d ∈ tables_1) => atoms_spec (ws := Jvm.Cond.code x code maxLocals ret :: tables_1) hat d (List.mem_cons_of_mem _ hd)
  obtain ⟨i0, ei0⟩ := isL_v g13
  obtain rfl : w0 = (.long i0) := Option.some.inj ei0
  obtain ⟨i1, ei1⟩ := isL_v g15
  obtain rfl : w1 = (.long i1) := Option.some.inj ei1
  obtain ⟨i2, ei2⟩ := is_v g17
  obtain rfl : w2 = (.int i2) := Option.some.inj ei2
  obtain ⟨i3, ei3⟩ := is_v g18
  obtain rfl : w3 = (.int i3) := Option.some.inj ei3
  obtain ⟨n, o, h1, h2, h3, _, L, rfl, ⟨N, _, _, rfl, _⟩, hq⟩ := m_law l s _ hw i0 i1 i2 i3 tables_1 s.heap ⟨List.nodup_nil, fun _ q => (nomatch q)⟩ p e ha hc hk s m _ below hf ((Spec.applies_iff_loose hf).mp happ).1 ⟨rfl, State.Warmed39.refl s, rfl⟩ trivial
  refine ⟨n, _, h1, h2, h3, hpost _ _ _ _ _ _ ⟨Cond.after_iff.mpr rfl, Cond.after_iff.mpr (eq_i res_at (Term.int_eval (1)) rfl), trivial⟩ ⟨hq.1, hq.2.1, (hq.2.2.sift fun y hy => Or.inr ((N y hy).elim (fun q => absurd q List.not_mem_nil) id)).mono (by decide) (by decide)⟩⟩
theorem main_1_1 : Claimed_1_1 := comes_1 fun _ _ _ _ _ _ h hF => ⟨h.1, hF⟩
theorem main_1_2 : Claimed_1_2 := comes_1 fun _ _ _ _ _ _ h hF => ⟨h.2.1, hF⟩
end Jvm.Pilot.@@N@@
namespace Jvm.Pilot.@@N@@
open Jvm Jvm.ClassFile Sem Op Lib Jvm.Free Jvm.Stand Jvm.Pilot.@@N@@.Jvm.D
/-! MADE BY PROGRAM (witnessworld.py) out of the Statement's table words and the real class files: 10 classes; the members and pool entries that the words name. The judged class is class 1, her method 3. -/
namespace start1
open Jvm.ClassFile
def u (s : String) : CpInfo := .utf8 (stringToUtf16 s)
/-- a pool by its gaps: so many unusable entries, then the entry; so many at the end -/
def gap : Nat → List CpInfo → List CpInfo
  | 0, r => r
  | n + 1, r => .unusable :: gap n r
def poolList (es : List (Nat × CpInfo)) (last : Nat) : List CpInfo := es.foldr (fun e r => gap e.1 (e.2 :: r)) (gap last [])
def pool (es : List (Nat × CpInfo)) (last : Nat) : Array CpInfo := ⟨poolList es last⟩
def fileOf (pool : Array CpInfo) (this : Nat) (attrs : Array Attribute := #[]) (ms : Array MethodInfo := #[]) (fl : Nat := 33) (sup : Nat := 0) (ifs : Array Nat := #[]) (fds : Array FieldInfo := #[]) : ClassFile where
  minorVersion := 0
  majorVersion := 65
  constantPool := pool
  accessFlags := fl
  thisClass := this
  superClass := sup
  interfaces := ifs
  fields := fds
  methods := ms
  attributes := attrs
def plain (name : String) (sup : Option ClassId) : Class where
  name := name
  kind := .ordinary
  loader := none
  accessFlags := 33
  super := sup
  interfaces := #[]
  cf := none
  fields := #[]
  methods := #[]
  instanceTypes := #[]
  staticTypes := #[]
  resolved := #[]
  callSites := []
  init := .initialized
  statics := none
  mirror := none

def pool0 : Array CpInfo := pool [(5, u "<init>"), (0, u "()V"), (1, .class_ 10), (1, u "java/lang/Object")] 113

def k0c0 : Code := { maxStack := 0, maxLocals := 1, code := object_method_1_code, exceptionTable := #[], attributes := #[] }
def k0m0 : Method := { name := "<init>", desc := "()V", sig := { parameters := [], returnType := none }, accessFlags := 1, code := some k0c0 }
/-- java/lang/Object -/
def k0 : Class := { plain "java/lang/Object" none with
  accessFlags := 33
  interfaces := #[]
  cf := some (fileOf pool0 8 #[] #[{ accessFlags := 1, nameIndex := 5, descriptorIndex := 6, attributes := #[] }] 33 0 #[] #[])
  fields := #[]
  methods := #[k0m0]
  instanceTypes := #[]
  staticTypes := #[]
  resolved := Array.replicate 124 none
  statics := none }

def pool1 : Array CpInfo := pool [(2, .class_ 4), (0, .nameAndType 5 6), (0, u "java/lang/Object"), (0, u "<init>"), (0, u "()V"), (0, .long 255), (1, .methodref 10 11), (0, .class_ 12), (0, .nameAndType 13 14), (0, u "com/example/wirecall/wirecall/RecordsBetweenPinLaw"), (0, u "header"), (0, u "(J)[B"), (0, .methodref 10 16), (0, .nameAndType 17 18), (0, u "length"), (0, u "(J)I"), (0, .integer 2147483647), (0, .class_ 21), (0, u "com/example/wirecall/wirecall/Tls$Records"), (0, .methodref 20 3), (0, .methodref 20 24), (0, .nameAndType 25 26), (0, u "passed"), (0, u "([BII)V"), (0, .methodref 20 28), (0, .nameAndType 29 30), (0, u "between"), (0, u "()Z"), (2, u "law"), (0, u "(JJII)Z")] 9

def k1m0 : Method := { name := "<init>", desc := "()V", sig := { parameters := [], returnType := none }, accessFlags := 1, code := none }
def k1c1 : Code := { maxStack := 5, maxLocals := 3, code := method_2_code, exceptionTable := #[], attributes := #[] }
def k1m1 : Method := { name := "header", desc := "(J)[B", sig := { parameters := [.long], returnType := some (.array .byte) }, accessFlags := 10, code := some k1c1 }
def k1c2 : Code := { maxStack := 5, maxLocals := 2, code := method_3_code, exceptionTable := #[], attributes := #[] }
def k1m2 : Method := { name := "length", desc := "(J)I", sig := { parameters := [.long], returnType := some .int }, accessFlags := 10, code := some k1c2 }
def k1c3 : Code := { maxStack := 5, maxLocals := 18, code := code, exceptionTable := #[], attributes := #[] }
def k1m3 : Method := { name := "law", desc := "(JJII)Z", sig := { parameters := [.long, .long, .int, .int], returnType := some .boolean }, accessFlags := 9, code := some k1c3 }
/-- com/example/wirecall/wirecall/RecordsBetweenPinLaw -/
def k1 : Class := { plain "com/example/wirecall/wirecall/RecordsBetweenPinLaw" (some 0) with
  accessFlags := 49
  interfaces := #[]
  cf := some (fileOf pool1 10 #[] #[{ accessFlags := 1, nameIndex := 5, descriptorIndex := 6, attributes := #[] }, { accessFlags := 10, nameIndex := 13, descriptorIndex := 14, attributes := #[] }, { accessFlags := 10, nameIndex := 17, descriptorIndex := 18, attributes := #[] }, { accessFlags := 9, nameIndex := 33, descriptorIndex := 34, attributes := #[] }] 49 2 #[] #[])
  fields := #[]
  methods := #[k1m0, k1m1, k1m2, k1m3]
  instanceTypes := #[]
  staticTypes := #[]
  resolved := Array.replicate 44 none
  statics := none }

def pool2 : Array CpInfo := pool [(1, .methodref 2 3), (0, .class_ 4), (0, .nameAndType 5 6), (0, u "java/lang/Object"), (0, u "<init>"), (0, u "()V"), (0, .fieldref 8 9), (0, .class_ 10), (0, .nameAndType 11 12), (0, u "com/example/wirecall/wirecall/Tls$Records"), (0, u "fragmentLeft"), (0, u "I"), (0, .methodref 14 15), (0, .class_ 16), (0, .nameAndType 17 18), (0, u "java/lang/Math"), (0, u "min"), (0, u "(II)I"), (0, .fieldref 8 20), (0, .nameAndType 21 12), (0, u "headerRead"), (0, .fieldref 8 23), (0, .nameAndType 24 12), (0, u "fragmentLength"), (0, u "HEADER_BYTES"), (2, u "LENGTH_AT"), (3, u "passed"), (0, u "([BII)V"), (1, u "between"), (0, u "()Z"), (3, .class_ 41), (0, u "com/example/wirecall/wirecall/Tls")] 2

def k2c0 : Code := { maxStack := 1, maxLocals := 1, code := prog_146_method_1_code, exceptionTable := #[], attributes := #[] }
def k2m0 : Method := { name := "<init>", desc := "()V", sig := { parameters := [], returnType := none }, accessFlags := 0, code := some k2c0 }
def k2c1 : Code := { maxStack := 4, maxLocals := 7, code := prog_146_method_2_code, exceptionTable := #[], attributes := #[] }
def k2m1 : Method := { name := "passed", desc := "([BII)V", sig := { parameters := [(.array .byte), .int, .int], returnType := none }, accessFlags := 0, code := some k2c1 }
def k2c2 : Code := { maxStack := 1, maxLocals := 1, code := prog_146_method_3_code, exceptionTable := #[], attributes := #[] }
def k2m2 : Method := { name := "between", desc := "()Z", sig := { parameters := [], returnType := some .boolean }, accessFlags := 0, code := some k2c2 }
/-- com/example/wirecall/wirecall/Tls$Records -/
def k2 : Class := { plain "com/example/wirecall/wirecall/Tls$Records" (some 0) with
  accessFlags := 48
  interfaces := #[]
  cf := some (fileOf pool2 8 #[.nestHost 40] #[{ accessFlags := 0, nameIndex := 5, descriptorIndex := 6, attributes := #[] }, { accessFlags := 0, nameIndex := 32, descriptorIndex := 33, attributes := #[] }, { accessFlags := 0, nameIndex := 35, descriptorIndex := 36, attributes := #[] }] 48 2 #[] #[{ accessFlags := 26, nameIndex := 25, descriptorIndex := 12, attributes := #[] }, { accessFlags := 26, nameIndex := 28, descriptorIndex := 12, attributes := #[] }, { accessFlags := 2, nameIndex := 21, descriptorIndex := 12, attributes := #[] }, { accessFlags := 2, nameIndex := 24, descriptorIndex := 12, attributes := #[] }, { accessFlags := 2, nameIndex := 11, descriptorIndex := 12, attributes := #[] }])
  fields := #[{ name := "HEADER_BYTES", type := .int, accessFlags := 26, slot := 0, constantValue := 0 }, { name := "LENGTH_AT", type := .int, accessFlags := 26, slot := 1, constantValue := 0 }, { name := "headerRead", type := .int, accessFlags := 2, slot := 0, constantValue := 0 }, { name := "fragmentLength", type := .int, accessFlags := 2, slot := 1, constantValue := 0 }, { name := "fragmentLeft", type := .int, accessFlags := 2, slot := 2, constantValue := 0 }]
  methods := #[k2m0, k2m1, k2m2]
  instanceTypes := #[.int, .int, .int]
  staticTypes := #[.int, .int]
  resolved := Array.replicate 44 none
  statics := none }

def pool3 : Array CpInfo := pool [(1, .class_ 2), (0, u "java/lang/Math"), (1, .class_ 6), (1, u "java/lang/Object"), (0, u "<init>"), (0, u "()V"), (89, .class_ 100), (1, u "java/lang/Math$RandomNumberGeneratorHolder"), (71, u "negativeZeroFloatBits"), (0, u "J"), (2, u "negativeZeroDoubleBits"), (24, u "min"), (43, u "$assertionsDisabled"), (0, u "Z"), (88, u "(II)I"), (2, u "twoToTheDoubleScaleDown"), (0, u "D"), (4, u "twoToTheDoubleScaleUp"), (9, u "E"), (3, u "PI"), (2, u "TAU"), (2, u "DEGREES_TO_RADIANS"), (0, u "RADIANS_TO_DEGREES")] 94

def k3m0 : Method := { name := "<init>", desc := "()V", sig := { parameters := [], returnType := none }, accessFlags := 2, code := none }
def k3c1 : Code := { maxStack := 2, maxLocals := 2, code := jdk_29_method_69_code, exceptionTable := #[], attributes := #[] }
def k3m1 : Method := { name := "min", desc := "(II)I", sig := { parameters := [.int, .int], returnType := some .int }, accessFlags := 9, code := some k3c1 }
/-- java/lang/Math -/
def k3 : Class := { plain "java/lang/Math" (some 0) with
  accessFlags := 49
  interfaces := #[]
  cf := some (fileOf pool3 1 #[.nestMembers #[98]] #[{ accessFlags := 2, nameIndex := 7, descriptorIndex := 8, attributes := #[] }, { accessFlags := 9, nameIndex := 201, descriptorIndex := 335, attributes := #[] }] 49 4 #[] #[{ accessFlags := 25, nameIndex := 354, descriptorIndex := 339, attributes := #[] }, { accessFlags := 25, nameIndex := 358, descriptorIndex := 339, attributes := #[] }, { accessFlags := 25, nameIndex := 361, descriptorIndex := 339, attributes := #[] }, { accessFlags := 26, nameIndex := 364, descriptorIndex := 339, attributes := #[] }, { accessFlags := 26, nameIndex := 365, descriptorIndex := 339, attributes := #[] }, { accessFlags := 26, nameIndex := 172, descriptorIndex := 173, attributes := #[] }, { accessFlags := 26, nameIndex := 176, descriptorIndex := 173, attributes := #[] }, { accessFlags := 8, nameIndex := 344, descriptorIndex := 339, attributes := #[] }, { accessFlags := 8, nameIndex := 338, descriptorIndex := 339, attributes := #[] }, { accessFlags := 4120, nameIndex := 245, descriptorIndex := 246, attributes := #[] }])
  fields := #[{ name := "E", type := .double, accessFlags := 25, slot := 0, constantValue := 0 }, { name := "PI", type := .double, accessFlags := 25, slot := 1, constantValue := 0 }, { name := "TAU", type := .double, accessFlags := 25, slot := 2, constantValue := 0 }, { name := "DEGREES_TO_RADIANS", type := .double, accessFlags := 26, slot := 3, constantValue := 0 }, { name := "RADIANS_TO_DEGREES", type := .double, accessFlags := 26, slot := 4, constantValue := 0 }, { name := "negativeZeroFloatBits", type := .long, accessFlags := 26, slot := 5, constantValue := 0 }, { name := "negativeZeroDoubleBits", type := .long, accessFlags := 26, slot := 6, constantValue := 0 }, { name := "twoToTheDoubleScaleUp", type := .double, accessFlags := 8, slot := 7, constantValue := 0 }, { name := "twoToTheDoubleScaleDown", type := .double, accessFlags := 8, slot := 8, constantValue := 0 }, { name := "$assertionsDisabled", type := .boolean, accessFlags := 4120, slot := 9, constantValue := 0 }]
  methods := #[k3m0, k3m1]
  instanceTypes := #[]
  staticTypes := #[.double, .double, .double, .double, .double, .long, .long, .double, .double, .boolean]
  resolved := Array.replicate 460 none
  statics := none }

def pool4 : Array CpInfo := pool [(1, u "java/lang/Cloneable"), (0, .class_ 1), (0, u "java/lang/Object"), (0, .class_ 3)] 3

/-- java/lang/Cloneable -/
def k4 : Class := { plain "java/lang/Cloneable" (some 0) with
  accessFlags := 1537
  interfaces := #[]
  cf := some (fileOf pool4 2 #[] #[] 1537 4 #[] #[])
  fields := #[]
  methods := #[]
  instanceTypes := #[]
  staticTypes := #[]
  resolved := Array.replicate 8 none
  statics := none }

def pool5 : Array CpInfo := pool [(1, u "java/io/Serializable"), (0, .class_ 1), (0, u "java/lang/Object"), (0, .class_ 3)] 3

/-- java/io/Serializable -/
def k5 : Class := { plain "java/io/Serializable" (some 0) with
  accessFlags := 1537
  interfaces := #[]
  cf := some (fileOf pool5 2 #[] #[] 1537 4 #[] #[])
  fields := #[]
  methods := #[]
  instanceTypes := #[]
  staticTypes := #[]
  resolved := Array.replicate 8 none
  statics := none }

/-- the primitive byte -/
def k6 : Class := { plain "byte" none with kind := .primitive 'B', accessFlags := 0x411 }
/-- [B -/
def k7 : Class := { plain "[B" (some 0) with kind := .array 6 .byte, interfaces := #[4, 5], accessFlags := 1041 }

/-- the primitive int -/
def k8 : Class := { plain "int" none with kind := .primitive 'I', accessFlags := 0x411 }
/-- [I -/
def k9 : Class := { plain "[I" (some 0) with kind := .array 8 .int, interfaces := #[4, 5], accessFlags := 1041 }

def heap : Heap := #[]
def classes : Array Class := #[k0, k1, k2, k3, k4, k5, k6, k7, k8, k9]
def interned : List (Array UInt16 × Addr) := []
def slotsUsed : Nat := 0
def theMethod : MethodId := ⟨1, 3⟩
def args0 : Array Value := #[.long 5, .long 7, .int 3, .int 4]
def aboutOver (below : List Frame) : State where
  vm := { classes := classes, interned := interned.toArray }
  heap := heap
  slotsUsed := slotsUsed
  threads := #[{ frames := .invoking theMethod args0 :: below }]
def below0 : List Frame := [.native { method := ⟨0, 0⟩, args := #[] }]
def about1 : State := aboutOver below0
def p0 : Program := .bare "" "" ""
def e0 : Env := launch0.env 0 0 0
theorem w_frames : about1.frames = Frame.invoking theMethod args0 :: below0 := rfl
set_option maxRecDepth 65536 in
theorem w_args : argsFit about1.vm theMethod args0 = true := by decide +kernel
set_option maxRecDepth 65536 in
theorem w_heap : heapFits about1 = true := by decide +kernel
set_option maxRecDepth 65536 in
theorem w_runnable : about1.curStatus? = some .runnable := by decide +kernel
set_option maxRecDepth 65536 in
theorem w_alone : about1.alone = true := by decide +kernel
set_option maxRecDepth 65536 in
theorem w_named : about1.methodNamed? x = some theMethod := by decide +kernel
set_option maxRecDepth 65536 in
theorem w_hears : about1.hears theMethod below0 = true := by decide +kernel
set_option maxRecDepth 65536 in
theorem w_ripe : about1.ripe theMethod args0 below0 = true := by decide +kernel
theorem w_running : about1.status = .running := rfl
set_option maxRecDepth 65536 in
theorem w_room : about1.hasRoom e0.platform room_1 = true :=
  launch0.hasRoom_least _ room_1 (by decide +kernel) (by decide +kernel) (by decide +kernel) (by decide +kernel) (by decide +kernel) (by decide +kernel)
theorem allAtoms_all (ts : List Jvm.Cond) (a : Array Jvm.Value) (st : Jvm.State) : (allAtoms ts).before a st = ts.all (fun c => c.before a st) := by
  induction ts with
  | nil => rfl
  | cons c t ih =>
    show (Jvm.Cond.and c (allAtoms t)).before a st = _
    rw [Jvm.Cond.before_and, ih, List.all_cons]
def words1 : List Jvm.Cond := Jvm.Cond.code x code maxLocals ret :: tables_1
/-- a 'code' word, met by the world's own term for the bytes: nothing is compared byte by byte -/
theorem code_word {y : MethodName} {bytes : ByteArray} {mx : Nat} {rt : Option FieldType} {a : Array Value} {s : State} {m : MethodId} {meth : Method} {c : Code} (h1 : s.methodNamed? y = some m) (h2 : s.vm.method? m = some meth) (h3 : meth.code = some c) (h4 : c.code = bytes)
    (h5 : (c.maxLocals == mx && c.exceptionTable.isEmpty && decide (c.maxStack ≤ mostOperands) && decide (meth.sig.returnType = rt) && !meth.locks && decide (parseMethodDescriptor y.desc = some meth.sig)) = true) : (Jvm.Cond.code y bytes mx rt).before a s = true := by
  simp only [Bool.and_eq_true, beq_iff_eq, Bool.not_eq_true', decide_eq_true_eq] at h5
  obtain ⟨⟨⟨⟨⟨g1, g2⟩, g3⟩, g4⟩, g5⟩, g6⟩ := h5
  simp [Cond.before, Cond.holds, Cond.value, h1, h2, h3, h4, g1, g2, g3, g4, g5, g6]
def isCode : Jvm.Cond → Bool
  | .code _ _ _ _ => true
  | _ => false
theorem all_split {L : List Jvm.Cond} {P : Jvm.Cond → Bool} (h1 : L.all (fun c => isCode c || P c) = true) (h2 : ∀ c ∈ L.filter isCode, P c = true) : L.all P = true := by
  refine List.all_eq_true.mpr fun c hc => ?_
  have h := List.all_eq_true.mp h1 c hc
  rcases Bool.eq_false_or_eq_true (isCode c) with hi | hi
  · exact h2 c (List.mem_filter.mpr ⟨hc, hi⟩)
  · simpa [hi] using h
set_option maxRecDepth 65536 in
theorem w_c0 : (Jvm.Cond.code x code maxLocals ret).before args0 about1 = true := code_word (m := ⟨1, 3⟩) (meth := k1m3) (c := k1c3) (by decide +kernel) rfl rfl rfl (by decide +kernel)
set_option maxRecDepth 65536 in
theorem w_c1 : (Jvm.Cond.code ({ cls := "com/example/wirecall/wirecall/RecordsBetweenPinLaw", name := "header", desc := "(J)[B" } : Jvm.MethodName) method_2_code (3 : Nat) (Option.some (Jvm.ClassFile.FieldType.array Jvm.ClassFile.FieldType.byte))).before args0 about1 = true := code_word (m := ⟨1, 1⟩) (meth := k1m1) (c := k1c1) (by decide +kernel) rfl rfl rfl (by decide +kernel)
set_option maxRecDepth 65536 in
theorem w_c2 : (Jvm.Cond.code ({ cls := "com/example/wirecall/wirecall/RecordsBetweenPinLaw", name := "length", desc := "(J)I" } : Jvm.MethodName) method_3_code (2 : Nat) (Option.some Jvm.ClassFile.FieldType.int)).before args0 about1 = true := code_word (m := ⟨1, 2⟩) (meth := k1m2) (c := k1c2) (by decide +kernel) rfl rfl rfl (by decide +kernel)
set_option maxRecDepth 65536 in
theorem w_c3 : (Jvm.Cond.code ({ cls := "com/example/wirecall/wirecall/Tls$Records", name := "<init>", desc := "()V" } : Jvm.MethodName) prog_146_method_1_code (1 : Nat) (Option.none : Option Jvm.ClassFile.FieldType)).before args0 about1 = true := code_word (m := ⟨2, 0⟩) (meth := k2m0) (c := k2c0) (by decide +kernel) rfl rfl rfl (by decide +kernel)
set_option maxRecDepth 65536 in
theorem w_c4 : (Jvm.Cond.code ({ cls := "java/lang/Object", name := "<init>", desc := "()V" } : Jvm.MethodName) object_method_1_code (1 : Nat) (Option.none : Option Jvm.ClassFile.FieldType)).before args0 about1 = true := code_word (m := ⟨0, 0⟩) (meth := k0m0) (c := k0c0) (by decide +kernel) rfl rfl rfl (by decide +kernel)
set_option maxRecDepth 65536 in
theorem w_c5 : (Jvm.Cond.code ({ cls := "com/example/wirecall/wirecall/Tls$Records", name := "passed", desc := "([BII)V" } : Jvm.MethodName) prog_146_method_2_code (7 : Nat) (Option.none : Option Jvm.ClassFile.FieldType)).before args0 about1 = true := code_word (m := ⟨2, 1⟩) (meth := k2m1) (c := k2c1) (by decide +kernel) rfl rfl rfl (by decide +kernel)
set_option maxRecDepth 65536 in
theorem w_c6 : (Jvm.Cond.code ({ cls := "com/example/wirecall/wirecall/Tls$Records", name := "between", desc := "()Z" } : Jvm.MethodName) prog_146_method_3_code (1 : Nat) (Option.some Jvm.ClassFile.FieldType.boolean)).before args0 about1 = true := code_word (m := ⟨2, 2⟩) (meth := k2m2) (c := k2c2) (by decide +kernel) rfl rfl rfl (by decide +kernel)
set_option maxRecDepth 65536 in
theorem w_c7 : (Jvm.Cond.code ({ cls := "java/lang/Math", name := "min", desc := "(II)I" } : Jvm.MethodName) jdk_29_method_69_code (2 : Nat) (Option.some Jvm.ClassFile.FieldType.int)).before args0 about1 = true := code_word (m := ⟨3, 1⟩) (meth := k3m1) (c := k3c1) (by decide +kernel) rfl rfl rfl (by decide +kernel)
def codes1 : List Jvm.Cond := [Jvm.Cond.code x code maxLocals ret, Jvm.Cond.code ({ cls := "com/example/wirecall/wirecall/RecordsBetweenPinLaw", name := "header", desc := "(J)[B" } : Jvm.MethodName) method_2_code (3 : Nat) (Option.some (Jvm.ClassFile.FieldType.array Jvm.ClassFile.FieldType.byte)), Jvm.Cond.code ({ cls := "com/example/wirecall/wirecall/RecordsBetweenPinLaw", name := "length", desc := "(J)I" } : Jvm.MethodName) method_3_code (2 : Nat) (Option.some Jvm.ClassFile.FieldType.int), Jvm.Cond.code ({ cls := "com/example/wirecall/wirecall/Tls$Records", name := "<init>", desc := "()V" } : Jvm.MethodName) prog_146_method_1_code (1 : Nat) (Option.none : Option Jvm.ClassFile.FieldType), Jvm.Cond.code ({ cls := "java/lang/Object", name := "<init>", desc := "()V" } : Jvm.MethodName) object_method_1_code (1 : Nat) (Option.none : Option Jvm.ClassFile.FieldType), Jvm.Cond.code ({ cls := "com/example/wirecall/wirecall/Tls$Records", name := "passed", desc := "([BII)V" } : Jvm.MethodName) prog_146_method_2_code (7 : Nat) (Option.none : Option Jvm.ClassFile.FieldType), Jvm.Cond.code ({ cls := "com/example/wirecall/wirecall/Tls$Records", name := "between", desc := "()Z" } : Jvm.MethodName) prog_146_method_3_code (1 : Nat) (Option.some Jvm.ClassFile.FieldType.boolean), Jvm.Cond.code ({ cls := "java/lang/Math", name := "min", desc := "(II)I" } : Jvm.MethodName) jdk_29_method_69_code (2 : Nat) (Option.some Jvm.ClassFile.FieldType.int)]
set_option maxRecDepth 65536 in
theorem codes_eq : words1.filter isCode = codes1 := rfl
theorem w_codes : ∀ c ∈ words1.filter isCode, c.before args0 about1 = true := by
  rw [codes_eq]
  intro c hc
  simp only [codes1, List.mem_cons, List.not_mem_nil, or_false] at hc
  rcases hc with rfl | rfl | rfl | rfl | rfl | rfl | rfl | rfl
  · exact w_c0
  · exact w_c1
  · exact w_c2
  · exact w_c3
  · exact w_c4
  · exact w_c5
  · exact w_c6
  · exact w_c7
set_option maxRecDepth 65536 in
theorem w_t1 : (words1.take 24).all (fun c => isCode c || c.before args0 about1) = true := by decide +kernel
set_option maxRecDepth 65536 in
theorem w_t2 : (words1.drop 24).all (fun c => isCode c || c.before args0 about1) = true := by decide +kernel
theorem w_tables : (allAtoms (Jvm.Cond.code x code maxLocals ret :: tables_1)).before args0 about1 = true := by
  rw [allAtoms_all]
  show words1.all (fun c => c.before args0 about1) = true
  refine all_split ?_ w_codes
  rw [← List.take_append_drop 24 words1, List.all_append, w_t1, w_t2]
  rfl
set_option maxRecDepth 65536 in
theorem w_case : (Jvm.Cond.and given_1 narrow_1).before args0 about1 = true := by decide +kernel
theorem w_applies : (headSpec (Jvm.Cond.code x code maxLocals ret :: tables_1) room_1).applies x e0.platform about1 = true :=
  (Spec.applies_iff w_frames).mpr ⟨w_running, w_runnable, w_alone, w_named, w_hears, w_ripe, w_room, w_tables⟩
theorem atStart : AtStart classFile x code maxLocals ret World_1 tables_1 room_1 Calls_1 rest_1 Pre_1 launch0 p0 e0 about1 theMethod args0 below0 :=
  ⟨lists_1, trivial, launch0.admits_env _ _ _, launch0.least_env, fairChoices_fair.cas, fairChoices_fair.clock, w_frames, w_args, w_heap, w_applies, trivial, trivial, w_case⟩
end start1
theorem witness_1 : WitnessClaimed_1 := ⟨start1.p0, start1.e0, start1.about1, start1.theMethod, start1.args0, start1.below0, start1.atStart⟩
end Jvm.Pilot.@@N@@
