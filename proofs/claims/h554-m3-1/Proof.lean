import JvmDerived
import JvmDerived.Pilot.@@N@@Statement
import JvmDerived.Pilot.@@N@@Code
set_option linter.unusedVariables false
set_option linter.unusedSimpArgs false
@@BLOCK:NumsL.lean.txt@@
namespace Jvm.OwnWp
open Jvm Jvm.ClassFile Sem Op Lib Jvm.Free Jvm.Stand Jvm.LawKit Jvm.RoadKit
/-! The heap of a walk as a plain list of the objects that it may touch. -/
abbrev Fd := String × String × String × Value
abbrev Ob := (String × List Fd) ⊕ (FieldType × List Value)
abbrev Hs := List (Addr × Ob)
section Heaps
variable {Z : State} {a0 : Array Value} {h h' h0 : Heap} {a b : Addr} {sl : Nat} {v : Value} {o o' : Ob} {os os' rest : Hs} {dm fp fp2 : List Addr}
def ObAt (Z : State) (a0 : Array Value) (h : Heap) (a : Addr) : Ob → Prop
  | .inl x => Exa Z h a x.1 ∧ (x.2.map (·.2.1)).Nodup ∧ ∀ q ∈ x.2, Fld Z h a q.1 q.2.1 q.2.2.1 q.2.2.2 ∧ Laid Z a0 x.1 q.1 q.2.1 q.2.2.1 ∧ ∃ t, parseFieldDescriptor q.2.2.1 = some t
  | .inr x => ∃ c : Cell, Arr Z h a c x.1 ∧ c.slots.toList = x.2 ∧ Exa Z h a ("[" ++ x.1.toString) ∧ ∀ v ∈ x.2, fits x.1 v = true
theorem ObAt.lt (F : ObAt Z a0 h a o) : a < h.size := by
  cases o with
  | inl x => exact F.1.lt
  | inr x => obtain ⟨c, A, -⟩ := F; exact A.lt
theorem ObAt.move (hm : ∀ c, h[a]? = some c → h'[a]? = some c) (F : ObAt Z a0 h a o) : ObAt Z a0 h' a o := by
  cases o with
  | inl x =>
    obtain ⟨⟨cell, k, h1, r⟩, hn, hq⟩ := F
    refine ⟨⟨cell, k, hm _ h1, r⟩, hn, fun q hq' => ?_⟩
    obtain ⟨⟨cell, cf, k, i, f, h1, r⟩, L⟩ := hq q hq'
    exact ⟨⟨cell, cf, k, i, f, hm _ h1, r⟩, L⟩
  | inr x =>
    obtain ⟨c, A, e, ⟨cell, k, h1, r⟩, hf⟩ := F
    exact ⟨c, ⟨hm _ A.1, A.2⟩, e, ⟨cell, k, hm _ h1, r⟩, hf⟩
theorem ObAt.ext (E : Ext h h') (F : ObAt Z a0 h a o) : ObAt Z a0 h' a o := F.move fun c hc => E.2 _ _ hc
theorem wr_ne (W : Wr h h' a sl v) (hne : b ≠ a) {c : Cell} (hc : h[b]? = some c) : h'[b]? = some c := by
  obtain ⟨cb', h1, -, -, -, h5, -⟩ := wr_at W hc
  rw [h1, h5 hne]
/-- the cells that a walk may write: those of its footprint, and the new ones -/
def Dm (fp : List Addr) (n0 : Nat) (a : Addr) : Prop := a ∈ fp ∨ n0 ≤ a
def Hq (Z : State) (a0 : Array Value) (h : Heap) (os : Hs) : Prop := (os.map (·.1)).Nodup ∧ ∀ q ∈ os, ObAt Z a0 h q.1 q.2
def Hp (Z : State) (a0 : Array Value) (dm fp : List Addr) (h0 h : Heap) (os : Hs) : Prop :=
  Hq Z a0 h os ∧ (∀ q ∈ os, Dm dm h0.size q.1) ∧ h0.size ≤ h.size ∧ ∀ a c, h0[a]? = some c → a ∉ fp → h[a]? = some c
theorem Hp.start (H : Hq Z a0 h os) : Hp Z a0 (os.map (·.1)) fp h h os := ⟨H, fun q hq => Or.inl (List.mem_map.mpr ⟨q, hq, rfl⟩), Nat.le_refl _, fun _ _ q _ => q⟩
theorem Hp.ext (E : Ext h h') (H : Hp Z a0 dm fp h0 h os) : Hp Z a0 dm fp h0 h' os :=
  ⟨⟨H.1.1, fun q hq => (H.1.2 q hq).ext E⟩, H.2.1, Nat.le_trans H.2.2.1 E.1, fun a c q n => E.2 _ _ (H.2.2.2 a c q n)⟩
theorem Hp.push (E : Ext h h') (F : ObAt Z a0 h' h.size o) (H : Hp Z a0 dm fp h0 h os) : Hp Z a0 dm fp h0 h' (os ++ [(h.size, o)]) := by
  have H' := H.ext E
  refine ⟨⟨?_, fun q hq => ?_⟩, fun q hq => ?_, H'.2.2⟩
  · rw [List.map_append, List.nodup_append]
    refine ⟨H.1.1, by simp, fun x hx y hy => ?_⟩
    obtain ⟨q, hq, rfl⟩ := List.mem_map.mp hx
    have := (H.1.2 q hq).lt
    simp only [List.map_cons, List.map_nil, List.mem_singleton] at hy
    intro e
    rw [e, hy] at this
    exact Nat.lt_irrefl _ this
  · rcases List.mem_append.mp hq with hq | hq
    · exact H'.1.2 q hq
    · cases List.mem_singleton.mp hq; exact F
  · rcases List.mem_append.mp hq with hq | hq
    · exact H.2.1 q hq
    · cases List.mem_singleton.mp hq; exact Or.inr H.2.2.1
theorem mem_set {α : Type} {l : List α} {k : Nat} {x q : α} (hq : q ∈ l.set k x) : q = x ∨ ∃ i, i ≠ k ∧ l[i]? = some q := by
  obtain ⟨i, hi⟩ := List.mem_iff_getElem?.mp hq
  rw [List.getElem?_set] at hi
  by_cases e : k = i
  · rw [if_pos e] at hi
    split at hi
    · exact Or.inl (Option.some.inj hi).symm
    · cases hi
  · rw [if_neg e] at hi
    exact Or.inr ⟨i, fun z => e z.symm, hi⟩
theorem nodup_inj {α : Type} {l : List α} (hn : l.Nodup) {i j : Nat} {x : α} (hi : l[i]? = some x) (hj : l[j]? = some x) : i = j := by
  obtain ⟨h1, e1⟩ := List.getElem?_eq_some_iff.mp hi
  obtain ⟨h2, e2⟩ := List.getElem?_eq_some_iff.mp hj
  exact (List.getElem_inj hn).mp (e1.trans e2.symm)
theorem map_at {α β : Type} {l : List α} {f : α → β} {i : Nat} {x : α} (hi : l[i]? = some x) : (l.map f)[i]? = some (f x) := by rw [List.getElem?_map, hi]; rfl
theorem map_set_same {α β : Type} {l : List α} {f : α → β} {k : Nat} {x x' : α} (hk : l[k]? = some x) (e : f x' = f x) : (l.set k x').map f = l.map f := by
  apply List.ext_getElem?
  intro i
  rw [List.getElem?_map, List.getElem?_map, List.getElem?_set]
  by_cases z : k = i
  · subst z
    rw [if_pos rfl]
    have := (List.getElem?_eq_some_iff.mp hk).1
    rw [if_pos this, hk]
    exact congrArg some e
  · rw [if_neg z]
theorem Hp.wr {k : Nat} (hD : Dm fp h0.size a) (W : Wr h h' a sl v) (ho : os[k]? = some (a, o)) (F : ObAt Z a0 h' a o') (H : Hp Z a0 dm fp h0 h os) : Hp Z a0 dm fp h0 h' (os.set k (a, o')) := by
  have hM : Dm dm h0.size a := H.2.1 _ (List.mem_of_getElem? ho)
  refine ⟨⟨?_, fun q hq => ?_⟩, fun q hq => ?_, by rw [W.size]; exact H.2.2.1, fun x c hx hn => ?_⟩
  · rw [map_set_same (f := fun x : Addr × Ob => x.1) (x' := (a, o')) ho rfl]; exact H.1.1
  · rcases mem_set hq with rfl | ⟨i, hi, hq⟩
    · exact F
    · have hne : q.1 ≠ a := fun e => hi (nodup_inj H.1.1 (map_at hq) (by rw [map_at ho, e]))
      exact (H.1.2 q (List.mem_of_getElem? hq)).move fun c hc => wr_ne W hne hc
  · rcases mem_set hq with rfl | ⟨i, hi, hq⟩
    · exact hM
    · exact H.2.1 q (List.mem_of_getElem? hq)
  · refine wr_ne W (fun e => ?_) (H.2.2.2 x c hx hn)
    subst e
    rcases hD with hD | hD
    · exact hn hD
    · exact absurd (Array.getElem?_eq_some_iff.mp hx).1 (Nat.not_lt.mpr hD)
theorem Hp.fld {k : Nat} {C : String} {fs : List Fd} {j : Nat} {O n d : String} {w : Value} (ho : os[k]? = some (a, .inl (C, fs))) (hj : fs[j]? = some (O, n, d, w)) (H : Hp Z a0 dm fp h0 h os) : Fld Z h a O n d w :=
  ((H.1.2 _ (List.mem_of_getElem? ho)).2.2 _ (List.mem_of_getElem? hj)).1
theorem Hp.exa {k : Nat} {C : String} {fs : List Fd} (ho : os[k]? = some (a, .inl (C, fs))) (H : Hp Z a0 dm fp h0 h os) : Exa Z h a C := (H.1.2 _ (List.mem_of_getElem? ho)).1
theorem Hp.putf {k : Nat} {C : String} {fs : List Fd} {j : Nat} {O n d : String} {w : Value} (hD : Dm fp h0.size a) (ho : os[k]? = some (a, .inl (C, fs))) (hj : fs[j]? = some (O, n, d, w)) (W : Wr h h' a (RoadKit.slotOf Z O n d) v) (H : Hp Z a0 dm fp h0 h os) :
    Hp Z a0 dm fp h0 h' (os.set k (a, .inl (C, fs.set j (O, n, d, v)))) := by
  refine H.wr hD W ho ?_
  obtain ⟨hE, hN, hF⟩ := H.1.2 _ (List.mem_of_getElem? ho)
  dsimp only at hE hN hF
  obtain ⟨F, L, t, ht⟩ := hF _ (List.mem_of_getElem? hj)
  refine ⟨hE.wr W, ?_, fun q hq => ?_⟩
  · dsimp only
    rw [map_set_same (f := fun x : Fd => x.2.1) (x' := (O, n, d, v)) hj rfl]; exact hN
  · rcases mem_set hq with rfl | ⟨i, hi, hq⟩
    · exact ⟨F.same W, L, t, ht⟩
    · obtain ⟨F', L', t', ht'⟩ := hF _ (List.mem_of_getElem? hq)
      have hne : q.2.1 ≠ n := fun e => hi (nodup_inj hN (map_at hq) (by rw [map_at hj, e]))
      exact ⟨F'.other W (Or.inr (slot_ne L' L hne ht' ht)), L', t', ht'⟩
theorem Hp.arr {k : Nat} {ty : FieldType} {vs : List Value} (ho : os[k]? = some (a, .inr (ty, vs))) (H : Hp Z a0 dm fp h0 h os) : ∃ c : Cell, Arr Z h a c ty ∧ c.slots.toList = vs := by
  obtain ⟨c, A, e, -⟩ := H.1.2 _ (List.mem_of_getElem? ho)
  exact ⟨c, A, e⟩
theorem Hp.puta {k : Nat} {ty : FieldType} {vs : List Value} {j : Nat} (hD : Dm fp h0.size a) (hf : fits ty v = true) (ho : os[k]? = some (a, .inr (ty, vs))) (W : Wr h h' a j v) (H : Hp Z a0 dm fp h0 h os) : Hp Z a0 dm fp h0 h' (os.set k (a, .inr (ty, vs.set j v))) := by
  refine H.wr hD W ho ?_
  obtain ⟨c, A, e, E, F⟩ := H.1.2 _ (List.mem_of_getElem? ho)
  refine ⟨_, A.same W, ?_, E.wr W, fun q hq => ?_⟩
  · dsimp only at e ⊢
    rw [← e]
    simp [Cell.setSlot]
  · rcases mem_set hq with rfl | ⟨i, -, hq⟩
    · exact hf
    · exact F q (List.mem_of_getElem? hq)
theorem Hp.call (H : Hp Z a0 dm fp h0 h (rest ++ os)) (H' : Hp Z a0 (os.map (·.1)) fp2 h h' os') (hc : fp2 = [] ∨ (fp2 = os.map (·.1) ∧ dm = fp)) : Hp Z a0 dm fp h0 h' (rest ++ os') := by
  have hN := H.1.1
  rw [List.map_append, List.nodup_append] at hN
  have hsub : ∀ x ∈ fp2, x ∈ os.map (·.1) := fun x hx => by
    rcases hc with rfl | ⟨rfl, -⟩
    · exact absurd hx List.not_mem_nil
    · exact hx
  have hD : ∀ x, Dm (os.map (·.1)) h.size x → Dm dm h0.size x := fun x hx => by
    rcases hx with hx | hx
    · obtain ⟨q, hq, rfl⟩ := List.mem_map.mp hx
      exact H.2.1 q (List.mem_append.mpr (Or.inr hq))
    · exact Or.inr (Nat.le_trans H.2.2.1 hx)
  have hR : ∀ q ∈ rest, q.1 ∉ os.map (·.1) := fun q hq hm => hN.2.2 _ (List.mem_map.mpr ⟨q, hq, rfl⟩) _ hm rfl
  refine ⟨⟨?_, fun q hq => ?_⟩, fun q hq => ?_, Nat.le_trans H.2.2.1 H'.2.2.1, fun x c hx hn => ?_⟩
  · rw [List.map_append, List.nodup_append]
    refine ⟨hN.1, H'.1.1, fun x hx y hy e => ?_⟩
    subst e
    obtain ⟨q, hq, rfl⟩ := List.mem_map.mp hx
    obtain ⟨q', hq', e⟩ := List.mem_map.mp hy
    have := H'.2.1 q' hq'
    rw [e] at this
    rcases this with t | t
    · exact hR q hq t
    · exact absurd (H.1.2 q (List.mem_append.mpr (Or.inl hq))).lt (Nat.not_lt.mpr t)
  · rcases List.mem_append.mp hq with hq | hq
    · exact (H.1.2 q (List.mem_append.mpr (Or.inl hq))).move fun c hc => H'.2.2.2 _ _ hc (fun z => hR q hq (hsub _ z))
    · exact H'.1.2 q hq
  · rcases List.mem_append.mp hq with hq | hq
    · exact H.2.1 q (List.mem_append.mpr (Or.inl hq))
    · exact hD _ (H'.2.1 q hq)
  · refine H'.2.2.2 _ _ (H.2.2.2 x c hx hn) fun hm => ?_
    rcases hc with rfl | ⟨rfl, rfl⟩
    · exact absurd hm List.not_mem_nil
    · obtain ⟨q, hq, rfl⟩ := List.mem_map.mp hm
      rcases H.2.1 q (List.mem_append.mpr (Or.inr hq)) with t | t
      · exact hn t
      · exact absurd (Array.getElem?_eq_some_iff.mp hx).1 (Nat.not_lt.mpr t)
theorem pick_mem {is : List Nat} {os2 : Hs} (he : is.map (fun i => os[i]?) = os2.map some) {q : Addr × Ob} (hq : q ∈ os2) : ∃ i ∈ is, os[i]? = some q := by
  have : some q ∈ is.map (fun i => os[i]?) := by rw [he]; exact List.mem_map.mpr ⟨q, hq, rfl⟩
  obtain ⟨i, hi, e⟩ := List.mem_map.mp this
  exact ⟨i, hi, e⟩
theorem pick_nodup (hN : (os.map (·.1)).Nodup) : ∀ {is : List Nat} {os2 : Hs}, is.Nodup → is.map (fun i => os[i]?) = os2.map some → (os2.map (·.1)).Nodup
  | [], [], _, _ => List.nodup_nil
  | [], _ :: _, _, he => by cases he
  | _ :: _, [], _, he => by cases he
  | i :: is, q :: os2, hi, he => by
    simp only [List.map_cons, List.cons.injEq] at he
    rw [List.nodup_cons] at hi
    rw [List.map_cons, List.nodup_cons]
    refine ⟨fun hm => ?_, pick_nodup hN hi.2 he.2⟩
    obtain ⟨q', hq', e⟩ := List.mem_map.mp hm
    obtain ⟨i', hi', e'⟩ := pick_mem he.2 hq'
    have := nodup_inj hN (map_at he.1) (by rw [map_at e', e])
    exact hi.1 (this ▸ hi')
theorem Hp.pick {is : List Nat} {os2 : Hs} (H : Hp Z a0 dm fp h0 h os) (hn : is.Nodup) (he : is.map (fun i => os[i]?) = os2.map some) : Hp Z a0 dm fp h0 h os2 :=
  have hm : ∀ q ∈ os2, q ∈ os := fun q hq => by obtain ⟨i, -, e⟩ := pick_mem he hq; exact List.mem_of_getElem? e
  ⟨⟨pick_nodup H.1.1 hn he, fun q hq => H.1.2 q (hm q hq)⟩, fun q hq => H.2.1 q (hm q hq), H.2.2⟩
end Heaps
/-- what a walk holds at a point -/
def Here (p : Program) (l : Launch) (e : Env) (R : Room) (s : State) (m : MethodId) (args : Array Value) (below : List Frame) (meth : Method) (c : Code) (Z : State) (a0 : Array Value) (y : MethodName) (bytes : ByteArray) (ml : Nat) (ret : Option FieldType) (dm fp : List Addr) (T : State) (k n : Nat) (os : Hs) : Prop :=
  ∃ locs, Stand p l e R s m args below meth c T locs k n ∧ (∀ q ∈ locs, Dm fp s.heap.size q.base) ∧ Hp Z a0 dm fp s.heap T.heap os ∧ p.tables.exec = Jvm.exec ∧ Z.Warmed39 s.vm ∧ c.code = bytes ∧ c.maxLocals = ml ∧ s.vm.findClass y.cls = some m.cls ∧ meth.name = y.name ∧ meth.sig.returnType = ret ∧ meth.locks = false
/-- from here the body returns, and what it leaves is as Post says -/
def Wp (p : Program) (e : Env) (below : List Frame) (Z : State) (a0 : Array Value) (dm fp : List Addr) (R : Room) (s : State) (Post : Option Value → Hs → Prop) (T : State) (g : JFrame) : Prop :=
  ∃ s₂ o, Steps p.tables e below (T.setTop g) s₂ ∧ s₂.status = .running ∧ Ended s₂ below o ∧ ∃ v L, o = .returned v ∧ ((∀ q ∈ L, Dm fp s.heap.size q.base) ∧ ∃ os', Hp Z a0 dm fp s.heap s₂.heap os' ∧ Post v os') ∧ FrameEnd s o s₂ L R.cells R.slots
/-- a body's contract -/
def Pays (l : Launch) (Z : State) (a0 : Array Value) (y : MethodName) (bytes : ByteArray) (ml : Nat) (ret : Option FieldType) (R : Room) (args : Array Value) (os : Hs) (fp : List Addr) (Post : Option Value → Hs → Prop) : Prop :=
  ∀ (ws : List Jvm.Cond) (h0 : Heap), Hq Z a0 h0 os → MetFree l y (head1 (Jvm.Cond.code y bytes ml ret :: ws) R) (fun a U => a = args ∧ Z.Warmed39 U.vm ∧ U.heap = h0) (fun _ _ _ _ _ => True)
    (fun _ U o U' => ∃ v L, o = .returned v ∧ ((∀ q ∈ L, Dm fp h0.size q.base) ∧ ∃ os', Hp Z a0 (os.map (·.1)) fp h0 U'.heap os' ∧ Post v os') ∧ FrameEnd U o U' L R.cells R.slots)
section Walks
variable {p : Program} {l : Launch} {e : Env} {R : Room} {s : State} {m : MethodId} {args : Array Value} {below : List Frame} {meth : Method} {c : Code} {Z : State} {a0 : Array Value} {y : MethodName} {bytes : ByteArray} {ml : Nat} {ret : Option FieldType} {dm fp fp2 : List Addr} {T T' : State} {k n : Nat} {os : Hs} {Post : Option Value → Hs → Prop} {pc : Nat} {Ls : Array Slot} {st rest : List Value}
theorem Wp.go {g g' : JFrame} (hs : ∀ t, Steps p.tables e below (T'.setTop g') t → Steps p.tables e below (T.setTop g) t) (K : Wp p e below Z a0 dm fp R s Post T' g') : Wp p e below Z a0 dm fp R s Post T g := by
  obtain ⟨s₂, o, h1, r⟩ := K
  exact ⟨s₂, o, hs _ h1, r⟩
theorem Here.hr (A : Here p l e R s m args below meth c Z a0 y bytes ml ret dm fp T k n os) : At T m c below := by obtain ⟨_, X, -⟩ := A; exact X.here
theorem Here.hx (A : Here p l e R s m args below meth c Z a0 y bytes ml ret dm fp T k n os) : p.tables.exec = Jvm.exec := by obtain ⟨_, -, -, -, hx, -⟩ := A; exact hx
theorem Here.hb {r : Except DecodeError (Instr × Nat)} (A : Here p l e R s m args below meth c Z a0 y bytes ml ret dm fp T k n os) (hd : decode bytes pc = r) : decode c.code pc = r := by obtain ⟨_, -, -, -, -, -, hb, -⟩ := A; exact hb ▸ hd
theorem Here.pick {is : List Nat} {os2 : Hs} (A : Here p l e R s m args below meth c Z a0 y bytes ml ret dm fp T k n os) (hn : is.Nodup) (he : is.map (fun i => os[i]?) = os2.map some) : Here p l e R s m args below meth c Z a0 y bytes ml ret dm fp T k n os2 := by
  obtain ⟨locs, X, N, H, r⟩ := A
  exact ⟨locs, X, N, H.pick hn he, r⟩
theorem Here.cast {k2 n2 : Nat} {os2 : Hs} (A : Here p l e R s m args below meth c Z a0 y bytes ml ret dm fp T k n os) (h1 : k = k2) (h2 : n = n2) (h3 : os = os2) : Here p l e R s m args below meth c Z a0 y bytes ml ret dm fp T k2 n2 os2 := by
  subst h1 h2 h3
  exact A
theorem Here.more {k2 n2 : Nat} (A : Here p l e R s m args below meth c Z a0 y bytes ml ret dm fp T k n os) (h1 : k ≤ k2) (h2 : n ≤ n2) : Here p l e R s m args below meth c Z a0 y bytes ml ret dm fp T k2 n2 os := by
  obtain ⟨locs, X, r⟩ := A
  exact ⟨locs, X.more h1 h2, r⟩
theorem Here.irem {x z : Int32} (A : Here p l e R s m args below meth c Z a0 y bytes ml ret dm fp T k n os) (hd : decode bytes pc = .ok (.irem, 1)) (hz : z ≠ 0) {qn : Nat} (hq : pc + 1 = qn)
    (K : Wp p e below Z a0 dm fp R s Post T (mkF m qn Ls (.int (x % z) :: rest))) : Wp p e below Z a0 dm fp R s Post T (mkF m pc Ls (.int z :: .int x :: rest)) := by
  subst hq
  have q := irem_eq_mod x z
  exact Wp.go (fun t kt => XS.irem A.hr A.hx rfl (A.hb hd) rfl hz (by rw [q]; exact kt)) K
theorem lrem_eq (x z : Int64) : x - (x / z) * z = x % z := by
  apply Int64.toInt_inj.mp
  rw [Jvm.Kit.i64_rem, Int64.toInt_mod]
theorem Here.lrem {x z : Int64} (A : Here p l e R s m args below meth c Z a0 y bytes ml ret dm fp T k n os) (hd : decode bytes pc = .ok (.lrem, 1)) (hz : z ≠ 0) {qn : Nat} (hq : pc + 1 = qn)
    (K : Wp p e below Z a0 dm fp R s Post T (mkF m qn Ls (.long (x % z) :: rest))) : Wp p e below Z a0 dm fp R s Post T (mkF m pc Ls (.long z :: .long x :: rest)) := by
  subst hq
  have q := lrem_eq x z
  exact Wp.go (fun t kt => XS.lrem A.hr A.hx rfl (A.hb hd) rfl hz (by rw [q]; exact kt)) K
theorem Pays.of (hpl : plainFor y = true) (hef : ∀ m, entryFrame m args ml = mkF m 0 Ls [])
    (body : ∀ p e s m below meth c T, Here p l e R s m args below meth c Z a0 y bytes ml ret (os.map (·.1)) fp T 0 0 os → Wp p e below Z a0 (os.map (·.1)) fp R s Post T (mkF m 0 Ls [])) : Pays l Z a0 y bytes ml ret R args os fp Post := by
  intro ws h0 hq
  refine MetFree.of_bodySF hpl hisR ?_
  intro p e s m args' below meth c s₁ Bd hml0 hP hK
  obtain ⟨rfl, hZ, hh⟩ := hP
  have X0 : Stand p l e R s m args' below meth c s₁ [] 0 0 := Stand.of_body Bd
  have e0 : s₁.heap = s.heap := by rw [Bd.state]; rfl
  subst hh
  obtain ⟨s₂, o, h1, h2, h3, h4⟩ := body p e s m below meth c s₁ ⟨[], X0, fun _ q => (nomatch q), by rw [e0]; exact Hp.start hq, Bd.exec, hZ, Bd.bytes, hml0, findClass_of_methodNamed Bd.named, (name_of_methodNamed Bd.named Bd.method).1, Bd.returns, Bd.notSynchronized⟩
  exact ⟨s₂, o, castTop (hef m) h1, h2, h3, h4⟩
theorem Here.fin {v : Option Value} {g : JFrame} (A : Here p l e R s m args below meth c Z a0 y bytes ml ret dm fp T k n os) (hv : ret = none → v = none) (hk : k ≤ R.cells) (hn : n ≤ R.slots) (hP : Post v os)
    (hs : ∀ (locs : List Loc), Stand p l e R s m args below meth c T locs k n → meth.sig.returnType = ret → ∀ fs : List Frame, (∀ (f : JFrame) (acts : List Action), f.method = m → f.locked = none → f.entered = [] → (doReturn e (T.setTop f) acts v).1 = T.setFrames fs) → Steps p.tables e below (T.setTop g) (T.setFrames fs)) :
    Wp p e below Z a0 dm fp R s Post T g := by
  obtain ⟨locs, X, N, H, hx, hZ, hb, hml, hown, hnm, hret, hlk⟩ := A
  obtain ⟨fs, hr, hrun, hended, hW, hsame⟩ := X.leave (v := v) (fun h => hv (hret ▸ h)) hlk
  exact ⟨_, _, hs locs X hret fs hr, hrun, hended, v, locs, rfl, ⟨N, os, H, hP⟩, ⟨_, rfl⟩, hW, hsame.mono hk hn⟩
theorem Here.retV (A : Here p l e R s m args below meth c Z a0 y bytes ml none dm fp T k n os) (hd : decode bytes pc = .ok (.return_, 1)) (hk : k ≤ R.cells) (hn : n ≤ R.slots) (hP : Post none os) : Wp p e below Z a0 dm fp R s Post T (mkF m pc Ls []) :=
  A.fin (v := none) (fun _ => rfl) hk hn hP fun _ X hret _ hr => X.returnOut A.hx hret (A.hb hd) hr
theorem Here.retT {w : Value} {t : FieldType} {i : Instr} (A : Here p l e R s m args below meth c Z a0 y bytes ml (some t) dm fp T k n os) (hd : decode bytes pc = .ok (i, 1)) (hw : narrow t w = w)
    (hi : (i = .ireturn ∧ (t = .int ∨ t = .boolean ∨ t = .byte ∨ t = .char ∨ t = .short) ∧ ∃ z, w = .int z) ∨ (i = .lreturn ∧ t = .long ∧ ∃ z, w = .long z) ∨ (i = .dreturn ∧ t = .double ∧ ∃ z, w = .double z) ∨ (i = .freturn ∧ t = .float ∧ ∃ z, w = .float z) ∨ (i = .areturn ∧ t.isReference = true ∧ w.isRef = true))
    (hk : k ≤ R.cells) (hn : n ≤ R.slots) (hP : Post (some w) os) : Wp p e below Z a0 dm fp R s Post T (mkF m pc Ls (w :: rest)) :=
  A.fin (v := some w) (fun h => by cases h) hk hn hP fun _ X hret _ hr => retOut X A.hx hret hw hi (A.hb hd) hr
theorem Here.retI {z : Int32} (A : Here p l e R s m args below meth c Z a0 y bytes ml (some .int) dm fp T k n os) (hd : decode bytes pc = .ok (.ireturn, 1)) (hk : k ≤ R.cells) (hn : n ≤ R.slots) (hP : Post (some (.int z)) os) : Wp p e below Z a0 dm fp R s Post T (mkF m pc Ls (.int z :: rest)) :=
  A.retT hd rfl (Or.inl ⟨rfl, Or.inl rfl, z, rfl⟩) hk hn hP
theorem Here.retJ {z : Int64} (A : Here p l e R s m args below meth c Z a0 y bytes ml (some .long) dm fp T k n os) (hd : decode bytes pc = .ok (.lreturn, 1)) (hk : k ≤ R.cells) (hn : n ≤ R.slots) (hP : Post (some (.long z)) os) : Wp p e below Z a0 dm fp R s Post T (mkF m pc Ls (.long z :: rest)) :=
  A.retT hd rfl (Or.inr (Or.inl ⟨rfl, rfl, z, rfl⟩)) hk hn hP
theorem Here.retR {a : Addr} {t : FieldType} (A : Here p l e R s m args below meth c Z a0 y bytes ml (some t) dm fp T k n os) (hd : decode bytes pc = .ok (.areturn, 1)) (ht : t.isReference = true) (hk : k ≤ R.cells) (hn : n ≤ R.slots) (hP : Post (some (.ref a)) os) : Wp p e below Z a0 dm fp R s Post T (mkF m pc Ls (.ref a :: rest)) :=
  A.retT hd (by cases t <;> first | rfl | (cases ht)) (Or.inr (Or.inr (Or.inr (Or.inr ⟨rfl, ht, rfl⟩)))) hk hn hP
/-- of a boolean, byte, char, short: what comes out is narrowed -/
theorem Here.retN {z : Int32} {t : FieldType} (A : Here p l e R s m args below meth c Z a0 y bytes ml (some t) dm fp T k n os) (ht : t = .boolean ∨ t = .byte ∨ t = .char ∨ t = .short) (hd : decode bytes pc = .ok (.ireturn, 1)) (hk : k ≤ R.cells) (hn : n ≤ R.slots) (hP : Post (some (.int (nar t z))) os) : Wp p e below Z a0 dm fp R s Post T (mkF m pc Ls (.int z :: rest)) :=
  A.fin (v := some (.int (nar t z))) (fun h => by cases h) hk hn hP fun _ X hret _ hr => RoadKit.retN X A.hx hret ht (A.hb hd) hr
/-! single instructions (printed by mkops.py) -/
theorem Here.iloadN {j : Fin 4} {v : Int32} {q : Nat} (A : Here p l e R s m args below meth c Z a0 y bytes ml ret dm fp T k n os) (hd : decode bytes pc = .ok (.iload_n j, 1)) (hl : Ls[j.val]? = some (.val (.int v))) (hq : pc + 1 = q) (K : Wp p e below Z a0 dm fp R s Post T (mkF m q Ls (.int v :: st))) : Wp p e below Z a0 dm fp R s Post T (mkF m pc Ls st) := by
  subst hq
  exact Wp.go (fun t kt => XS.iloadN A.hr A.hx rfl (A.hb hd) hl kt) K
theorem Here.iload {j : Nat} {v : Int32} {q : Nat} (A : Here p l e R s m args below meth c Z a0 y bytes ml ret dm fp T k n os) (hd : decode bytes pc = .ok (.iload j, 2)) (hl : Ls[j]? = some (.val (.int v))) (hq : pc + 2 = q) (K : Wp p e below Z a0 dm fp R s Post T (mkF m q Ls (.int v :: st))) : Wp p e below Z a0 dm fp R s Post T (mkF m pc Ls st) := by
  subst hq
  exact Wp.go (fun t kt => XS.iload A.hr A.hx rfl (A.hb hd) hl kt) K
theorem Here.istoreN {j : Fin 4} {v : Int32} {l' : Array Slot} {q : Nat} (A : Here p l e R s m args below meth c Z a0 y bytes ml ret dm fp T k n os) (hd : decode bytes pc = .ok (.istore_n j, 1)) (hl : storeLocals Ls j.val (.int v) = some l') (hq : pc + 1 = q) (K : Wp p e below Z a0 dm fp R s Post T (mkF m q l' rest)) : Wp p e below Z a0 dm fp R s Post T (mkF m pc Ls (.int v :: rest)) := by
  subst hq
  exact Wp.go (fun t kt => XS.istoreN A.hr A.hx rfl (A.hb hd) rfl hl kt) K
theorem Here.istore {j : Nat} {v : Int32} {l' : Array Slot} {q : Nat} (A : Here p l e R s m args below meth c Z a0 y bytes ml ret dm fp T k n os) (hd : decode bytes pc = .ok (.istore j, 2)) (hl : storeLocals Ls j (.int v) = some l') (hq : pc + 2 = q) (K : Wp p e below Z a0 dm fp R s Post T (mkF m q l' rest)) : Wp p e below Z a0 dm fp R s Post T (mkF m pc Ls (.int v :: rest)) := by
  subst hq
  exact Wp.go (fun t kt => XS.istore A.hr A.hx rfl (A.hb hd) rfl hl kt) K
theorem Here.lloadN {j : Fin 4} {v : Int64} {q : Nat} (A : Here p l e R s m args below meth c Z a0 y bytes ml ret dm fp T k n os) (hd : decode bytes pc = .ok (.lload_n j, 1)) (hl : Ls[j.val]? = some (.val (.long v))) (hq : pc + 1 = q) (K : Wp p e below Z a0 dm fp R s Post T (mkF m q Ls (.long v :: st))) : Wp p e below Z a0 dm fp R s Post T (mkF m pc Ls st) := by
  subst hq
  exact Wp.go (fun t kt => XS.lloadN A.hr A.hx rfl (A.hb hd) hl kt) K
theorem Here.lload {j : Nat} {v : Int64} {q : Nat} (A : Here p l e R s m args below meth c Z a0 y bytes ml ret dm fp T k n os) (hd : decode bytes pc = .ok (.lload j, 2)) (hl : Ls[j]? = some (.val (.long v))) (hq : pc + 2 = q) (K : Wp p e below Z a0 dm fp R s Post T (mkF m q Ls (.long v :: st))) : Wp p e below Z a0 dm fp R s Post T (mkF m pc Ls st) := by
  subst hq
  exact Wp.go (fun t kt => XS.lload A.hr A.hx rfl (A.hb hd) hl kt) K
theorem Here.lstoreN {j : Fin 4} {v : Int64} {l' : Array Slot} {q : Nat} (A : Here p l e R s m args below meth c Z a0 y bytes ml ret dm fp T k n os) (hd : decode bytes pc = .ok (.lstore_n j, 1)) (hl : storeLocals Ls j.val (.long v) = some l') (hq : pc + 1 = q) (K : Wp p e below Z a0 dm fp R s Post T (mkF m q l' rest)) : Wp p e below Z a0 dm fp R s Post T (mkF m pc Ls (.long v :: rest)) := by
  subst hq
  exact Wp.go (fun t kt => XS.lstoreN A.hr A.hx rfl (A.hb hd) rfl hl kt) K
theorem Here.lstore {j : Nat} {v : Int64} {l' : Array Slot} {q : Nat} (A : Here p l e R s m args below meth c Z a0 y bytes ml ret dm fp T k n os) (hd : decode bytes pc = .ok (.lstore j, 2)) (hl : storeLocals Ls j (.long v) = some l') (hq : pc + 2 = q) (K : Wp p e below Z a0 dm fp R s Post T (mkF m q l' rest)) : Wp p e below Z a0 dm fp R s Post T (mkF m pc Ls (.long v :: rest)) := by
  subst hq
  exact Wp.go (fun t kt => XS.lstore A.hr A.hx rfl (A.hb hd) rfl hl kt) K
theorem Here.aloadN {j : Fin 4} {v : Value} {q : Nat} (A : Here p l e R s m args below meth c Z a0 y bytes ml ret dm fp T k n os) (hd : decode bytes pc = .ok (.aload_n j, 1)) (hl : Ls[j.val]? = some (.val v)) (hv : v.isRef = true) (hq : pc + 1 = q) (K : Wp p e below Z a0 dm fp R s Post T (mkF m q Ls (v :: st))) : Wp p e below Z a0 dm fp R s Post T (mkF m pc Ls st) := by
  subst hq
  exact Wp.go (fun t kt => XS.aloadN A.hr A.hx rfl (A.hb hd) hl hv kt) K
theorem Here.aload {j : Nat} {v : Value} {q : Nat} (A : Here p l e R s m args below meth c Z a0 y bytes ml ret dm fp T k n os) (hd : decode bytes pc = .ok (.aload j, 2)) (hl : Ls[j]? = some (.val v)) (hv : v.isRef = true) (hq : pc + 2 = q) (K : Wp p e below Z a0 dm fp R s Post T (mkF m q Ls (v :: st))) : Wp p e below Z a0 dm fp R s Post T (mkF m pc Ls st) := by
  subst hq
  exact Wp.go (fun t kt => XS.aload A.hr A.hx rfl (A.hb hd) hl hv kt) K
theorem Here.astoreN {j : Fin 4} {v : Value} {l' : Array Slot} {q : Nat} (A : Here p l e R s m args below meth c Z a0 y bytes ml ret dm fp T k n os) (hd : decode bytes pc = .ok (.astore_n j, 1)) (hv : v.isRef = true) (hl : storeLocals Ls j.val v = some l') (hq : pc + 1 = q) (K : Wp p e below Z a0 dm fp R s Post T (mkF m q l' rest)) : Wp p e below Z a0 dm fp R s Post T (mkF m pc Ls (v :: rest)) := by
  subst hq
  exact Wp.go (fun t kt => XS.astoreN A.hr A.hx rfl (A.hb hd) rfl hv hl kt) K
theorem Here.astore {j : Nat} {v : Value} {l' : Array Slot} {q : Nat} (A : Here p l e R s m args below meth c Z a0 y bytes ml ret dm fp T k n os) (hd : decode bytes pc = .ok (.astore j, 2)) (hv : v.isRef = true) (hl : storeLocals Ls j v = some l') (hq : pc + 2 = q) (K : Wp p e below Z a0 dm fp R s Post T (mkF m q l' rest)) : Wp p e below Z a0 dm fp R s Post T (mkF m pc Ls (v :: rest)) := by
  subst hq
  exact Wp.go (fun t kt => XS.astore A.hr A.hx rfl (A.hb hd) rfl hv hl kt) K
theorem Here.iconst {i : Int} {v : Int32} {q : Nat} (A : Here p l e R s m args below meth c Z a0 y bytes ml ret dm fp T k n os) (hd : decode bytes pc = .ok (.iconst i, 1)) (hv : Int32.ofInt i = v) (hq : pc + 1 = q) (K : Wp p e below Z a0 dm fp R s Post T (mkF m q Ls (.int v :: st))) : Wp p e below Z a0 dm fp R s Post T (mkF m pc Ls st) := by
  subst hq hv
  exact Wp.go (fun t kt => XS.iconst A.hr A.hx rfl (A.hb hd) kt) K
theorem Here.bipush {i : Int} {v : Int32} {q : Nat} (A : Here p l e R s m args below meth c Z a0 y bytes ml ret dm fp T k n os) (hd : decode bytes pc = .ok (.bipush i, 2)) (hv : (Int8.ofInt i).toInt32 = v) (hq : pc + 2 = q) (K : Wp p e below Z a0 dm fp R s Post T (mkF m q Ls (.int v :: st))) : Wp p e below Z a0 dm fp R s Post T (mkF m pc Ls st) := by
  subst hq hv
  exact Wp.go (fun t kt => XS.bipush A.hr A.hx rfl (A.hb hd) kt) K
theorem Here.sipush {i : Int} {v : Int32} {q : Nat} (A : Here p l e R s m args below meth c Z a0 y bytes ml ret dm fp T k n os) (hd : decode bytes pc = .ok (.sipush i, 3)) (hv : (Int16.ofInt i).toInt32 = v) (hq : pc + 3 = q) (K : Wp p e below Z a0 dm fp R s Post T (mkF m q Ls (.int v :: st))) : Wp p e below Z a0 dm fp R s Post T (mkF m pc Ls st) := by
  subst hq hv
  exact Wp.go (fun t kt => XS.sipush A.hr A.hx rfl (A.hb hd) kt) K
theorem Here.lconst {i : Fin 2} {v : Int64} {q : Nat} (A : Here p l e R s m args below meth c Z a0 y bytes ml ret dm fp T k n os) (hd : decode bytes pc = .ok (.lconst i, 1)) (hv : Int64.ofNat i.val = v) (hq : pc + 1 = q) (K : Wp p e below Z a0 dm fp R s Post T (mkF m q Ls (.long v :: st))) : Wp p e below Z a0 dm fp R s Post T (mkF m pc Ls st) := by
  subst hq hv
  exact Wp.go (fun t kt => XS.lconst A.hr A.hx rfl (A.hb hd) kt) K
theorem Here.aconstNull  {q : Nat} (A : Here p l e R s m args below meth c Z a0 y bytes ml ret dm fp T k n os) (hd : decode bytes pc = .ok (.aconst_null, 1)) (hq : pc + 1 = q) (K : Wp p e below Z a0 dm fp R s Post T (mkF m q Ls (.null :: st))) : Wp p e below Z a0 dm fp R s Post T (mkF m pc Ls st) := by
  subst hq
  exact Wp.go (fun t kt => XS.aconstNull A.hr A.hx rfl (A.hb hd)  kt) K
theorem Here.iadd {x z : Int32} {q : Nat} (A : Here p l e R s m args below meth c Z a0 y bytes ml ret dm fp T k n os) (hd : decode bytes pc = .ok (.iadd, 1)) (hq : pc + 1 = q) (K : Wp p e below Z a0 dm fp R s Post T (mkF m q Ls (.int (x + z) :: rest))) : Wp p e below Z a0 dm fp R s Post T (mkF m pc Ls (.int z :: .int x :: rest)) := by
  subst hq
  exact Wp.go (fun t kt => XS.iadd A.hr A.hx rfl (A.hb hd) rfl kt) K
theorem Here.ladd {x z : Int64} {q : Nat} (A : Here p l e R s m args below meth c Z a0 y bytes ml ret dm fp T k n os) (hd : decode bytes pc = .ok (.ladd, 1)) (hq : pc + 1 = q) (K : Wp p e below Z a0 dm fp R s Post T (mkF m q Ls (.long (x + z) :: rest))) : Wp p e below Z a0 dm fp R s Post T (mkF m pc Ls (.long z :: .long x :: rest)) := by
  subst hq
  exact Wp.go (fun t kt => XS.ladd A.hr A.hx rfl (A.hb hd) rfl kt) K
theorem Here.isub {x z : Int32} {q : Nat} (A : Here p l e R s m args below meth c Z a0 y bytes ml ret dm fp T k n os) (hd : decode bytes pc = .ok (.isub, 1)) (hq : pc + 1 = q) (K : Wp p e below Z a0 dm fp R s Post T (mkF m q Ls (.int (x - z) :: rest))) : Wp p e below Z a0 dm fp R s Post T (mkF m pc Ls (.int z :: .int x :: rest)) := by
  subst hq
  exact Wp.go (fun t kt => XS.isub A.hr A.hx rfl (A.hb hd) rfl kt) K
theorem Here.lsub {x z : Int64} {q : Nat} (A : Here p l e R s m args below meth c Z a0 y bytes ml ret dm fp T k n os) (hd : decode bytes pc = .ok (.lsub, 1)) (hq : pc + 1 = q) (K : Wp p e below Z a0 dm fp R s Post T (mkF m q Ls (.long (x - z) :: rest))) : Wp p e below Z a0 dm fp R s Post T (mkF m pc Ls (.long z :: .long x :: rest)) := by
  subst hq
  exact Wp.go (fun t kt => XS.lsub A.hr A.hx rfl (A.hb hd) rfl kt) K
theorem Here.imul {x z : Int32} {q : Nat} (A : Here p l e R s m args below meth c Z a0 y bytes ml ret dm fp T k n os) (hd : decode bytes pc = .ok (.imul, 1)) (hq : pc + 1 = q) (K : Wp p e below Z a0 dm fp R s Post T (mkF m q Ls (.int (x * z) :: rest))) : Wp p e below Z a0 dm fp R s Post T (mkF m pc Ls (.int z :: .int x :: rest)) := by
  subst hq
  exact Wp.go (fun t kt => XS.imul A.hr A.hx rfl (A.hb hd) rfl kt) K
theorem Here.lmul {x z : Int64} {q : Nat} (A : Here p l e R s m args below meth c Z a0 y bytes ml ret dm fp T k n os) (hd : decode bytes pc = .ok (.lmul, 1)) (hq : pc + 1 = q) (K : Wp p e below Z a0 dm fp R s Post T (mkF m q Ls (.long (x * z) :: rest))) : Wp p e below Z a0 dm fp R s Post T (mkF m pc Ls (.long z :: .long x :: rest)) := by
  subst hq
  exact Wp.go (fun t kt => XS.lmul A.hr A.hx rfl (A.hb hd) rfl kt) K
theorem Here.iand {x z : Int32} {q : Nat} (A : Here p l e R s m args below meth c Z a0 y bytes ml ret dm fp T k n os) (hd : decode bytes pc = .ok (.iand, 1)) (hq : pc + 1 = q) (K : Wp p e below Z a0 dm fp R s Post T (mkF m q Ls (.int (x &&& z) :: rest))) : Wp p e below Z a0 dm fp R s Post T (mkF m pc Ls (.int z :: .int x :: rest)) := by
  subst hq
  exact Wp.go (fun t kt => XS.iand A.hr A.hx rfl (A.hb hd) rfl kt) K
theorem Here.land {x z : Int64} {q : Nat} (A : Here p l e R s m args below meth c Z a0 y bytes ml ret dm fp T k n os) (hd : decode bytes pc = .ok (.land, 1)) (hq : pc + 1 = q) (K : Wp p e below Z a0 dm fp R s Post T (mkF m q Ls (.long (x &&& z) :: rest))) : Wp p e below Z a0 dm fp R s Post T (mkF m pc Ls (.long z :: .long x :: rest)) := by
  subst hq
  exact Wp.go (fun t kt => XS.land A.hr A.hx rfl (A.hb hd) rfl kt) K
theorem Here.ior {x z : Int32} {q : Nat} (A : Here p l e R s m args below meth c Z a0 y bytes ml ret dm fp T k n os) (hd : decode bytes pc = .ok (.ior, 1)) (hq : pc + 1 = q) (K : Wp p e below Z a0 dm fp R s Post T (mkF m q Ls (.int (x ||| z) :: rest))) : Wp p e below Z a0 dm fp R s Post T (mkF m pc Ls (.int z :: .int x :: rest)) := by
  subst hq
  exact Wp.go (fun t kt => XS.ior A.hr A.hx rfl (A.hb hd) rfl kt) K
theorem Here.lor {x z : Int64} {q : Nat} (A : Here p l e R s m args below meth c Z a0 y bytes ml ret dm fp T k n os) (hd : decode bytes pc = .ok (.lor, 1)) (hq : pc + 1 = q) (K : Wp p e below Z a0 dm fp R s Post T (mkF m q Ls (.long (x ||| z) :: rest))) : Wp p e below Z a0 dm fp R s Post T (mkF m pc Ls (.long z :: .long x :: rest)) := by
  subst hq
  exact Wp.go (fun t kt => XS.lor A.hr A.hx rfl (A.hb hd) rfl kt) K
theorem Here.ixor {x z : Int32} {q : Nat} (A : Here p l e R s m args below meth c Z a0 y bytes ml ret dm fp T k n os) (hd : decode bytes pc = .ok (.ixor, 1)) (hq : pc + 1 = q) (K : Wp p e below Z a0 dm fp R s Post T (mkF m q Ls (.int (x ^^^ z) :: rest))) : Wp p e below Z a0 dm fp R s Post T (mkF m pc Ls (.int z :: .int x :: rest)) := by
  subst hq
  exact Wp.go (fun t kt => XS.ixor A.hr A.hx rfl (A.hb hd) rfl kt) K
theorem Here.lxor {x z : Int64} {q : Nat} (A : Here p l e R s m args below meth c Z a0 y bytes ml ret dm fp T k n os) (hd : decode bytes pc = .ok (.lxor, 1)) (hq : pc + 1 = q) (K : Wp p e below Z a0 dm fp R s Post T (mkF m q Ls (.long (x ^^^ z) :: rest))) : Wp p e below Z a0 dm fp R s Post T (mkF m pc Ls (.long z :: .long x :: rest)) := by
  subst hq
  exact Wp.go (fun t kt => XS.lxor A.hr A.hx rfl (A.hb hd) rfl kt) K
theorem Here.idiv {x z : Int32} {q : Nat} (A : Here p l e R s m args below meth c Z a0 y bytes ml ret dm fp T k n os) (hd : decode bytes pc = .ok (.idiv, 1)) (hz : z ≠ 0) (hq : pc + 1 = q) (K : Wp p e below Z a0 dm fp R s Post T (mkF m q Ls (.int (x / z) :: rest))) : Wp p e below Z a0 dm fp R s Post T (mkF m pc Ls (.int z :: .int x :: rest)) := by
  subst hq
  exact Wp.go (fun t kt => XS.idiv A.hr A.hx rfl (A.hb hd) rfl hz kt) K
theorem Here.ineg {x : Int32} {q : Nat} (A : Here p l e R s m args below meth c Z a0 y bytes ml ret dm fp T k n os) (hd : decode bytes pc = .ok (.ineg, 1)) (hq : pc + 1 = q) (K : Wp p e below Z a0 dm fp R s Post T (mkF m q Ls (.int (-x) :: rest))) : Wp p e below Z a0 dm fp R s Post T (mkF m pc Ls (.int x :: rest)) := by
  subst hq
  exact Wp.go (fun t kt => XS.ineg A.hr A.hx rfl (A.hb hd) rfl kt) K
theorem Here.ldiv {x z : Int64} {q : Nat} (A : Here p l e R s m args below meth c Z a0 y bytes ml ret dm fp T k n os) (hd : decode bytes pc = .ok (.ldiv, 1)) (hz : z ≠ 0) (hq : pc + 1 = q) (K : Wp p e below Z a0 dm fp R s Post T (mkF m q Ls (.long (x / z) :: rest))) : Wp p e below Z a0 dm fp R s Post T (mkF m pc Ls (.long z :: .long x :: rest)) := by
  subst hq
  exact Wp.go (fun t kt => XS.ldiv A.hr A.hx rfl (A.hb hd) rfl hz kt) K
theorem Here.lneg {x : Int64} {q : Nat} (A : Here p l e R s m args below meth c Z a0 y bytes ml ret dm fp T k n os) (hd : decode bytes pc = .ok (.lneg, 1)) (hq : pc + 1 = q) (K : Wp p e below Z a0 dm fp R s Post T (mkF m q Ls (.long (-x) :: rest))) : Wp p e below Z a0 dm fp R s Post T (mkF m pc Ls (.long x :: rest)) := by
  subst hq
  exact Wp.go (fun t kt => XS.lneg A.hr A.hx rfl (A.hb hd) rfl kt) K
theorem Here.i2l {x : Int32} {q : Nat} (A : Here p l e R s m args below meth c Z a0 y bytes ml ret dm fp T k n os) (hd : decode bytes pc = .ok (.i2l, 1)) (hq : pc + 1 = q) (K : Wp p e below Z a0 dm fp R s Post T (mkF m q Ls (.long (x.toInt64) :: rest))) : Wp p e below Z a0 dm fp R s Post T (mkF m pc Ls (.int x :: rest)) := by
  subst hq
  exact Wp.go (fun t kt => XS.i2l A.hr A.hx rfl (A.hb hd) rfl kt) K
theorem Here.l2i {x : Int64} {q : Nat} (A : Here p l e R s m args below meth c Z a0 y bytes ml ret dm fp T k n os) (hd : decode bytes pc = .ok (.l2i, 1)) (hq : pc + 1 = q) (K : Wp p e below Z a0 dm fp R s Post T (mkF m q Ls (.int (x.toInt32) :: rest))) : Wp p e below Z a0 dm fp R s Post T (mkF m pc Ls (.long x :: rest)) := by
  subst hq
  exact Wp.go (fun t kt => XS.l2i A.hr A.hx rfl (A.hb hd) rfl kt) K
theorem Here.i2b {x : Int32} {q : Nat} (A : Here p l e R s m args below meth c Z a0 y bytes ml ret dm fp T k n os) (hd : decode bytes pc = .ok (.i2b, 1)) (hq : pc + 1 = q) (K : Wp p e below Z a0 dm fp R s Post T (mkF m q Ls (.int (x.toInt8.toInt32) :: rest))) : Wp p e below Z a0 dm fp R s Post T (mkF m pc Ls (.int x :: rest)) := by
  subst hq
  exact Wp.go (fun t kt => XS.i2b A.hr A.hx rfl (A.hb hd) rfl kt) K
theorem Here.i2s {x : Int32} {q : Nat} (A : Here p l e R s m args below meth c Z a0 y bytes ml ret dm fp T k n os) (hd : decode bytes pc = .ok (.i2s, 1)) (hq : pc + 1 = q) (K : Wp p e below Z a0 dm fp R s Post T (mkF m q Ls (.int (x.toInt16.toInt32) :: rest))) : Wp p e below Z a0 dm fp R s Post T (mkF m pc Ls (.int x :: rest)) := by
  subst hq
  exact Wp.go (fun t kt => XS.i2s A.hr A.hx rfl (A.hb hd) rfl kt) K
theorem Here.i2c {x : Int32} {q : Nat} (A : Here p l e R s m args below meth c Z a0 y bytes ml ret dm fp T k n os) (hd : decode bytes pc = .ok (.i2c, 1)) (hq : pc + 1 = q) (K : Wp p e below Z a0 dm fp R s Post T (mkF m q Ls (.int (x.toUInt32.toUInt16.toUInt32.toInt32) :: rest))) : Wp p e below Z a0 dm fp R s Post T (mkF m pc Ls (.int x :: rest)) := by
  subst hq
  exact Wp.go (fun t kt => XS.i2c A.hr A.hx rfl (A.hb hd) rfl kt) K
theorem Here.ishl {x : Int32} {z : Int32} {q : Nat} (A : Here p l e R s m args below meth c Z a0 y bytes ml ret dm fp T k n os) (hd : decode bytes pc = .ok (.ishl, 1)) (hq : pc + 1 = q) (K : Wp p e below Z a0 dm fp R s Post T (mkF m q Ls (.int (x <<< (z &&& 31)) :: rest))) : Wp p e below Z a0 dm fp R s Post T (mkF m pc Ls (.int z :: .int x :: rest)) := by
  subst hq
  exact Wp.go (fun t kt => XS.ishl A.hr A.hx rfl (A.hb hd) rfl kt) K
theorem Here.ishr {x : Int32} {z : Int32} {q : Nat} (A : Here p l e R s m args below meth c Z a0 y bytes ml ret dm fp T k n os) (hd : decode bytes pc = .ok (.ishr, 1)) (hq : pc + 1 = q) (K : Wp p e below Z a0 dm fp R s Post T (mkF m q Ls (.int (x >>> (z &&& 31)) :: rest))) : Wp p e below Z a0 dm fp R s Post T (mkF m pc Ls (.int z :: .int x :: rest)) := by
  subst hq
  exact Wp.go (fun t kt => XS.ishr A.hr A.hx rfl (A.hb hd) rfl kt) K
theorem Here.iushr {x : Int32} {z : Int32} {q : Nat} (A : Here p l e R s m args below meth c Z a0 y bytes ml ret dm fp T k n os) (hd : decode bytes pc = .ok (.iushr, 1)) (hq : pc + 1 = q) (K : Wp p e below Z a0 dm fp R s Post T (mkF m q Ls (.int ((x.toUInt32 >>> (z &&& 31).toUInt32).toInt32) :: rest))) : Wp p e below Z a0 dm fp R s Post T (mkF m pc Ls (.int z :: .int x :: rest)) := by
  subst hq
  exact Wp.go (fun t kt => XS.iushr A.hr A.hx rfl (A.hb hd) rfl kt) K
theorem Here.lshl {x : Int64} {z : Int32} {q : Nat} (A : Here p l e R s m args below meth c Z a0 y bytes ml ret dm fp T k n os) (hd : decode bytes pc = .ok (.lshl, 1)) (hq : pc + 1 = q) (K : Wp p e below Z a0 dm fp R s Post T (mkF m q Ls (.long (x <<< (z &&& 0x3f).toInt64) :: rest))) : Wp p e below Z a0 dm fp R s Post T (mkF m pc Ls (.int z :: .long x :: rest)) := by
  subst hq
  exact Wp.go (fun t kt => XS.lshl A.hr A.hx rfl (A.hb hd) rfl kt) K
theorem Here.lshr {x : Int64} {z : Int32} {q : Nat} (A : Here p l e R s m args below meth c Z a0 y bytes ml ret dm fp T k n os) (hd : decode bytes pc = .ok (.lshr, 1)) (hq : pc + 1 = q) (K : Wp p e below Z a0 dm fp R s Post T (mkF m q Ls (.long (x >>> (z &&& 0x3f).toInt64) :: rest))) : Wp p e below Z a0 dm fp R s Post T (mkF m pc Ls (.int z :: .long x :: rest)) := by
  subst hq
  exact Wp.go (fun t kt => XS.lshr A.hr A.hx rfl (A.hb hd) rfl kt) K
theorem Here.lushr {x : Int64} {z : Int32} {q : Nat} (A : Here p l e R s m args below meth c Z a0 y bytes ml ret dm fp T k n os) (hd : decode bytes pc = .ok (.lushr, 1)) (hq : pc + 1 = q) (K : Wp p e below Z a0 dm fp R s Post T (mkF m q Ls (.long ((x.toUInt64 >>> (z &&& 0x3f).toInt64.toUInt64).toInt64) :: rest))) : Wp p e below Z a0 dm fp R s Post T (mkF m pc Ls (.int z :: .long x :: rest)) := by
  subst hq
  exact Wp.go (fun t kt => XS.lushr A.hr A.hx rfl (A.hb hd) rfl kt) K
theorem Here.lcmp {x z : Int64} {q : Nat} (A : Here p l e R s m args below meth c Z a0 y bytes ml ret dm fp T k n os) (hd : decode bytes pc = .ok (.lcmp, 1)) (hq : pc + 1 = q) (K : Wp p e below Z a0 dm fp R s Post T (mkF m q Ls (.int (lcmpW x z) :: rest))) : Wp p e below Z a0 dm fp R s Post T (mkF m pc Ls (.long z :: .long x :: rest)) := by
  subst hq
  exact Wp.go (fun t kt => XS.lcmp A.hr A.hx rfl (A.hb hd) rfl kt) K
theorem Here.iinc {j : Nat} {i : Int} {x : Int32} {l' : Array Slot} {q : Nat} (A : Here p l e R s m args below meth c Z a0 y bytes ml ret dm fp T k n os) (hd : decode bytes pc = .ok (.iinc j i, 3)) (hl : Ls[j]? = some (.val (.int x))) (hl' : storeLocals Ls j (.int (x + Int32.ofInt i)) = some l') (hq : pc + 3 = q) (K : Wp p e below Z a0 dm fp R s Post T (mkF m q l' st)) : Wp p e below Z a0 dm fp R s Post T (mkF m pc Ls st) := by
  subst hq
  exact Wp.go (fun t kt => XS.iinc A.hr A.hx rfl (A.hb hd) hl hl' kt) K
theorem Here.dup {v : Value} {q : Nat} (A : Here p l e R s m args below meth c Z a0 y bytes ml ret dm fp T k n os) (hd : decode bytes pc = .ok (.dup, 1)) (hv : v.category = 1) (hq : pc + 1 = q) (K : Wp p e below Z a0 dm fp R s Post T (mkF m q Ls (v :: v :: rest))) : Wp p e below Z a0 dm fp R s Post T (mkF m pc Ls (v :: rest)) := by
  subst hq
  exact Wp.go (fun t kt => XS.dup A.hr A.hx rfl (A.hb hd) rfl hv kt) K
theorem Here.pop {v : Value} {q : Nat} (A : Here p l e R s m args below meth c Z a0 y bytes ml ret dm fp T k n os) (hd : decode bytes pc = .ok (.pop, 1)) (hv : v.category = 1) (hq : pc + 1 = q) (K : Wp p e below Z a0 dm fp R s Post T (mkF m q Ls rest)) : Wp p e below Z a0 dm fp R s Post T (mkF m pc Ls (v :: rest)) := by
  subst hq
  exact Wp.go (fun t kt => XS.pop A.hr A.hx rfl (A.hb hd) rfl hv kt) K
theorem Here.dup_x1 {v w : Value} {q : Nat} (A : Here p l e R s m args below meth c Z a0 y bytes ml ret dm fp T k n os) (hd : decode bytes pc = .ok (.dup_x1, 1)) (hv : v.category = 1) (hw : w.category = 1) (hq : pc + 1 = q) (K : Wp p e below Z a0 dm fp R s Post T (mkF m q Ls (v :: w :: v :: rest))) : Wp p e below Z a0 dm fp R s Post T (mkF m pc Ls (v :: w :: rest)) := by
  subst hq
  exact Wp.go (fun t kt => XS.dupX1 A.hr A.hx rfl (A.hb hd) rfl hv hw kt) K
theorem Here.dup2 {v w : Value} {q : Nat} (A : Here p l e R s m args below meth c Z a0 y bytes ml ret dm fp T k n os) (hd : decode bytes pc = .ok (.dup2, 1)) (hv : v.category = 1) (hw : w.category = 1) (hq : pc + 1 = q) (K : Wp p e below Z a0 dm fp R s Post T (mkF m q Ls (v :: w :: v :: w :: rest))) : Wp p e below Z a0 dm fp R s Post T (mkF m pc Ls (v :: w :: rest)) := by
  subst hq
  exact Wp.go (fun t kt => Jvm.Free.XT.dup2 A.hr A.hx rfl (A.hb hd) rfl hv hw kt) K
theorem Here.dup2L {x : Int64} {q : Nat} (A : Here p l e R s m args below meth c Z a0 y bytes ml ret dm fp T k n os) (hd : decode bytes pc = .ok (.dup2, 1)) (hq : pc + 1 = q) (K : Wp p e below Z a0 dm fp R s Post T (mkF m q Ls (.long x :: .long x :: rest))) : Wp p e below Z a0 dm fp R s Post T (mkF m pc Ls (.long x :: rest)) := by
  subst hq
  exact Wp.go (fun t kt => Jvm.Free.XT.dup2L A.hr A.hx rfl (A.hb hd) rfl kt) K
theorem Here.goto {o : Int} {q : Nat} (A : Here p l e R s m args below meth c Z a0 y bytes ml ret dm fp T k n os) (hd : decode bytes pc = .ok (.goto o, 3)) (ho : 0 ≤ (pc : Int) + o) (hq : ((pc : Int) + o).toNat = q) (K : Wp p e below Z a0 dm fp R s Post T (mkF m q Ls st)) : Wp p e below Z a0 dm fp R s Post T (mkF m pc Ls st) :=
  Wp.go (fun t kt => XS.goto A.hr A.hx rfl (pc0 := pc) (pc' := q) rfl (A.hb hd) ho hq kt) K
theorem Here.ifYes {cd : ClassFile.Cond} {o : Int} {x : Int32} {q : Nat} (A : Here p l e R s m args below meth c Z a0 y bytes ml ret dm fp T k n os) (hd : decode bytes pc = .ok (.ifCond cd o, 3)) (hc : ifCond.holds cd x = true) (ho : 0 ≤ (pc : Int) + o) (hq : ((pc : Int) + o).toNat = q) (K : Wp p e below Z a0 dm fp R s Post T (mkF m q Ls rest)) : Wp p e below Z a0 dm fp R s Post T (mkF m pc Ls (.int x :: rest)) :=
  Wp.go (fun t kt => XS.ifYes A.hr A.hx rfl (pc0 := pc) (pc' := q) rfl (A.hb hd) rfl hc ho hq kt) K
theorem Here.ifNo {cd : ClassFile.Cond} {o : Int} {x : Int32} {q : Nat} (A : Here p l e R s m args below meth c Z a0 y bytes ml ret dm fp T k n os) (hd : decode bytes pc = .ok (.ifCond cd o, 3)) (hc : ifCond.holds cd x = false) (hq : pc + 3 = q) (K : Wp p e below Z a0 dm fp R s Post T (mkF m q Ls rest)) : Wp p e below Z a0 dm fp R s Post T (mkF m pc Ls (.int x :: rest)) := by
  subst hq
  exact Wp.go (fun t kt => XS.ifNo A.hr A.hx rfl (A.hb hd) rfl hc kt) K
theorem Here.icmpYes {cd : ClassFile.Cond} {o : Int} {x z : Int32} {q : Nat} (A : Here p l e R s m args below meth c Z a0 y bytes ml ret dm fp T k n os) (hd : decode bytes pc = .ok (.if_icmp cd o, 3)) (hc : if_icmp.holds cd x z = true) (ho : 0 ≤ (pc : Int) + o) (hq : ((pc : Int) + o).toNat = q) (K : Wp p e below Z a0 dm fp R s Post T (mkF m q Ls rest)) : Wp p e below Z a0 dm fp R s Post T (mkF m pc Ls (.int z :: .int x :: rest)) :=
  Wp.go (fun t kt => XS.icmpYes A.hr A.hx rfl (pc0 := pc) (pc' := q) rfl (A.hb hd) rfl hc ho hq kt) K
theorem Here.icmpNo {cd : ClassFile.Cond} {o : Int} {x z : Int32} {q : Nat} (A : Here p l e R s m args below meth c Z a0 y bytes ml ret dm fp T k n os) (hd : decode bytes pc = .ok (.if_icmp cd o, 3)) (hc : if_icmp.holds cd x z = false) (hq : pc + 3 = q) (K : Wp p e below Z a0 dm fp R s Post T (mkF m q Ls rest)) : Wp p e below Z a0 dm fp R s Post T (mkF m pc Ls (.int z :: .int x :: rest)) := by
  subst hq
  exact Wp.go (fun t kt => XS.icmpNo A.hr A.hx rfl (A.hb hd) rfl hc kt) K
theorem Wp.top {v v' : Value} (h : v = v') (K : Wp p e below Z a0 dm fp R s Post T (mkF m pc Ls (v' :: st))) : Wp p e below Z a0 dm fp R s Post T (mkF m pc Ls (v :: st)) := by
  subst h
  exact K
/-! reads and writes -/
theorem Here.getF {O f d R0 : String} {idx i j : Nat} {a : Addr} {C : String} {fs : List Fd} {v : Value} (A : Here p l e R s m args below meth c Z a0 y bytes ml ret dm fp T k n os) (w : (Jvm.Cond.fieldLink y.cls idx R0 f d).before a0 Z = true) (via : Via Z R0 O f d) (hd : decode bytes pc = .ok (.getfield idx, 3)) (ho : os[i]? = some (a, .inl (C, fs))) (hj : fs[j]? = some (O, f, d, v)) {qn : Nat} (hq : pc + 3 = qn)
    (K : ∀ T', Here p l e R s m args below meth c Z a0 y bytes ml ret dm fp T' k n os → Wp p e below Z a0 dm fp R s Post T' (mkF m qn Ls (v :: rest))) : Wp p e below Z a0 dm fp R s Post T (mkF m pc Ls (.ref a :: rest)) := by
  subst hq
  have A' := A
  obtain ⟨locs, X, N, H, hx, hZ, hb, hml, hown, q⟩ := A
  obtain ⟨T1, X1, e1, st1⟩ := RoadKit.getF X hx hZ hown (host := "") (Or.inl w) via rfl (H.fld ho hj) (g := mkF m pc Ls (.ref a :: rest)) rfl rfl (A'.hb hd)
  exact Wp.go st1 (K T1 ⟨locs, X1, N, by rw [e1]; exact H, hx, hZ, hb, hml, hown, q⟩)
theorem Here.putF {O f d R0 : String} {idx i j kk : Nat} {a : Addr} {C : String} {fs : List Fd} {v old : Value} {ty : FieldType} (A : Here p l e R s m args below meth c Z a0 y bytes ml ret dm fp T k n os) (w : (Jvm.Cond.fieldLink y.cls idx R0 f d).before a0 Z = true) (via : Via Z R0 O f d)
    (hL : (Jvm.Cond.lays C O f d).before a0 Z = true ∨ ((Jvm.Cond.laysFinal C O f d).before a0 Z = true ∧ y.cls = O ∧ y.name = "<init>")) (wi : (Jvm.Cond.instantiable C kk).before a0 Z = true) (hty : parseFieldDescriptor d = some ty) (hnw : narrow ty v = v) (hf : fits ty v = true)
    (hd : decode bytes pc = .ok (.putfield idx, 3)) (ho : os[i]? = some (a, .inl (C, fs))) (hj : fs[j]? = some (O, f, d, old)) (hdf : dm = fp) {qn : Nat} (hq : pc + 3 = qn)
    (K : ∀ T', Here p l e R s m args below meth c Z a0 y bytes ml ret dm fp T' k n (os.set i (a, .inl (C, fs.set j (O, f, d, v)))) → Wp p e below Z a0 dm fp R s Post T' (mkF m qn Ls rest)) : Wp p e below Z a0 dm fp R s Post T (mkF m pc Ls (v :: .ref a :: rest)) := by
  subst hq
  have A' := A
  obtain ⟨locs, X, N, H, hx, hZ, hb, hml, hown, hnm, q⟩ := A
  have hD : Dm fp s.heap.size a := hdf ▸ H.2.1 _ (List.mem_of_getElem? ho)
  obtain ⟨T1, h1, X1, e1, W1, st1⟩ := RoadKit.putF X hx hZ hown (host := "") (Or.inl w) via rfl (H.fld ho hj) (H.exa ho) (hL.imp id fun z => ⟨z.1, z.2.1, hnm.trans z.2.2⟩) wi hty hnw hf (g := mkF m pc Ls (v :: .ref a :: rest)) rfl rfl (A'.hb hd)
  refine Wp.go st1 (K T1 ⟨_, X1, fun q hq => ?_, by rw [e1]; exact H.putf hD ho hj W1, hx, hZ, hb, hml, hown, hnm, q⟩)
  rcases List.mem_append.mp hq with hq | hq
  · exact N q hq
  · cases List.mem_singleton.mp hq; exact hD
theorem Here.putFN {O f d R0 : String} {idx i j kk : Nat} {a : Addr} {C : String} {fs : List Fd} {v v' old : Value} {ty : FieldType} (A : Here p l e R s m args below meth c Z a0 y bytes ml ret dm fp T k n os) (w : (Jvm.Cond.fieldLink y.cls idx R0 f d).before a0 Z = true) (via : Via Z R0 O f d)
    (hL : (Jvm.Cond.lays C O f d).before a0 Z = true ∨ ((Jvm.Cond.laysFinal C O f d).before a0 Z = true ∧ y.cls = O ∧ y.name = "<init>")) (wi : (Jvm.Cond.instantiable C kk).before a0 Z = true) (hty : parseFieldDescriptor d = some ty) (hnw : narrow ty v = v') (hf : fits ty v' = true)
    (hd : decode bytes pc = .ok (.putfield idx, 3)) (ho : os[i]? = some (a, .inl (C, fs))) (hj : fs[j]? = some (O, f, d, old)) (hdf : dm = fp) {qn : Nat} (hq : pc + 3 = qn)
    (K : ∀ T', Here p l e R s m args below meth c Z a0 y bytes ml ret dm fp T' k n (os.set i (a, .inl (C, fs.set j (O, f, d, v')))) → Wp p e below Z a0 dm fp R s Post T' (mkF m qn Ls rest)) : Wp p e below Z a0 dm fp R s Post T (mkF m pc Ls (v :: .ref a :: rest)) := by
  subst hq
  have A' := A
  obtain ⟨locs, X, N, H, hx, hZ, hb, hml, hown, hnm, q⟩ := A
  have hD : Dm fp s.heap.size a := hdf ▸ H.2.1 _ (List.mem_of_getElem? ho)
  obtain ⟨T1, h1, X1, e1, W1, st1⟩ := RoadKit.putFN X hx hZ hown w via rfl (H.fld ho hj) (H.exa ho) (hL.imp id fun z => ⟨z.1, z.2.1, hnm.trans z.2.2⟩) wi hty hnw hf (g := mkF m pc Ls (v :: .ref a :: rest)) rfl rfl (A'.hb hd)
  refine Wp.go st1 (K T1 ⟨_, X1, fun q hq => ?_, by rw [e1]; exact H.putf hD ho hj W1, hx, hZ, hb, hml, hown, hnm, q⟩)
  rcases List.mem_append.mp hq with hq | hq
  · exact N q hq
  · cases List.mem_singleton.mp hq; exact hD
theorem Here.newO {idx nn : Nat} {C : String} {fs : List Fd} (A : Here p l e R s m args below meth c Z a0 y bytes ml ret dm fp T k n os) (w : (Jvm.Cond.classLink y.cls idx C).before a0 Z = true) (wi : (Jvm.Cond.instantiable C nn).before a0 Z = true) (wz : (Jvm.Cond.initialized C).before a0 Z = true) (hd : decode bytes pc = .ok (.new idx, 3)) (hc : k + 1 ≤ R.cells) (hl : n + nn ≤ R.slots)
    (hnd : (fs.map (·.2.1)).Nodup) (hfs : ∀ q ∈ fs, Laid Z a0 C q.1 q.2.1 q.2.2.1 ∧ ∃ t, parseFieldDescriptor q.2.2.1 = some t ∧ q.2.2.2 = defaultValue t) {qn : Nat} (hq : pc + 3 = qn)
    (K : ∀ T' a, Here p l e R s m args below meth c Z a0 y bytes ml ret dm fp T' (k + 1) (n + nn) (os ++ [(a, .inl (C, fs))]) → Wp p e below Z a0 dm fp R s Post T' (mkF m qn Ls (.ref a :: st))) : Wp p e below Z a0 dm fp R s Post T (mkF m pc Ls st) := by
  subst hq
  have A' := A
  obtain ⟨locs, X, N, H, hx, hZ, hb, hml, hown, q⟩ := A
  obtain ⟨T1, h1, X1, e1, E1, A1, D1, -, st1⟩ := RoadKit.newO X hx hZ hown w wi wz rfl (g := mkF m pc Ls st) rfl (A'.hb hd) hc hl
  have F1 : ObAt Z a0 h1 T.heap.size (.inl (C, fs)) := ⟨A1, hnd, fun q hq => by
    obtain ⟨L, t, ht, hv⟩ := hfs q hq
    refine ⟨?_, L, t, ht⟩
    rw [hv]
    exact D1 L ht⟩
  exact Wp.go st1 (K T1 _ ⟨_, X1, N, by rw [e1]; exact H.push E1 F1, hx, hZ, hb, hml, hown, q⟩)
theorem Here.newP {aty : ArrayType} {z : Int32} {cap : Nat} (A : Here p l e R s m args below meth c Z a0 y bytes ml ret dm fp T k n os) (w : (Jvm.Cond.arrayClass (newarray.typeOf aty)).before a0 Z = true) (hd : decode bytes pc = .ok (.newarray aty, 2)) (hz : ¬ z < 0) (hcap : z.toNatClampNeg ≤ cap) (hb8 : cap * 8 ≤ 536870912) (hc : k + 1 ≤ R.cells) (hl : n + cap ≤ R.slots) {qn : Nat} (hq : pc + 2 = qn)
    (K : ∀ T' a, Here p l e R s m args below meth c Z a0 y bytes ml ret dm fp T' (k + 1) (n + cap) (os ++ [(a, .inr (newarray.typeOf aty, List.replicate z.toNatClampNeg (defaultValue (newarray.typeOf aty))))]) → Wp p e below Z a0 dm fp R s Post T' (mkF m qn Ls (.ref a :: st))) : Wp p e below Z a0 dm fp R s Post T (mkF m pc Ls (.int z :: st)) := by
  subst hq
  have A' := A
  obtain ⟨locs, X, N, H, hx, hZ, hb, hml, hown, q⟩ := A
  obtain ⟨T1, h1, cA, X1, e1, E1, A1, B1, st1⟩ := RoadKit.newPE X hx hZ w rfl (g := mkF m pc Ls (.int z :: st)) rfl (A'.hb hd) rfl hz hcap hb8 hc hl rfl
  have F1 : ObAt Z a0 h1 T.heap.size (.inr (newarray.typeOf aty, List.replicate z.toNatClampNeg (defaultValue (newarray.typeOf aty)))) := ⟨_, A1, by simp [newA], B1, fun v hv => by
    rw [(List.mem_replicate.mp hv).2]
    cases aty <;> rfl⟩
  exact Wp.go st1 (K T1 _ ⟨_, X1, N, by rw [e1]; exact H.push E1 F1, hx, hZ, hb, hml, hown, q⟩)
theorem inb {vs : List Value} {cl : Cell} {j : Int32} (e : cl.slots.toList = vs) (hj : ¬ j < 0) (hl : j.toNatClampNeg < vs.length) : ¬ (j < 0 ∨ cl.slots.size ≤ j.toNatClampNeg) := by
  subst e
  rw [Array.length_toList] at hl
  rintro (h | h)
  · exact hj h
  · exact absurd hl (Nat.not_lt.mpr h)
theorem Here.stOf {i : Nat} {a : Addr} {ty : FieldType} {vs : List Value} {j : Int32} {v : Value} {g : JFrame} (hf : fits ty v = true) (A : Here p l e R s m args below meth c Z a0 y bytes ml ret dm fp T k n os) (ho : os[i]? = some (a, .inr (ty, vs))) (hj : ¬ j < 0) (hl : j.toNatClampNeg < vs.length) (hdf : dm = fp)
    (S : ∀ (locs : List Loc) (cl : Cell), Stand p l e R s m args below meth c T locs k n → Arr Z T.heap a cl ty → ¬ (j < 0 ∨ cl.slots.size ≤ j.toNatClampNeg) → ∃ T' h', Stand p l e R s m args below meth c T' (locs ++ [⟨a, j.toNatClampNeg⟩]) k n ∧ T'.heap = h' ∧ Wr T.heap h' a j.toNatClampNeg v ∧ ∀ target, Steps p.tables e below (T'.setTop (mkF m (pc + 1) Ls rest)) target → Steps p.tables e below (T.setTop g) target)
    (K : ∀ T', Here p l e R s m args below meth c Z a0 y bytes ml ret dm fp T' k n (os.set i (a, .inr (ty, vs.set j.toNatClampNeg v))) → Wp p e below Z a0 dm fp R s Post T' (mkF m (pc + 1) Ls rest)) : Wp p e below Z a0 dm fp R s Post T g := by
  obtain ⟨locs, X, N, H, q⟩ := A
  obtain ⟨cl, Ar, ec⟩ := H.arr ho
  have hD : Dm fp s.heap.size a := hdf ▸ H.2.1 _ (List.mem_of_getElem? ho)
  obtain ⟨T1, h1, X1, e1, W1, st1⟩ := S locs cl X Ar (inb ec hj hl)
  refine Wp.go st1 (K T1 ⟨_, X1, fun q hq => ?_, by rw [e1]; exact H.puta hD hf ho W1, q⟩)
  rcases List.mem_append.mp hq with hq | hq
  · exact N q hq
  · cases List.mem_singleton.mp hq; exact hD
theorem Here.hz (A : Here p l e R s m args below meth c Z a0 y bytes ml ret dm fp T k n os) : Z.Warmed39 s.vm := by obtain ⟨_, -, -, -, -, hZ, -⟩ := A; exact hZ
theorem Here.stI {i : Nat} {a : Addr} {vs : List Value} {j x : Int32} (A : Here p l e R s m args below meth c Z a0 y bytes ml ret dm fp T k n os) (hd : decode bytes pc = .ok (.iastore, 1)) (ho : os[i]? = some (a, .inr (.int, vs))) (hj : ¬ j < 0) (hl : j.toNatClampNeg < vs.length) (hdf : dm = fp) {qn : Nat} (hq : pc + 1 = qn)
    (K : ∀ T', Here p l e R s m args below meth c Z a0 y bytes ml ret dm fp T' k n (os.set i (a, .inr (.int, vs.set j.toNatClampNeg (.int x)))) → Wp p e below Z a0 dm fp R s Post T' (mkF m qn Ls rest)) : Wp p e below Z a0 dm fp R s Post T (mkF m pc Ls (.int x :: .int j :: .ref a :: rest)) := by
  subst hq
  exact Here.stOf rfl A ho hj hl hdf (fun _ _ X Ar hin => RoadKit.stI X A.hx A.hz rfl Ar hin (g := mkF m pc Ls (.int x :: .int j :: .ref a :: rest)) rfl rfl (A.hb hd)) K
theorem Here.stJ {i : Nat} {a : Addr} {vs : List Value} {j : Int32} {x : Int64} (A : Here p l e R s m args below meth c Z a0 y bytes ml ret dm fp T k n os) (hd : decode bytes pc = .ok (.lastore, 1)) (ho : os[i]? = some (a, .inr (.long, vs))) (hj : ¬ j < 0) (hl : j.toNatClampNeg < vs.length) (hdf : dm = fp) {qn : Nat} (hq : pc + 1 = qn)
    (K : ∀ T', Here p l e R s m args below meth c Z a0 y bytes ml ret dm fp T' k n (os.set i (a, .inr (.long, vs.set j.toNatClampNeg (.long x)))) → Wp p e below Z a0 dm fp R s Post T' (mkF m qn Ls rest)) : Wp p e below Z a0 dm fp R s Post T (mkF m pc Ls (.long x :: .int j :: .ref a :: rest)) := by
  subst hq
  exact Here.stOf rfl A ho hj hl hdf (fun _ _ X Ar hin => RoadKit.stJ X A.hx A.hz rfl Ar hin (g := mkF m pc Ls (.long x :: .int j :: .ref a :: rest)) rfl rfl (A.hb hd)) K
theorem Here.stC {i : Nat} {a : Addr} {vs : List Value} {j x : Int32} (A : Here p l e R s m args below meth c Z a0 y bytes ml ret dm fp T k n os) (hd : decode bytes pc = .ok (.castore, 1)) (ho : os[i]? = some (a, .inr (.char, vs))) (hj : ¬ j < 0) (hl : j.toNatClampNeg < vs.length) (hdf : dm = fp) {qn : Nat} (hq : pc + 1 = qn)
    (K : ∀ T', Here p l e R s m args below meth c Z a0 y bytes ml ret dm fp T' k n (os.set i (a, .inr (.char, vs.set j.toNatClampNeg (.int (nar .char x))))) → Wp p e below Z a0 dm fp R s Post T' (mkF m qn Ls rest)) : Wp p e below Z a0 dm fp R s Post T (mkF m pc Ls (.int x :: .int j :: .ref a :: rest)) := by
  subst hq
  exact Here.stOf (fits_nar_char _) A ho hj hl hdf (fun _ _ X Ar hin => RoadKit.stC X A.hx A.hz rfl Ar hin (g := mkF m pc Ls (.int x :: .int j :: .ref a :: rest)) rfl rfl (A.hb hd)) K
theorem Here.stB {i : Nat} {a : Addr} {vs : List Value} {j x : Int32} (A : Here p l e R s m args below meth c Z a0 y bytes ml ret dm fp T k n os) (hd : decode bytes pc = .ok (.bastore, 1)) (ho : os[i]? = some (a, .inr (.byte, vs))) (hj : ¬ j < 0) (hl : j.toNatClampNeg < vs.length) (hdf : dm = fp) {qn : Nat} (hq : pc + 1 = qn)
    (K : ∀ T', Here p l e R s m args below meth c Z a0 y bytes ml ret dm fp T' k n (os.set i (a, .inr (.byte, vs.set j.toNatClampNeg (.int (nar .byte x))))) → Wp p e below Z a0 dm fp R s Post T' (mkF m qn Ls rest)) : Wp p e below Z a0 dm fp R s Post T (mkF m pc Ls (.int x :: .int j :: .ref a :: rest)) := by
  subst hq
  exact Here.stOf (fits_nar_byte _) A ho hj hl hdf (fun _ _ X Ar hin => RoadKit.stB X A.hx A.hz rfl Ar hin (g := mkF m pc Ls (.int x :: .int j :: .ref a :: rest)) rfl rfl (A.hb hd)) K
theorem Here.ldOf {i : Nat} {a : Addr} {ty : FieldType} {vs : List Value} {j : Int32} {v : Value} {g g' : JFrame} (A : Here p l e R s m args below meth c Z a0 y bytes ml ret dm fp T k n os) (ho : os[i]? = some (a, .inr (ty, vs))) (hj : ¬ j < 0) (hv : vs[j.toNatClampNeg]? = some v)
    (S : ∀ (locs : List Loc) (cl : Cell), Stand p l e R s m args below meth c T locs k n → T.heap[a]? = some cl → s.isArrayOf cl ty → cl.vm ≠ .unknown → ¬ (j < 0 ∨ cl.slots.size ≤ j.toNatClampNeg) → cl.slots[j.toNatClampNeg]? = some v → ∀ target, Steps p.tables e below (T.setTop g') target → Steps p.tables e below (T.setTop g) target)
    (K : Wp p e below Z a0 dm fp R s Post T g') : Wp p e below Z a0 dm fp R s Post T g := by
  have hz := A.hz
  obtain ⟨locs, X, N, H, q⟩ := A
  obtain ⟨cl, Ar, ec⟩ := H.arr ho
  refine Wp.go (S locs cl X Ar.1 (State.isArrayOf_alike hz.alike Ar.2.1) Ar.2.2 (inb ec hj (List.getElem?_eq_some_iff.mp hv).1) ?_) K
  rw [← ec, Array.getElem?_toList] at hv
  exact hv
theorem Here.ldI {i : Nat} {a : Addr} {vs : List Value} {j : Int32} {v : Value} (A : Here p l e R s m args below meth c Z a0 y bytes ml ret dm fp T k n os) (hd : decode bytes pc = .ok (.iaload, 1)) (ho : os[i]? = some (a, .inr (.int, vs))) (hj : ¬ j < 0) (hv : vs[j.toNatClampNeg]? = some v) {qn : Nat} (hq : pc + 1 = qn)
    (K : Wp p e below Z a0 dm fp R s Post T (mkF m qn Ls (v :: rest))) : Wp p e below Z a0 dm fp R s Post T (mkF m pc Ls (.int j :: .ref a :: rest)) := by
  subst hq
  exact A.ldOf ho hj hv (fun _ _ X h1 h2 h3 h4 h5 t kt => X.iaload A.hx h1 h2 h3 h4 h5 (g := mkF m pc Ls (.int j :: .ref a :: rest)) rfl rfl (A.hb hd) t kt) K
theorem Here.ldJ {i : Nat} {a : Addr} {vs : List Value} {j : Int32} {v : Value} (A : Here p l e R s m args below meth c Z a0 y bytes ml ret dm fp T k n os) (hd : decode bytes pc = .ok (.laload, 1)) (ho : os[i]? = some (a, .inr (.long, vs))) (hj : ¬ j < 0) (hv : vs[j.toNatClampNeg]? = some v) {qn : Nat} (hq : pc + 1 = qn)
    (K : Wp p e below Z a0 dm fp R s Post T (mkF m qn Ls (v :: rest))) : Wp p e below Z a0 dm fp R s Post T (mkF m pc Ls (.int j :: .ref a :: rest)) := by
  subst hq
  exact A.ldOf ho hj hv (fun _ _ X h1 h2 h3 h4 h5 t kt => X.laload A.hx h1 h2 h3 h4 h5 (g := mkF m pc Ls (.int j :: .ref a :: rest)) rfl rfl (A.hb hd) t kt) K
theorem Here.ldC {i : Nat} {a : Addr} {vs : List Value} {j : Int32} {v : Value} (A : Here p l e R s m args below meth c Z a0 y bytes ml ret dm fp T k n os) (hd : decode bytes pc = .ok (.caload, 1)) (ho : os[i]? = some (a, .inr (.char, vs))) (hj : ¬ j < 0) (hv : vs[j.toNatClampNeg]? = some v) {qn : Nat} (hq : pc + 1 = qn)
    (K : Wp p e below Z a0 dm fp R s Post T (mkF m qn Ls (v :: rest))) : Wp p e below Z a0 dm fp R s Post T (mkF m pc Ls (.int j :: .ref a :: rest)) := by
  subst hq
  exact A.ldOf ho hj hv (fun _ _ X h1 h2 h3 h4 h5 t kt => X.caload A.hx h1 h2 h3 h4 h5 (g := mkF m pc Ls (.int j :: .ref a :: rest)) rfl rfl (A.hb hd) t kt) K
theorem Here.ldB {i : Nat} {a : Addr} {vs : List Value} {j : Int32} {v : Value} (A : Here p l e R s m args below meth c Z a0 y bytes ml ret dm fp T k n os) (hd : decode bytes pc = .ok (.baload, 1)) (ho : os[i]? = some (a, .inr (.byte, vs))) (hj : ¬ j < 0) (hv : vs[j.toNatClampNeg]? = some v) {qn : Nat} (hq : pc + 1 = qn)
    (K : Wp p e below Z a0 dm fp R s Post T (mkF m qn Ls (v :: rest))) : Wp p e below Z a0 dm fp R s Post T (mkF m pc Ls (.int j :: .ref a :: rest)) := by
  subst hq
  exact A.ldOf ho hj hv (fun _ _ X h1 h2 h3 h4 h5 t kt => X.baloadBytes A.hx h1 h2 h3 h4 h5 (g := mkF m pc Ls (.int j :: .ref a :: rest)) rfl rfl (A.hb hd) t kt) K
theorem Here.len {i : Nat} {a : Addr} {ty : FieldType} {vs : List Value} {z : Int32} (A : Here p l e R s m args below meth c Z a0 y bytes ml ret dm fp T k n os) (hd : decode bytes pc = .ok (.arraylength, 1)) (ho : os[i]? = some (a, .inr (ty, vs))) (hz : vs.length.toInt32 = z) {qn : Nat} (hq : pc + 1 = qn)
    (K : Wp p e below Z a0 dm fp R s Post T (mkF m qn Ls (.int z :: rest))) : Wp p e below Z a0 dm fp R s Post T (mkF m pc Ls (.ref a :: rest)) := by
  subst hq
  have A' := A
  obtain ⟨locs, X, N, H, q⟩ := A
  obtain ⟨cl, Ar, ec⟩ := H.arr ho
  subst hz
  rw [← ec, Array.length_toList] at K
  exact Wp.go (fun t kt => X.arraylength A'.hx Ar.1 (State.isArrayOf_alike A'.hz.alike Ar.2.1) (g := mkF m pc Ls (.ref a :: rest)) rfl rfl (A'.hb hd) t kt) K
theorem Here.ldc {idx : Nat} {v : Int32} (A : Here p l e R s m args below meth c Z a0 y bytes ml ret dm fp T k n os) (w : (Jvm.Cond.constant y.cls idx v).before a0 Z = true) (hd : decode bytes pc = .ok (.ldc idx, 2)) {qn : Nat} (hq : pc + 2 = qn)
    (K : Wp p e below Z a0 dm fp R s Post T (mkF m qn Ls (.int v :: st))) : Wp p e below Z a0 dm fp R s Post T (mkF m pc Ls st) := by
  subst hq
  have A' := A
  obtain ⟨locs, X, N, H, hx, hZ, hb, hml, hown, q⟩ := A
  exact Wp.go (X.ldcInt hx hown (mvT hZ w) (g := mkF m pc Ls st) rfl (A'.hb hd)) K
theorem Here.ldcw {idx : Nat} {v : Int32} (A : Here p l e R s m args below meth c Z a0 y bytes ml ret dm fp T k n os) (w : (Jvm.Cond.constant y.cls idx v).before a0 Z = true) (hd : decode bytes pc = .ok (.ldc_w idx, 3)) {qn : Nat} (hq : pc + 3 = qn)
    (K : Wp p e below Z a0 dm fp R s Post T (mkF m qn Ls (.int v :: st))) : Wp p e below Z a0 dm fp R s Post T (mkF m pc Ls st) := by
  subst hq
  have A' := A
  obtain ⟨locs, X, N, H, hx, hZ, hb, hml, hown, q⟩ := A
  exact Wp.go (X.ldcwInt hx hown (mvT hZ w) (g := mkF m pc Ls st) rfl (A'.hb hd)) K
theorem Here.ldc2 {idx : Nat} {v : Int64} (A : Here p l e R s m args below meth c Z a0 y bytes ml ret dm fp T k n os) (w : (Jvm.Cond.constantLong y.cls idx v).before a0 Z = true) (hd : decode bytes pc = .ok (.ldc2_w idx, 3)) {qn : Nat} (hq : pc + 3 = qn)
    (K : Wp p e below Z a0 dm fp R s Post T (mkF m qn Ls (.long v :: st))) : Wp p e below Z a0 dm fp R s Post T (mkF m pc Ls st) := by
  subst hq
  have A' := A
  obtain ⟨locs, X, N, H, hx, hZ, hb, hml, hown, q⟩ := A
  exact Wp.go (X.ldc2Long hx hown (mvT hZ w) (g := mkF m pc Ls st) rfl (A'.hb hd)) K
/-- a primitive array's clone -/
theorem Here.clone {idx W i cap : Nat} {a : Addr} {ty : FieldType} {vs : List Value} {ad : String} (A : Here p l e R s m args below meth c Z a0 y bytes ml ret dm fp T k n os)
    (w1 : (Jvm.Cond.methodLink y.cls idx ⟨ad, "clone", "()Ljava/lang/Object;"⟩).before a0 Z = true) (w2 : (Jvm.Cond.sameMethod ad "java/lang/Object" "clone" "()Ljava/lang/Object;").before a0 Z = true) (w3 : (Jvm.Cond.native ⟨"java/lang/Object", "clone", "()Ljava/lang/Object;"⟩).before a0 Z = true)
    (w4 : (Jvm.Cond.instanceMethod ⟨"java/lang/Object", "clone", "()Ljava/lang/Object;"⟩).before a0 Z = true) (w5 : (Jvm.Cond.selects ad ⟨ad, "clone", "()Ljava/lang/Object;"⟩ ⟨"java/lang/Object", "clone", "()Ljava/lang/Object;"⟩).before a0 Z = true) (w6 : (Jvm.Cond.castable ad "java/lang/Cloneable").before a0 Z = true)
    (had : "[" ++ ty.toString = ad) (hd : decode bytes pc = .ok (.invokevirtual idx, 3)) (hsz : Ls.size = ml) (ho : os[i]? = some (a, .inr (ty, vs))) (hW : (rest.map fun v => v.category).sum ≤ W) (hf : 1 ≤ R.frames) (hl : W + 14 ≤ R.locals) (hcap : vs.length ≤ cap) (hc : k + 1 ≤ R.cells) (hs : n + cap ≤ R.slots) {qn : Nat} (hq : pc + 3 = qn)
    (K : ∀ T' b, Here p l e R s m args below meth c Z a0 y bytes ml ret dm fp T' (k + 1) (n + cap) (os ++ [(b, .inr (ty, vs))]) → Wp p e below Z a0 dm fp R s Post T' (mkF m qn Ls (.ref b :: rest))) : Wp p e below Z a0 dm fp R s Post T (mkF m pc Ls (.ref a :: rest)) := by
  subst hq
  have A' := A
  obtain ⟨locs, X, N, H, hx, hZ, hb, hml, hown, q⟩ := A
  obtain ⟨cl, Ar, ec, E, F⟩ := H.1.2 _ (List.mem_of_getElem? ho)
  dsimp only at ec E F Ar
  subst had
  have FC : FitC Z cl := fitC_of Ar fun j hj v hv => F v (by rw [← ec, Array.mem_toList_iff]; exact Array.mem_of_getElem? hv)
  obtain ⟨T1, h1, X1, e1, E1, A1, B1, st1⟩ := cloneA X hx hZ hown w1 w2 w3 w4 w5 w6 rfl Ar E FC (g := mkF m pc Ls (.ref a :: rest)) rfl (hsz.trans hml.symm) rfl (A'.hb hd) hf (W := W) (by show 2 * 0 + _ ≤ _; rw [Nat.mul_zero, Nat.zero_add]; exact hW) hl (cap := cap) (by rw [← Array.length_toList, ec]; exact hcap) hc hs
  exact Wp.go st1 (K T1 _ ⟨_, X1, N, by rw [e1]; exact H.push E1 ⟨_, A1, ec, B1, F⟩, hx, hZ, hb, hml, hown, q⟩)
theorem Here.ccast {idx i : Nat} {a : Addr} {ty : FieldType} {vs : List Value} {K0 : String} (A : Here p l e R s m args below meth c Z a0 y bytes ml ret dm fp T k n os) (w : (Jvm.Cond.classLink y.cls idx K0).before a0 Z = true) (had : "[" ++ ty.toString = K0) (hd : decode bytes pc = .ok (.checkcast idx, 3)) (ho : os[i]? = some (a, .inr (ty, vs))) {qn : Nat} (hq : pc + 3 = qn)
    (K : ∀ T', Here p l e R s m args below meth c Z a0 y bytes ml ret dm fp T' k n os → Wp p e below Z a0 dm fp R s Post T' (mkF m qn Ls (.ref a :: rest))) : Wp p e below Z a0 dm fp R s Post T (mkF m pc Ls (.ref a :: rest)) := by
  subst hq
  have A' := A
  obtain ⟨locs, X, N, H, hx, hZ, hb, hml, hown, q⟩ := A
  obtain ⟨cl, Ar, ec, E, F⟩ := H.1.2 _ (List.mem_of_getElem? ho)
  subst had
  obtain ⟨T1, X1, e1, st1⟩ := castY X hx hZ hown w rfl (Ins.self E) (g := mkF m pc Ls (.ref a :: rest)) rfl rfl (A'.hb hd)
  exact Wp.go st1 (K T1 ⟨locs, X1, N, by rw [e1]; exact H, hx, hZ, hb, hml, hown, q⟩)
/-! calls -/
theorem Here.initO {idx W : Nat} {a : Addr} (A : Here p l e R s m args below meth c Z a0 y bytes ml ret dm fp T k n os) (w1 : (Jvm.Cond.methodLink y.cls idx Lib.objectInit).before a0 Z = true) (w2 : (Jvm.Cond.instanceMethod Lib.objectInit).before a0 Z = true) (w3 : (Jvm.Cond.code Lib.objectInit Jvm.Example.Point.objCode 1 none).before a0 Z = true)
    (hd : decode bytes pc = .ok (.invokespecial idx, 3)) (hsz : Ls.size = ml) (hW : (rest.map fun v => v.category).sum ≤ W) (hf : 1 ≤ R.frames) (hl : W + 12 ≤ R.locals) {qn : Nat} (hq : pc + 3 = qn)
    (K : ∀ T', Here p l e R s m args below meth c Z a0 y bytes ml ret dm fp T' k n os → Wp p e below Z a0 dm fp R s Post T' (mkF m qn Ls rest)) : Wp p e below Z a0 dm fp R s Post T (mkF m pc Ls (.ref a :: rest)) := by
  subst hq
  have A' := A
  obtain ⟨locs, X, N, H, hx, hZ, hb, hml, hown, q⟩ := A
  obtain ⟨T1, X1, e1, st1⟩ := RoadKit.initO X hx hZ hown w1 w2 w3 rfl (g := mkF m pc Ls (.ref a :: rest)) rfl (hsz.trans hml.symm) rfl (A'.hb hd) hf (W := W) (by show 2 * 0 + _ ≤ _; rw [Nat.mul_zero, Nat.zero_add]; exact hW) hl
  exact Wp.go st1 (K T1 ⟨locs, X1, N, by rw [e1]; exact H, hx, hZ, hb, hml, hown, q⟩)
theorem dm_call {h0 h : Heap} {os1 os2 : Hs} (H : Hp Z a0 dm fp h0 h (os1 ++ os2)) (hc : fp2 = [] ∨ (fp2 = os2.map (·.1) ∧ dm = fp)) {x : Addr} (hx : Dm fp2 h.size x) : Dm fp h0.size x := by
  rcases hx with hx | hx
  · rcases hc with rfl | ⟨rfl, rfl⟩
    · exact absurd hx List.not_mem_nil
    · obtain ⟨q, hq, rfl⟩ := List.mem_map.mp hx
      exact H.2.1 q (List.mem_append.mpr (Or.inr hq))
  · exact Or.inr (Nat.le_trans H.2.2.1 hx)
theorem Here.callS {idx W : Nat} {y' : MethodName} {bytes' : ByteArray} {ml' : Nat} {ret' : Option FieldType} {R' : Room} {argsL : List Value} {os1 os2 : Hs} {Post' : Option Value → Hs → Prop}
    (A : Here p l e R s m args below meth c Z a0 y bytes ml ret dm fp T k n (os1 ++ os2)) (M : Pays l Z a0 y' bytes' ml' ret' R' argsL.toArray os2 fp2 Post') (hcc : fp2 = [] ∨ (fp2 = os2.map (·.1) ∧ dm = fp))
    (w1 : (Jvm.Cond.methodLink y.cls idx y').before a0 Z = true) (w2 : (Jvm.Cond.static y').before a0 Z = true) (w3 : (Jvm.Cond.initialized y'.cls).before a0 Z = true) (w4 : (Jvm.Cond.code y' bytes' ml' ret').before a0 Z = true) (hy : y'.cls ≠ "java/lang/invoke/MethodHandle" ∧ y'.cls ≠ "java/lang/invoke/VarHandle")
    (hd : decode bytes pc = .ok (.invokestatic idx, 3)) (hsz : Ls.size = ml) (hlen : ∀ sig, parseMethodDescriptor y'.desc = some sig → argsL.length = sig.parameters.length) (hst : st = argsL.reverse ++ rest) (hW : (rest.map fun v => v.category).sum ≤ W) (hf : R'.frames + 1 ≤ R.frames) (hl : W + (ml' + 11) + R'.locals ≤ R.locals) (hc : k + R'.cells ≤ R.cells) (hs : n + R'.slots ≤ R.slots) {qn : Nat} (hq : pc + 3 = qn)
    (K : ∀ T' v os', Here p l e R s m args below meth c Z a0 y bytes ml ret dm fp T' (k + R'.cells) (n + R'.slots) (os1 ++ os') → Post' v os' → Wp p e below Z a0 dm fp R s Post T' (mkF m qn Ls (v.toList ++ rest))) : Wp p e below Z a0 dm fp R s Post T (mkF m pc Ls st) := by
  subst hq
  have A' := A
  obtain ⟨locs, X, N, H, hx, hZ, hb, hml, hown, q⟩ := A
  have hq : Hq Z a0 T.heap os2 := ⟨by have := H.1.1; rw [List.map_append, List.nodup_append] at this; exact this.2.1, fun q hq => H.1.2 q (List.mem_append.mpr (Or.inr hq))⟩
  obtain ⟨v, _, ⟨T1, L1, k1, n1⟩, -, X1, ⟨Lc, hQ, l1, y1, z1⟩, st1⟩ := Jvm.LawKit.callS X hx (y := y') hown (mvT hZ w1) (mvT hZ w2) (mvT hZ w3) (mvT hZ w4) hy (backOf (W := W) (h := T.heap) (Q := fun v h L => (∀ q ∈ L, Dm fp2 T.heap.size q.base) ∧ ∃ os', Hp Z a0 (os2.map (·.1)) fp2 T.heap h os' ∧ Post' v os') (M [] T.heap hq) hZ w4 w3 hf hl) (g := mkF m pc Ls st) rfl (hsz.trans hml.symm) (argsL := argsL) (rest := rest) hlen hst (by show 2 * 0 + _ ≤ _; rw [Nat.mul_zero, Nat.zero_add]; exact hW) (A'.hb hd) (fun _ _ => ⟨rfl, rfl, hc, hs⟩)
  dsimp only [Pt.U, Pt.locs, Pt.cells, Pt.slots] at X1 l1 y1 z1 st1 hQ
  subst l1 y1 z1
  obtain ⟨N1, os', H1, hP⟩ := hQ
  refine Wp.go st1 (K T1 v os' ⟨_, X1, fun q hq => ?_, H.call H1 hcc, hx, hZ, hb, hml, hown, q⟩ hP)
  rcases List.mem_append.mp hq with hq | hq
  · exact N q hq
  · exact dm_call H hcc (N1 q hq)
theorem Here.callI {idx W : Nat} {y' : MethodName} {bytes' : ByteArray} {ml' : Nat} {R' : Room} {argsL : List Value} {a : Addr} {os1 os2 : Hs} {Post' : Option Value → Hs → Prop}
    (A : Here p l e R s m args below meth c Z a0 y bytes ml ret dm fp T k n (os1 ++ os2)) (M : Pays l Z a0 y' bytes' ml' none R' (.ref a :: argsL).toArray os2 fp2 Post') (hcc : fp2 = [] ∨ (fp2 = os2.map (·.1) ∧ dm = fp)) (hini : y'.name = "<init>")
    (w1 : (Jvm.Cond.methodLink y.cls idx y').before a0 Z = true) (w2 : (Jvm.Cond.instanceMethod y').before a0 Z = true) (w3 : (Jvm.Cond.initialized y'.cls).before a0 Z = true) (w4 : (Jvm.Cond.code y' bytes' ml' none).before a0 Z = true) (hy : y'.cls ≠ "java/lang/invoke/MethodHandle" ∧ y'.cls ≠ "java/lang/invoke/VarHandle")
    (hd : decode bytes pc = .ok (.invokespecial idx, 3)) (hsz : Ls.size = ml) (hlen : ∀ sig, parseMethodDescriptor y'.desc = some sig → argsL.length = sig.parameters.length) (hst : st = argsL.reverse ++ .ref a :: rest) (hW : (rest.map fun v => v.category).sum ≤ W) (hf : R'.frames + 1 ≤ R.frames) (hl : W + (ml' + 11) + R'.locals ≤ R.locals) (hc : k + R'.cells ≤ R.cells) (hs : n + R'.slots ≤ R.slots) {qn : Nat} (hq : pc + 3 = qn)
    (K : ∀ T' v os', Here p l e R s m args below meth c Z a0 y bytes ml ret dm fp T' (k + R'.cells) (n + R'.slots) (os1 ++ os') → Post' v os' → Wp p e below Z a0 dm fp R s Post T' (mkF m qn Ls (v.toList ++ rest))) : Wp p e below Z a0 dm fp R s Post T (mkF m pc Ls st) := by
  subst hq
  have A' := A
  obtain ⟨locs, X, N, H, hx, hZ, hb, hml, hown, q⟩ := A
  have hq : Hq Z a0 T.heap os2 := ⟨by have := H.1.1; rw [List.map_append, List.nodup_append] at this; exact this.2.1, fun q hq => H.1.2 q (List.mem_append.mpr (Or.inr hq))⟩
  obtain ⟨v, _, ⟨T1, L1, k1, n1⟩, -, X1, ⟨Lc, hQ, l1, y1, z1⟩, st1⟩ := X.specialBack hx (y := y') hini hown (mvT hZ w1) (mvT hZ w2) (mvT hZ w4) hy (backOf (W := W) (h := T.heap) (Q := fun v h L => (∀ q ∈ L, Dm fp2 T.heap.size q.base) ∧ ∃ os', Hp Z a0 (os2.map (·.1)) fp2 T.heap h os' ∧ Post' v os') (M [] T.heap hq) hZ w4 w3 hf hl) (g := mkF m pc Ls st) rfl (hsz.trans hml.symm) (Steps.refl _) (a := a) (argsL := argsL) (rest := rest) hlen hst (by show 2 * 0 + _ ≤ _; rw [Nat.mul_zero, Nat.zero_add]; exact hW) (A'.hb hd) (fun _ _ => ⟨rfl, rfl, hc, hs⟩)
  dsimp only [Pt.U, Pt.locs, Pt.cells, Pt.slots] at X1 l1 y1 z1 st1 hQ
  subst l1 y1 z1
  obtain ⟨N1, os', H1, hP⟩ := hQ
  refine Wp.go (fun t kt => st1.trans kt) (K T1 v os' ⟨_, X1, fun q hq => ?_, H.call H1 hcc, hx, hZ, hb, hml, hown, q⟩ hP)
  rcases List.mem_append.mp hq with hq | hq
  · exact N q hq
  · exact dm_call H hcc (N1 q hq)
theorem Here.callV {idx W i : Nat} {y' : MethodName} {bytes' : ByteArray} {ml' : Nat} {ret' : Option FieldType} {R' : Room} {argsL : List Value} {a : Addr} {C : String} {fs : List Fd} {os1 os2 : Hs} {Post' : Option Value → Hs → Prop}
    (A : Here p l e R s m args below meth c Z a0 y bytes ml ret dm fp T k n (os1 ++ os2)) (M : Pays l Z a0 y' bytes' ml' ret' R' (.ref a :: argsL).toArray os2 fp2 Post') (hcc : fp2 = [] ∨ (fp2 = os2.map (·.1) ∧ dm = fp)) (ho : (os1 ++ os2)[i]? = some (a, .inl (C, fs)))
    (w1 : (Jvm.Cond.methodLink y.cls idx y').before a0 Z = true) (wd : (Jvm.Cond.declares y').before a0 Z = true) (ws : (Jvm.Cond.selects C y' y').before a0 Z = true) (w2 : (Jvm.Cond.instanceMethod y').before a0 Z = true) (w3 : (Jvm.Cond.initialized y'.cls).before a0 Z = true) (w4 : (Jvm.Cond.code y' bytes' ml' ret').before a0 Z = true) (hy : y'.cls ≠ "java/lang/invoke/MethodHandle" ∧ y'.cls ≠ "java/lang/invoke/VarHandle")
    (hd : decode bytes pc = .ok (.invokevirtual idx, 3)) (hsz : Ls.size = ml) (hlen : ∀ sig, parseMethodDescriptor y'.desc = some sig → argsL.length = sig.parameters.length) (hst : st = argsL.reverse ++ .ref a :: rest) (hW : (rest.map fun v => v.category).sum ≤ W) (hf : R'.frames + 1 ≤ R.frames) (hl : W + (ml' + 11) + R'.locals ≤ R.locals) (hc : k + R'.cells ≤ R.cells) (hs : n + R'.slots ≤ R.slots) {qn : Nat} (hq : pc + 3 = qn)
    (K : ∀ T' v os', Here p l e R s m args below meth c Z a0 y bytes ml ret dm fp T' (k + R'.cells) (n + R'.slots) (os1 ++ os') → Post' v os' → Wp p e below Z a0 dm fp R s Post T' (mkF m qn Ls (v.toList ++ rest))) : Wp p e below Z a0 dm fp R s Post T (mkF m pc Ls st) := by
  subst hq
  have A' := A
  obtain ⟨locs, X, N, H, hx, hZ, hb, hml, hown, q⟩ := A
  have hq : Hq Z a0 T.heap os2 := ⟨by have := H.1.1; rw [List.map_append, List.nodup_append] at this; exact this.2.1, fun q hq => H.1.2 q (List.mem_append.mpr (Or.inr hq))⟩
  obtain ⟨cq, kq, qa, qb, qc⟩ := isOf (T := T) hZ rfl (H.exa ho)
  obtain ⟨v, _, ⟨T1, L1, k1, n1⟩, -, X1, ⟨Lc, hQ, l1, y1, z1⟩, st1⟩ := X.virtualBack hx (y := y') (z := y') hown (mvT hZ w1) (mvT hZ wd) (notFace_of_selects (args := #[]) (mvT hZ ws)) (mvT hZ ws) (mvT hZ w2) hy (backOf (W := W) (h := T.heap) (Q := fun v h L => (∀ q ∈ L, Dm fp2 T.heap.size q.base) ∧ ∃ os', Hp Z a0 (os2.map (·.1)) fp2 T.heap h os' ∧ Post' v os') (M [] T.heap hq) hZ w4 w3 hf hl) qa qc (g := mkF m pc Ls st) rfl (hsz.trans hml.symm) (Steps.refl _) (argsL := argsL) (rest := rest) hlen hst (by show 2 * 0 + _ ≤ _; rw [Nat.mul_zero, Nat.zero_add]; exact hW) (A'.hb hd) (fun _ _ => ⟨rfl, rfl, hc, hs⟩)
  dsimp only [Pt.U, Pt.locs, Pt.cells, Pt.slots] at X1 l1 y1 z1 st1 hQ
  subst l1 y1 z1
  obtain ⟨N1, os', H1, hP⟩ := hQ
  refine Wp.go (fun t kt => st1.trans kt) (K T1 v os' ⟨_, X1, fun q hq => ?_, H.call H1 hcc, hx, hZ, hb, hml, hown, q⟩ hP)
  rcases List.mem_append.mp hq with hq | hq
  · exact N q hq
  · exact dm_call H hcc (N1 q hq)
end Walks
end Jvm.OwnWp
namespace Jvm.Pilot.@@N@@
open Jvm Jvm.ClassFile Sem Op Lib Jvm.Free Jvm.Stand Jvm.LawKit Jvm.RoadKit Bundle Jvm.OwnWp Jvm.Pilot.@@N@@.Jvm.D
theorem tw {a0 : Array Value} {Z : State} (hw : ∀ d ∈ tables_1, d.before a0 Z = true) (k : Nat) {d : Jvm.Cond} (h : tables_1[k]? = some d) : d.before a0 Z = true := hw d (List.mem_of_getElem? h)
abbrev ob0 (v0 v1 v2 : Value) : Ob := .inl ("com/example/heirring/heirring/IndexedIntSet", [("com/example/heirring/heirring/IndexedIntSet", "members", "[I", v0), ("com/example/heirring/heirring/IndexedIntSet", "places", "[I", v1), ("com/example/heirring/heirring/IndexedIntSet", "size", "I", v2)])
theorem bm32 (x : Int) : x.bmod (2 ^ 32) = (x + 2147483648) % 4294967296 - 2147483648 := by
  rw [Int.bmod_def]; split <;> omega
theorem bm64 (x : Int) : x.bmod (2 ^ 64) = (x + 9223372036854775808) % 18446744073709551616 - 9223372036854775808 := by
  rw [Int.bmod_def]; split <;> omega
theorem l32_m1 : (-1 : Int32).toInt = -1 := by decide
theorem l32_0 : (0 : Int32).toInt = 0 := by decide
theorem l32_1 : (1 : Int32).toInt = 1 := by decide
theorem l32_2 : (2 : Int32).toInt = 2 := by decide
theorem l32_3 : (3 : Int32).toInt = 3 := by decide
theorem l32_6 : (6 : Int32).toInt = 6 := by decide
theorem l32_7 : (7 : Int32).toInt = 7 := by decide
theorem l32_2147483647 : (2147483647 : Int32).toInt = 2147483647 := by decide
theorem own_lk_eq {l : List Value} {i j : Int32} {a : Value} (h : j = i) (hl : j.toNatClampNeg < l.length) : (l.set i.toNatClampNeg a)[j.toNatClampNeg]? = some a := by
  subst h
  rw [List.getElem?_set, if_pos rfl, if_pos hl]
theorem own_lk_ne {l : List Value} {i j : Int32} {a : Value} (hi : 0 ≤ i.toInt) (hj : 0 ≤ j.toInt) (h : ¬ j = i) : (l.set i.toNatClampNeg a)[j.toNatClampNeg]? = l[j.toNatClampNeg]? := by
  rw [List.getElem?_set, if_neg]
  intro e
  apply h
  rw [← Int32.toInt_inj]
  simp only [Int32.toNatClampNeg] at e
  omega
theorem own_nn {z : Int32} (h : 0 ≤ z.toInt) : ¬ z < 0 := by
  simp only [Int32.lt_iff_toInt_lt, l32_0]
  omega
theorem own_nat {z : Int32} {n : Nat} (h : 0 ≤ z.toInt) (h' : z.toInt < n) : z.toNatClampNeg < n := by
  simp only [Int32.toNatClampNeg]
  omega
theorem own_and7 (x : Int32) : 0 ≤ (x &&& 7).toInt ∧ (x &&& 7).toInt < 8 := by
  rw [Jvm.Kit.i32_mask x 7 (k := 3) (by decide) (by decide)]
  omega
theorem own_mod8 (x : Int32) (h : 0 ≤ x.toInt) : (x &&& 7).toInt = x.toInt % 8 := by
  rw [Jvm.Kit.i32_mask x 7 (k := 3) (by decide) (by decide)]
  omega
theorem own_and31 (x : Int32) : 0 ≤ (x &&& 2147483647).toInt := by
  rw [Jvm.Kit.i32_mask x 2147483647 (k := 31) (by decide) (by decide)]
  omega
theorem own_r7b (x : Int32) : 0 ≤ ((x &&& 2147483647) % 7).toInt ∧ ((x &&& 2147483647) % 7).toInt < 7 := by
  have e : (7 : Int32).toInt = 7 := by decide
  rw [Jvm.Kit.i32_rem_nonneg (own_and31 x), e]
  have := own_and31 x
  omega
theorem own_r6b (x : Int32) : 0 ≤ ((x &&& 2147483647) % 6).toInt ∧ ((x &&& 2147483647) % 6).toInt < 6 := by
  have e : (6 : Int32).toInt = 6 := by decide
  rw [Jvm.Kit.i32_rem_nonneg (own_and31 x), e]
  have := own_and31 x
  omega
theorem own_r3b (x : Int32) : 0 ≤ ((x &&& 2147483647) % 3).toInt ∧ ((x &&& 2147483647) % 3).toInt < 3 := by
  have e : (3 : Int32).toInt = 3 := by decide
  rw [Jvm.Kit.i32_rem_nonneg (own_and31 x), e]
  have := own_and31 x
  omega
theorem own_r3 (x : Int32) : ((x &&& 2147483647) % 3) = 0 ∨ ((x &&& 2147483647) % 3) = 1 ∨ ((x &&& 2147483647) % 3) = 2 := by
  have h := own_r3b x
  rcases (show ((x &&& 2147483647) % 3).toInt = 0 ∨ ((x &&& 2147483647) % 3).toInt = 1 ∨ ((x &&& 2147483647) % 3).toInt = 2 by omega) with e | e | e
  · exact Or.inl (Int32.toInt_inj.mp (by rw [e]; decide))
  · exact Or.inr (Or.inl (Int32.toInt_inj.mp (by rw [e]; decide)))
  · exact Or.inr (Or.inr (Int32.toInt_inj.mp (by rw [e]; decide)))
theorem own_base (w : Int32) (h : 0 ≤ w.toInt) (h' : w.toInt < 8) : ([.int (-1), .int (-1), .int (-1), .int (-1), .int (-1), .int (-1), .int (-1), .int (-1)] : List Value)[w.toNatClampNeg]? = some (.int (-1)) := by
  have e : ([.int (-1), .int (-1), .int (-1), .int (-1), .int (-1), .int (-1), .int (-1), .int (-1)] : List Value) = List.replicate 8 (.int (-1)) := rfl
  rw [e, List.getElem?_replicate, if_pos (own_nat h h')]
theorem d_jdk_65_method_103_0 : decode jdk_65_method_103_code 0 = .ok (.iconst 0, 1) := by decide +kernel
theorem d_jdk_65_method_103_1 : decode jdk_65_method_103_code 1 = .ok (.istore_n 2, 1) := by decide +kernel
theorem d_jdk_65_method_103_2 : decode jdk_65_method_103_code 2 = .ok (.aload_n 0, 1) := by decide +kernel
theorem d_jdk_65_method_103_3 : decode jdk_65_method_103_code 3 = .ok (.arraylength, 1) := by decide +kernel
theorem d_jdk_65_method_103_4 : decode jdk_65_method_103_code 4 = .ok (.istore_n 3, 1) := by decide +kernel
theorem d_jdk_65_method_103_5 : decode jdk_65_method_103_code 5 = .ok (.iload_n 2, 1) := by decide +kernel
theorem d_jdk_65_method_103_6 : decode jdk_65_method_103_code 6 = .ok (.iload_n 3, 1) := by decide +kernel
theorem d_jdk_65_method_103_7 : decode jdk_65_method_103_code 7 = .ok (.if_icmp .ge 13, 3) := by decide +kernel
theorem d_jdk_65_method_103_10 : decode jdk_65_method_103_code 10 = .ok (.aload_n 0, 1) := by decide +kernel
theorem d_jdk_65_method_103_11 : decode jdk_65_method_103_code 11 = .ok (.iload_n 2, 1) := by decide +kernel
theorem d_jdk_65_method_103_12 : decode jdk_65_method_103_code 12 = .ok (.iload_n 1, 1) := by decide +kernel
theorem d_jdk_65_method_103_13 : decode jdk_65_method_103_code 13 = .ok (.iastore, 1) := by decide +kernel
theorem d_jdk_65_method_103_14 : decode jdk_65_method_103_code 14 = .ok (.iinc 2 1, 3) := by decide +kernel
theorem d_jdk_65_method_103_17 : decode jdk_65_method_103_code 17 = .ok (.goto (-12), 3) := by decide +kernel
theorem d_jdk_65_method_103_20 : decode jdk_65_method_103_code 20 = .ok (.return_, 1) := by decide +kernel
theorem pn_0 : plainName "java/util/Arrays" = true := by first | (simp [plainName, overriddenIn]; done) | decide +kernel
theorem ef_m_fill (m : MethodId) (x0 : Addr) : entryFrame m #[(.ref x0), (.int (-1))] 4 = mkF m 0 #[.val (.ref x0), .val (.int (-1)), .unset, .unset] [] := by first | (simp [entryFrame, mkF, argsToLocals, Value.category]; done) | rfl
set_option maxRecDepth 65536 in
set_option maxHeartbeats 40000000 in
theorem m_fill (l : Launch) (Z : State) (a0 : Array Value) (hw : ∀ d ∈ tables_1, d.before a0 Z = true) (b : Addr) (u0 : Int32) (u1 : Int32) (u2 : Int32) (u3 : Int32) (u4 : Int32) (u5 : Int32) (u6 : Int32) (u7 : Int32) :
    Pays l Z a0 (⟨"java/util/Arrays", "fill", "([II)V"⟩ : MethodName) jdk_65_method_103_code 4 none ({ frames := 0, cells := 0, slots := 0, locals := 0 } : Room) #[(.ref b), (.int (-1))] [(b, .inr (.int, [(.int u0), (.int u1), (.int u2), (.int u3), (.int u4), (.int u5), (.int u6), (.int u7)]))] (([(b, .inr (.int, [(.int u0), (.int u1), (.int u2), (.int u3), (.int u4), (.int u5), (.int u6), (.int u7)]))] : Hs).map (·.1)) (fun v os' => v = none ∧ os' = [(b, .inr (.int, [(.int (-1)), (.int (-1)), (.int (-1)), (.int (-1)), (.int (-1)), (.int (-1)), (.int (-1)), (.int (-1))]))]) := by
  refine Pays.of (Ls := #[.val (.ref b), .val (.int (-1)), .unset, .unset]) (plainFor_of_name pn_0) (fun m => ef_m_fill m b) ?_
  intro p e s m below meth c T0 A0
  refine A0.iconst (q := 1) (v := 0) d_jdk_65_method_103_0 rfl rfl ?_
  refine A0.istoreN (q := 2) (l' := #[.val (.ref b), .val (.int (-1)), .val (.int 0), .unset]) d_jdk_65_method_103_1 rfl rfl ?_
  refine A0.aloadN (q := 3) d_jdk_65_method_103_2 rfl rfl rfl ?_
  refine A0.len (qn := 4) (i := 0) (z := (8 : Int32)) d_jdk_65_method_103_3 rfl (rfl) rfl ?_
  refine A0.istoreN (q := 5) (l' := #[.val (.ref b), .val (.int (-1)), .val (.int 0), .val (.int 8)]) d_jdk_65_method_103_4 rfl rfl ?_
  refine A0.iloadN (q := 6) d_jdk_65_method_103_5 rfl rfl ?_
  refine A0.iloadN (q := 7) d_jdk_65_method_103_6 rfl rfl ?_
  refine A0.icmpNo (q := 10) d_jdk_65_method_103_7 (by decide) rfl ?_
  refine A0.aloadN (q := 11) d_jdk_65_method_103_10 rfl rfl rfl ?_
  refine A0.iloadN (q := 12) d_jdk_65_method_103_11 rfl rfl ?_
  refine A0.iloadN (q := 13) d_jdk_65_method_103_12 rfl rfl ?_
  refine A0.stI (qn := 14) (i := 0) d_jdk_65_method_103_13 rfl (by decide) (show (0 : Int32).toNatClampNeg < 8 from by decide) rfl rfl (fun T1 A2 => ?_)
  have A3 := A2.cast (k2 := 0) (n2 := 0) (os2 := [(b, .inr (.int, [(.int (-1)), (.int u1), (.int u2), (.int u3), (.int u4), (.int u5), (.int u6), (.int u7)]))]) rfl rfl rfl
  refine A3.iinc (q := 17) (l' := #[.val (.ref b), .val (.int (-1)), .val (.int 1), .val (.int 8)]) d_jdk_65_method_103_14 rfl rfl rfl ?_
  refine A3.goto (q := 5) d_jdk_65_method_103_17 (by decide) (by decide) ?_
  refine A3.iloadN (q := 6) d_jdk_65_method_103_5 rfl rfl ?_
  refine A3.iloadN (q := 7) d_jdk_65_method_103_6 rfl rfl ?_
  refine A3.icmpNo (q := 10) d_jdk_65_method_103_7 (by decide) rfl ?_
  refine A3.aloadN (q := 11) d_jdk_65_method_103_10 rfl rfl rfl ?_
  refine A3.iloadN (q := 12) d_jdk_65_method_103_11 rfl rfl ?_
  refine A3.iloadN (q := 13) d_jdk_65_method_103_12 rfl rfl ?_
  refine A3.stI (qn := 14) (i := 0) d_jdk_65_method_103_13 rfl (by decide) (show (1 : Int32).toNatClampNeg < 8 from by decide) rfl rfl (fun T4 A5 => ?_)
  have A6 := A5.cast (k2 := 0) (n2 := 0) (os2 := [(b, .inr (.int, [(.int (-1)), (.int (-1)), (.int u2), (.int u3), (.int u4), (.int u5), (.int u6), (.int u7)]))]) rfl rfl rfl
  refine A6.iinc (q := 17) (l' := #[.val (.ref b), .val (.int (-1)), .val (.int 2), .val (.int 8)]) d_jdk_65_method_103_14 rfl rfl rfl ?_
  refine A6.goto (q := 5) d_jdk_65_method_103_17 (by decide) (by decide) ?_
  refine A6.iloadN (q := 6) d_jdk_65_method_103_5 rfl rfl ?_
  refine A6.iloadN (q := 7) d_jdk_65_method_103_6 rfl rfl ?_
  refine A6.icmpNo (q := 10) d_jdk_65_method_103_7 (by decide) rfl ?_
  refine A6.aloadN (q := 11) d_jdk_65_method_103_10 rfl rfl rfl ?_
  refine A6.iloadN (q := 12) d_jdk_65_method_103_11 rfl rfl ?_
  refine A6.iloadN (q := 13) d_jdk_65_method_103_12 rfl rfl ?_
  refine A6.stI (qn := 14) (i := 0) d_jdk_65_method_103_13 rfl (by decide) (show (2 : Int32).toNatClampNeg < 8 from by decide) rfl rfl (fun T7 A8 => ?_)
  have A9 := A8.cast (k2 := 0) (n2 := 0) (os2 := [(b, .inr (.int, [(.int (-1)), (.int (-1)), (.int (-1)), (.int u3), (.int u4), (.int u5), (.int u6), (.int u7)]))]) rfl rfl rfl
  refine A9.iinc (q := 17) (l' := #[.val (.ref b), .val (.int (-1)), .val (.int 3), .val (.int 8)]) d_jdk_65_method_103_14 rfl rfl rfl ?_
  refine A9.goto (q := 5) d_jdk_65_method_103_17 (by decide) (by decide) ?_
  refine A9.iloadN (q := 6) d_jdk_65_method_103_5 rfl rfl ?_
  refine A9.iloadN (q := 7) d_jdk_65_method_103_6 rfl rfl ?_
  refine A9.icmpNo (q := 10) d_jdk_65_method_103_7 (by decide) rfl ?_
  refine A9.aloadN (q := 11) d_jdk_65_method_103_10 rfl rfl rfl ?_
  refine A9.iloadN (q := 12) d_jdk_65_method_103_11 rfl rfl ?_
  refine A9.iloadN (q := 13) d_jdk_65_method_103_12 rfl rfl ?_
  refine A9.stI (qn := 14) (i := 0) d_jdk_65_method_103_13 rfl (by decide) (show (3 : Int32).toNatClampNeg < 8 from by decide) rfl rfl (fun T10 A11 => ?_)
  have A12 := A11.cast (k2 := 0) (n2 := 0) (os2 := [(b, .inr (.int, [(.int (-1)), (.int (-1)), (.int (-1)), (.int (-1)), (.int u4), (.int u5), (.int u6), (.int u7)]))]) rfl rfl rfl
  refine A12.iinc (q := 17) (l' := #[.val (.ref b), .val (.int (-1)), .val (.int 4), .val (.int 8)]) d_jdk_65_method_103_14 rfl rfl rfl ?_
  refine A12.goto (q := 5) d_jdk_65_method_103_17 (by decide) (by decide) ?_
  refine A12.iloadN (q := 6) d_jdk_65_method_103_5 rfl rfl ?_
  refine A12.iloadN (q := 7) d_jdk_65_method_103_6 rfl rfl ?_
  refine A12.icmpNo (q := 10) d_jdk_65_method_103_7 (by decide) rfl ?_
  refine A12.aloadN (q := 11) d_jdk_65_method_103_10 rfl rfl rfl ?_
  refine A12.iloadN (q := 12) d_jdk_65_method_103_11 rfl rfl ?_
  refine A12.iloadN (q := 13) d_jdk_65_method_103_12 rfl rfl ?_
  refine A12.stI (qn := 14) (i := 0) d_jdk_65_method_103_13 rfl (by decide) (show (4 : Int32).toNatClampNeg < 8 from by decide) rfl rfl (fun T13 A14 => ?_)
  have A15 := A14.cast (k2 := 0) (n2 := 0) (os2 := [(b, .inr (.int, [(.int (-1)), (.int (-1)), (.int (-1)), (.int (-1)), (.int (-1)), (.int u5), (.int u6), (.int u7)]))]) rfl rfl rfl
  refine A15.iinc (q := 17) (l' := #[.val (.ref b), .val (.int (-1)), .val (.int 5), .val (.int 8)]) d_jdk_65_method_103_14 rfl rfl rfl ?_
  refine A15.goto (q := 5) d_jdk_65_method_103_17 (by decide) (by decide) ?_
  refine A15.iloadN (q := 6) d_jdk_65_method_103_5 rfl rfl ?_
  refine A15.iloadN (q := 7) d_jdk_65_method_103_6 rfl rfl ?_
  refine A15.icmpNo (q := 10) d_jdk_65_method_103_7 (by decide) rfl ?_
  refine A15.aloadN (q := 11) d_jdk_65_method_103_10 rfl rfl rfl ?_
  refine A15.iloadN (q := 12) d_jdk_65_method_103_11 rfl rfl ?_
  refine A15.iloadN (q := 13) d_jdk_65_method_103_12 rfl rfl ?_
  refine A15.stI (qn := 14) (i := 0) d_jdk_65_method_103_13 rfl (by decide) (show (5 : Int32).toNatClampNeg < 8 from by decide) rfl rfl (fun T16 A17 => ?_)
  have A18 := A17.cast (k2 := 0) (n2 := 0) (os2 := [(b, .inr (.int, [(.int (-1)), (.int (-1)), (.int (-1)), (.int (-1)), (.int (-1)), (.int (-1)), (.int u6), (.int u7)]))]) rfl rfl rfl
  refine A18.iinc (q := 17) (l' := #[.val (.ref b), .val (.int (-1)), .val (.int 6), .val (.int 8)]) d_jdk_65_method_103_14 rfl rfl rfl ?_
  refine A18.goto (q := 5) d_jdk_65_method_103_17 (by decide) (by decide) ?_
  refine A18.iloadN (q := 6) d_jdk_65_method_103_5 rfl rfl ?_
  refine A18.iloadN (q := 7) d_jdk_65_method_103_6 rfl rfl ?_
  refine A18.icmpNo (q := 10) d_jdk_65_method_103_7 (by decide) rfl ?_
  refine A18.aloadN (q := 11) d_jdk_65_method_103_10 rfl rfl rfl ?_
  refine A18.iloadN (q := 12) d_jdk_65_method_103_11 rfl rfl ?_
  refine A18.iloadN (q := 13) d_jdk_65_method_103_12 rfl rfl ?_
  refine A18.stI (qn := 14) (i := 0) d_jdk_65_method_103_13 rfl (by decide) (show (6 : Int32).toNatClampNeg < 8 from by decide) rfl rfl (fun T19 A20 => ?_)
  have A21 := A20.cast (k2 := 0) (n2 := 0) (os2 := [(b, .inr (.int, [(.int (-1)), (.int (-1)), (.int (-1)), (.int (-1)), (.int (-1)), (.int (-1)), (.int (-1)), (.int u7)]))]) rfl rfl rfl
  refine A21.iinc (q := 17) (l' := #[.val (.ref b), .val (.int (-1)), .val (.int 7), .val (.int 8)]) d_jdk_65_method_103_14 rfl rfl rfl ?_
  refine A21.goto (q := 5) d_jdk_65_method_103_17 (by decide) (by decide) ?_
  refine A21.iloadN (q := 6) d_jdk_65_method_103_5 rfl rfl ?_
  refine A21.iloadN (q := 7) d_jdk_65_method_103_6 rfl rfl ?_
  refine A21.icmpNo (q := 10) d_jdk_65_method_103_7 (by decide) rfl ?_
  refine A21.aloadN (q := 11) d_jdk_65_method_103_10 rfl rfl rfl ?_
  refine A21.iloadN (q := 12) d_jdk_65_method_103_11 rfl rfl ?_
  refine A21.iloadN (q := 13) d_jdk_65_method_103_12 rfl rfl ?_
  refine A21.stI (qn := 14) (i := 0) d_jdk_65_method_103_13 rfl (by decide) (show (7 : Int32).toNatClampNeg < 8 from by decide) rfl rfl (fun T22 A23 => ?_)
  have A24 := A23.cast (k2 := 0) (n2 := 0) (os2 := [(b, .inr (.int, [(.int (-1)), (.int (-1)), (.int (-1)), (.int (-1)), (.int (-1)), (.int (-1)), (.int (-1)), (.int (-1))]))]) rfl rfl rfl
  refine A24.iinc (q := 17) (l' := #[.val (.ref b), .val (.int (-1)), .val (.int 8), .val (.int 8)]) d_jdk_65_method_103_14 rfl rfl rfl ?_
  refine A24.goto (q := 5) d_jdk_65_method_103_17 (by decide) (by decide) ?_
  refine A24.iloadN (q := 6) d_jdk_65_method_103_5 rfl rfl ?_
  refine A24.iloadN (q := 7) d_jdk_65_method_103_6 rfl rfl ?_
  refine A24.icmpYes (q := 20) d_jdk_65_method_103_7 (by decide) (by decide) (by decide) ?_
  exact A24.retV d_jdk_65_method_103_20 (by decide) (by decide) ⟨rfl, rfl⟩
theorem d_prog_33_method_1_0 : decode prog_33_method_1_code 0 = .ok (.aload_n 0, 1) := by decide +kernel
theorem d_prog_33_method_1_1 : decode prog_33_method_1_code 1 = .ok (.invokespecial 1, 3) := by decide +kernel
theorem d_prog_33_method_1_4 : decode prog_33_method_1_code 4 = .ok (.aload_n 0, 1) := by decide +kernel
theorem d_prog_33_method_1_5 : decode prog_33_method_1_code 5 = .ok (.iload_n 1, 1) := by decide +kernel
theorem d_prog_33_method_1_6 : decode prog_33_method_1_code 6 = .ok (.newarray .int, 2) := by decide +kernel
theorem d_prog_33_method_1_8 : decode prog_33_method_1_code 8 = .ok (.putfield 7, 3) := by decide +kernel
theorem d_prog_33_method_1_11 : decode prog_33_method_1_code 11 = .ok (.aload_n 0, 1) := by decide +kernel
theorem d_prog_33_method_1_12 : decode prog_33_method_1_code 12 = .ok (.iload_n 1, 1) := by decide +kernel
theorem d_prog_33_method_1_13 : decode prog_33_method_1_code 13 = .ok (.newarray .int, 2) := by decide +kernel
theorem d_prog_33_method_1_15 : decode prog_33_method_1_code 15 = .ok (.putfield 13, 3) := by decide +kernel
theorem d_prog_33_method_1_18 : decode prog_33_method_1_code 18 = .ok (.aload_n 0, 1) := by decide +kernel
theorem d_prog_33_method_1_19 : decode prog_33_method_1_code 19 = .ok (.getfield 13, 3) := by decide +kernel
theorem d_prog_33_method_1_22 : decode prog_33_method_1_code 22 = .ok (.iconst (-1), 1) := by decide +kernel
theorem d_prog_33_method_1_23 : decode prog_33_method_1_code 23 = .ok (.invokestatic 16, 3) := by decide +kernel
theorem pd_1 : parseMethodDescriptor "([II)V" = some ⟨[(.array .int), .int], none⟩ := by decide +kernel
theorem d_prog_33_method_1_26 : decode prog_33_method_1_code 26 = .ok (.return_, 1) := by decide +kernel
theorem pn_2 : plainName "com/example/heirring/heirring/IndexedIntSet" = true := by first | (simp [plainName, overriddenIn]; done) | decide +kernel
theorem ef_m_ini (m : MethodId) (x0 : Addr) : entryFrame m #[(.ref x0), (.int 8)] 2 = mkF m 0 #[.val (.ref x0), .val (.int 8)] [] := by first | (simp [entryFrame, mkF, argsToLocals, Value.category]; done) | rfl
set_option maxRecDepth 65536 in
set_option maxHeartbeats 40000000 in
theorem m_ini (l : Launch) (Z : State) (a0 : Array Value) (hw : ∀ d ∈ tables_1, d.before a0 Z = true) (a : Addr) :
    Pays l Z a0 (⟨"com/example/heirring/heirring/IndexedIntSet", "<init>", "(I)V"⟩ : MethodName) prog_33_method_1_code 2 none ({ frames := 1, cells := 2, slots := 16, locals := 15 } : Room) #[(.ref a), (.int 8)] [(a, ob0 .null .null (.int 0))] (([(a, ob0 .null .null (.int 0))] : Hs).map (·.1)) (fun v os' => ∃ (b1 : Addr), ∃ (b2 : Addr), v = none ∧ os' = [(a, ob0 (.ref b1) (.ref b2) (.int 0)), (b1, .inr (.int, [(.int 0), (.int 0), (.int 0), (.int 0), (.int 0), (.int 0), (.int 0), (.int 0)])), (b2, .inr (.int, [(.int (-1)), (.int (-1)), (.int (-1)), (.int (-1)), (.int (-1)), (.int (-1)), (.int (-1)), (.int (-1))]))]) := by
  refine Pays.of (Ls := #[.val (.ref a), .val (.int 8)]) (plainFor_of_name pn_2) (fun m => ef_m_ini m a) ?_
  intro p e s m below meth c T0 A0
  refine A0.aloadN (q := 1) d_prog_33_method_1_0 rfl rfl rfl ?_
  refine A0.initO (qn := 4) (W := 0) (tw hw 7 rfl) (tw hw 8 rfl) (tw hw 9 rfl) d_prog_33_method_1_1 rfl (Nat.le_of_eq rfl) (by decide) (by decide) rfl (fun T1 A2 => ?_)
  refine A2.aloadN (q := 5) d_prog_33_method_1_4 rfl rfl rfl ?_
  refine A2.iloadN (q := 6) d_prog_33_method_1_5 rfl rfl ?_
  refine A2.newP (qn := 8) (cap := 8) (tw hw 10 rfl) d_prog_33_method_1_6 (by decide) (by decide) (by decide) (by decide) (by decide) rfl (fun T3 b5 A4 => ?_)
  have A6 := A4.cast (k2 := 1) (n2 := 8) (os2 := [(a, ob0 .null .null (.int 0)), (b5, .inr (.int, [(.int 0), (.int 0), (.int 0), (.int 0), (.int 0), (.int 0), (.int 0), (.int 0)]))]) rfl rfl rfl
  refine A6.putF (qn := 11) (i := 0) (j := 0) (ty := (.array .int)) (tw hw 11 rfl) Via.refl (Or.inr ⟨(tw hw 12 rfl), rfl, rfl⟩) (tw hw 2 rfl) (by decide) rfl rfl d_prog_33_method_1_8 rfl rfl rfl rfl (fun T7 A8 => ?_)
  have A9 := A8.cast (k2 := 1) (n2 := 8) (os2 := [(a, ob0 (.ref b5) .null (.int 0)), (b5, .inr (.int, [(.int 0), (.int 0), (.int 0), (.int 0), (.int 0), (.int 0), (.int 0), (.int 0)]))]) rfl rfl rfl
  refine A9.aloadN (q := 12) d_prog_33_method_1_11 rfl rfl rfl ?_
  refine A9.iloadN (q := 13) d_prog_33_method_1_12 rfl rfl ?_
  refine A9.newP (qn := 15) (cap := 8) (tw hw 10 rfl) d_prog_33_method_1_13 (by decide) (by decide) (by decide) (by decide) (by decide) rfl (fun T10 b12 A11 => ?_)
  have A13 := A11.cast (k2 := 2) (n2 := 16) (os2 := [(a, ob0 (.ref b5) .null (.int 0)), (b5, .inr (.int, [(.int 0), (.int 0), (.int 0), (.int 0), (.int 0), (.int 0), (.int 0), (.int 0)])), (b12, .inr (.int, [(.int 0), (.int 0), (.int 0), (.int 0), (.int 0), (.int 0), (.int 0), (.int 0)]))]) rfl rfl rfl
  refine A13.putF (qn := 18) (i := 0) (j := 1) (ty := (.array .int)) (tw hw 13 rfl) Via.refl (Or.inr ⟨(tw hw 14 rfl), rfl, rfl⟩) (tw hw 2 rfl) (by decide) rfl rfl d_prog_33_method_1_15 rfl rfl rfl rfl (fun T14 A15 => ?_)
  have A16 := A15.cast (k2 := 2) (n2 := 16) (os2 := [(a, ob0 (.ref b5) (.ref b12) (.int 0)), (b5, .inr (.int, [(.int 0), (.int 0), (.int 0), (.int 0), (.int 0), (.int 0), (.int 0), (.int 0)])), (b12, .inr (.int, [(.int 0), (.int 0), (.int 0), (.int 0), (.int 0), (.int 0), (.int 0), (.int 0)]))]) rfl rfl rfl
  refine A16.aloadN (q := 19) d_prog_33_method_1_18 rfl rfl rfl ?_
  refine A16.getF (qn := 22) (i := 0) (j := 1) (tw hw 13 rfl) Via.refl d_prog_33_method_1_19 rfl rfl rfl (fun T17 A18 => ?_)
  refine A18.iconst (q := 23) (v := -1) d_prog_33_method_1_22 rfl rfl ?_
  refine Here.callS (qn := 26) (os1 := [(a, ob0 (.ref b5) (.ref b12) (.int 0)), (b5, .inr (.int, [(.int 0), (.int 0), (.int 0), (.int 0), (.int 0), (.int 0), (.int 0), (.int 0)]))]) (os2 := [(b12, .inr (.int, [(.int 0), (.int 0), (.int 0), (.int 0), (.int 0), (.int 0), (.int 0), (.int 0)]))]) (rest := []) (W := 0) (argsL := [(.ref b12), (.int (-1))]) A18 (m_fill l Z a0 hw b12 ((0 : Int32)) ((0 : Int32)) ((0 : Int32)) ((0 : Int32)) ((0 : Int32)) ((0 : Int32)) ((0 : Int32)) ((0 : Int32))) (Or.inr ⟨rfl, rfl⟩) (tw hw 15 rfl) (tw hw 16 rfl) (tw hw 17 rfl) (tw hw 18 rfl) (by decide) d_prog_33_method_1_23 rfl (lenOf pd_1 rfl) rfl (Nat.le_of_eq rfl) (by decide) (by decide) (by decide) (by decide) rfl (fun T19 v20 os21 A22 P23 => ?_)
  obtain ⟨rfl, rfl⟩ := P23
  have A24 := A22.cast (k2 := 2) (n2 := 16) (os2 := [(a, ob0 (.ref b5) (.ref b12) (.int 0)), (b5, .inr (.int, [(.int 0), (.int 0), (.int 0), (.int 0), (.int 0), (.int 0), (.int 0), (.int 0)])), (b12, .inr (.int, [(.int (-1)), (.int (-1)), (.int (-1)), (.int (-1)), (.int (-1)), (.int (-1)), (.int (-1)), (.int (-1))]))]) rfl rfl rfl
  exact A24.retV d_prog_33_method_1_26 (by decide) (by decide) ⟨b5, b12, rfl, rfl⟩
theorem d_prog_33_method_9_0 : decode prog_33_method_9_code 0 = .ok (.aload_n 0, 1) := by decide +kernel
theorem d_prog_33_method_9_1 : decode prog_33_method_9_code 1 = .ok (.getfield 7, 3) := by decide +kernel
theorem d_prog_33_method_9_4 : decode prog_33_method_9_code 4 = .ok (.aload_n 0, 1) := by decide +kernel
theorem d_prog_33_method_9_5 : decode prog_33_method_9_code 5 = .ok (.getfield 28, 3) := by decide +kernel
theorem d_prog_33_method_9_8 : decode prog_33_method_9_code 8 = .ok (.iload_n 1, 1) := by decide +kernel
theorem d_prog_33_method_9_9 : decode prog_33_method_9_code 9 = .ok (.iastore, 1) := by decide +kernel
theorem d_prog_33_method_9_10 : decode prog_33_method_9_code 10 = .ok (.aload_n 0, 1) := by decide +kernel
theorem d_prog_33_method_9_11 : decode prog_33_method_9_code 11 = .ok (.getfield 13, 3) := by decide +kernel
theorem d_prog_33_method_9_14 : decode prog_33_method_9_code 14 = .ok (.iload_n 1, 1) := by decide +kernel
theorem d_prog_33_method_9_15 : decode prog_33_method_9_code 15 = .ok (.aload_n 0, 1) := by decide +kernel
theorem d_prog_33_method_9_16 : decode prog_33_method_9_code 16 = .ok (.getfield 28, 3) := by decide +kernel
theorem d_prog_33_method_9_19 : decode prog_33_method_9_code 19 = .ok (.iastore, 1) := by decide +kernel
theorem d_prog_33_method_9_20 : decode prog_33_method_9_code 20 = .ok (.aload_n 0, 1) := by decide +kernel
theorem d_prog_33_method_9_21 : decode prog_33_method_9_code 21 = .ok (.dup, 1) := by decide +kernel
theorem d_prog_33_method_9_22 : decode prog_33_method_9_code 22 = .ok (.getfield 28, 3) := by decide +kernel
theorem d_prog_33_method_9_25 : decode prog_33_method_9_code 25 = .ok (.iconst 1, 1) := by decide +kernel
theorem d_prog_33_method_9_26 : decode prog_33_method_9_code 26 = .ok (.iadd, 1) := by decide +kernel
theorem d_prog_33_method_9_27 : decode prog_33_method_9_code 27 = .ok (.putfield 28, 3) := by decide +kernel
theorem d_prog_33_method_9_30 : decode prog_33_method_9_code 30 = .ok (.return_, 1) := by decide +kernel
theorem ef_m_add0 (m : MethodId) (x0 : Addr) (x1 : Int32) : entryFrame m #[(.ref x0), (.int x1)] 2 = mkF m 0 #[.val (.ref x0), .val (.int x1)] [] := by first | (simp [entryFrame, mkF, argsToLocals, Value.category]; done) | rfl
set_option maxRecDepth 65536 in
set_option maxHeartbeats 40000000 in
theorem m_add0 (l : Launch) (Z : State) (a0 : Array Value) (hw : ∀ d ∈ tables_1, d.before a0 Z = true) (a : Addr) (b1 : Addr) (b2 : Addr) (z : Int32) (u0 : Int32) (u1 : Int32) (u2 : Int32) (u3 : Int32) (u4 : Int32) (u5 : Int32) (u6 : Int32) (u7 : Int32) (ps : List Value) (hz : 0 ≤ z.toInt) (hp : z.toNatClampNeg < ps.length) :
    Pays l Z a0 (⟨"com/example/heirring/heirring/IndexedIntSet", "add", "(I)V"⟩ : MethodName) prog_33_method_9_code 2 none ({ frames := 0, cells := 0, slots := 0, locals := 0 } : Room) #[(.ref a), (.int z)] [(a, ob0 (.ref b1) (.ref b2) (.int 0)), (b1, .inr (.int, [(.int u0), (.int u1), (.int u2), (.int u3), (.int u4), (.int u5), (.int u6), (.int u7)])), (b2, .inr (.int, ps))] (([(a, ob0 (.ref b1) (.ref b2) (.int 0)), (b1, .inr (.int, [(.int u0), (.int u1), (.int u2), (.int u3), (.int u4), (.int u5), (.int u6), (.int u7)])), (b2, .inr (.int, ps))] : Hs).map (·.1)) (fun v os' => v = none ∧ os' = [(a, ob0 (.ref b1) (.ref b2) (.int 1)), (b1, .inr (.int, [(.int z), (.int u1), (.int u2), (.int u3), (.int u4), (.int u5), (.int u6), (.int u7)])), (b2, .inr (.int, (ps.set z.toNatClampNeg (.int 0))))]) := by
  refine Pays.of (Ls := #[.val (.ref a), .val (.int z)]) (plainFor_of_name pn_2) (fun m => ef_m_add0 m a z) ?_
  intro p e s m below meth c T0 A0
  refine A0.aloadN (q := 1) d_prog_33_method_9_0 rfl rfl rfl ?_
  refine A0.getF (qn := 4) (i := 0) (j := 0) (tw hw 11 rfl) Via.refl d_prog_33_method_9_1 rfl rfl rfl (fun T1 A2 => ?_)
  refine A2.aloadN (q := 5) d_prog_33_method_9_4 rfl rfl rfl ?_
  refine A2.getF (qn := 8) (i := 0) (j := 2) (tw hw 24 rfl) Via.refl d_prog_33_method_9_5 rfl rfl rfl (fun T3 A4 => ?_)
  refine A4.iloadN (q := 9) d_prog_33_method_9_8 rfl rfl ?_
  refine A4.stI (qn := 10) (i := 1) d_prog_33_method_9_9 rfl (by decide) (show (0 : Int32).toNatClampNeg < 8 from by decide) rfl rfl (fun T5 A6 => ?_)
  have A7 := A6.cast (k2 := 0) (n2 := 0) (os2 := [(a, ob0 (.ref b1) (.ref b2) (.int 0)), (b1, .inr (.int, [(.int z), (.int u1), (.int u2), (.int u3), (.int u4), (.int u5), (.int u6), (.int u7)])), (b2, .inr (.int, ps))]) rfl rfl rfl
  refine A7.aloadN (q := 11) d_prog_33_method_9_10 rfl rfl rfl ?_
  refine A7.getF (qn := 14) (i := 0) (j := 1) (tw hw 13 rfl) Via.refl d_prog_33_method_9_11 rfl rfl rfl (fun T8 A9 => ?_)
  refine A9.iloadN (q := 15) d_prog_33_method_9_14 rfl rfl ?_
  refine A9.aloadN (q := 16) d_prog_33_method_9_15 rfl rfl rfl ?_
  refine A9.getF (qn := 19) (i := 0) (j := 2) (tw hw 24 rfl) Via.refl d_prog_33_method_9_16 rfl rfl rfl (fun T10 A11 => ?_)
  refine A11.stI (qn := 20) (i := 2) d_prog_33_method_9_19 rfl (own_nn hz) (hp) rfl rfl (fun T12 A13 => ?_)
  have A14 := A13.cast (k2 := 0) (n2 := 0) (os2 := [(a, ob0 (.ref b1) (.ref b2) (.int 0)), (b1, .inr (.int, [(.int z), (.int u1), (.int u2), (.int u3), (.int u4), (.int u5), (.int u6), (.int u7)])), (b2, .inr (.int, (ps.set z.toNatClampNeg (.int 0))))]) rfl rfl rfl
  refine A14.aloadN (q := 21) d_prog_33_method_9_20 rfl rfl rfl ?_
  refine A14.dup (q := 22) d_prog_33_method_9_21 rfl rfl ?_
  refine A14.getF (qn := 25) (i := 0) (j := 2) (tw hw 24 rfl) Via.refl d_prog_33_method_9_22 rfl rfl rfl (fun T15 A16 => ?_)
  refine A16.iconst (q := 26) (v := 1) d_prog_33_method_9_25 rfl rfl ?_
  refine A16.iadd (q := 27) d_prog_33_method_9_26 rfl ?_
  refine Wp.top (v' := (.int 1)) rfl ?_
  refine A16.putF (qn := 30) (i := 0) (j := 2) (ty := .int) (tw hw 24 rfl) Via.refl (Or.inl (tw hw 25 rfl)) (tw hw 2 rfl) (by decide) rfl rfl d_prog_33_method_9_27 rfl rfl rfl rfl (fun T17 A18 => ?_)
  have A19 := A18.cast (k2 := 0) (n2 := 0) (os2 := [(a, ob0 (.ref b1) (.ref b2) (.int 1)), (b1, .inr (.int, [(.int z), (.int u1), (.int u2), (.int u3), (.int u4), (.int u5), (.int u6), (.int u7)])), (b2, .inr (.int, (ps.set z.toNatClampNeg (.int 0))))]) rfl rfl rfl
  exact A19.retV d_prog_33_method_9_30 (by decide) (by decide) ⟨rfl, rfl⟩
theorem ef_m_add1 (m : MethodId) (x0 : Addr) (x1 : Int32) : entryFrame m #[(.ref x0), (.int x1)] 2 = mkF m 0 #[.val (.ref x0), .val (.int x1)] [] := by first | (simp [entryFrame, mkF, argsToLocals, Value.category]; done) | rfl
set_option maxRecDepth 65536 in
set_option maxHeartbeats 40000000 in
theorem m_add1 (l : Launch) (Z : State) (a0 : Array Value) (hw : ∀ d ∈ tables_1, d.before a0 Z = true) (a : Addr) (b1 : Addr) (b2 : Addr) (z : Int32) (u0 : Int32) (u1 : Int32) (u2 : Int32) (u3 : Int32) (u4 : Int32) (u5 : Int32) (u6 : Int32) (u7 : Int32) (ps : List Value) (hz : 0 ≤ z.toInt) (hp : z.toNatClampNeg < ps.length) :
    Pays l Z a0 (⟨"com/example/heirring/heirring/IndexedIntSet", "add", "(I)V"⟩ : MethodName) prog_33_method_9_code 2 none ({ frames := 0, cells := 0, slots := 0, locals := 0 } : Room) #[(.ref a), (.int z)] [(a, ob0 (.ref b1) (.ref b2) (.int 1)), (b1, .inr (.int, [(.int u0), (.int u1), (.int u2), (.int u3), (.int u4), (.int u5), (.int u6), (.int u7)])), (b2, .inr (.int, ps))] (([(a, ob0 (.ref b1) (.ref b2) (.int 1)), (b1, .inr (.int, [(.int u0), (.int u1), (.int u2), (.int u3), (.int u4), (.int u5), (.int u6), (.int u7)])), (b2, .inr (.int, ps))] : Hs).map (·.1)) (fun v os' => v = none ∧ os' = [(a, ob0 (.ref b1) (.ref b2) (.int 2)), (b1, .inr (.int, [(.int u0), (.int z), (.int u2), (.int u3), (.int u4), (.int u5), (.int u6), (.int u7)])), (b2, .inr (.int, (ps.set z.toNatClampNeg (.int 1))))]) := by
  refine Pays.of (Ls := #[.val (.ref a), .val (.int z)]) (plainFor_of_name pn_2) (fun m => ef_m_add1 m a z) ?_
  intro p e s m below meth c T0 A0
  refine A0.aloadN (q := 1) d_prog_33_method_9_0 rfl rfl rfl ?_
  refine A0.getF (qn := 4) (i := 0) (j := 0) (tw hw 11 rfl) Via.refl d_prog_33_method_9_1 rfl rfl rfl (fun T1 A2 => ?_)
  refine A2.aloadN (q := 5) d_prog_33_method_9_4 rfl rfl rfl ?_
  refine A2.getF (qn := 8) (i := 0) (j := 2) (tw hw 24 rfl) Via.refl d_prog_33_method_9_5 rfl rfl rfl (fun T3 A4 => ?_)
  refine A4.iloadN (q := 9) d_prog_33_method_9_8 rfl rfl ?_
  refine A4.stI (qn := 10) (i := 1) d_prog_33_method_9_9 rfl (by decide) (show (1 : Int32).toNatClampNeg < 8 from by decide) rfl rfl (fun T5 A6 => ?_)
  have A7 := A6.cast (k2 := 0) (n2 := 0) (os2 := [(a, ob0 (.ref b1) (.ref b2) (.int 1)), (b1, .inr (.int, [(.int u0), (.int z), (.int u2), (.int u3), (.int u4), (.int u5), (.int u6), (.int u7)])), (b2, .inr (.int, ps))]) rfl rfl rfl
  refine A7.aloadN (q := 11) d_prog_33_method_9_10 rfl rfl rfl ?_
  refine A7.getF (qn := 14) (i := 0) (j := 1) (tw hw 13 rfl) Via.refl d_prog_33_method_9_11 rfl rfl rfl (fun T8 A9 => ?_)
  refine A9.iloadN (q := 15) d_prog_33_method_9_14 rfl rfl ?_
  refine A9.aloadN (q := 16) d_prog_33_method_9_15 rfl rfl rfl ?_
  refine A9.getF (qn := 19) (i := 0) (j := 2) (tw hw 24 rfl) Via.refl d_prog_33_method_9_16 rfl rfl rfl (fun T10 A11 => ?_)
  refine A11.stI (qn := 20) (i := 2) d_prog_33_method_9_19 rfl (own_nn hz) (hp) rfl rfl (fun T12 A13 => ?_)
  have A14 := A13.cast (k2 := 0) (n2 := 0) (os2 := [(a, ob0 (.ref b1) (.ref b2) (.int 1)), (b1, .inr (.int, [(.int u0), (.int z), (.int u2), (.int u3), (.int u4), (.int u5), (.int u6), (.int u7)])), (b2, .inr (.int, (ps.set z.toNatClampNeg (.int 1))))]) rfl rfl rfl
  refine A14.aloadN (q := 21) d_prog_33_method_9_20 rfl rfl rfl ?_
  refine A14.dup (q := 22) d_prog_33_method_9_21 rfl rfl ?_
  refine A14.getF (qn := 25) (i := 0) (j := 2) (tw hw 24 rfl) Via.refl d_prog_33_method_9_22 rfl rfl rfl (fun T15 A16 => ?_)
  refine A16.iconst (q := 26) (v := 1) d_prog_33_method_9_25 rfl rfl ?_
  refine A16.iadd (q := 27) d_prog_33_method_9_26 rfl ?_
  refine Wp.top (v' := (.int 2)) rfl ?_
  refine A16.putF (qn := 30) (i := 0) (j := 2) (ty := .int) (tw hw 24 rfl) Via.refl (Or.inl (tw hw 25 rfl)) (tw hw 2 rfl) (by decide) rfl rfl d_prog_33_method_9_27 rfl rfl rfl rfl (fun T17 A18 => ?_)
  have A19 := A18.cast (k2 := 0) (n2 := 0) (os2 := [(a, ob0 (.ref b1) (.ref b2) (.int 2)), (b1, .inr (.int, [(.int u0), (.int z), (.int u2), (.int u3), (.int u4), (.int u5), (.int u6), (.int u7)])), (b2, .inr (.int, (ps.set z.toNatClampNeg (.int 1))))]) rfl rfl rfl
  exact A19.retV d_prog_33_method_9_30 (by decide) (by decide) ⟨rfl, rfl⟩
theorem ef_m_add2 (m : MethodId) (x0 : Addr) (x1 : Int32) : entryFrame m #[(.ref x0), (.int x1)] 2 = mkF m 0 #[.val (.ref x0), .val (.int x1)] [] := by first | (simp [entryFrame, mkF, argsToLocals, Value.category]; done) | rfl
set_option maxRecDepth 65536 in
set_option maxHeartbeats 40000000 in
theorem m_add2 (l : Launch) (Z : State) (a0 : Array Value) (hw : ∀ d ∈ tables_1, d.before a0 Z = true) (a : Addr) (b1 : Addr) (b2 : Addr) (z : Int32) (u0 : Int32) (u1 : Int32) (u2 : Int32) (u3 : Int32) (u4 : Int32) (u5 : Int32) (u6 : Int32) (u7 : Int32) (ps : List Value) (hz : 0 ≤ z.toInt) (hp : z.toNatClampNeg < ps.length) :
    Pays l Z a0 (⟨"com/example/heirring/heirring/IndexedIntSet", "add", "(I)V"⟩ : MethodName) prog_33_method_9_code 2 none ({ frames := 0, cells := 0, slots := 0, locals := 0 } : Room) #[(.ref a), (.int z)] [(a, ob0 (.ref b1) (.ref b2) (.int 2)), (b1, .inr (.int, [(.int u0), (.int u1), (.int u2), (.int u3), (.int u4), (.int u5), (.int u6), (.int u7)])), (b2, .inr (.int, ps))] (([(a, ob0 (.ref b1) (.ref b2) (.int 2)), (b1, .inr (.int, [(.int u0), (.int u1), (.int u2), (.int u3), (.int u4), (.int u5), (.int u6), (.int u7)])), (b2, .inr (.int, ps))] : Hs).map (·.1)) (fun v os' => v = none ∧ os' = [(a, ob0 (.ref b1) (.ref b2) (.int 3)), (b1, .inr (.int, [(.int u0), (.int u1), (.int z), (.int u3), (.int u4), (.int u5), (.int u6), (.int u7)])), (b2, .inr (.int, (ps.set z.toNatClampNeg (.int 2))))]) := by
  refine Pays.of (Ls := #[.val (.ref a), .val (.int z)]) (plainFor_of_name pn_2) (fun m => ef_m_add2 m a z) ?_
  intro p e s m below meth c T0 A0
  refine A0.aloadN (q := 1) d_prog_33_method_9_0 rfl rfl rfl ?_
  refine A0.getF (qn := 4) (i := 0) (j := 0) (tw hw 11 rfl) Via.refl d_prog_33_method_9_1 rfl rfl rfl (fun T1 A2 => ?_)
  refine A2.aloadN (q := 5) d_prog_33_method_9_4 rfl rfl rfl ?_
  refine A2.getF (qn := 8) (i := 0) (j := 2) (tw hw 24 rfl) Via.refl d_prog_33_method_9_5 rfl rfl rfl (fun T3 A4 => ?_)
  refine A4.iloadN (q := 9) d_prog_33_method_9_8 rfl rfl ?_
  refine A4.stI (qn := 10) (i := 1) d_prog_33_method_9_9 rfl (by decide) (show (2 : Int32).toNatClampNeg < 8 from by decide) rfl rfl (fun T5 A6 => ?_)
  have A7 := A6.cast (k2 := 0) (n2 := 0) (os2 := [(a, ob0 (.ref b1) (.ref b2) (.int 2)), (b1, .inr (.int, [(.int u0), (.int u1), (.int z), (.int u3), (.int u4), (.int u5), (.int u6), (.int u7)])), (b2, .inr (.int, ps))]) rfl rfl rfl
  refine A7.aloadN (q := 11) d_prog_33_method_9_10 rfl rfl rfl ?_
  refine A7.getF (qn := 14) (i := 0) (j := 1) (tw hw 13 rfl) Via.refl d_prog_33_method_9_11 rfl rfl rfl (fun T8 A9 => ?_)
  refine A9.iloadN (q := 15) d_prog_33_method_9_14 rfl rfl ?_
  refine A9.aloadN (q := 16) d_prog_33_method_9_15 rfl rfl rfl ?_
  refine A9.getF (qn := 19) (i := 0) (j := 2) (tw hw 24 rfl) Via.refl d_prog_33_method_9_16 rfl rfl rfl (fun T10 A11 => ?_)
  refine A11.stI (qn := 20) (i := 2) d_prog_33_method_9_19 rfl (own_nn hz) (hp) rfl rfl (fun T12 A13 => ?_)
  have A14 := A13.cast (k2 := 0) (n2 := 0) (os2 := [(a, ob0 (.ref b1) (.ref b2) (.int 2)), (b1, .inr (.int, [(.int u0), (.int u1), (.int z), (.int u3), (.int u4), (.int u5), (.int u6), (.int u7)])), (b2, .inr (.int, (ps.set z.toNatClampNeg (.int 2))))]) rfl rfl rfl
  refine A14.aloadN (q := 21) d_prog_33_method_9_20 rfl rfl rfl ?_
  refine A14.dup (q := 22) d_prog_33_method_9_21 rfl rfl ?_
  refine A14.getF (qn := 25) (i := 0) (j := 2) (tw hw 24 rfl) Via.refl d_prog_33_method_9_22 rfl rfl rfl (fun T15 A16 => ?_)
  refine A16.iconst (q := 26) (v := 1) d_prog_33_method_9_25 rfl rfl ?_
  refine A16.iadd (q := 27) d_prog_33_method_9_26 rfl ?_
  refine Wp.top (v' := (.int 3)) rfl ?_
  refine A16.putF (qn := 30) (i := 0) (j := 2) (ty := .int) (tw hw 24 rfl) Via.refl (Or.inl (tw hw 25 rfl)) (tw hw 2 rfl) (by decide) rfl rfl d_prog_33_method_9_27 rfl rfl rfl rfl (fun T17 A18 => ?_)
  have A19 := A18.cast (k2 := 0) (n2 := 0) (os2 := [(a, ob0 (.ref b1) (.ref b2) (.int 3)), (b1, .inr (.int, [(.int u0), (.int u1), (.int z), (.int u3), (.int u4), (.int u5), (.int u6), (.int u7)])), (b2, .inr (.int, (ps.set z.toNatClampNeg (.int 2))))]) rfl rfl rfl
  exact A19.retV d_prog_33_method_9_30 (by decide) (by decide) ⟨rfl, rfl⟩
theorem d_prog_33_method_8_0 : decode prog_33_method_8_code 0 = .ok (.aload_n 0, 1) := by decide +kernel
theorem d_prog_33_method_8_1 : decode prog_33_method_8_code 1 = .ok (.getfield 13, 3) := by decide +kernel
theorem d_prog_33_method_8_4 : decode prog_33_method_8_code 4 = .ok (.iload_n 1, 1) := by decide +kernel
theorem d_prog_33_method_8_5 : decode prog_33_method_8_code 5 = .ok (.iaload, 1) := by decide +kernel
theorem d_prog_33_method_8_6 : decode prog_33_method_8_code 6 = .ok (.ireturn, 1) := by decide +kernel
theorem ef_m_place (m : MethodId) (x0 : Addr) (x1 : Int32) : entryFrame m #[(.ref x0), (.int x1)] 2 = mkF m 0 #[.val (.ref x0), .val (.int x1)] [] := by first | (simp [entryFrame, mkF, argsToLocals, Value.category]; done) | rfl
set_option maxRecDepth 65536 in
set_option maxHeartbeats 40000000 in
theorem m_place (l : Launch) (Z : State) (a0 : Array Value) (hw : ∀ d ∈ tables_1, d.before a0 Z = true) (a : Addr) (b1 : Addr) (b2 : Addr) (z : Int32) (f : Int32) (ps : List Value) (r0 : Int32) (hz : 0 ≤ z.toInt) (hp : ps[z.toNatClampNeg]? = some (.int r0)) :
    Pays l Z a0 (⟨"com/example/heirring/heirring/IndexedIntSet", "place", "(I)I"⟩ : MethodName) prog_33_method_8_code 2 (some .int) ({ frames := 0, cells := 0, slots := 0, locals := 0 } : Room) #[(.ref a), (.int z)] [(a, ob0 (.ref b1) (.ref b2) (.int f)), (b2, .inr (.int, ps))] (([(a, ob0 (.ref b1) (.ref b2) (.int f)), (b2, .inr (.int, ps))] : Hs).map (·.1)) (fun v os' => v = some (.int r0) ∧ os' = [(a, ob0 (.ref b1) (.ref b2) (.int f)), (b2, .inr (.int, ps))]) := by
  refine Pays.of (Ls := #[.val (.ref a), .val (.int z)]) (plainFor_of_name pn_2) (fun m => ef_m_place m a z) ?_
  intro p e s m below meth c T0 A0
  refine A0.aloadN (q := 1) d_prog_33_method_8_0 rfl rfl rfl ?_
  refine A0.getF (qn := 4) (i := 0) (j := 1) (tw hw 13 rfl) Via.refl d_prog_33_method_8_1 rfl rfl rfl (fun T1 A2 => ?_)
  refine A2.iloadN (q := 5) d_prog_33_method_8_4 rfl rfl ?_
  refine A2.ldI (qn := 6) (i := 1) (v := (.int r0)) d_prog_33_method_8_5 rfl (own_nn hz) (hp) rfl ?_
  exact A2.retI d_prog_33_method_8_6 (by decide) (by decide) ⟨rfl, rfl⟩
theorem d_prog_33_method_7_0 : decode prog_33_method_7_code 0 = .ok (.aload_n 0, 1) := by decide +kernel
theorem d_prog_33_method_7_1 : decode prog_33_method_7_code 1 = .ok (.getfield 7, 3) := by decide +kernel
theorem d_prog_33_method_7_4 : decode prog_33_method_7_code 4 = .ok (.iload_n 1, 1) := by decide +kernel
theorem d_prog_33_method_7_5 : decode prog_33_method_7_code 5 = .ok (.iaload, 1) := by decide +kernel
theorem d_prog_33_method_7_6 : decode prog_33_method_7_code 6 = .ok (.ireturn, 1) := by decide +kernel
theorem ef_m_get0 (m : MethodId) (x0 : Addr) : entryFrame m #[(.ref x0), (.int 0)] 2 = mkF m 0 #[.val (.ref x0), .val (.int 0)] [] := by first | (simp [entryFrame, mkF, argsToLocals, Value.category]; done) | rfl
set_option maxRecDepth 65536 in
set_option maxHeartbeats 40000000 in
theorem m_get0 (l : Launch) (Z : State) (a0 : Array Value) (hw : ∀ d ∈ tables_1, d.before a0 Z = true) (a : Addr) (b1 : Addr) (b2 : Addr) (f : Int32) (u0 : Int32) (u1 : Int32) (u2 : Int32) (u3 : Int32) (u4 : Int32) (u5 : Int32) (u6 : Int32) (u7 : Int32) :
    Pays l Z a0 (⟨"com/example/heirring/heirring/IndexedIntSet", "get", "(I)I"⟩ : MethodName) prog_33_method_7_code 2 (some .int) ({ frames := 0, cells := 0, slots := 0, locals := 0 } : Room) #[(.ref a), (.int 0)] [(a, ob0 (.ref b1) (.ref b2) (.int f)), (b1, .inr (.int, [(.int u0), (.int u1), (.int u2), (.int u3), (.int u4), (.int u5), (.int u6), (.int u7)]))] (([(a, ob0 (.ref b1) (.ref b2) (.int f)), (b1, .inr (.int, [(.int u0), (.int u1), (.int u2), (.int u3), (.int u4), (.int u5), (.int u6), (.int u7)]))] : Hs).map (·.1)) (fun v os' => v = some (.int u0) ∧ os' = [(a, ob0 (.ref b1) (.ref b2) (.int f)), (b1, .inr (.int, [(.int u0), (.int u1), (.int u2), (.int u3), (.int u4), (.int u5), (.int u6), (.int u7)]))]) := by
  refine Pays.of (Ls := #[.val (.ref a), .val (.int 0)]) (plainFor_of_name pn_2) (fun m => ef_m_get0 m a) ?_
  intro p e s m below meth c T0 A0
  refine A0.aloadN (q := 1) d_prog_33_method_7_0 rfl rfl rfl ?_
  refine A0.getF (qn := 4) (i := 0) (j := 0) (tw hw 11 rfl) Via.refl d_prog_33_method_7_1 rfl rfl rfl (fun T1 A2 => ?_)
  refine A2.iloadN (q := 5) d_prog_33_method_7_4 rfl rfl ?_
  refine A2.ldI (qn := 6) (i := 1) d_prog_33_method_7_5 rfl (by decide) rfl rfl ?_
  exact A2.retI d_prog_33_method_7_6 (by decide) (by decide) ⟨rfl, rfl⟩
theorem ef_m_get1 (m : MethodId) (x0 : Addr) : entryFrame m #[(.ref x0), (.int 1)] 2 = mkF m 0 #[.val (.ref x0), .val (.int 1)] [] := by first | (simp [entryFrame, mkF, argsToLocals, Value.category]; done) | rfl
set_option maxRecDepth 65536 in
set_option maxHeartbeats 40000000 in
theorem m_get1 (l : Launch) (Z : State) (a0 : Array Value) (hw : ∀ d ∈ tables_1, d.before a0 Z = true) (a : Addr) (b1 : Addr) (b2 : Addr) (f : Int32) (u0 : Int32) (u1 : Int32) (u2 : Int32) (u3 : Int32) (u4 : Int32) (u5 : Int32) (u6 : Int32) (u7 : Int32) :
    Pays l Z a0 (⟨"com/example/heirring/heirring/IndexedIntSet", "get", "(I)I"⟩ : MethodName) prog_33_method_7_code 2 (some .int) ({ frames := 0, cells := 0, slots := 0, locals := 0 } : Room) #[(.ref a), (.int 1)] [(a, ob0 (.ref b1) (.ref b2) (.int f)), (b1, .inr (.int, [(.int u0), (.int u1), (.int u2), (.int u3), (.int u4), (.int u5), (.int u6), (.int u7)]))] (([(a, ob0 (.ref b1) (.ref b2) (.int f)), (b1, .inr (.int, [(.int u0), (.int u1), (.int u2), (.int u3), (.int u4), (.int u5), (.int u6), (.int u7)]))] : Hs).map (·.1)) (fun v os' => v = some (.int u1) ∧ os' = [(a, ob0 (.ref b1) (.ref b2) (.int f)), (b1, .inr (.int, [(.int u0), (.int u1), (.int u2), (.int u3), (.int u4), (.int u5), (.int u6), (.int u7)]))]) := by
  refine Pays.of (Ls := #[.val (.ref a), .val (.int 1)]) (plainFor_of_name pn_2) (fun m => ef_m_get1 m a) ?_
  intro p e s m below meth c T0 A0
  refine A0.aloadN (q := 1) d_prog_33_method_7_0 rfl rfl rfl ?_
  refine A0.getF (qn := 4) (i := 0) (j := 0) (tw hw 11 rfl) Via.refl d_prog_33_method_7_1 rfl rfl rfl (fun T1 A2 => ?_)
  refine A2.iloadN (q := 5) d_prog_33_method_7_4 rfl rfl ?_
  refine A2.ldI (qn := 6) (i := 1) d_prog_33_method_7_5 rfl (by decide) rfl rfl ?_
  exact A2.retI d_prog_33_method_7_6 (by decide) (by decide) ⟨rfl, rfl⟩
theorem ef_m_get2 (m : MethodId) (x0 : Addr) : entryFrame m #[(.ref x0), (.int 2)] 2 = mkF m 0 #[.val (.ref x0), .val (.int 2)] [] := by first | (simp [entryFrame, mkF, argsToLocals, Value.category]; done) | rfl
set_option maxRecDepth 65536 in
set_option maxHeartbeats 40000000 in
theorem m_get2 (l : Launch) (Z : State) (a0 : Array Value) (hw : ∀ d ∈ tables_1, d.before a0 Z = true) (a : Addr) (b1 : Addr) (b2 : Addr) (f : Int32) (u0 : Int32) (u1 : Int32) (u2 : Int32) (u3 : Int32) (u4 : Int32) (u5 : Int32) (u6 : Int32) (u7 : Int32) :
    Pays l Z a0 (⟨"com/example/heirring/heirring/IndexedIntSet", "get", "(I)I"⟩ : MethodName) prog_33_method_7_code 2 (some .int) ({ frames := 0, cells := 0, slots := 0, locals := 0 } : Room) #[(.ref a), (.int 2)] [(a, ob0 (.ref b1) (.ref b2) (.int f)), (b1, .inr (.int, [(.int u0), (.int u1), (.int u2), (.int u3), (.int u4), (.int u5), (.int u6), (.int u7)]))] (([(a, ob0 (.ref b1) (.ref b2) (.int f)), (b1, .inr (.int, [(.int u0), (.int u1), (.int u2), (.int u3), (.int u4), (.int u5), (.int u6), (.int u7)]))] : Hs).map (·.1)) (fun v os' => v = some (.int u2) ∧ os' = [(a, ob0 (.ref b1) (.ref b2) (.int f)), (b1, .inr (.int, [(.int u0), (.int u1), (.int u2), (.int u3), (.int u4), (.int u5), (.int u6), (.int u7)]))]) := by
  refine Pays.of (Ls := #[.val (.ref a), .val (.int 2)]) (plainFor_of_name pn_2) (fun m => ef_m_get2 m a) ?_
  intro p e s m below meth c T0 A0
  refine A0.aloadN (q := 1) d_prog_33_method_7_0 rfl rfl rfl ?_
  refine A0.getF (qn := 4) (i := 0) (j := 0) (tw hw 11 rfl) Via.refl d_prog_33_method_7_1 rfl rfl rfl (fun T1 A2 => ?_)
  refine A2.iloadN (q := 5) d_prog_33_method_7_4 rfl rfl ?_
  refine A2.ldI (qn := 6) (i := 1) d_prog_33_method_7_5 rfl (by decide) rfl rfl ?_
  exact A2.retI d_prog_33_method_7_6 (by decide) (by decide) ⟨rfl, rfl⟩
theorem d_prog_33_method_5_0 : decode prog_33_method_5_code 0 = .ok (.aload_n 0, 1) := by decide +kernel
theorem d_prog_33_method_5_1 : decode prog_33_method_5_code 1 = .ok (.getfield 28, 3) := by decide +kernel
theorem d_prog_33_method_5_4 : decode prog_33_method_5_code 4 = .ok (.ireturn, 1) := by decide +kernel
theorem ef_m_size (m : MethodId) (x0 : Addr) : entryFrame m #[(.ref x0)] 1 = mkF m 0 #[.val (.ref x0)] [] := by first | (simp [entryFrame, mkF, argsToLocals, Value.category]; done) | rfl
set_option maxRecDepth 65536 in
set_option maxHeartbeats 40000000 in
theorem m_size (l : Launch) (Z : State) (a0 : Array Value) (hw : ∀ d ∈ tables_1, d.before a0 Z = true) (a : Addr) (b1 : Addr) (b2 : Addr) (f : Int32) :
    Pays l Z a0 (⟨"com/example/heirring/heirring/IndexedIntSet", "size", "()I"⟩ : MethodName) prog_33_method_5_code 1 (some .int) ({ frames := 0, cells := 0, slots := 0, locals := 0 } : Room) #[(.ref a)] [(a, ob0 (.ref b1) (.ref b2) (.int f))] (([(a, ob0 (.ref b1) (.ref b2) (.int f))] : Hs).map (·.1)) (fun v os' => v = some (.int f) ∧ os' = [(a, ob0 (.ref b1) (.ref b2) (.int f))]) := by
  refine Pays.of (Ls := #[.val (.ref a)]) (plainFor_of_name pn_2) (fun m => ef_m_size m a) ?_
  intro p e s m below meth c T0 A0
  refine A0.aloadN (q := 1) d_prog_33_method_5_0 rfl rfl rfl ?_
  refine A0.getF (qn := 4) (i := 0) (j := 2) (tw hw 24 rfl) Via.refl d_prog_33_method_5_1 rfl rfl rfl (fun T1 A2 => ?_)
  exact A2.retI d_prog_33_method_5_4 (by decide) (by decide) ⟨rfl, rfl⟩
theorem pd_3 : parseMethodDescriptor "(I)V" = some ⟨[.int], none⟩ := by decide +kernel
theorem pd_4 : parseMethodDescriptor "()I" = some ⟨[], some .int⟩ := by decide +kernel
theorem pd_5 : parseMethodDescriptor "(I)I" = some ⟨[.int], some .int⟩ := by decide +kernel
theorem pn_6 : plainName "com/example/heirring/heirring/IndexedIntSetAddPinLaw" = true := by first | (simp [plainName, overriddenIn]; done) | decide +kernel
theorem ef_m_law (m : MethodId) (x0 : Int32) (x1 : Int32) (x2 : Int32) (x3 : Int32) (x4 : Int32) : entryFrame m #[(.int x0), (.int x1), (.int x2), (.int x3), (.int x4)] maxLocals = mkF m 0 #[.val (.int x0), .val (.int x1), .val (.int x2), .val (.int x3), .val (.int x4), .unset, .unset, .unset, .unset, .unset, .unset, .unset, .unset, .unset, .unset] [] := by first | (simp [entryFrame, mkF, argsToLocals, Value.category, maxLocals]; done) | rfl
set_option maxRecDepth 65536 in
set_option maxHeartbeats 40000000 in
theorem m_law (l : Launch) (Z : State) (a0 : Array Value) (hw : ∀ d ∈ tables_1, d.before a0 Z = true) (x0 : Int32) (x1 : Int32) (x2 : Int32) (x3 : Int32) (x4 : Int32) :
    Pays l Z a0 x code maxLocals ret room_1 #[(.int x0), (.int x1), (.int x2), (.int x3), (.int x4)] [] (([] : Hs).map (·.1)) (fun v os' => v = some (.int 1) ∧ True) := by
  refine Pays.of (Ls := #[.val (.int x0), .val (.int x1), .val (.int x2), .val (.int x3), .val (.int x4), .unset, .unset, .unset, .unset, .unset, .unset, .unset, .unset, .unset, .unset]) (plainFor_of_name pn_6) (fun m => ef_m_law m x0 x1 x2 x3 x4) ?_
  intro p e s m below meth c T0 A0
  refine A0.iloadN (q := 1) at_0 rfl rfl ?_
  refine A0.bipush (q := 3) (v := 7) at_1 rfl rfl ?_
  refine A0.iand (q := 4) at_3 rfl ?_
  generalize htt : (x2 &&& (7 : Int32)) = tt
  have ftt : 0 ≤ tt.toInt ∧ tt.toInt < 8 := by rw [← htt]; exact own_and7 _
  clear htt
  refine A0.istore (q := 6) (l' := #[.val (.int x0), .val (.int x1), .val (.int x2), .val (.int x3), .val (.int x4), .val (.int tt), .unset, .unset, .unset, .unset, .unset, .unset, .unset, .unset, .unset]) at_4 rfl rfl ?_
  refine A0.iconst (q := 7) (v := 1) at_6 rfl rfl ?_
  refine A0.iloadN (q := 8) at_7 rfl rfl ?_
  refine A0.ldc (qn := 10) (v := 2147483647) (tw hw 0 rfl) at_8 rfl ?_
  refine A0.iand (q := 11) at_10 rfl ?_
  refine A0.bipush (q := 13) (v := 7) at_11 rfl rfl ?_
  refine A0.irem (qn := 14) at_13 (by decide) rfl ?_
  generalize hm7 : ((x0 &&& (2147483647 : Int32)) % (7 : Int32)) = m7
  have fm7 : 0 ≤ m7.toInt ∧ m7.toInt < 7 := by rw [← hm7]; exact own_r7b _
  clear hm7
  refine A0.iadd (q := 15) at_14 rfl ?_
  refine A0.istore (q := 17) (l' := #[.val (.int x0), .val (.int x1), .val (.int x2), .val (.int x3), .val (.int x4), .val (.int tt), .val (.int ((1 : Int32) + m7)), .unset, .unset, .unset, .unset, .unset, .unset, .unset, .unset]) at_15 rfl rfl ?_
  refine A0.iconst (q := 18) (v := 1) at_17 rfl rfl ?_
  refine A0.iloadN (q := 19) at_18 rfl rfl ?_
  refine A0.ldc (qn := 21) (v := 2147483647) (tw hw 0 rfl) at_19 rfl ?_
  refine A0.iand (q := 22) at_21 rfl ?_
  refine A0.bipush (q := 24) (v := 6) at_22 rfl rfl ?_
  refine A0.irem (qn := 25) at_24 (by decide) rfl ?_
  generalize hm6 : ((x1 &&& (2147483647 : Int32)) % (6 : Int32)) = m6
  have fm6 : 0 ≤ m6.toInt ∧ m6.toInt < 6 := by rw [← hm6]; exact own_r6b _
  clear hm6
  refine A0.iadd (q := 26) at_25 rfl ?_
  refine A0.istore (q := 28) (l' := #[.val (.int x0), .val (.int x1), .val (.int x2), .val (.int x3), .val (.int x4), .val (.int tt), .val (.int ((1 : Int32) + m7)), .val (.int ((1 : Int32) + m6)), .unset, .unset, .unset, .unset, .unset, .unset, .unset]) at_26 rfl rfl ?_
  have J41 : ∀ (T1 : State) (ob : Int32), Here p l e room_1 s m #[(.int x0), (.int x1), (.int x2), (.int x3), (.int x4)] below meth c Z a0 x code maxLocals ret (([] : Hs).map (·.1)) (([] : Hs).map (·.1)) T1 0 0 [] → (1 ≤ ob.toInt ∧ ob.toInt ≤ 7 ∧ ob.toInt ≠ ((1 : Int32) + m7).toInt) → Wp p e below Z a0 (([] : Hs).map (·.1)) (([] : Hs).map (·.1)) room_1 s (fun v os' => v = some (.int 1) ∧ True) T1 (mkF m 41 #[.val (.int x0), .val (.int x1), .val (.int x2), .val (.int x3), .val (.int x4), .val (.int tt), .val (.int ((1 : Int32) + m7)), .val (.int ob), .unset, .unset, .unset, .unset, .unset, .unset, .unset] []) := by
    intro T1 ob A2 hJ41
    refine A2.iload (q := 43) at_41 rfl rfl ?_
    refine A2.iload (q := 45) at_43 rfl rfl ?_
    refine A2.iadd (q := 46) at_45 rfl ?_
    refine A2.bipush (q := 48) (v := 7) at_46 rfl rfl ?_
    refine A2.iand (q := 49) at_48 rfl ?_
    generalize hxx : ((tt + ((1 : Int32) + m7)) &&& (7 : Int32)) = xx
    have fxx : xx.toInt = ((tt + ((1 : Int32) + m7))).toInt % 8 := by
      rw [← hxx]
      apply own_mod8
      clear hw A0 A2
      (try simp only [true_and, and_true, false_and, and_false, true_or, or_true, false_or, or_false, not_true_eq_false, not_false_eq_true, Int32.lt_iff_toInt_lt, Int64.lt_iff_toInt_lt, Int32.le_iff_toInt_le, Int64.le_iff_toInt_le, ← Int32.toInt_inj, ← Int64.toInt_inj, Int32.toInt_add, Int32.toInt_sub, Int32.toInt_neg, Int64.toInt_add, Int64.toInt_sub, Int64.toInt_neg, Int64.toInt_mul, Int32.toInt_toInt64, bm32, bm64, l32_m1, l32_0, l32_1, l32_2, l32_3, l32_6, l32_7, l32_2147483647] at ftt fm7 fm6 hJ41 ⊢) <;> omega
    clear hxx
    refine A2.istore (q := 51) (l' := #[.val (.int x0), .val (.int x1), .val (.int x2), .val (.int x3), .val (.int x4), .val (.int tt), .val (.int ((1 : Int32) + m7)), .val (.int ob), .val (.int xx), .unset, .unset, .unset, .unset, .unset, .unset]) at_49 rfl rfl ?_
    refine A2.iload (q := 53) at_51 rfl rfl ?_
    refine A2.iload (q := 55) at_53 rfl rfl ?_
    refine A2.iadd (q := 56) at_55 rfl ?_
    refine A2.bipush (q := 58) (v := 7) at_56 rfl rfl ?_
    refine A2.iand (q := 59) at_58 rfl ?_
    generalize hyy : ((tt + ob) &&& (7 : Int32)) = yy
    have fyy : yy.toInt = ((tt + ob)).toInt % 8 := by
      rw [← hyy]
      apply own_mod8
      clear hw A0 A2
      (try simp only [true_and, and_true, false_and, and_false, true_or, or_true, false_or, or_false, not_true_eq_false, not_false_eq_true, Int32.lt_iff_toInt_lt, Int64.lt_iff_toInt_lt, Int32.le_iff_toInt_le, Int64.le_iff_toInt_le, ← Int32.toInt_inj, ← Int64.toInt_inj, Int32.toInt_add, Int32.toInt_sub, Int32.toInt_neg, Int64.toInt_add, Int64.toInt_sub, Int64.toInt_neg, Int64.toInt_mul, Int32.toInt_toInt64, bm32, bm64, l32_m1, l32_0, l32_1, l32_2, l32_3, l32_6, l32_7, l32_2147483647] at ftt fm7 fm6 hJ41 fxx ⊢) <;> omega
    clear hyy
    refine A2.istore (q := 61) (l' := #[.val (.int x0), .val (.int x1), .val (.int x2), .val (.int x3), .val (.int x4), .val (.int tt), .val (.int ((1 : Int32) + m7)), .val (.int ob), .val (.int xx), .val (.int yy), .unset, .unset, .unset, .unset, .unset]) at_59 rfl rfl ?_
    refine A2.iloadN (q := 62) at_61 rfl rfl ?_
    refine A2.ldc (qn := 64) (v := 2147483647) (tw hw 0 rfl) at_62 rfl ?_
    refine A2.iand (q := 65) at_64 rfl ?_
    refine A2.iconst (q := 66) (v := 3) at_65 rfl rfl ?_
    refine A2.irem (qn := 67) at_66 (by decide) rfl ?_
    refine A2.istore (q := 69) (l' := #[.val (.int x0), .val (.int x1), .val (.int x2), .val (.int x3), .val (.int x4), .val (.int tt), .val (.int ((1 : Int32) + m7)), .val (.int ob), .val (.int xx), .val (.int yy), .val (.int ((x3 &&& (2147483647 : Int32)) % (3 : Int32))), .unset, .unset, .unset, .unset]) at_67 rfl rfl ?_
    refine A2.iload (q := 71) at_69 rfl rfl ?_
    refine A2.bipush (q := 73) (v := 7) at_71 rfl rfl ?_
    refine A2.iand (q := 74) at_73 rfl ?_
    generalize hww : (x4 &&& (7 : Int32)) = ww
    have fww : 0 ≤ ww.toInt ∧ ww.toInt < 8 := by rw [← hww]; exact own_and7 _
    clear hww
    refine A2.istore (q := 76) (l' := #[.val (.int x0), .val (.int x1), .val (.int x2), .val (.int x3), .val (.int x4), .val (.int tt), .val (.int ((1 : Int32) + m7)), .val (.int ob), .val (.int xx), .val (.int yy), .val (.int ((x3 &&& (2147483647 : Int32)) % (3 : Int32))), .val (.int ww), .unset, .unset, .unset]) at_74 rfl rfl ?_
    have gx : 0 ≤ xx.toInt ∧ xx.toInt < 8 ∧ ¬ xx = tt := by
      clear hw A0 A2
      (try simp only [true_and, and_true, false_and, and_false, true_or, or_true, false_or, or_false, not_true_eq_false, not_false_eq_true, Int32.lt_iff_toInt_lt, Int64.lt_iff_toInt_lt, Int32.le_iff_toInt_le, Int64.le_iff_toInt_le, ← Int32.toInt_inj, ← Int64.toInt_inj, Int32.toInt_add, Int32.toInt_sub, Int32.toInt_neg, Int64.toInt_add, Int64.toInt_sub, Int64.toInt_neg, Int64.toInt_mul, Int32.toInt_toInt64, bm32, bm64, l32_m1, l32_0, l32_1, l32_2, l32_3, l32_6, l32_7, l32_2147483647] at ftt fm7 fm6 hJ41 fxx fyy fww ⊢) <;> omega
    have gy : 0 ≤ yy.toInt ∧ yy.toInt < 8 ∧ ¬ yy = tt ∧ ¬ yy = xx := by
      clear hw A0 A2
      (try simp only [true_and, and_true, false_and, and_false, true_or, or_true, false_or, or_false, not_true_eq_false, not_false_eq_true, Int32.lt_iff_toInt_lt, Int64.lt_iff_toInt_lt, Int32.le_iff_toInt_le, Int64.le_iff_toInt_le, ← Int32.toInt_inj, ← Int64.toInt_inj, Int32.toInt_add, Int32.toInt_sub, Int32.toInt_neg, Int64.toInt_add, Int64.toInt_sub, Int64.toInt_neg, Int64.toInt_mul, Int32.toInt_toInt64, bm32, bm64, l32_m1, l32_0, l32_1, l32_2, l32_3, l32_6, l32_7, l32_2147483647] at ftt fm7 fm6 hJ41 fxx fyy fww ⊢) <;> omega
    rcases own_r3 x3 with hk | hk | hk
    · rw [hk]
      show Wp _ _ _ _ _ _ _ _ _ _ T1 (mkF m 76 #[.val (.int x0), .val (.int x1), .val (.int x2), .val (.int x3), .val (.int x4), .val (.int tt), .val (.int ((1 : Int32) + m7)), .val (.int ob), .val (.int xx), .val (.int yy), .val (.int 0), .val (.int ww), .unset, .unset, .unset] [])
      refine A2.newO (qn := 79) (C := "com/example/heirring/heirring/IndexedIntSet") (fs := [("com/example/heirring/heirring/IndexedIntSet", "members", "[I", .null), ("com/example/heirring/heirring/IndexedIntSet", "places", "[I", .null), ("com/example/heirring/heirring/IndexedIntSet", "size", "I", (.int 0))]) (tw hw 1 rfl) (tw hw 2 rfl) (tw hw 3 rfl) at_76 (by decide) (by decide) (by decide) (List.forall_mem_cons.mpr ⟨⟨Or.inr (tw hw 12 rfl), (.array .int), by decide, rfl⟩, (List.forall_mem_cons.mpr ⟨⟨Or.inr (tw hw 14 rfl), (.array .int), by decide, rfl⟩, (List.forall_mem_cons.mpr ⟨⟨Or.inl (tw hw 25 rfl), .int, by decide, rfl⟩, (List.forall_mem_nil _)⟩)⟩)⟩) rfl (fun T3 b5 A4 => ?_)
      have A6 := A4.cast (k2 := 1) (n2 := 3) (os2 := [(b5, ob0 .null .null (.int 0))]) rfl rfl rfl
      refine A6.dup (q := 80) at_79 rfl rfl ?_
      refine A6.bipush (q := 82) (v := 8) at_80 rfl rfl ?_
      refine Here.callI (qn := 85) (os1 := []) (os2 := [(b5, ob0 .null .null (.int 0))]) (rest := [(.ref b5)]) (W := 1) (argsL := [(.int 8)]) (a := b5) A6 (m_ini l Z a0 hw b5) (Or.inr ⟨rfl, rfl⟩) rfl (tw hw 4 rfl) (tw hw 5 rfl) (tw hw 3 rfl) (tw hw 6 rfl) (by decide) at_82 rfl (lenOf pd_3 rfl) rfl (Nat.le_of_eq rfl) (by decide) (by decide) (by decide) (by decide) rfl (fun T7 v8 os9 A10 P11 => ?_)
      obtain ⟨b1_82, b2_82, rfl, rfl⟩ := P11
      have A12 := A10.cast (k2 := 3) (n2 := 19) (os2 := [(b5, ob0 (.ref b1_82) (.ref b2_82) (.int 0)), (b1_82, .inr (.int, [(.int 0), (.int 0), (.int 0), (.int 0), (.int 0), (.int 0), (.int 0), (.int 0)])), (b2_82, .inr (.int, [(.int (-1)), (.int (-1)), (.int (-1)), (.int (-1)), (.int (-1)), (.int (-1)), (.int (-1)), (.int (-1))]))]) rfl rfl rfl
      refine A12.astore (q := 87) (l' := #[.val (.int x0), .val (.int x1), .val (.int x2), .val (.int x3), .val (.int x4), .val (.int tt), .val (.int ((1 : Int32) + m7)), .val (.int ob), .val (.int xx), .val (.int yy), .val (.int 0), .val (.int ww), .val (.ref b5), .unset, .unset]) at_85 rfl rfl rfl ?_
      refine A12.iload (q := 89) at_87 rfl rfl ?_
      refine A12.iconst (q := 90) (v := 1) at_89 rfl rfl ?_
      refine A12.icmpYes (q := 100) at_90 (by decide) (by decide) (by decide) ?_
      refine A12.iload (q := 102) at_100 rfl rfl ?_
      refine A12.iconst (q := 103) (v := 2) at_102 rfl rfl ?_
      refine A12.icmpYes (q := 113) at_103 (by decide) (by decide) (by decide) ?_
      refine A12.aload (q := 115) at_113 rfl rfl rfl ?_
      refine A12.iload (q := 117) at_115 rfl rfl ?_
      refine Here.callV (qn := 120) (os1 := []) (os2 := [(b5, ob0 (.ref b1_82) (.ref b2_82) (.int 0)), (b1_82, .inr (.int, [(.int 0), (.int 0), (.int 0), (.int 0), (.int 0), (.int 0), (.int 0), (.int 0)])), (b2_82, .inr (.int, [(.int (-1)), (.int (-1)), (.int (-1)), (.int (-1)), (.int (-1)), (.int (-1)), (.int (-1)), (.int (-1))]))]) (rest := []) (W := 0) (argsL := [(.int tt)]) (a := b5) (i := 0) A12 (m_add0 l Z a0 hw b5 b1_82 b2_82 tt ((0 : Int32)) ((0 : Int32)) ((0 : Int32)) ((0 : Int32)) ((0 : Int32)) ((0 : Int32)) ((0 : Int32)) ((0 : Int32)) ([(.int (-1)), (.int (-1)), (.int (-1)), (.int (-1)), (.int (-1)), (.int (-1)), (.int (-1)), (.int (-1))]) (ftt.1) (by (try simp only [List.length_set]); exact own_nat (n := 8) ftt.1 ftt.2)) (Or.inr ⟨rfl, rfl⟩) rfl (tw hw 19 rfl) (tw hw 20 rfl) (tw hw 22 rfl) (tw hw 21 rfl) (tw hw 3 rfl) (tw hw 23 rfl) (by decide) at_117 rfl (lenOf pd_3 rfl) rfl (Nat.le_of_eq rfl) (by decide) (by decide) (by decide) (by decide) rfl (fun T13 v14 os15 A16 P17 => ?_)
      obtain ⟨rfl, rfl⟩ := P17
      have A18 := A16.cast (k2 := 3) (n2 := 19) (os2 := [(b5, ob0 (.ref b1_82) (.ref b2_82) (.int 1)), (b1_82, .inr (.int, [(.int tt), (.int 0), (.int 0), (.int 0), (.int 0), (.int 0), (.int 0), (.int 0)])), (b2_82, .inr (.int, ([(.int (-1)), (.int (-1)), (.int (-1)), (.int (-1)), (.int (-1)), (.int (-1)), (.int (-1)), (.int (-1))].set tt.toNatClampNeg (.int 0))))]) rfl rfl rfl
      refine A18.aload (q := 122) at_120 rfl rfl rfl ?_
      have A19 := A18.pick (is := [1, 2, 0]) (os2 := [(b1_82, .inr (.int, [(.int tt), (.int 0), (.int 0), (.int 0), (.int 0), (.int 0), (.int 0), (.int 0)])), (b2_82, .inr (.int, ([(.int (-1)), (.int (-1)), (.int (-1)), (.int (-1)), (.int (-1)), (.int (-1)), (.int (-1)), (.int (-1))].set tt.toNatClampNeg (.int 0)))), (b5, ob0 (.ref b1_82) (.ref b2_82) (.int 1))]) (by decide) rfl
      refine Here.callV (qn := 125) (os1 := [(b1_82, .inr (.int, [(.int tt), (.int 0), (.int 0), (.int 0), (.int 0), (.int 0), (.int 0), (.int 0)])), (b2_82, .inr (.int, ([(.int (-1)), (.int (-1)), (.int (-1)), (.int (-1)), (.int (-1)), (.int (-1)), (.int (-1)), (.int (-1))].set tt.toNatClampNeg (.int 0))))]) (os2 := [(b5, ob0 (.ref b1_82) (.ref b2_82) (.int 1))]) (rest := []) (W := 0) (argsL := []) (a := b5) (i := 2) A19 (m_size l Z a0 hw b5 b1_82 b2_82 ((1 : Int32))) (Or.inr ⟨rfl, rfl⟩) rfl (tw hw 26 rfl) (tw hw 27 rfl) (tw hw 29 rfl) (tw hw 28 rfl) (tw hw 3 rfl) (tw hw 30 rfl) (by decide) at_122 rfl (lenOf pd_4 rfl) rfl (Nat.le_of_eq rfl) (by decide) (by decide) (by decide) (by decide) rfl (fun T20 v21 os22 A23 P24 => ?_)
      obtain ⟨rfl, rfl⟩ := P24
      have A25 := A23.cast (k2 := 3) (n2 := 19) (os2 := [(b1_82, .inr (.int, [(.int tt), (.int 0), (.int 0), (.int 0), (.int 0), (.int 0), (.int 0), (.int 0)])), (b2_82, .inr (.int, ([(.int (-1)), (.int (-1)), (.int (-1)), (.int (-1)), (.int (-1)), (.int (-1)), (.int (-1)), (.int (-1))].set tt.toNatClampNeg (.int 0)))), (b5, ob0 (.ref b1_82) (.ref b2_82) (.int 1))]) rfl rfl rfl
      refine A25.iload (q := 127) at_125 rfl rfl ?_
      refine A25.iconst (q := 128) (v := 1) at_127 rfl rfl ?_
      refine A25.iadd (q := 129) at_128 rfl ?_
      refine Wp.top (v' := (.int 1)) rfl ?_
      refine A25.icmpNo (q := 132) at_129 (by decide) rfl ?_
      refine A25.iconst (q := 133) (v := 1) at_132 rfl rfl ?_
      refine A25.goto (q := 137) at_133 (by decide) (by decide) ?_
      refine A25.istore (q := 139) (l' := #[.val (.int x0), .val (.int x1), .val (.int x2), .val (.int x3), .val (.int x4), .val (.int tt), .val (.int ((1 : Int32) + m7)), .val (.int ob), .val (.int xx), .val (.int yy), .val (.int 0), .val (.int ww), .val (.ref b5), .val (.int 1), .unset]) at_137 rfl rfl ?_
      refine A25.iload (q := 141) at_139 rfl rfl ?_
      refine A25.ifNo (q := 144) at_141 (by decide) rfl ?_
      refine A25.aload (q := 146) at_144 rfl rfl rfl ?_
      refine A25.iload (q := 148) at_146 rfl rfl ?_
      have A26 := A25.pick (is := [1, 2, 0]) (os2 := [(b2_82, .inr (.int, ([(.int (-1)), (.int (-1)), (.int (-1)), (.int (-1)), (.int (-1)), (.int (-1)), (.int (-1)), (.int (-1))].set tt.toNatClampNeg (.int 0)))), (b5, ob0 (.ref b1_82) (.ref b2_82) (.int 1)), (b1_82, .inr (.int, [(.int tt), (.int 0), (.int 0), (.int 0), (.int 0), (.int 0), (.int 0), (.int 0)]))]) (by decide) rfl
      refine Here.callV (qn := 151) (os1 := [(b2_82, .inr (.int, ([(.int (-1)), (.int (-1)), (.int (-1)), (.int (-1)), (.int (-1)), (.int (-1)), (.int (-1)), (.int (-1))].set tt.toNatClampNeg (.int 0))))]) (os2 := [(b5, ob0 (.ref b1_82) (.ref b2_82) (.int 1)), (b1_82, .inr (.int, [(.int tt), (.int 0), (.int 0), (.int 0), (.int 0), (.int 0), (.int 0), (.int 0)]))]) (rest := []) (W := 0) (argsL := [(.int 0)]) (a := b5) (i := 1) A26 (m_get0 l Z a0 hw b5 b1_82 b2_82 ((1 : Int32)) tt ((0 : Int32)) ((0 : Int32)) ((0 : Int32)) ((0 : Int32)) ((0 : Int32)) ((0 : Int32)) ((0 : Int32))) (Or.inr ⟨rfl, rfl⟩) rfl (tw hw 31 rfl) (tw hw 32 rfl) (tw hw 34 rfl) (tw hw 33 rfl) (tw hw 3 rfl) (tw hw 35 rfl) (by decide) at_148 rfl (lenOf pd_5 rfl) rfl (Nat.le_of_eq rfl) (by decide) (by decide) (by decide) (by decide) rfl (fun T27 v28 os29 A30 P31 => ?_)
      obtain ⟨rfl, rfl⟩ := P31
      have A32 := A30.cast (k2 := 3) (n2 := 19) (os2 := [(b2_82, .inr (.int, ([(.int (-1)), (.int (-1)), (.int (-1)), (.int (-1)), (.int (-1)), (.int (-1)), (.int (-1)), (.int (-1))].set tt.toNatClampNeg (.int 0)))), (b5, ob0 (.ref b1_82) (.ref b2_82) (.int 1)), (b1_82, .inr (.int, [(.int tt), (.int 0), (.int 0), (.int 0), (.int 0), (.int 0), (.int 0), (.int 0)]))]) rfl rfl rfl
      refine A32.iload (q := 153) at_151 rfl rfl ?_
      have hc153_33 : tt = tt := by
        clear hw A0 A2 A4 A6 A10 A12 A16 A18 A19 A23 A25 A26 A30 A32
        rfl
      refine A32.icmpNo (q := 156) at_153 (teq hc153_33).2 rfl ?_
      refine A32.iconst (q := 157) (v := 1) at_156 rfl rfl ?_
      refine A32.goto (q := 161) at_157 (by decide) (by decide) ?_
      refine A32.istore (q := 163) (l' := #[.val (.int x0), .val (.int x1), .val (.int x2), .val (.int x3), .val (.int x4), .val (.int tt), .val (.int ((1 : Int32) + m7)), .val (.int ob), .val (.int xx), .val (.int yy), .val (.int 0), .val (.int ww), .val (.ref b5), .val (.int 1), .unset]) at_161 rfl rfl ?_
      refine A32.iload (q := 165) at_163 rfl rfl ?_
      refine A32.ifNo (q := 168) at_165 (by decide) rfl ?_
      refine A32.aload (q := 170) at_168 rfl rfl rfl ?_
      refine A32.iload (q := 172) at_170 rfl rfl ?_
      have A34 := A32.pick (is := [2, 1, 0]) (os2 := [(b1_82, .inr (.int, [(.int tt), (.int 0), (.int 0), (.int 0), (.int 0), (.int 0), (.int 0), (.int 0)])), (b5, ob0 (.ref b1_82) (.ref b2_82) (.int 1)), (b2_82, .inr (.int, ([(.int (-1)), (.int (-1)), (.int (-1)), (.int (-1)), (.int (-1)), (.int (-1)), (.int (-1)), (.int (-1))].set tt.toNatClampNeg (.int 0))))]) (by decide) rfl
      refine Here.callV (qn := 175) (os1 := [(b1_82, .inr (.int, [(.int tt), (.int 0), (.int 0), (.int 0), (.int 0), (.int 0), (.int 0), (.int 0)]))]) (os2 := [(b5, ob0 (.ref b1_82) (.ref b2_82) (.int 1)), (b2_82, .inr (.int, ([(.int (-1)), (.int (-1)), (.int (-1)), (.int (-1)), (.int (-1)), (.int (-1)), (.int (-1)), (.int (-1))].set tt.toNatClampNeg (.int 0))))]) (rest := []) (W := 0) (argsL := [(.int tt)]) (a := b5) (i := 1) A34 (m_place l Z a0 hw b5 b1_82 b2_82 tt ((1 : Int32)) (([(.int (-1)), (.int (-1)), (.int (-1)), (.int (-1)), (.int (-1)), (.int (-1)), (.int (-1)), (.int (-1))].set tt.toNatClampNeg (.int 0))) ((0 : Int32)) (ftt.1) (own_lk_eq rfl (by (try simp only [List.length_set]); exact own_nat (n := 8) ftt.1 ftt.2))) (Or.inr ⟨rfl, rfl⟩) rfl (tw hw 36 rfl) (tw hw 37 rfl) (tw hw 39 rfl) (tw hw 38 rfl) (tw hw 3 rfl) (tw hw 40 rfl) (by decide) at_172 rfl (lenOf pd_5 rfl) rfl (Nat.le_of_eq rfl) (by decide) (by decide) (by decide) (by decide) rfl (fun T35 v36 os37 A38 P39 => ?_)
      obtain ⟨rfl, rfl⟩ := P39
      have A40 := A38.cast (k2 := 3) (n2 := 19) (os2 := [(b1_82, .inr (.int, [(.int tt), (.int 0), (.int 0), (.int 0), (.int 0), (.int 0), (.int 0), (.int 0)])), (b5, ob0 (.ref b1_82) (.ref b2_82) (.int 1)), (b2_82, .inr (.int, ([(.int (-1)), (.int (-1)), (.int (-1)), (.int (-1)), (.int (-1)), (.int (-1)), (.int (-1)), (.int (-1))].set tt.toNatClampNeg (.int 0))))]) rfl rfl rfl
      refine A40.iload (q := 177) at_175 rfl rfl ?_
      refine A40.icmpNo (q := 180) at_177 (by decide) rfl ?_
      refine A40.iconst (q := 181) (v := 1) at_180 rfl rfl ?_
      refine A40.goto (q := 185) at_181 (by decide) (by decide) ?_
      refine A40.istore (q := 187) (l' := #[.val (.int x0), .val (.int x1), .val (.int x2), .val (.int x3), .val (.int x4), .val (.int tt), .val (.int ((1 : Int32) + m7)), .val (.int ob), .val (.int xx), .val (.int yy), .val (.int 0), .val (.int ww), .val (.ref b5), .val (.int 1), .unset]) at_185 rfl rfl ?_
      refine A40.iload (q := 189) at_187 rfl rfl ?_
      refine A40.iconst (q := 190) (v := 1) at_189 rfl rfl ?_
      refine A40.icmpYes (q := 216) at_190 (by decide) (by decide) (by decide) ?_
      refine A40.iload (q := 218) at_216 rfl rfl ?_
      refine A40.iconst (q := 219) (v := 2) at_218 rfl rfl ?_
      refine A40.icmpYes (q := 245) at_219 (by decide) (by decide) (by decide) ?_
      refine A40.iconst (q := 246) (v := -1) at_245 rfl rfl ?_
      refine A40.istore (q := 248) (l' := #[.val (.int x0), .val (.int x1), .val (.int x2), .val (.int x3), .val (.int x4), .val (.int tt), .val (.int ((1 : Int32) + m7)), .val (.int ob), .val (.int xx), .val (.int yy), .val (.int 0), .val (.int ww), .val (.ref b5), .val (.int 1), .val (.int (-1))]) at_246 rfl rfl ?_
      refine A40.iload (q := 250) at_248 rfl rfl ?_
      refine A40.iload (q := 252) at_250 rfl rfl ?_
      by_cases hc252_41 : ww = tt
      · refine A40.icmpNo (q := 255) at_252 (teq hc252_41).2 rfl ?_
        refine A40.iload (q := 257) at_255 rfl rfl ?_
        refine A40.istore (q := 259) (l' := #[.val (.int x0), .val (.int x1), .val (.int x2), .val (.int x3), .val (.int x4), .val (.int tt), .val (.int ((1 : Int32) + m7)), .val (.int ob), .val (.int xx), .val (.int yy), .val (.int 0), .val (.int ww), .val (.ref b5), .val (.int 1), .val (.int 0)]) at_257 rfl rfl ?_
        refine A40.goto (q := 297) at_259 (by decide) (by decide) ?_
        refine A40.iload (q := 299) at_297 rfl rfl ?_
        refine A40.ifNo (q := 302) at_299 (by decide) rfl ?_
        refine A40.aload (q := 304) at_302 rfl rfl rfl ?_
        refine A40.iload (q := 306) at_304 rfl rfl ?_
        refine Here.callV (qn := 309) (os1 := [(b1_82, .inr (.int, [(.int tt), (.int 0), (.int 0), (.int 0), (.int 0), (.int 0), (.int 0), (.int 0)]))]) (os2 := [(b5, ob0 (.ref b1_82) (.ref b2_82) (.int 1)), (b2_82, .inr (.int, ([(.int (-1)), (.int (-1)), (.int (-1)), (.int (-1)), (.int (-1)), (.int (-1)), (.int (-1)), (.int (-1))].set tt.toNatClampNeg (.int 0))))]) (rest := []) (W := 0) (argsL := [(.int ww)]) (a := b5) (i := 1) A40 (m_place l Z a0 hw b5 b1_82 b2_82 ww ((1 : Int32)) (([(.int (-1)), (.int (-1)), (.int (-1)), (.int (-1)), (.int (-1)), (.int (-1)), (.int (-1)), (.int (-1))].set tt.toNatClampNeg (.int 0))) ((0 : Int32)) (fww.1) (own_lk_eq hc252_41 (by (try simp only [List.length_set]); exact own_nat (n := 8) fww.1 fww.2))) (Or.inr ⟨rfl, rfl⟩) rfl (tw hw 36 rfl) (tw hw 37 rfl) (tw hw 39 rfl) (tw hw 38 rfl) (tw hw 3 rfl) (tw hw 40 rfl) (by decide) at_306 rfl (lenOf pd_5 rfl) rfl (Nat.le_of_eq rfl) (by decide) (by decide) (by decide) (by decide) rfl (fun T42 v43 os44 A45 P46 => ?_)
        obtain ⟨rfl, rfl⟩ := P46
        have A47 := A45.cast (k2 := 3) (n2 := 19) (os2 := [(b1_82, .inr (.int, [(.int tt), (.int 0), (.int 0), (.int 0), (.int 0), (.int 0), (.int 0), (.int 0)])), (b5, ob0 (.ref b1_82) (.ref b2_82) (.int 1)), (b2_82, .inr (.int, ([(.int (-1)), (.int (-1)), (.int (-1)), (.int (-1)), (.int (-1)), (.int (-1)), (.int (-1)), (.int (-1))].set tt.toNatClampNeg (.int 0))))]) rfl rfl rfl
        refine A47.iload (q := 311) at_309 rfl rfl ?_
        refine A47.icmpNo (q := 314) at_311 (by decide) rfl ?_
        refine A47.iconst (q := 315) (v := 1) at_314 rfl rfl ?_
        refine A47.goto (q := 319) at_315 (by decide) (by decide) ?_
        refine A47.istore (q := 321) (l' := #[.val (.int x0), .val (.int x1), .val (.int x2), .val (.int x3), .val (.int x4), .val (.int tt), .val (.int ((1 : Int32) + m7)), .val (.int ob), .val (.int xx), .val (.int yy), .val (.int 0), .val (.int ww), .val (.ref b5), .val (.int 1), .val (.int 0)]) at_319 rfl rfl ?_
        refine A47.iload (q := 323) at_321 rfl rfl ?_
        exact A47.retN (by simp) at_323 (by decide) (by decide) ⟨rfl, trivial⟩
      · refine A40.icmpYes (q := 262) at_252 (feq hc252_41).2 (by decide) (by decide) ?_
        refine A40.iload (q := 264) at_262 rfl rfl ?_
        refine A40.iconst (q := 265) (v := 1) at_264 rfl rfl ?_
        refine A40.icmpYes (q := 281) at_265 (by decide) (by decide) (by decide) ?_
        refine A40.iload (q := 283) at_281 rfl rfl ?_
        refine A40.iconst (q := 284) (v := 2) at_283 rfl rfl ?_
        refine A40.icmpYes (q := 297) at_284 (by decide) (by decide) (by decide) ?_
        refine A40.iload (q := 299) at_297 rfl rfl ?_
        refine A40.ifNo (q := 302) at_299 (by decide) rfl ?_
        refine A40.aload (q := 304) at_302 rfl rfl rfl ?_
        refine A40.iload (q := 306) at_304 rfl rfl ?_
        refine Here.callV (qn := 309) (os1 := [(b1_82, .inr (.int, [(.int tt), (.int 0), (.int 0), (.int 0), (.int 0), (.int 0), (.int 0), (.int 0)]))]) (os2 := [(b5, ob0 (.ref b1_82) (.ref b2_82) (.int 1)), (b2_82, .inr (.int, ([(.int (-1)), (.int (-1)), (.int (-1)), (.int (-1)), (.int (-1)), (.int (-1)), (.int (-1)), (.int (-1))].set tt.toNatClampNeg (.int 0))))]) (rest := []) (W := 0) (argsL := [(.int ww)]) (a := b5) (i := 1) A40 (m_place l Z a0 hw b5 b1_82 b2_82 ww ((1 : Int32)) (([(.int (-1)), (.int (-1)), (.int (-1)), (.int (-1)), (.int (-1)), (.int (-1)), (.int (-1)), (.int (-1))].set tt.toNatClampNeg (.int 0))) ((-1 : Int32)) (fww.1) ((own_lk_ne ftt.1 fww.1 hc252_41).trans (own_base ww fww.1 fww.2))) (Or.inr ⟨rfl, rfl⟩) rfl (tw hw 36 rfl) (tw hw 37 rfl) (tw hw 39 rfl) (tw hw 38 rfl) (tw hw 3 rfl) (tw hw 40 rfl) (by decide) at_306 rfl (lenOf pd_5 rfl) rfl (Nat.le_of_eq rfl) (by decide) (by decide) (by decide) (by decide) rfl (fun T48 v49 os50 A51 P52 => ?_)
        obtain ⟨rfl, rfl⟩ := P52
        have A53 := A51.cast (k2 := 3) (n2 := 19) (os2 := [(b1_82, .inr (.int, [(.int tt), (.int 0), (.int 0), (.int 0), (.int 0), (.int 0), (.int 0), (.int 0)])), (b5, ob0 (.ref b1_82) (.ref b2_82) (.int 1)), (b2_82, .inr (.int, ([(.int (-1)), (.int (-1)), (.int (-1)), (.int (-1)), (.int (-1)), (.int (-1)), (.int (-1)), (.int (-1))].set tt.toNatClampNeg (.int 0))))]) rfl rfl rfl
        refine A53.iload (q := 311) at_309 rfl rfl ?_
        refine A53.icmpNo (q := 314) at_311 (by decide) rfl ?_
        refine A53.iconst (q := 315) (v := 1) at_314 rfl rfl ?_
        refine A53.goto (q := 319) at_315 (by decide) (by decide) ?_
        refine A53.istore (q := 321) (l' := #[.val (.int x0), .val (.int x1), .val (.int x2), .val (.int x3), .val (.int x4), .val (.int tt), .val (.int ((1 : Int32) + m7)), .val (.int ob), .val (.int xx), .val (.int yy), .val (.int 0), .val (.int ww), .val (.ref b5), .val (.int 1), .val (.int (-1))]) at_319 rfl rfl ?_
        refine A53.iload (q := 323) at_321 rfl rfl ?_
        exact A53.retN (by simp) at_323 (by decide) (by decide) ⟨rfl, trivial⟩
    · rw [hk]
      show Wp _ _ _ _ _ _ _ _ _ _ T1 (mkF m 76 #[.val (.int x0), .val (.int x1), .val (.int x2), .val (.int x3), .val (.int x4), .val (.int tt), .val (.int ((1 : Int32) + m7)), .val (.int ob), .val (.int xx), .val (.int yy), .val (.int 1), .val (.int ww), .unset, .unset, .unset] [])
      refine A2.newO (qn := 79) (C := "com/example/heirring/heirring/IndexedIntSet") (fs := [("com/example/heirring/heirring/IndexedIntSet", "members", "[I", .null), ("com/example/heirring/heirring/IndexedIntSet", "places", "[I", .null), ("com/example/heirring/heirring/IndexedIntSet", "size", "I", (.int 0))]) (tw hw 1 rfl) (tw hw 2 rfl) (tw hw 3 rfl) at_76 (by decide) (by decide) (by decide) (List.forall_mem_cons.mpr ⟨⟨Or.inr (tw hw 12 rfl), (.array .int), by decide, rfl⟩, (List.forall_mem_cons.mpr ⟨⟨Or.inr (tw hw 14 rfl), (.array .int), by decide, rfl⟩, (List.forall_mem_cons.mpr ⟨⟨Or.inl (tw hw 25 rfl), .int, by decide, rfl⟩, (List.forall_mem_nil _)⟩)⟩)⟩) rfl (fun T54 b56 A55 => ?_)
      have A57 := A55.cast (k2 := 1) (n2 := 3) (os2 := [(b56, ob0 .null .null (.int 0))]) rfl rfl rfl
      refine A57.dup (q := 80) at_79 rfl rfl ?_
      refine A57.bipush (q := 82) (v := 8) at_80 rfl rfl ?_
      refine Here.callI (qn := 85) (os1 := []) (os2 := [(b56, ob0 .null .null (.int 0))]) (rest := [(.ref b56)]) (W := 1) (argsL := [(.int 8)]) (a := b56) A57 (m_ini l Z a0 hw b56) (Or.inr ⟨rfl, rfl⟩) rfl (tw hw 4 rfl) (tw hw 5 rfl) (tw hw 3 rfl) (tw hw 6 rfl) (by decide) at_82 rfl (lenOf pd_3 rfl) rfl (Nat.le_of_eq rfl) (by decide) (by decide) (by decide) (by decide) rfl (fun T58 v59 os60 A61 P62 => ?_)
      obtain ⟨b1_82, b2_82, rfl, rfl⟩ := P62
      have A63 := A61.cast (k2 := 3) (n2 := 19) (os2 := [(b56, ob0 (.ref b1_82) (.ref b2_82) (.int 0)), (b1_82, .inr (.int, [(.int 0), (.int 0), (.int 0), (.int 0), (.int 0), (.int 0), (.int 0), (.int 0)])), (b2_82, .inr (.int, [(.int (-1)), (.int (-1)), (.int (-1)), (.int (-1)), (.int (-1)), (.int (-1)), (.int (-1)), (.int (-1))]))]) rfl rfl rfl
      refine A63.astore (q := 87) (l' := #[.val (.int x0), .val (.int x1), .val (.int x2), .val (.int x3), .val (.int x4), .val (.int tt), .val (.int ((1 : Int32) + m7)), .val (.int ob), .val (.int xx), .val (.int yy), .val (.int 1), .val (.int ww), .val (.ref b56), .unset, .unset]) at_85 rfl rfl rfl ?_
      refine A63.iload (q := 89) at_87 rfl rfl ?_
      refine A63.iconst (q := 90) (v := 1) at_89 rfl rfl ?_
      refine A63.icmpNo (q := 93) at_90 (by decide) rfl ?_
      refine A63.aload (q := 95) at_93 rfl rfl rfl ?_
      refine A63.iload (q := 97) at_95 rfl rfl ?_
      refine Here.callV (qn := 100) (os1 := []) (os2 := [(b56, ob0 (.ref b1_82) (.ref b2_82) (.int 0)), (b1_82, .inr (.int, [(.int 0), (.int 0), (.int 0), (.int 0), (.int 0), (.int 0), (.int 0), (.int 0)])), (b2_82, .inr (.int, [(.int (-1)), (.int (-1)), (.int (-1)), (.int (-1)), (.int (-1)), (.int (-1)), (.int (-1)), (.int (-1))]))]) (rest := []) (W := 0) (argsL := [(.int xx)]) (a := b56) (i := 0) A63 (m_add0 l Z a0 hw b56 b1_82 b2_82 xx ((0 : Int32)) ((0 : Int32)) ((0 : Int32)) ((0 : Int32)) ((0 : Int32)) ((0 : Int32)) ((0 : Int32)) ((0 : Int32)) ([(.int (-1)), (.int (-1)), (.int (-1)), (.int (-1)), (.int (-1)), (.int (-1)), (.int (-1)), (.int (-1))]) (gx.1) (by (try simp only [List.length_set]); exact own_nat (n := 8) gx.1 gx.2.1)) (Or.inr ⟨rfl, rfl⟩) rfl (tw hw 19 rfl) (tw hw 20 rfl) (tw hw 22 rfl) (tw hw 21 rfl) (tw hw 3 rfl) (tw hw 23 rfl) (by decide) at_97 rfl (lenOf pd_3 rfl) rfl (Nat.le_of_eq rfl) (by decide) (by decide) (by decide) (by decide) rfl (fun T64 v65 os66 A67 P68 => ?_)
      obtain ⟨rfl, rfl⟩ := P68
      have A69 := A67.cast (k2 := 3) (n2 := 19) (os2 := [(b56, ob0 (.ref b1_82) (.ref b2_82) (.int 1)), (b1_82, .inr (.int, [(.int xx), (.int 0), (.int 0), (.int 0), (.int 0), (.int 0), (.int 0), (.int 0)])), (b2_82, .inr (.int, ([(.int (-1)), (.int (-1)), (.int (-1)), (.int (-1)), (.int (-1)), (.int (-1)), (.int (-1)), (.int (-1))].set xx.toNatClampNeg (.int 0))))]) rfl rfl rfl
      refine A69.iload (q := 102) at_100 rfl rfl ?_
      refine A69.iconst (q := 103) (v := 2) at_102 rfl rfl ?_
      refine A69.icmpYes (q := 113) at_103 (by decide) (by decide) (by decide) ?_
      refine A69.aload (q := 115) at_113 rfl rfl rfl ?_
      refine A69.iload (q := 117) at_115 rfl rfl ?_
      refine Here.callV (qn := 120) (os1 := []) (os2 := [(b56, ob0 (.ref b1_82) (.ref b2_82) (.int 1)), (b1_82, .inr (.int, [(.int xx), (.int 0), (.int 0), (.int 0), (.int 0), (.int 0), (.int 0), (.int 0)])), (b2_82, .inr (.int, ([(.int (-1)), (.int (-1)), (.int (-1)), (.int (-1)), (.int (-1)), (.int (-1)), (.int (-1)), (.int (-1))].set xx.toNatClampNeg (.int 0))))]) (rest := []) (W := 0) (argsL := [(.int tt)]) (a := b56) (i := 0) A69 (m_add1 l Z a0 hw b56 b1_82 b2_82 tt xx ((0 : Int32)) ((0 : Int32)) ((0 : Int32)) ((0 : Int32)) ((0 : Int32)) ((0 : Int32)) ((0 : Int32)) (([(.int (-1)), (.int (-1)), (.int (-1)), (.int (-1)), (.int (-1)), (.int (-1)), (.int (-1)), (.int (-1))].set xx.toNatClampNeg (.int 0))) (ftt.1) (by (try simp only [List.length_set]); exact own_nat (n := 8) ftt.1 ftt.2)) (Or.inr ⟨rfl, rfl⟩) rfl (tw hw 19 rfl) (tw hw 20 rfl) (tw hw 22 rfl) (tw hw 21 rfl) (tw hw 3 rfl) (tw hw 23 rfl) (by decide) at_117 rfl (lenOf pd_3 rfl) rfl (Nat.le_of_eq rfl) (by decide) (by decide) (by decide) (by decide) rfl (fun T70 v71 os72 A73 P74 => ?_)
      obtain ⟨rfl, rfl⟩ := P74
      have A75 := A73.cast (k2 := 3) (n2 := 19) (os2 := [(b56, ob0 (.ref b1_82) (.ref b2_82) (.int 2)), (b1_82, .inr (.int, [(.int xx), (.int tt), (.int 0), (.int 0), (.int 0), (.int 0), (.int 0), (.int 0)])), (b2_82, .inr (.int, (([(.int (-1)), (.int (-1)), (.int (-1)), (.int (-1)), (.int (-1)), (.int (-1)), (.int (-1)), (.int (-1))].set xx.toNatClampNeg (.int 0)).set tt.toNatClampNeg (.int 1))))]) rfl rfl rfl
      refine A75.aload (q := 122) at_120 rfl rfl rfl ?_
      have A76 := A75.pick (is := [1, 2, 0]) (os2 := [(b1_82, .inr (.int, [(.int xx), (.int tt), (.int 0), (.int 0), (.int 0), (.int 0), (.int 0), (.int 0)])), (b2_82, .inr (.int, (([(.int (-1)), (.int (-1)), (.int (-1)), (.int (-1)), (.int (-1)), (.int (-1)), (.int (-1)), (.int (-1))].set xx.toNatClampNeg (.int 0)).set tt.toNatClampNeg (.int 1)))), (b56, ob0 (.ref b1_82) (.ref b2_82) (.int 2))]) (by decide) rfl
      refine Here.callV (qn := 125) (os1 := [(b1_82, .inr (.int, [(.int xx), (.int tt), (.int 0), (.int 0), (.int 0), (.int 0), (.int 0), (.int 0)])), (b2_82, .inr (.int, (([(.int (-1)), (.int (-1)), (.int (-1)), (.int (-1)), (.int (-1)), (.int (-1)), (.int (-1)), (.int (-1))].set xx.toNatClampNeg (.int 0)).set tt.toNatClampNeg (.int 1))))]) (os2 := [(b56, ob0 (.ref b1_82) (.ref b2_82) (.int 2))]) (rest := []) (W := 0) (argsL := []) (a := b56) (i := 2) A76 (m_size l Z a0 hw b56 b1_82 b2_82 ((2 : Int32))) (Or.inr ⟨rfl, rfl⟩) rfl (tw hw 26 rfl) (tw hw 27 rfl) (tw hw 29 rfl) (tw hw 28 rfl) (tw hw 3 rfl) (tw hw 30 rfl) (by decide) at_122 rfl (lenOf pd_4 rfl) rfl (Nat.le_of_eq rfl) (by decide) (by decide) (by decide) (by decide) rfl (fun T77 v78 os79 A80 P81 => ?_)
      obtain ⟨rfl, rfl⟩ := P81
      have A82 := A80.cast (k2 := 3) (n2 := 19) (os2 := [(b1_82, .inr (.int, [(.int xx), (.int tt), (.int 0), (.int 0), (.int 0), (.int 0), (.int 0), (.int 0)])), (b2_82, .inr (.int, (([(.int (-1)), (.int (-1)), (.int (-1)), (.int (-1)), (.int (-1)), (.int (-1)), (.int (-1)), (.int (-1))].set xx.toNatClampNeg (.int 0)).set tt.toNatClampNeg (.int 1)))), (b56, ob0 (.ref b1_82) (.ref b2_82) (.int 2))]) rfl rfl rfl
      refine A82.iload (q := 127) at_125 rfl rfl ?_
      refine A82.iconst (q := 128) (v := 1) at_127 rfl rfl ?_
      refine A82.iadd (q := 129) at_128 rfl ?_
      refine Wp.top (v' := (.int 2)) rfl ?_
      refine A82.icmpNo (q := 132) at_129 (by decide) rfl ?_
      refine A82.iconst (q := 133) (v := 1) at_132 rfl rfl ?_
      refine A82.goto (q := 137) at_133 (by decide) (by decide) ?_
      refine A82.istore (q := 139) (l' := #[.val (.int x0), .val (.int x1), .val (.int x2), .val (.int x3), .val (.int x4), .val (.int tt), .val (.int ((1 : Int32) + m7)), .val (.int ob), .val (.int xx), .val (.int yy), .val (.int 1), .val (.int ww), .val (.ref b56), .val (.int 1), .unset]) at_137 rfl rfl ?_
      refine A82.iload (q := 141) at_139 rfl rfl ?_
      refine A82.ifNo (q := 144) at_141 (by decide) rfl ?_
      refine A82.aload (q := 146) at_144 rfl rfl rfl ?_
      refine A82.iload (q := 148) at_146 rfl rfl ?_
      have A83 := A82.pick (is := [1, 2, 0]) (os2 := [(b2_82, .inr (.int, (([(.int (-1)), (.int (-1)), (.int (-1)), (.int (-1)), (.int (-1)), (.int (-1)), (.int (-1)), (.int (-1))].set xx.toNatClampNeg (.int 0)).set tt.toNatClampNeg (.int 1)))), (b56, ob0 (.ref b1_82) (.ref b2_82) (.int 2)), (b1_82, .inr (.int, [(.int xx), (.int tt), (.int 0), (.int 0), (.int 0), (.int 0), (.int 0), (.int 0)]))]) (by decide) rfl
      refine Here.callV (qn := 151) (os1 := [(b2_82, .inr (.int, (([(.int (-1)), (.int (-1)), (.int (-1)), (.int (-1)), (.int (-1)), (.int (-1)), (.int (-1)), (.int (-1))].set xx.toNatClampNeg (.int 0)).set tt.toNatClampNeg (.int 1))))]) (os2 := [(b56, ob0 (.ref b1_82) (.ref b2_82) (.int 2)), (b1_82, .inr (.int, [(.int xx), (.int tt), (.int 0), (.int 0), (.int 0), (.int 0), (.int 0), (.int 0)]))]) (rest := []) (W := 0) (argsL := [(.int 1)]) (a := b56) (i := 1) A83 (m_get1 l Z a0 hw b56 b1_82 b2_82 ((2 : Int32)) xx tt ((0 : Int32)) ((0 : Int32)) ((0 : Int32)) ((0 : Int32)) ((0 : Int32)) ((0 : Int32))) (Or.inr ⟨rfl, rfl⟩) rfl (tw hw 31 rfl) (tw hw 32 rfl) (tw hw 34 rfl) (tw hw 33 rfl) (tw hw 3 rfl) (tw hw 35 rfl) (by decide) at_148 rfl (lenOf pd_5 rfl) rfl (Nat.le_of_eq rfl) (by decide) (by decide) (by decide) (by decide) rfl (fun T84 v85 os86 A87 P88 => ?_)
      obtain ⟨rfl, rfl⟩ := P88
      have A89 := A87.cast (k2 := 3) (n2 := 19) (os2 := [(b2_82, .inr (.int, (([(.int (-1)), (.int (-1)), (.int (-1)), (.int (-1)), (.int (-1)), (.int (-1)), (.int (-1)), (.int (-1))].set xx.toNatClampNeg (.int 0)).set tt.toNatClampNeg (.int 1)))), (b56, ob0 (.ref b1_82) (.ref b2_82) (.int 2)), (b1_82, .inr (.int, [(.int xx), (.int tt), (.int 0), (.int 0), (.int 0), (.int 0), (.int 0), (.int 0)]))]) rfl rfl rfl
      refine A89.iload (q := 153) at_151 rfl rfl ?_
      have hc153_90 : tt = tt := by
        clear hw A0 A2 A55 A57 A61 A63 A67 A69 A73 A75 A76 A80 A82 A83 A87 A89
        rfl
      refine A89.icmpNo (q := 156) at_153 (teq hc153_90).2 rfl ?_
      refine A89.iconst (q := 157) (v := 1) at_156 rfl rfl ?_
      refine A89.goto (q := 161) at_157 (by decide) (by decide) ?_
      refine A89.istore (q := 163) (l' := #[.val (.int x0), .val (.int x1), .val (.int x2), .val (.int x3), .val (.int x4), .val (.int tt), .val (.int ((1 : Int32) + m7)), .val (.int ob), .val (.int xx), .val (.int yy), .val (.int 1), .val (.int ww), .val (.ref b56), .val (.int 1), .unset]) at_161 rfl rfl ?_
      refine A89.iload (q := 165) at_163 rfl rfl ?_
      refine A89.ifNo (q := 168) at_165 (by decide) rfl ?_
      refine A89.aload (q := 170) at_168 rfl rfl rfl ?_
      refine A89.iload (q := 172) at_170 rfl rfl ?_
      have A91 := A89.pick (is := [2, 1, 0]) (os2 := [(b1_82, .inr (.int, [(.int xx), (.int tt), (.int 0), (.int 0), (.int 0), (.int 0), (.int 0), (.int 0)])), (b56, ob0 (.ref b1_82) (.ref b2_82) (.int 2)), (b2_82, .inr (.int, (([(.int (-1)), (.int (-1)), (.int (-1)), (.int (-1)), (.int (-1)), (.int (-1)), (.int (-1)), (.int (-1))].set xx.toNatClampNeg (.int 0)).set tt.toNatClampNeg (.int 1))))]) (by decide) rfl
      refine Here.callV (qn := 175) (os1 := [(b1_82, .inr (.int, [(.int xx), (.int tt), (.int 0), (.int 0), (.int 0), (.int 0), (.int 0), (.int 0)]))]) (os2 := [(b56, ob0 (.ref b1_82) (.ref b2_82) (.int 2)), (b2_82, .inr (.int, (([(.int (-1)), (.int (-1)), (.int (-1)), (.int (-1)), (.int (-1)), (.int (-1)), (.int (-1)), (.int (-1))].set xx.toNatClampNeg (.int 0)).set tt.toNatClampNeg (.int 1))))]) (rest := []) (W := 0) (argsL := [(.int tt)]) (a := b56) (i := 1) A91 (m_place l Z a0 hw b56 b1_82 b2_82 tt ((2 : Int32)) ((([(.int (-1)), (.int (-1)), (.int (-1)), (.int (-1)), (.int (-1)), (.int (-1)), (.int (-1)), (.int (-1))].set xx.toNatClampNeg (.int 0)).set tt.toNatClampNeg (.int 1))) ((1 : Int32)) (ftt.1) (own_lk_eq rfl (by (try simp only [List.length_set]); exact own_nat (n := 8) ftt.1 ftt.2))) (Or.inr ⟨rfl, rfl⟩) rfl (tw hw 36 rfl) (tw hw 37 rfl) (tw hw 39 rfl) (tw hw 38 rfl) (tw hw 3 rfl) (tw hw 40 rfl) (by decide) at_172 rfl (lenOf pd_5 rfl) rfl (Nat.le_of_eq rfl) (by decide) (by decide) (by decide) (by decide) rfl (fun T92 v93 os94 A95 P96 => ?_)
      obtain ⟨rfl, rfl⟩ := P96
      have A97 := A95.cast (k2 := 3) (n2 := 19) (os2 := [(b1_82, .inr (.int, [(.int xx), (.int tt), (.int 0), (.int 0), (.int 0), (.int 0), (.int 0), (.int 0)])), (b56, ob0 (.ref b1_82) (.ref b2_82) (.int 2)), (b2_82, .inr (.int, (([(.int (-1)), (.int (-1)), (.int (-1)), (.int (-1)), (.int (-1)), (.int (-1)), (.int (-1)), (.int (-1))].set xx.toNatClampNeg (.int 0)).set tt.toNatClampNeg (.int 1))))]) rfl rfl rfl
      refine A97.iload (q := 177) at_175 rfl rfl ?_
      refine A97.icmpNo (q := 180) at_177 (by decide) rfl ?_
      refine A97.iconst (q := 181) (v := 1) at_180 rfl rfl ?_
      refine A97.goto (q := 185) at_181 (by decide) (by decide) ?_
      refine A97.istore (q := 187) (l' := #[.val (.int x0), .val (.int x1), .val (.int x2), .val (.int x3), .val (.int x4), .val (.int tt), .val (.int ((1 : Int32) + m7)), .val (.int ob), .val (.int xx), .val (.int yy), .val (.int 1), .val (.int ww), .val (.ref b56), .val (.int 1), .unset]) at_185 rfl rfl ?_
      refine A97.iload (q := 189) at_187 rfl rfl ?_
      refine A97.iconst (q := 190) (v := 1) at_189 rfl rfl ?_
      refine A97.icmpNo (q := 193) at_190 (by decide) rfl ?_
      refine A97.iload (q := 195) at_193 rfl rfl ?_
      refine A97.ifNo (q := 198) at_195 (by decide) rfl ?_
      refine A97.aload (q := 200) at_198 rfl rfl rfl ?_
      refine A97.iconst (q := 201) (v := 0) at_200 rfl rfl ?_
      have A98 := A97.pick (is := [2, 1, 0]) (os2 := [(b2_82, .inr (.int, (([(.int (-1)), (.int (-1)), (.int (-1)), (.int (-1)), (.int (-1)), (.int (-1)), (.int (-1)), (.int (-1))].set xx.toNatClampNeg (.int 0)).set tt.toNatClampNeg (.int 1)))), (b56, ob0 (.ref b1_82) (.ref b2_82) (.int 2)), (b1_82, .inr (.int, [(.int xx), (.int tt), (.int 0), (.int 0), (.int 0), (.int 0), (.int 0), (.int 0)]))]) (by decide) rfl
      refine Here.callV (qn := 204) (os1 := [(b2_82, .inr (.int, (([(.int (-1)), (.int (-1)), (.int (-1)), (.int (-1)), (.int (-1)), (.int (-1)), (.int (-1)), (.int (-1))].set xx.toNatClampNeg (.int 0)).set tt.toNatClampNeg (.int 1))))]) (os2 := [(b56, ob0 (.ref b1_82) (.ref b2_82) (.int 2)), (b1_82, .inr (.int, [(.int xx), (.int tt), (.int 0), (.int 0), (.int 0), (.int 0), (.int 0), (.int 0)]))]) (rest := []) (W := 0) (argsL := [(.int 0)]) (a := b56) (i := 1) A98 (m_get0 l Z a0 hw b56 b1_82 b2_82 ((2 : Int32)) xx tt ((0 : Int32)) ((0 : Int32)) ((0 : Int32)) ((0 : Int32)) ((0 : Int32)) ((0 : Int32))) (Or.inr ⟨rfl, rfl⟩) rfl (tw hw 31 rfl) (tw hw 32 rfl) (tw hw 34 rfl) (tw hw 33 rfl) (tw hw 3 rfl) (tw hw 35 rfl) (by decide) at_201 rfl (lenOf pd_5 rfl) rfl (Nat.le_of_eq rfl) (by decide) (by decide) (by decide) (by decide) rfl (fun T99 v100 os101 A102 P103 => ?_)
      obtain ⟨rfl, rfl⟩ := P103
      have A104 := A102.cast (k2 := 3) (n2 := 19) (os2 := [(b2_82, .inr (.int, (([(.int (-1)), (.int (-1)), (.int (-1)), (.int (-1)), (.int (-1)), (.int (-1)), (.int (-1)), (.int (-1))].set xx.toNatClampNeg (.int 0)).set tt.toNatClampNeg (.int 1)))), (b56, ob0 (.ref b1_82) (.ref b2_82) (.int 2)), (b1_82, .inr (.int, [(.int xx), (.int tt), (.int 0), (.int 0), (.int 0), (.int 0), (.int 0), (.int 0)]))]) rfl rfl rfl
      refine A104.iload (q := 206) at_204 rfl rfl ?_
      have hc206_105 : xx = xx := by
        clear hw A0 A2 A55 A57 A61 A63 A67 A69 A73 A75 A76 A80 A82 A83 A87 A89 A91 A95 A97 A98 A102 A104
        rfl
      refine A104.icmpNo (q := 209) at_206 (teq hc206_105).2 rfl ?_
      refine A104.iconst (q := 210) (v := 1) at_209 rfl rfl ?_
      refine A104.goto (q := 214) at_210 (by decide) (by decide) ?_
      refine A104.istore (q := 216) (l' := #[.val (.int x0), .val (.int x1), .val (.int x2), .val (.int x3), .val (.int x4), .val (.int tt), .val (.int ((1 : Int32) + m7)), .val (.int ob), .val (.int xx), .val (.int yy), .val (.int 1), .val (.int ww), .val (.ref b56), .val (.int 1), .unset]) at_214 rfl rfl ?_
      refine A104.iload (q := 218) at_216 rfl rfl ?_
      refine A104.iconst (q := 219) (v := 2) at_218 rfl rfl ?_
      refine A104.icmpYes (q := 245) at_219 (by decide) (by decide) (by decide) ?_
      refine A104.iconst (q := 246) (v := -1) at_245 rfl rfl ?_
      refine A104.istore (q := 248) (l' := #[.val (.int x0), .val (.int x1), .val (.int x2), .val (.int x3), .val (.int x4), .val (.int tt), .val (.int ((1 : Int32) + m7)), .val (.int ob), .val (.int xx), .val (.int yy), .val (.int 1), .val (.int ww), .val (.ref b56), .val (.int 1), .val (.int (-1))]) at_246 rfl rfl ?_
      refine A104.iload (q := 250) at_248 rfl rfl ?_
      refine A104.iload (q := 252) at_250 rfl rfl ?_
      by_cases hc252_106 : ww = tt
      · refine A104.icmpNo (q := 255) at_252 (teq hc252_106).2 rfl ?_
        refine A104.iload (q := 257) at_255 rfl rfl ?_
        refine A104.istore (q := 259) (l' := #[.val (.int x0), .val (.int x1), .val (.int x2), .val (.int x3), .val (.int x4), .val (.int tt), .val (.int ((1 : Int32) + m7)), .val (.int ob), .val (.int xx), .val (.int yy), .val (.int 1), .val (.int ww), .val (.ref b56), .val (.int 1), .val (.int 1)]) at_257 rfl rfl ?_
        refine A104.goto (q := 297) at_259 (by decide) (by decide) ?_
        refine A104.iload (q := 299) at_297 rfl rfl ?_
        refine A104.ifNo (q := 302) at_299 (by decide) rfl ?_
        refine A104.aload (q := 304) at_302 rfl rfl rfl ?_
        refine A104.iload (q := 306) at_304 rfl rfl ?_
        have A107 := A104.pick (is := [2, 1, 0]) (os2 := [(b1_82, .inr (.int, [(.int xx), (.int tt), (.int 0), (.int 0), (.int 0), (.int 0), (.int 0), (.int 0)])), (b56, ob0 (.ref b1_82) (.ref b2_82) (.int 2)), (b2_82, .inr (.int, (([(.int (-1)), (.int (-1)), (.int (-1)), (.int (-1)), (.int (-1)), (.int (-1)), (.int (-1)), (.int (-1))].set xx.toNatClampNeg (.int 0)).set tt.toNatClampNeg (.int 1))))]) (by decide) rfl
        refine Here.callV (qn := 309) (os1 := [(b1_82, .inr (.int, [(.int xx), (.int tt), (.int 0), (.int 0), (.int 0), (.int 0), (.int 0), (.int 0)]))]) (os2 := [(b56, ob0 (.ref b1_82) (.ref b2_82) (.int 2)), (b2_82, .inr (.int, (([(.int (-1)), (.int (-1)), (.int (-1)), (.int (-1)), (.int (-1)), (.int (-1)), (.int (-1)), (.int (-1))].set xx.toNatClampNeg (.int 0)).set tt.toNatClampNeg (.int 1))))]) (rest := []) (W := 0) (argsL := [(.int ww)]) (a := b56) (i := 1) A107 (m_place l Z a0 hw b56 b1_82 b2_82 ww ((2 : Int32)) ((([(.int (-1)), (.int (-1)), (.int (-1)), (.int (-1)), (.int (-1)), (.int (-1)), (.int (-1)), (.int (-1))].set xx.toNatClampNeg (.int 0)).set tt.toNatClampNeg (.int 1))) ((1 : Int32)) (fww.1) (own_lk_eq hc252_106 (by (try simp only [List.length_set]); exact own_nat (n := 8) fww.1 fww.2))) (Or.inr ⟨rfl, rfl⟩) rfl (tw hw 36 rfl) (tw hw 37 rfl) (tw hw 39 rfl) (tw hw 38 rfl) (tw hw 3 rfl) (tw hw 40 rfl) (by decide) at_306 rfl (lenOf pd_5 rfl) rfl (Nat.le_of_eq rfl) (by decide) (by decide) (by decide) (by decide) rfl (fun T108 v109 os110 A111 P112 => ?_)
        obtain ⟨rfl, rfl⟩ := P112
        have A113 := A111.cast (k2 := 3) (n2 := 19) (os2 := [(b1_82, .inr (.int, [(.int xx), (.int tt), (.int 0), (.int 0), (.int 0), (.int 0), (.int 0), (.int 0)])), (b56, ob0 (.ref b1_82) (.ref b2_82) (.int 2)), (b2_82, .inr (.int, (([(.int (-1)), (.int (-1)), (.int (-1)), (.int (-1)), (.int (-1)), (.int (-1)), (.int (-1)), (.int (-1))].set xx.toNatClampNeg (.int 0)).set tt.toNatClampNeg (.int 1))))]) rfl rfl rfl
        refine A113.iload (q := 311) at_309 rfl rfl ?_
        refine A113.icmpNo (q := 314) at_311 (by decide) rfl ?_
        refine A113.iconst (q := 315) (v := 1) at_314 rfl rfl ?_
        refine A113.goto (q := 319) at_315 (by decide) (by decide) ?_
        refine A113.istore (q := 321) (l' := #[.val (.int x0), .val (.int x1), .val (.int x2), .val (.int x3), .val (.int x4), .val (.int tt), .val (.int ((1 : Int32) + m7)), .val (.int ob), .val (.int xx), .val (.int yy), .val (.int 1), .val (.int ww), .val (.ref b56), .val (.int 1), .val (.int 1)]) at_319 rfl rfl ?_
        refine A113.iload (q := 323) at_321 rfl rfl ?_
        exact A113.retN (by simp) at_323 (by decide) (by decide) ⟨rfl, trivial⟩
      · refine A104.icmpYes (q := 262) at_252 (feq hc252_106).2 (by decide) (by decide) ?_
        refine A104.iload (q := 264) at_262 rfl rfl ?_
        refine A104.iconst (q := 265) (v := 1) at_264 rfl rfl ?_
        refine A104.icmpNo (q := 268) at_265 (by decide) rfl ?_
        refine A104.iload (q := 270) at_268 rfl rfl ?_
        refine A104.iload (q := 272) at_270 rfl rfl ?_
        by_cases hc272_114 : ww = xx
        · refine A104.icmpNo (q := 275) at_272 (teq hc272_114).2 rfl ?_
          refine A104.iconst (q := 276) (v := 0) at_275 rfl rfl ?_
          refine A104.istore (q := 278) (l' := #[.val (.int x0), .val (.int x1), .val (.int x2), .val (.int x3), .val (.int x4), .val (.int tt), .val (.int ((1 : Int32) + m7)), .val (.int ob), .val (.int xx), .val (.int yy), .val (.int 1), .val (.int ww), .val (.ref b56), .val (.int 1), .val (.int 0)]) at_276 rfl rfl ?_
          refine A104.goto (q := 297) at_278 (by decide) (by decide) ?_
          refine A104.iload (q := 299) at_297 rfl rfl ?_
          refine A104.ifNo (q := 302) at_299 (by decide) rfl ?_
          refine A104.aload (q := 304) at_302 rfl rfl rfl ?_
          refine A104.iload (q := 306) at_304 rfl rfl ?_
          have A115 := A104.pick (is := [2, 1, 0]) (os2 := [(b1_82, .inr (.int, [(.int xx), (.int tt), (.int 0), (.int 0), (.int 0), (.int 0), (.int 0), (.int 0)])), (b56, ob0 (.ref b1_82) (.ref b2_82) (.int 2)), (b2_82, .inr (.int, (([(.int (-1)), (.int (-1)), (.int (-1)), (.int (-1)), (.int (-1)), (.int (-1)), (.int (-1)), (.int (-1))].set xx.toNatClampNeg (.int 0)).set tt.toNatClampNeg (.int 1))))]) (by decide) rfl
          refine Here.callV (qn := 309) (os1 := [(b1_82, .inr (.int, [(.int xx), (.int tt), (.int 0), (.int 0), (.int 0), (.int 0), (.int 0), (.int 0)]))]) (os2 := [(b56, ob0 (.ref b1_82) (.ref b2_82) (.int 2)), (b2_82, .inr (.int, (([(.int (-1)), (.int (-1)), (.int (-1)), (.int (-1)), (.int (-1)), (.int (-1)), (.int (-1)), (.int (-1))].set xx.toNatClampNeg (.int 0)).set tt.toNatClampNeg (.int 1))))]) (rest := []) (W := 0) (argsL := [(.int ww)]) (a := b56) (i := 1) A115 (m_place l Z a0 hw b56 b1_82 b2_82 ww ((2 : Int32)) ((([(.int (-1)), (.int (-1)), (.int (-1)), (.int (-1)), (.int (-1)), (.int (-1)), (.int (-1)), (.int (-1))].set xx.toNatClampNeg (.int 0)).set tt.toNatClampNeg (.int 1))) ((0 : Int32)) (fww.1) ((own_lk_ne ftt.1 fww.1 hc252_106).trans (own_lk_eq hc272_114 (by (try simp only [List.length_set]); exact own_nat (n := 8) fww.1 fww.2)))) (Or.inr ⟨rfl, rfl⟩) rfl (tw hw 36 rfl) (tw hw 37 rfl) (tw hw 39 rfl) (tw hw 38 rfl) (tw hw 3 rfl) (tw hw 40 rfl) (by decide) at_306 rfl (lenOf pd_5 rfl) rfl (Nat.le_of_eq rfl) (by decide) (by decide) (by decide) (by decide) rfl (fun T116 v117 os118 A119 P120 => ?_)
          obtain ⟨rfl, rfl⟩ := P120
          have A121 := A119.cast (k2 := 3) (n2 := 19) (os2 := [(b1_82, .inr (.int, [(.int xx), (.int tt), (.int 0), (.int 0), (.int 0), (.int 0), (.int 0), (.int 0)])), (b56, ob0 (.ref b1_82) (.ref b2_82) (.int 2)), (b2_82, .inr (.int, (([(.int (-1)), (.int (-1)), (.int (-1)), (.int (-1)), (.int (-1)), (.int (-1)), (.int (-1)), (.int (-1))].set xx.toNatClampNeg (.int 0)).set tt.toNatClampNeg (.int 1))))]) rfl rfl rfl
          refine A121.iload (q := 311) at_309 rfl rfl ?_
          refine A121.icmpNo (q := 314) at_311 (by decide) rfl ?_
          refine A121.iconst (q := 315) (v := 1) at_314 rfl rfl ?_
          refine A121.goto (q := 319) at_315 (by decide) (by decide) ?_
          refine A121.istore (q := 321) (l' := #[.val (.int x0), .val (.int x1), .val (.int x2), .val (.int x3), .val (.int x4), .val (.int tt), .val (.int ((1 : Int32) + m7)), .val (.int ob), .val (.int xx), .val (.int yy), .val (.int 1), .val (.int ww), .val (.ref b56), .val (.int 1), .val (.int 0)]) at_319 rfl rfl ?_
          refine A121.iload (q := 323) at_321 rfl rfl ?_
          exact A121.retN (by simp) at_323 (by decide) (by decide) ⟨rfl, trivial⟩
        · refine A104.icmpYes (q := 281) at_272 (feq hc272_114).2 (by decide) (by decide) ?_
          refine A104.iload (q := 283) at_281 rfl rfl ?_
          refine A104.iconst (q := 284) (v := 2) at_283 rfl rfl ?_
          refine A104.icmpYes (q := 297) at_284 (by decide) (by decide) (by decide) ?_
          refine A104.iload (q := 299) at_297 rfl rfl ?_
          refine A104.ifNo (q := 302) at_299 (by decide) rfl ?_
          refine A104.aload (q := 304) at_302 rfl rfl rfl ?_
          refine A104.iload (q := 306) at_304 rfl rfl ?_
          have A122 := A104.pick (is := [2, 1, 0]) (os2 := [(b1_82, .inr (.int, [(.int xx), (.int tt), (.int 0), (.int 0), (.int 0), (.int 0), (.int 0), (.int 0)])), (b56, ob0 (.ref b1_82) (.ref b2_82) (.int 2)), (b2_82, .inr (.int, (([(.int (-1)), (.int (-1)), (.int (-1)), (.int (-1)), (.int (-1)), (.int (-1)), (.int (-1)), (.int (-1))].set xx.toNatClampNeg (.int 0)).set tt.toNatClampNeg (.int 1))))]) (by decide) rfl
          refine Here.callV (qn := 309) (os1 := [(b1_82, .inr (.int, [(.int xx), (.int tt), (.int 0), (.int 0), (.int 0), (.int 0), (.int 0), (.int 0)]))]) (os2 := [(b56, ob0 (.ref b1_82) (.ref b2_82) (.int 2)), (b2_82, .inr (.int, (([(.int (-1)), (.int (-1)), (.int (-1)), (.int (-1)), (.int (-1)), (.int (-1)), (.int (-1)), (.int (-1))].set xx.toNatClampNeg (.int 0)).set tt.toNatClampNeg (.int 1))))]) (rest := []) (W := 0) (argsL := [(.int ww)]) (a := b56) (i := 1) A122 (m_place l Z a0 hw b56 b1_82 b2_82 ww ((2 : Int32)) ((([(.int (-1)), (.int (-1)), (.int (-1)), (.int (-1)), (.int (-1)), (.int (-1)), (.int (-1)), (.int (-1))].set xx.toNatClampNeg (.int 0)).set tt.toNatClampNeg (.int 1))) ((-1 : Int32)) (fww.1) ((own_lk_ne ftt.1 fww.1 hc252_106).trans ((own_lk_ne gx.1 fww.1 hc272_114).trans (own_base ww fww.1 fww.2)))) (Or.inr ⟨rfl, rfl⟩) rfl (tw hw 36 rfl) (tw hw 37 rfl) (tw hw 39 rfl) (tw hw 38 rfl) (tw hw 3 rfl) (tw hw 40 rfl) (by decide) at_306 rfl (lenOf pd_5 rfl) rfl (Nat.le_of_eq rfl) (by decide) (by decide) (by decide) (by decide) rfl (fun T123 v124 os125 A126 P127 => ?_)
          obtain ⟨rfl, rfl⟩ := P127
          have A128 := A126.cast (k2 := 3) (n2 := 19) (os2 := [(b1_82, .inr (.int, [(.int xx), (.int tt), (.int 0), (.int 0), (.int 0), (.int 0), (.int 0), (.int 0)])), (b56, ob0 (.ref b1_82) (.ref b2_82) (.int 2)), (b2_82, .inr (.int, (([(.int (-1)), (.int (-1)), (.int (-1)), (.int (-1)), (.int (-1)), (.int (-1)), (.int (-1)), (.int (-1))].set xx.toNatClampNeg (.int 0)).set tt.toNatClampNeg (.int 1))))]) rfl rfl rfl
          refine A128.iload (q := 311) at_309 rfl rfl ?_
          refine A128.icmpNo (q := 314) at_311 (by decide) rfl ?_
          refine A128.iconst (q := 315) (v := 1) at_314 rfl rfl ?_
          refine A128.goto (q := 319) at_315 (by decide) (by decide) ?_
          refine A128.istore (q := 321) (l' := #[.val (.int x0), .val (.int x1), .val (.int x2), .val (.int x3), .val (.int x4), .val (.int tt), .val (.int ((1 : Int32) + m7)), .val (.int ob), .val (.int xx), .val (.int yy), .val (.int 1), .val (.int ww), .val (.ref b56), .val (.int 1), .val (.int (-1))]) at_319 rfl rfl ?_
          refine A128.iload (q := 323) at_321 rfl rfl ?_
          exact A128.retN (by simp) at_323 (by decide) (by decide) ⟨rfl, trivial⟩
    · rw [hk]
      show Wp _ _ _ _ _ _ _ _ _ _ T1 (mkF m 76 #[.val (.int x0), .val (.int x1), .val (.int x2), .val (.int x3), .val (.int x4), .val (.int tt), .val (.int ((1 : Int32) + m7)), .val (.int ob), .val (.int xx), .val (.int yy), .val (.int 2), .val (.int ww), .unset, .unset, .unset] [])
      refine A2.newO (qn := 79) (C := "com/example/heirring/heirring/IndexedIntSet") (fs := [("com/example/heirring/heirring/IndexedIntSet", "members", "[I", .null), ("com/example/heirring/heirring/IndexedIntSet", "places", "[I", .null), ("com/example/heirring/heirring/IndexedIntSet", "size", "I", (.int 0))]) (tw hw 1 rfl) (tw hw 2 rfl) (tw hw 3 rfl) at_76 (by decide) (by decide) (by decide) (List.forall_mem_cons.mpr ⟨⟨Or.inr (tw hw 12 rfl), (.array .int), by decide, rfl⟩, (List.forall_mem_cons.mpr ⟨⟨Or.inr (tw hw 14 rfl), (.array .int), by decide, rfl⟩, (List.forall_mem_cons.mpr ⟨⟨Or.inl (tw hw 25 rfl), .int, by decide, rfl⟩, (List.forall_mem_nil _)⟩)⟩)⟩) rfl (fun T129 b131 A130 => ?_)
      have A132 := A130.cast (k2 := 1) (n2 := 3) (os2 := [(b131, ob0 .null .null (.int 0))]) rfl rfl rfl
      refine A132.dup (q := 80) at_79 rfl rfl ?_
      refine A132.bipush (q := 82) (v := 8) at_80 rfl rfl ?_
      refine Here.callI (qn := 85) (os1 := []) (os2 := [(b131, ob0 .null .null (.int 0))]) (rest := [(.ref b131)]) (W := 1) (argsL := [(.int 8)]) (a := b131) A132 (m_ini l Z a0 hw b131) (Or.inr ⟨rfl, rfl⟩) rfl (tw hw 4 rfl) (tw hw 5 rfl) (tw hw 3 rfl) (tw hw 6 rfl) (by decide) at_82 rfl (lenOf pd_3 rfl) rfl (Nat.le_of_eq rfl) (by decide) (by decide) (by decide) (by decide) rfl (fun T133 v134 os135 A136 P137 => ?_)
      obtain ⟨b1_82, b2_82, rfl, rfl⟩ := P137
      have A138 := A136.cast (k2 := 3) (n2 := 19) (os2 := [(b131, ob0 (.ref b1_82) (.ref b2_82) (.int 0)), (b1_82, .inr (.int, [(.int 0), (.int 0), (.int 0), (.int 0), (.int 0), (.int 0), (.int 0), (.int 0)])), (b2_82, .inr (.int, [(.int (-1)), (.int (-1)), (.int (-1)), (.int (-1)), (.int (-1)), (.int (-1)), (.int (-1)), (.int (-1))]))]) rfl rfl rfl
      refine A138.astore (q := 87) (l' := #[.val (.int x0), .val (.int x1), .val (.int x2), .val (.int x3), .val (.int x4), .val (.int tt), .val (.int ((1 : Int32) + m7)), .val (.int ob), .val (.int xx), .val (.int yy), .val (.int 2), .val (.int ww), .val (.ref b131), .unset, .unset]) at_85 rfl rfl rfl ?_
      refine A138.iload (q := 89) at_87 rfl rfl ?_
      refine A138.iconst (q := 90) (v := 1) at_89 rfl rfl ?_
      refine A138.icmpNo (q := 93) at_90 (by decide) rfl ?_
      refine A138.aload (q := 95) at_93 rfl rfl rfl ?_
      refine A138.iload (q := 97) at_95 rfl rfl ?_
      refine Here.callV (qn := 100) (os1 := []) (os2 := [(b131, ob0 (.ref b1_82) (.ref b2_82) (.int 0)), (b1_82, .inr (.int, [(.int 0), (.int 0), (.int 0), (.int 0), (.int 0), (.int 0), (.int 0), (.int 0)])), (b2_82, .inr (.int, [(.int (-1)), (.int (-1)), (.int (-1)), (.int (-1)), (.int (-1)), (.int (-1)), (.int (-1)), (.int (-1))]))]) (rest := []) (W := 0) (argsL := [(.int xx)]) (a := b131) (i := 0) A138 (m_add0 l Z a0 hw b131 b1_82 b2_82 xx ((0 : Int32)) ((0 : Int32)) ((0 : Int32)) ((0 : Int32)) ((0 : Int32)) ((0 : Int32)) ((0 : Int32)) ((0 : Int32)) ([(.int (-1)), (.int (-1)), (.int (-1)), (.int (-1)), (.int (-1)), (.int (-1)), (.int (-1)), (.int (-1))]) (gx.1) (by (try simp only [List.length_set]); exact own_nat (n := 8) gx.1 gx.2.1)) (Or.inr ⟨rfl, rfl⟩) rfl (tw hw 19 rfl) (tw hw 20 rfl) (tw hw 22 rfl) (tw hw 21 rfl) (tw hw 3 rfl) (tw hw 23 rfl) (by decide) at_97 rfl (lenOf pd_3 rfl) rfl (Nat.le_of_eq rfl) (by decide) (by decide) (by decide) (by decide) rfl (fun T139 v140 os141 A142 P143 => ?_)
      obtain ⟨rfl, rfl⟩ := P143
      have A144 := A142.cast (k2 := 3) (n2 := 19) (os2 := [(b131, ob0 (.ref b1_82) (.ref b2_82) (.int 1)), (b1_82, .inr (.int, [(.int xx), (.int 0), (.int 0), (.int 0), (.int 0), (.int 0), (.int 0), (.int 0)])), (b2_82, .inr (.int, ([(.int (-1)), (.int (-1)), (.int (-1)), (.int (-1)), (.int (-1)), (.int (-1)), (.int (-1)), (.int (-1))].set xx.toNatClampNeg (.int 0))))]) rfl rfl rfl
      refine A144.iload (q := 102) at_100 rfl rfl ?_
      refine A144.iconst (q := 103) (v := 2) at_102 rfl rfl ?_
      refine A144.icmpNo (q := 106) at_103 (by decide) rfl ?_
      refine A144.aload (q := 108) at_106 rfl rfl rfl ?_
      refine A144.iload (q := 110) at_108 rfl rfl ?_
      refine Here.callV (qn := 113) (os1 := []) (os2 := [(b131, ob0 (.ref b1_82) (.ref b2_82) (.int 1)), (b1_82, .inr (.int, [(.int xx), (.int 0), (.int 0), (.int 0), (.int 0), (.int 0), (.int 0), (.int 0)])), (b2_82, .inr (.int, ([(.int (-1)), (.int (-1)), (.int (-1)), (.int (-1)), (.int (-1)), (.int (-1)), (.int (-1)), (.int (-1))].set xx.toNatClampNeg (.int 0))))]) (rest := []) (W := 0) (argsL := [(.int yy)]) (a := b131) (i := 0) A144 (m_add1 l Z a0 hw b131 b1_82 b2_82 yy xx ((0 : Int32)) ((0 : Int32)) ((0 : Int32)) ((0 : Int32)) ((0 : Int32)) ((0 : Int32)) ((0 : Int32)) (([(.int (-1)), (.int (-1)), (.int (-1)), (.int (-1)), (.int (-1)), (.int (-1)), (.int (-1)), (.int (-1))].set xx.toNatClampNeg (.int 0))) (gy.1) (by (try simp only [List.length_set]); exact own_nat (n := 8) gy.1 gy.2.1)) (Or.inr ⟨rfl, rfl⟩) rfl (tw hw 19 rfl) (tw hw 20 rfl) (tw hw 22 rfl) (tw hw 21 rfl) (tw hw 3 rfl) (tw hw 23 rfl) (by decide) at_110 rfl (lenOf pd_3 rfl) rfl (Nat.le_of_eq rfl) (by decide) (by decide) (by decide) (by decide) rfl (fun T145 v146 os147 A148 P149 => ?_)
      obtain ⟨rfl, rfl⟩ := P149
      have A150 := A148.cast (k2 := 3) (n2 := 19) (os2 := [(b131, ob0 (.ref b1_82) (.ref b2_82) (.int 2)), (b1_82, .inr (.int, [(.int xx), (.int yy), (.int 0), (.int 0), (.int 0), (.int 0), (.int 0), (.int 0)])), (b2_82, .inr (.int, (([(.int (-1)), (.int (-1)), (.int (-1)), (.int (-1)), (.int (-1)), (.int (-1)), (.int (-1)), (.int (-1))].set xx.toNatClampNeg (.int 0)).set yy.toNatClampNeg (.int 1))))]) rfl rfl rfl
      refine A150.aload (q := 115) at_113 rfl rfl rfl ?_
      refine A150.iload (q := 117) at_115 rfl rfl ?_
      refine Here.callV (qn := 120) (os1 := []) (os2 := [(b131, ob0 (.ref b1_82) (.ref b2_82) (.int 2)), (b1_82, .inr (.int, [(.int xx), (.int yy), (.int 0), (.int 0), (.int 0), (.int 0), (.int 0), (.int 0)])), (b2_82, .inr (.int, (([(.int (-1)), (.int (-1)), (.int (-1)), (.int (-1)), (.int (-1)), (.int (-1)), (.int (-1)), (.int (-1))].set xx.toNatClampNeg (.int 0)).set yy.toNatClampNeg (.int 1))))]) (rest := []) (W := 0) (argsL := [(.int tt)]) (a := b131) (i := 0) A150 (m_add2 l Z a0 hw b131 b1_82 b2_82 tt xx yy ((0 : Int32)) ((0 : Int32)) ((0 : Int32)) ((0 : Int32)) ((0 : Int32)) ((0 : Int32)) ((([(.int (-1)), (.int (-1)), (.int (-1)), (.int (-1)), (.int (-1)), (.int (-1)), (.int (-1)), (.int (-1))].set xx.toNatClampNeg (.int 0)).set yy.toNatClampNeg (.int 1))) (ftt.1) (by (try simp only [List.length_set]); exact own_nat (n := 8) ftt.1 ftt.2)) (Or.inr ⟨rfl, rfl⟩) rfl (tw hw 19 rfl) (tw hw 20 rfl) (tw hw 22 rfl) (tw hw 21 rfl) (tw hw 3 rfl) (tw hw 23 rfl) (by decide) at_117 rfl (lenOf pd_3 rfl) rfl (Nat.le_of_eq rfl) (by decide) (by decide) (by decide) (by decide) rfl (fun T151 v152 os153 A154 P155 => ?_)
      obtain ⟨rfl, rfl⟩ := P155
      have A156 := A154.cast (k2 := 3) (n2 := 19) (os2 := [(b131, ob0 (.ref b1_82) (.ref b2_82) (.int 3)), (b1_82, .inr (.int, [(.int xx), (.int yy), (.int tt), (.int 0), (.int 0), (.int 0), (.int 0), (.int 0)])), (b2_82, .inr (.int, ((([(.int (-1)), (.int (-1)), (.int (-1)), (.int (-1)), (.int (-1)), (.int (-1)), (.int (-1)), (.int (-1))].set xx.toNatClampNeg (.int 0)).set yy.toNatClampNeg (.int 1)).set tt.toNatClampNeg (.int 2))))]) rfl rfl rfl
      refine A156.aload (q := 122) at_120 rfl rfl rfl ?_
      have A157 := A156.pick (is := [1, 2, 0]) (os2 := [(b1_82, .inr (.int, [(.int xx), (.int yy), (.int tt), (.int 0), (.int 0), (.int 0), (.int 0), (.int 0)])), (b2_82, .inr (.int, ((([(.int (-1)), (.int (-1)), (.int (-1)), (.int (-1)), (.int (-1)), (.int (-1)), (.int (-1)), (.int (-1))].set xx.toNatClampNeg (.int 0)).set yy.toNatClampNeg (.int 1)).set tt.toNatClampNeg (.int 2)))), (b131, ob0 (.ref b1_82) (.ref b2_82) (.int 3))]) (by decide) rfl
      refine Here.callV (qn := 125) (os1 := [(b1_82, .inr (.int, [(.int xx), (.int yy), (.int tt), (.int 0), (.int 0), (.int 0), (.int 0), (.int 0)])), (b2_82, .inr (.int, ((([(.int (-1)), (.int (-1)), (.int (-1)), (.int (-1)), (.int (-1)), (.int (-1)), (.int (-1)), (.int (-1))].set xx.toNatClampNeg (.int 0)).set yy.toNatClampNeg (.int 1)).set tt.toNatClampNeg (.int 2))))]) (os2 := [(b131, ob0 (.ref b1_82) (.ref b2_82) (.int 3))]) (rest := []) (W := 0) (argsL := []) (a := b131) (i := 2) A157 (m_size l Z a0 hw b131 b1_82 b2_82 ((3 : Int32))) (Or.inr ⟨rfl, rfl⟩) rfl (tw hw 26 rfl) (tw hw 27 rfl) (tw hw 29 rfl) (tw hw 28 rfl) (tw hw 3 rfl) (tw hw 30 rfl) (by decide) at_122 rfl (lenOf pd_4 rfl) rfl (Nat.le_of_eq rfl) (by decide) (by decide) (by decide) (by decide) rfl (fun T158 v159 os160 A161 P162 => ?_)
      obtain ⟨rfl, rfl⟩ := P162
      have A163 := A161.cast (k2 := 3) (n2 := 19) (os2 := [(b1_82, .inr (.int, [(.int xx), (.int yy), (.int tt), (.int 0), (.int 0), (.int 0), (.int 0), (.int 0)])), (b2_82, .inr (.int, ((([(.int (-1)), (.int (-1)), (.int (-1)), (.int (-1)), (.int (-1)), (.int (-1)), (.int (-1)), (.int (-1))].set xx.toNatClampNeg (.int 0)).set yy.toNatClampNeg (.int 1)).set tt.toNatClampNeg (.int 2)))), (b131, ob0 (.ref b1_82) (.ref b2_82) (.int 3))]) rfl rfl rfl
      refine A163.iload (q := 127) at_125 rfl rfl ?_
      refine A163.iconst (q := 128) (v := 1) at_127 rfl rfl ?_
      refine A163.iadd (q := 129) at_128 rfl ?_
      refine Wp.top (v' := (.int 3)) rfl ?_
      refine A163.icmpNo (q := 132) at_129 (by decide) rfl ?_
      refine A163.iconst (q := 133) (v := 1) at_132 rfl rfl ?_
      refine A163.goto (q := 137) at_133 (by decide) (by decide) ?_
      refine A163.istore (q := 139) (l' := #[.val (.int x0), .val (.int x1), .val (.int x2), .val (.int x3), .val (.int x4), .val (.int tt), .val (.int ((1 : Int32) + m7)), .val (.int ob), .val (.int xx), .val (.int yy), .val (.int 2), .val (.int ww), .val (.ref b131), .val (.int 1), .unset]) at_137 rfl rfl ?_
      refine A163.iload (q := 141) at_139 rfl rfl ?_
      refine A163.ifNo (q := 144) at_141 (by decide) rfl ?_
      refine A163.aload (q := 146) at_144 rfl rfl rfl ?_
      refine A163.iload (q := 148) at_146 rfl rfl ?_
      have A164 := A163.pick (is := [1, 2, 0]) (os2 := [(b2_82, .inr (.int, ((([(.int (-1)), (.int (-1)), (.int (-1)), (.int (-1)), (.int (-1)), (.int (-1)), (.int (-1)), (.int (-1))].set xx.toNatClampNeg (.int 0)).set yy.toNatClampNeg (.int 1)).set tt.toNatClampNeg (.int 2)))), (b131, ob0 (.ref b1_82) (.ref b2_82) (.int 3)), (b1_82, .inr (.int, [(.int xx), (.int yy), (.int tt), (.int 0), (.int 0), (.int 0), (.int 0), (.int 0)]))]) (by decide) rfl
      refine Here.callV (qn := 151) (os1 := [(b2_82, .inr (.int, ((([(.int (-1)), (.int (-1)), (.int (-1)), (.int (-1)), (.int (-1)), (.int (-1)), (.int (-1)), (.int (-1))].set xx.toNatClampNeg (.int 0)).set yy.toNatClampNeg (.int 1)).set tt.toNatClampNeg (.int 2))))]) (os2 := [(b131, ob0 (.ref b1_82) (.ref b2_82) (.int 3)), (b1_82, .inr (.int, [(.int xx), (.int yy), (.int tt), (.int 0), (.int 0), (.int 0), (.int 0), (.int 0)]))]) (rest := []) (W := 0) (argsL := [(.int 2)]) (a := b131) (i := 1) A164 (m_get2 l Z a0 hw b131 b1_82 b2_82 ((3 : Int32)) xx yy tt ((0 : Int32)) ((0 : Int32)) ((0 : Int32)) ((0 : Int32)) ((0 : Int32))) (Or.inr ⟨rfl, rfl⟩) rfl (tw hw 31 rfl) (tw hw 32 rfl) (tw hw 34 rfl) (tw hw 33 rfl) (tw hw 3 rfl) (tw hw 35 rfl) (by decide) at_148 rfl (lenOf pd_5 rfl) rfl (Nat.le_of_eq rfl) (by decide) (by decide) (by decide) (by decide) rfl (fun T165 v166 os167 A168 P169 => ?_)
      obtain ⟨rfl, rfl⟩ := P169
      have A170 := A168.cast (k2 := 3) (n2 := 19) (os2 := [(b2_82, .inr (.int, ((([(.int (-1)), (.int (-1)), (.int (-1)), (.int (-1)), (.int (-1)), (.int (-1)), (.int (-1)), (.int (-1))].set xx.toNatClampNeg (.int 0)).set yy.toNatClampNeg (.int 1)).set tt.toNatClampNeg (.int 2)))), (b131, ob0 (.ref b1_82) (.ref b2_82) (.int 3)), (b1_82, .inr (.int, [(.int xx), (.int yy), (.int tt), (.int 0), (.int 0), (.int 0), (.int 0), (.int 0)]))]) rfl rfl rfl
      refine A170.iload (q := 153) at_151 rfl rfl ?_
      have hc153_171 : tt = tt := by
        clear hw A0 A2 A130 A132 A136 A138 A142 A144 A148 A150 A154 A156 A157 A161 A163 A164 A168 A170
        rfl
      refine A170.icmpNo (q := 156) at_153 (teq hc153_171).2 rfl ?_
      refine A170.iconst (q := 157) (v := 1) at_156 rfl rfl ?_
      refine A170.goto (q := 161) at_157 (by decide) (by decide) ?_
      refine A170.istore (q := 163) (l' := #[.val (.int x0), .val (.int x1), .val (.int x2), .val (.int x3), .val (.int x4), .val (.int tt), .val (.int ((1 : Int32) + m7)), .val (.int ob), .val (.int xx), .val (.int yy), .val (.int 2), .val (.int ww), .val (.ref b131), .val (.int 1), .unset]) at_161 rfl rfl ?_
      refine A170.iload (q := 165) at_163 rfl rfl ?_
      refine A170.ifNo (q := 168) at_165 (by decide) rfl ?_
      refine A170.aload (q := 170) at_168 rfl rfl rfl ?_
      refine A170.iload (q := 172) at_170 rfl rfl ?_
      have A172 := A170.pick (is := [2, 1, 0]) (os2 := [(b1_82, .inr (.int, [(.int xx), (.int yy), (.int tt), (.int 0), (.int 0), (.int 0), (.int 0), (.int 0)])), (b131, ob0 (.ref b1_82) (.ref b2_82) (.int 3)), (b2_82, .inr (.int, ((([(.int (-1)), (.int (-1)), (.int (-1)), (.int (-1)), (.int (-1)), (.int (-1)), (.int (-1)), (.int (-1))].set xx.toNatClampNeg (.int 0)).set yy.toNatClampNeg (.int 1)).set tt.toNatClampNeg (.int 2))))]) (by decide) rfl
      refine Here.callV (qn := 175) (os1 := [(b1_82, .inr (.int, [(.int xx), (.int yy), (.int tt), (.int 0), (.int 0), (.int 0), (.int 0), (.int 0)]))]) (os2 := [(b131, ob0 (.ref b1_82) (.ref b2_82) (.int 3)), (b2_82, .inr (.int, ((([(.int (-1)), (.int (-1)), (.int (-1)), (.int (-1)), (.int (-1)), (.int (-1)), (.int (-1)), (.int (-1))].set xx.toNatClampNeg (.int 0)).set yy.toNatClampNeg (.int 1)).set tt.toNatClampNeg (.int 2))))]) (rest := []) (W := 0) (argsL := [(.int tt)]) (a := b131) (i := 1) A172 (m_place l Z a0 hw b131 b1_82 b2_82 tt ((3 : Int32)) (((([(.int (-1)), (.int (-1)), (.int (-1)), (.int (-1)), (.int (-1)), (.int (-1)), (.int (-1)), (.int (-1))].set xx.toNatClampNeg (.int 0)).set yy.toNatClampNeg (.int 1)).set tt.toNatClampNeg (.int 2))) ((2 : Int32)) (ftt.1) (own_lk_eq rfl (by (try simp only [List.length_set]); exact own_nat (n := 8) ftt.1 ftt.2))) (Or.inr ⟨rfl, rfl⟩) rfl (tw hw 36 rfl) (tw hw 37 rfl) (tw hw 39 rfl) (tw hw 38 rfl) (tw hw 3 rfl) (tw hw 40 rfl) (by decide) at_172 rfl (lenOf pd_5 rfl) rfl (Nat.le_of_eq rfl) (by decide) (by decide) (by decide) (by decide) rfl (fun T173 v174 os175 A176 P177 => ?_)
      obtain ⟨rfl, rfl⟩ := P177
      have A178 := A176.cast (k2 := 3) (n2 := 19) (os2 := [(b1_82, .inr (.int, [(.int xx), (.int yy), (.int tt), (.int 0), (.int 0), (.int 0), (.int 0), (.int 0)])), (b131, ob0 (.ref b1_82) (.ref b2_82) (.int 3)), (b2_82, .inr (.int, ((([(.int (-1)), (.int (-1)), (.int (-1)), (.int (-1)), (.int (-1)), (.int (-1)), (.int (-1)), (.int (-1))].set xx.toNatClampNeg (.int 0)).set yy.toNatClampNeg (.int 1)).set tt.toNatClampNeg (.int 2))))]) rfl rfl rfl
      refine A178.iload (q := 177) at_175 rfl rfl ?_
      refine A178.icmpNo (q := 180) at_177 (by decide) rfl ?_
      refine A178.iconst (q := 181) (v := 1) at_180 rfl rfl ?_
      refine A178.goto (q := 185) at_181 (by decide) (by decide) ?_
      refine A178.istore (q := 187) (l' := #[.val (.int x0), .val (.int x1), .val (.int x2), .val (.int x3), .val (.int x4), .val (.int tt), .val (.int ((1 : Int32) + m7)), .val (.int ob), .val (.int xx), .val (.int yy), .val (.int 2), .val (.int ww), .val (.ref b131), .val (.int 1), .unset]) at_185 rfl rfl ?_
      refine A178.iload (q := 189) at_187 rfl rfl ?_
      refine A178.iconst (q := 190) (v := 1) at_189 rfl rfl ?_
      refine A178.icmpNo (q := 193) at_190 (by decide) rfl ?_
      refine A178.iload (q := 195) at_193 rfl rfl ?_
      refine A178.ifNo (q := 198) at_195 (by decide) rfl ?_
      refine A178.aload (q := 200) at_198 rfl rfl rfl ?_
      refine A178.iconst (q := 201) (v := 0) at_200 rfl rfl ?_
      have A179 := A178.pick (is := [2, 1, 0]) (os2 := [(b2_82, .inr (.int, ((([(.int (-1)), (.int (-1)), (.int (-1)), (.int (-1)), (.int (-1)), (.int (-1)), (.int (-1)), (.int (-1))].set xx.toNatClampNeg (.int 0)).set yy.toNatClampNeg (.int 1)).set tt.toNatClampNeg (.int 2)))), (b131, ob0 (.ref b1_82) (.ref b2_82) (.int 3)), (b1_82, .inr (.int, [(.int xx), (.int yy), (.int tt), (.int 0), (.int 0), (.int 0), (.int 0), (.int 0)]))]) (by decide) rfl
      refine Here.callV (qn := 204) (os1 := [(b2_82, .inr (.int, ((([(.int (-1)), (.int (-1)), (.int (-1)), (.int (-1)), (.int (-1)), (.int (-1)), (.int (-1)), (.int (-1))].set xx.toNatClampNeg (.int 0)).set yy.toNatClampNeg (.int 1)).set tt.toNatClampNeg (.int 2))))]) (os2 := [(b131, ob0 (.ref b1_82) (.ref b2_82) (.int 3)), (b1_82, .inr (.int, [(.int xx), (.int yy), (.int tt), (.int 0), (.int 0), (.int 0), (.int 0), (.int 0)]))]) (rest := []) (W := 0) (argsL := [(.int 0)]) (a := b131) (i := 1) A179 (m_get0 l Z a0 hw b131 b1_82 b2_82 ((3 : Int32)) xx yy tt ((0 : Int32)) ((0 : Int32)) ((0 : Int32)) ((0 : Int32)) ((0 : Int32))) (Or.inr ⟨rfl, rfl⟩) rfl (tw hw 31 rfl) (tw hw 32 rfl) (tw hw 34 rfl) (tw hw 33 rfl) (tw hw 3 rfl) (tw hw 35 rfl) (by decide) at_201 rfl (lenOf pd_5 rfl) rfl (Nat.le_of_eq rfl) (by decide) (by decide) (by decide) (by decide) rfl (fun T180 v181 os182 A183 P184 => ?_)
      obtain ⟨rfl, rfl⟩ := P184
      have A185 := A183.cast (k2 := 3) (n2 := 19) (os2 := [(b2_82, .inr (.int, ((([(.int (-1)), (.int (-1)), (.int (-1)), (.int (-1)), (.int (-1)), (.int (-1)), (.int (-1)), (.int (-1))].set xx.toNatClampNeg (.int 0)).set yy.toNatClampNeg (.int 1)).set tt.toNatClampNeg (.int 2)))), (b131, ob0 (.ref b1_82) (.ref b2_82) (.int 3)), (b1_82, .inr (.int, [(.int xx), (.int yy), (.int tt), (.int 0), (.int 0), (.int 0), (.int 0), (.int 0)]))]) rfl rfl rfl
      refine A185.iload (q := 206) at_204 rfl rfl ?_
      have hc206_186 : xx = xx := by
        clear hw A0 A2 A130 A132 A136 A138 A142 A144 A148 A150 A154 A156 A157 A161 A163 A164 A168 A170 A172 A176 A178 A179 A183 A185
        rfl
      refine A185.icmpNo (q := 209) at_206 (teq hc206_186).2 rfl ?_
      refine A185.iconst (q := 210) (v := 1) at_209 rfl rfl ?_
      refine A185.goto (q := 214) at_210 (by decide) (by decide) ?_
      refine A185.istore (q := 216) (l' := #[.val (.int x0), .val (.int x1), .val (.int x2), .val (.int x3), .val (.int x4), .val (.int tt), .val (.int ((1 : Int32) + m7)), .val (.int ob), .val (.int xx), .val (.int yy), .val (.int 2), .val (.int ww), .val (.ref b131), .val (.int 1), .unset]) at_214 rfl rfl ?_
      refine A185.iload (q := 218) at_216 rfl rfl ?_
      refine A185.iconst (q := 219) (v := 2) at_218 rfl rfl ?_
      refine A185.icmpNo (q := 222) at_219 (by decide) rfl ?_
      refine A185.iload (q := 224) at_222 rfl rfl ?_
      refine A185.ifNo (q := 227) at_224 (by decide) rfl ?_
      refine A185.aload (q := 229) at_227 rfl rfl rfl ?_
      refine A185.iconst (q := 230) (v := 1) at_229 rfl rfl ?_
      refine Here.callV (qn := 233) (os1 := [(b2_82, .inr (.int, ((([(.int (-1)), (.int (-1)), (.int (-1)), (.int (-1)), (.int (-1)), (.int (-1)), (.int (-1)), (.int (-1))].set xx.toNatClampNeg (.int 0)).set yy.toNatClampNeg (.int 1)).set tt.toNatClampNeg (.int 2))))]) (os2 := [(b131, ob0 (.ref b1_82) (.ref b2_82) (.int 3)), (b1_82, .inr (.int, [(.int xx), (.int yy), (.int tt), (.int 0), (.int 0), (.int 0), (.int 0), (.int 0)]))]) (rest := []) (W := 0) (argsL := [(.int 1)]) (a := b131) (i := 1) A185 (m_get1 l Z a0 hw b131 b1_82 b2_82 ((3 : Int32)) xx yy tt ((0 : Int32)) ((0 : Int32)) ((0 : Int32)) ((0 : Int32)) ((0 : Int32))) (Or.inr ⟨rfl, rfl⟩) rfl (tw hw 31 rfl) (tw hw 32 rfl) (tw hw 34 rfl) (tw hw 33 rfl) (tw hw 3 rfl) (tw hw 35 rfl) (by decide) at_230 rfl (lenOf pd_5 rfl) rfl (Nat.le_of_eq rfl) (by decide) (by decide) (by decide) (by decide) rfl (fun T187 v188 os189 A190 P191 => ?_)
      obtain ⟨rfl, rfl⟩ := P191
      have A192 := A190.cast (k2 := 3) (n2 := 19) (os2 := [(b2_82, .inr (.int, ((([(.int (-1)), (.int (-1)), (.int (-1)), (.int (-1)), (.int (-1)), (.int (-1)), (.int (-1)), (.int (-1))].set xx.toNatClampNeg (.int 0)).set yy.toNatClampNeg (.int 1)).set tt.toNatClampNeg (.int 2)))), (b131, ob0 (.ref b1_82) (.ref b2_82) (.int 3)), (b1_82, .inr (.int, [(.int xx), (.int yy), (.int tt), (.int 0), (.int 0), (.int 0), (.int 0), (.int 0)]))]) rfl rfl rfl
      refine A192.iload (q := 235) at_233 rfl rfl ?_
      have hc235_193 : yy = yy := by
        clear hw A0 A2 A130 A132 A136 A138 A142 A144 A148 A150 A154 A156 A157 A161 A163 A164 A168 A170 A172 A176 A178 A179 A183 A185 A190 A192
        rfl
      refine A192.icmpNo (q := 238) at_235 (teq hc235_193).2 rfl ?_
      refine A192.iconst (q := 239) (v := 1) at_238 rfl rfl ?_
      refine A192.goto (q := 243) at_239 (by decide) (by decide) ?_
      refine A192.istore (q := 245) (l' := #[.val (.int x0), .val (.int x1), .val (.int x2), .val (.int x3), .val (.int x4), .val (.int tt), .val (.int ((1 : Int32) + m7)), .val (.int ob), .val (.int xx), .val (.int yy), .val (.int 2), .val (.int ww), .val (.ref b131), .val (.int 1), .unset]) at_243 rfl rfl ?_
      refine A192.iconst (q := 246) (v := -1) at_245 rfl rfl ?_
      refine A192.istore (q := 248) (l' := #[.val (.int x0), .val (.int x1), .val (.int x2), .val (.int x3), .val (.int x4), .val (.int tt), .val (.int ((1 : Int32) + m7)), .val (.int ob), .val (.int xx), .val (.int yy), .val (.int 2), .val (.int ww), .val (.ref b131), .val (.int 1), .val (.int (-1))]) at_246 rfl rfl ?_
      refine A192.iload (q := 250) at_248 rfl rfl ?_
      refine A192.iload (q := 252) at_250 rfl rfl ?_
      by_cases hc252_194 : ww = tt
      · refine A192.icmpNo (q := 255) at_252 (teq hc252_194).2 rfl ?_
        refine A192.iload (q := 257) at_255 rfl rfl ?_
        refine A192.istore (q := 259) (l' := #[.val (.int x0), .val (.int x1), .val (.int x2), .val (.int x3), .val (.int x4), .val (.int tt), .val (.int ((1 : Int32) + m7)), .val (.int ob), .val (.int xx), .val (.int yy), .val (.int 2), .val (.int ww), .val (.ref b131), .val (.int 1), .val (.int 2)]) at_257 rfl rfl ?_
        refine A192.goto (q := 297) at_259 (by decide) (by decide) ?_
        refine A192.iload (q := 299) at_297 rfl rfl ?_
        refine A192.ifNo (q := 302) at_299 (by decide) rfl ?_
        refine A192.aload (q := 304) at_302 rfl rfl rfl ?_
        refine A192.iload (q := 306) at_304 rfl rfl ?_
        have A195 := A192.pick (is := [2, 1, 0]) (os2 := [(b1_82, .inr (.int, [(.int xx), (.int yy), (.int tt), (.int 0), (.int 0), (.int 0), (.int 0), (.int 0)])), (b131, ob0 (.ref b1_82) (.ref b2_82) (.int 3)), (b2_82, .inr (.int, ((([(.int (-1)), (.int (-1)), (.int (-1)), (.int (-1)), (.int (-1)), (.int (-1)), (.int (-1)), (.int (-1))].set xx.toNatClampNeg (.int 0)).set yy.toNatClampNeg (.int 1)).set tt.toNatClampNeg (.int 2))))]) (by decide) rfl
        refine Here.callV (qn := 309) (os1 := [(b1_82, .inr (.int, [(.int xx), (.int yy), (.int tt), (.int 0), (.int 0), (.int 0), (.int 0), (.int 0)]))]) (os2 := [(b131, ob0 (.ref b1_82) (.ref b2_82) (.int 3)), (b2_82, .inr (.int, ((([(.int (-1)), (.int (-1)), (.int (-1)), (.int (-1)), (.int (-1)), (.int (-1)), (.int (-1)), (.int (-1))].set xx.toNatClampNeg (.int 0)).set yy.toNatClampNeg (.int 1)).set tt.toNatClampNeg (.int 2))))]) (rest := []) (W := 0) (argsL := [(.int ww)]) (a := b131) (i := 1) A195 (m_place l Z a0 hw b131 b1_82 b2_82 ww ((3 : Int32)) (((([(.int (-1)), (.int (-1)), (.int (-1)), (.int (-1)), (.int (-1)), (.int (-1)), (.int (-1)), (.int (-1))].set xx.toNatClampNeg (.int 0)).set yy.toNatClampNeg (.int 1)).set tt.toNatClampNeg (.int 2))) ((2 : Int32)) (fww.1) (own_lk_eq hc252_194 (by (try simp only [List.length_set]); exact own_nat (n := 8) fww.1 fww.2))) (Or.inr ⟨rfl, rfl⟩) rfl (tw hw 36 rfl) (tw hw 37 rfl) (tw hw 39 rfl) (tw hw 38 rfl) (tw hw 3 rfl) (tw hw 40 rfl) (by decide) at_306 rfl (lenOf pd_5 rfl) rfl (Nat.le_of_eq rfl) (by decide) (by decide) (by decide) (by decide) rfl (fun T196 v197 os198 A199 P200 => ?_)
        obtain ⟨rfl, rfl⟩ := P200
        have A201 := A199.cast (k2 := 3) (n2 := 19) (os2 := [(b1_82, .inr (.int, [(.int xx), (.int yy), (.int tt), (.int 0), (.int 0), (.int 0), (.int 0), (.int 0)])), (b131, ob0 (.ref b1_82) (.ref b2_82) (.int 3)), (b2_82, .inr (.int, ((([(.int (-1)), (.int (-1)), (.int (-1)), (.int (-1)), (.int (-1)), (.int (-1)), (.int (-1)), (.int (-1))].set xx.toNatClampNeg (.int 0)).set yy.toNatClampNeg (.int 1)).set tt.toNatClampNeg (.int 2))))]) rfl rfl rfl
        refine A201.iload (q := 311) at_309 rfl rfl ?_
        refine A201.icmpNo (q := 314) at_311 (by decide) rfl ?_
        refine A201.iconst (q := 315) (v := 1) at_314 rfl rfl ?_
        refine A201.goto (q := 319) at_315 (by decide) (by decide) ?_
        refine A201.istore (q := 321) (l' := #[.val (.int x0), .val (.int x1), .val (.int x2), .val (.int x3), .val (.int x4), .val (.int tt), .val (.int ((1 : Int32) + m7)), .val (.int ob), .val (.int xx), .val (.int yy), .val (.int 2), .val (.int ww), .val (.ref b131), .val (.int 1), .val (.int 2)]) at_319 rfl rfl ?_
        refine A201.iload (q := 323) at_321 rfl rfl ?_
        exact A201.retN (by simp) at_323 (by decide) (by decide) ⟨rfl, trivial⟩
      · refine A192.icmpYes (q := 262) at_252 (feq hc252_194).2 (by decide) (by decide) ?_
        refine A192.iload (q := 264) at_262 rfl rfl ?_
        refine A192.iconst (q := 265) (v := 1) at_264 rfl rfl ?_
        refine A192.icmpNo (q := 268) at_265 (by decide) rfl ?_
        refine A192.iload (q := 270) at_268 rfl rfl ?_
        refine A192.iload (q := 272) at_270 rfl rfl ?_
        by_cases hc272_202 : ww = xx
        · refine A192.icmpNo (q := 275) at_272 (teq hc272_202).2 rfl ?_
          refine A192.iconst (q := 276) (v := 0) at_275 rfl rfl ?_
          refine A192.istore (q := 278) (l' := #[.val (.int x0), .val (.int x1), .val (.int x2), .val (.int x3), .val (.int x4), .val (.int tt), .val (.int ((1 : Int32) + m7)), .val (.int ob), .val (.int xx), .val (.int yy), .val (.int 2), .val (.int ww), .val (.ref b131), .val (.int 1), .val (.int 0)]) at_276 rfl rfl ?_
          refine A192.goto (q := 297) at_278 (by decide) (by decide) ?_
          refine A192.iload (q := 299) at_297 rfl rfl ?_
          refine A192.ifNo (q := 302) at_299 (by decide) rfl ?_
          refine A192.aload (q := 304) at_302 rfl rfl rfl ?_
          refine A192.iload (q := 306) at_304 rfl rfl ?_
          have A203 := A192.pick (is := [2, 1, 0]) (os2 := [(b1_82, .inr (.int, [(.int xx), (.int yy), (.int tt), (.int 0), (.int 0), (.int 0), (.int 0), (.int 0)])), (b131, ob0 (.ref b1_82) (.ref b2_82) (.int 3)), (b2_82, .inr (.int, ((([(.int (-1)), (.int (-1)), (.int (-1)), (.int (-1)), (.int (-1)), (.int (-1)), (.int (-1)), (.int (-1))].set xx.toNatClampNeg (.int 0)).set yy.toNatClampNeg (.int 1)).set tt.toNatClampNeg (.int 2))))]) (by decide) rfl
          refine Here.callV (qn := 309) (os1 := [(b1_82, .inr (.int, [(.int xx), (.int yy), (.int tt), (.int 0), (.int 0), (.int 0), (.int 0), (.int 0)]))]) (os2 := [(b131, ob0 (.ref b1_82) (.ref b2_82) (.int 3)), (b2_82, .inr (.int, ((([(.int (-1)), (.int (-1)), (.int (-1)), (.int (-1)), (.int (-1)), (.int (-1)), (.int (-1)), (.int (-1))].set xx.toNatClampNeg (.int 0)).set yy.toNatClampNeg (.int 1)).set tt.toNatClampNeg (.int 2))))]) (rest := []) (W := 0) (argsL := [(.int ww)]) (a := b131) (i := 1) A203 (m_place l Z a0 hw b131 b1_82 b2_82 ww ((3 : Int32)) (((([(.int (-1)), (.int (-1)), (.int (-1)), (.int (-1)), (.int (-1)), (.int (-1)), (.int (-1)), (.int (-1))].set xx.toNatClampNeg (.int 0)).set yy.toNatClampNeg (.int 1)).set tt.toNatClampNeg (.int 2))) ((0 : Int32)) (fww.1) ((own_lk_ne ftt.1 fww.1 hc252_194).trans ((own_lk_ne gy.1 fww.1 (fun h => gy.2.2.2 (h.symm.trans hc272_202))).trans (own_lk_eq hc272_202 (by (try simp only [List.length_set]); exact own_nat (n := 8) fww.1 fww.2))))) (Or.inr ⟨rfl, rfl⟩) rfl (tw hw 36 rfl) (tw hw 37 rfl) (tw hw 39 rfl) (tw hw 38 rfl) (tw hw 3 rfl) (tw hw 40 rfl) (by decide) at_306 rfl (lenOf pd_5 rfl) rfl (Nat.le_of_eq rfl) (by decide) (by decide) (by decide) (by decide) rfl (fun T204 v205 os206 A207 P208 => ?_)
          obtain ⟨rfl, rfl⟩ := P208
          have A209 := A207.cast (k2 := 3) (n2 := 19) (os2 := [(b1_82, .inr (.int, [(.int xx), (.int yy), (.int tt), (.int 0), (.int 0), (.int 0), (.int 0), (.int 0)])), (b131, ob0 (.ref b1_82) (.ref b2_82) (.int 3)), (b2_82, .inr (.int, ((([(.int (-1)), (.int (-1)), (.int (-1)), (.int (-1)), (.int (-1)), (.int (-1)), (.int (-1)), (.int (-1))].set xx.toNatClampNeg (.int 0)).set yy.toNatClampNeg (.int 1)).set tt.toNatClampNeg (.int 2))))]) rfl rfl rfl
          refine A209.iload (q := 311) at_309 rfl rfl ?_
          refine A209.icmpNo (q := 314) at_311 (by decide) rfl ?_
          refine A209.iconst (q := 315) (v := 1) at_314 rfl rfl ?_
          refine A209.goto (q := 319) at_315 (by decide) (by decide) ?_
          refine A209.istore (q := 321) (l' := #[.val (.int x0), .val (.int x1), .val (.int x2), .val (.int x3), .val (.int x4), .val (.int tt), .val (.int ((1 : Int32) + m7)), .val (.int ob), .val (.int xx), .val (.int yy), .val (.int 2), .val (.int ww), .val (.ref b131), .val (.int 1), .val (.int 0)]) at_319 rfl rfl ?_
          refine A209.iload (q := 323) at_321 rfl rfl ?_
          exact A209.retN (by simp) at_323 (by decide) (by decide) ⟨rfl, trivial⟩
        · refine A192.icmpYes (q := 281) at_272 (feq hc272_202).2 (by decide) (by decide) ?_
          refine A192.iload (q := 283) at_281 rfl rfl ?_
          refine A192.iconst (q := 284) (v := 2) at_283 rfl rfl ?_
          refine A192.icmpNo (q := 287) at_284 (by decide) rfl ?_
          refine A192.iload (q := 289) at_287 rfl rfl ?_
          refine A192.iload (q := 291) at_289 rfl rfl ?_
          by_cases hc291_210 : ww = yy
          · refine A192.icmpNo (q := 294) at_291 (teq hc291_210).2 rfl ?_
            refine A192.iconst (q := 295) (v := 1) at_294 rfl rfl ?_
            refine A192.istore (q := 297) (l' := #[.val (.int x0), .val (.int x1), .val (.int x2), .val (.int x3), .val (.int x4), .val (.int tt), .val (.int ((1 : Int32) + m7)), .val (.int ob), .val (.int xx), .val (.int yy), .val (.int 2), .val (.int ww), .val (.ref b131), .val (.int 1), .val (.int 1)]) at_295 rfl rfl ?_
            refine A192.iload (q := 299) at_297 rfl rfl ?_
            refine A192.ifNo (q := 302) at_299 (by decide) rfl ?_
            refine A192.aload (q := 304) at_302 rfl rfl rfl ?_
            refine A192.iload (q := 306) at_304 rfl rfl ?_
            have A211 := A192.pick (is := [2, 1, 0]) (os2 := [(b1_82, .inr (.int, [(.int xx), (.int yy), (.int tt), (.int 0), (.int 0), (.int 0), (.int 0), (.int 0)])), (b131, ob0 (.ref b1_82) (.ref b2_82) (.int 3)), (b2_82, .inr (.int, ((([(.int (-1)), (.int (-1)), (.int (-1)), (.int (-1)), (.int (-1)), (.int (-1)), (.int (-1)), (.int (-1))].set xx.toNatClampNeg (.int 0)).set yy.toNatClampNeg (.int 1)).set tt.toNatClampNeg (.int 2))))]) (by decide) rfl
            refine Here.callV (qn := 309) (os1 := [(b1_82, .inr (.int, [(.int xx), (.int yy), (.int tt), (.int 0), (.int 0), (.int 0), (.int 0), (.int 0)]))]) (os2 := [(b131, ob0 (.ref b1_82) (.ref b2_82) (.int 3)), (b2_82, .inr (.int, ((([(.int (-1)), (.int (-1)), (.int (-1)), (.int (-1)), (.int (-1)), (.int (-1)), (.int (-1)), (.int (-1))].set xx.toNatClampNeg (.int 0)).set yy.toNatClampNeg (.int 1)).set tt.toNatClampNeg (.int 2))))]) (rest := []) (W := 0) (argsL := [(.int ww)]) (a := b131) (i := 1) A211 (m_place l Z a0 hw b131 b1_82 b2_82 ww ((3 : Int32)) (((([(.int (-1)), (.int (-1)), (.int (-1)), (.int (-1)), (.int (-1)), (.int (-1)), (.int (-1)), (.int (-1))].set xx.toNatClampNeg (.int 0)).set yy.toNatClampNeg (.int 1)).set tt.toNatClampNeg (.int 2))) ((1 : Int32)) (fww.1) ((own_lk_ne ftt.1 fww.1 hc252_194).trans (own_lk_eq hc291_210 (by (try simp only [List.length_set]); exact own_nat (n := 8) fww.1 fww.2)))) (Or.inr ⟨rfl, rfl⟩) rfl (tw hw 36 rfl) (tw hw 37 rfl) (tw hw 39 rfl) (tw hw 38 rfl) (tw hw 3 rfl) (tw hw 40 rfl) (by decide) at_306 rfl (lenOf pd_5 rfl) rfl (Nat.le_of_eq rfl) (by decide) (by decide) (by decide) (by decide) rfl (fun T212 v213 os214 A215 P216 => ?_)
            obtain ⟨rfl, rfl⟩ := P216
            have A217 := A215.cast (k2 := 3) (n2 := 19) (os2 := [(b1_82, .inr (.int, [(.int xx), (.int yy), (.int tt), (.int 0), (.int 0), (.int 0), (.int 0), (.int 0)])), (b131, ob0 (.ref b1_82) (.ref b2_82) (.int 3)), (b2_82, .inr (.int, ((([(.int (-1)), (.int (-1)), (.int (-1)), (.int (-1)), (.int (-1)), (.int (-1)), (.int (-1)), (.int (-1))].set xx.toNatClampNeg (.int 0)).set yy.toNatClampNeg (.int 1)).set tt.toNatClampNeg (.int 2))))]) rfl rfl rfl
            refine A217.iload (q := 311) at_309 rfl rfl ?_
            refine A217.icmpNo (q := 314) at_311 (by decide) rfl ?_
            refine A217.iconst (q := 315) (v := 1) at_314 rfl rfl ?_
            refine A217.goto (q := 319) at_315 (by decide) (by decide) ?_
            refine A217.istore (q := 321) (l' := #[.val (.int x0), .val (.int x1), .val (.int x2), .val (.int x3), .val (.int x4), .val (.int tt), .val (.int ((1 : Int32) + m7)), .val (.int ob), .val (.int xx), .val (.int yy), .val (.int 2), .val (.int ww), .val (.ref b131), .val (.int 1), .val (.int 1)]) at_319 rfl rfl ?_
            refine A217.iload (q := 323) at_321 rfl rfl ?_
            exact A217.retN (by simp) at_323 (by decide) (by decide) ⟨rfl, trivial⟩
          · refine A192.icmpYes (q := 297) at_291 (feq hc291_210).2 (by decide) (by decide) ?_
            refine A192.iload (q := 299) at_297 rfl rfl ?_
            refine A192.ifNo (q := 302) at_299 (by decide) rfl ?_
            refine A192.aload (q := 304) at_302 rfl rfl rfl ?_
            refine A192.iload (q := 306) at_304 rfl rfl ?_
            have A218 := A192.pick (is := [2, 1, 0]) (os2 := [(b1_82, .inr (.int, [(.int xx), (.int yy), (.int tt), (.int 0), (.int 0), (.int 0), (.int 0), (.int 0)])), (b131, ob0 (.ref b1_82) (.ref b2_82) (.int 3)), (b2_82, .inr (.int, ((([(.int (-1)), (.int (-1)), (.int (-1)), (.int (-1)), (.int (-1)), (.int (-1)), (.int (-1)), (.int (-1))].set xx.toNatClampNeg (.int 0)).set yy.toNatClampNeg (.int 1)).set tt.toNatClampNeg (.int 2))))]) (by decide) rfl
            refine Here.callV (qn := 309) (os1 := [(b1_82, .inr (.int, [(.int xx), (.int yy), (.int tt), (.int 0), (.int 0), (.int 0), (.int 0), (.int 0)]))]) (os2 := [(b131, ob0 (.ref b1_82) (.ref b2_82) (.int 3)), (b2_82, .inr (.int, ((([(.int (-1)), (.int (-1)), (.int (-1)), (.int (-1)), (.int (-1)), (.int (-1)), (.int (-1)), (.int (-1))].set xx.toNatClampNeg (.int 0)).set yy.toNatClampNeg (.int 1)).set tt.toNatClampNeg (.int 2))))]) (rest := []) (W := 0) (argsL := [(.int ww)]) (a := b131) (i := 1) A218 (m_place l Z a0 hw b131 b1_82 b2_82 ww ((3 : Int32)) (((([(.int (-1)), (.int (-1)), (.int (-1)), (.int (-1)), (.int (-1)), (.int (-1)), (.int (-1)), (.int (-1))].set xx.toNatClampNeg (.int 0)).set yy.toNatClampNeg (.int 1)).set tt.toNatClampNeg (.int 2))) ((-1 : Int32)) (fww.1) ((own_lk_ne ftt.1 fww.1 hc252_194).trans ((own_lk_ne gy.1 fww.1 hc291_210).trans ((own_lk_ne gx.1 fww.1 hc272_202).trans (own_base ww fww.1 fww.2))))) (Or.inr ⟨rfl, rfl⟩) rfl (tw hw 36 rfl) (tw hw 37 rfl) (tw hw 39 rfl) (tw hw 38 rfl) (tw hw 3 rfl) (tw hw 40 rfl) (by decide) at_306 rfl (lenOf pd_5 rfl) rfl (Nat.le_of_eq rfl) (by decide) (by decide) (by decide) (by decide) rfl (fun T219 v220 os221 A222 P223 => ?_)
            obtain ⟨rfl, rfl⟩ := P223
            have A224 := A222.cast (k2 := 3) (n2 := 19) (os2 := [(b1_82, .inr (.int, [(.int xx), (.int yy), (.int tt), (.int 0), (.int 0), (.int 0), (.int 0), (.int 0)])), (b131, ob0 (.ref b1_82) (.ref b2_82) (.int 3)), (b2_82, .inr (.int, ((([(.int (-1)), (.int (-1)), (.int (-1)), (.int (-1)), (.int (-1)), (.int (-1)), (.int (-1)), (.int (-1))].set xx.toNatClampNeg (.int 0)).set yy.toNatClampNeg (.int 1)).set tt.toNatClampNeg (.int 2))))]) rfl rfl rfl
            refine A224.iload (q := 311) at_309 rfl rfl ?_
            refine A224.icmpNo (q := 314) at_311 (by decide) rfl ?_
            refine A224.iconst (q := 315) (v := 1) at_314 rfl rfl ?_
            refine A224.goto (q := 319) at_315 (by decide) (by decide) ?_
            refine A224.istore (q := 321) (l' := #[.val (.int x0), .val (.int x1), .val (.int x2), .val (.int x3), .val (.int x4), .val (.int tt), .val (.int ((1 : Int32) + m7)), .val (.int ob), .val (.int xx), .val (.int yy), .val (.int 2), .val (.int ww), .val (.ref b131), .val (.int 1), .val (.int (-1))]) at_319 rfl rfl ?_
            refine A224.iload (q := 323) at_321 rfl rfl ?_
            exact A224.retN (by simp) at_323 (by decide) (by decide) ⟨rfl, trivial⟩
  refine A0.iload (q := 30) at_28 rfl rfl ?_
  refine A0.iload (q := 32) at_30 rfl rfl ?_
  by_cases hc32_225 : ((1 : Int32) + m6) < ((1 : Int32) + m7)
  · refine A0.icmpYes (q := 41) at_32 (tlt hc32_225).1 (by decide) (by decide) ?_
    refine J41 T0 (((1 : Int32) + m6)) A0 ?_
    clear hw J41 A0
    (try simp only [true_and, and_true, false_and, and_false, true_or, or_true, false_or, or_false, not_true_eq_false, not_false_eq_true, Int32.lt_iff_toInt_lt, Int64.lt_iff_toInt_lt, Int32.le_iff_toInt_le, Int64.le_iff_toInt_le, ← Int32.toInt_inj, ← Int64.toInt_inj, Int32.toInt_add, Int32.toInt_sub, Int32.toInt_neg, Int64.toInt_add, Int64.toInt_sub, Int64.toInt_neg, Int64.toInt_mul, Int32.toInt_toInt64, bm32, bm64, l32_m1, l32_0, l32_1, l32_2, l32_3, l32_6, l32_7, l32_2147483647] at ftt fm7 fm6 hc32_225 ⊢) <;> omega
  · refine A0.icmpNo (q := 35) at_32 (flt hc32_225).1 rfl ?_
    refine A0.iload (q := 37) at_35 rfl rfl ?_
    refine A0.iconst (q := 38) (v := 1) at_37 rfl rfl ?_
    refine A0.iadd (q := 39) at_38 rfl ?_
    refine A0.istore (q := 41) (l' := #[.val (.int x0), .val (.int x1), .val (.int x2), .val (.int x3), .val (.int x4), .val (.int tt), .val (.int ((1 : Int32) + m7)), .val (.int (((1 : Int32) + m6) + (1 : Int32))), .unset, .unset, .unset, .unset, .unset, .unset, .unset]) at_39 rfl rfl ?_
    refine J41 T0 ((((1 : Int32) + m6) + (1 : Int32))) A0 ?_
    clear hw J41 A0
    (try simp only [true_and, and_true, false_and, and_false, true_or, or_true, false_or, or_false, not_true_eq_false, not_false_eq_true, Int32.lt_iff_toInt_lt, Int64.lt_iff_toInt_lt, Int32.le_iff_toInt_le, Int64.le_iff_toInt_le, ← Int32.toInt_inj, ← Int64.toInt_inj, Int32.toInt_add, Int32.toInt_sub, Int32.toInt_neg, Int64.toInt_add, Int64.toInt_sub, Int64.toInt_neg, Int64.toInt_mul, Int32.toInt_toInt64, bm32, bm64, l32_m1, l32_0, l32_1, l32_2, l32_3, l32_6, l32_7, l32_2147483647] at ftt fm7 fm6 hc32_225 ⊢) <;> omega
set_option maxRecDepth 65536 in
set_option maxHeartbeats 40000000 in
theorem comes_1 {Post : Tables → Env → Array Value → State → Outcome → State → Prop} (hpost : ∀ tb e args s v u, (limb_1_1.after args s (.returned v) u = true ∧ limb_1_2.after args s (.returned v) u = true ∧ True) → FrameEnd s (.returned v) u (Jvm.fieldLocs frame_1_writes args s ++ Jvm.arrayLocs frame_1_arrays args s ++ Jvm.staticLocs frame_1_statics s) 16 128 → Post tb e args s (.returned v) u) :
    ArmFor flags0 classFile x code maxLocals ret World_1 tables_1 room_1 Calls_1 rest_1 Pre_1 Post := by
  intro l hfl _ _ p e ha hc hk s m args below hf hA hF happ hP
  obtain ⟨hcalls, hrest, hpre⟩ := hP
  obtain ⟨-, -, -, hnamed, -, -, -, hat⟩ := (Spec.applies_iff hf).mp happ
  obtain ⟨hg, hn⟩ := and_e (Cond.before_iff.mp (show (Jvm.Cond.and given_1 narrow_1).before args s = true from hpre))
  obtain ⟨g11, g12⟩ := and_e hg
  obtain ⟨g13, g14⟩ := and_e g12
  obtain ⟨g15, g16⟩ := and_e g14
  obtain ⟨g17, g18⟩ := and_e g16
  obtain ⟨g19, g20⟩ := and_e g18
  obtain ⟨w0, w1, w2, w3, w4, rfl⟩ : ∃ w0 w1 w2 w3 w4 : Value, args = #[w0, w1, w2, w3, w4] := by
    have hs : args.size = 5 := by simpa [Cond.value, given_1] using g11
    obtain ⟨L⟩ := args
    match L, hs with
    | [w0, w1, w2, w3, w4], _ => exact ⟨w0, w1, w2, w3, w4, rfl⟩
  have hw := fun d (hd : d ∈ tables_1) => atoms_spec (ws := Jvm.Cond.code x code maxLocals ret :: tables_1) hat d (List.mem_cons_of_mem _ hd)
  obtain ⟨i0, ei0⟩ := is_v g13
  obtain rfl : w0 = (.int i0) := Option.some.inj ei0
  obtain ⟨i1, ei1⟩ := is_v g15
  obtain rfl : w1 = (.int i1) := Option.some.inj ei1
  obtain ⟨i2, ei2⟩ := is_v g17
  obtain rfl : w2 = (.int i2) := Option.some.inj ei2
  obtain ⟨i3, ei3⟩ := is_v g19
  obtain rfl : w3 = (.int i3) := Option.some.inj ei3
  obtain ⟨i4, ei4⟩ := is_v g20
  obtain rfl : w4 = (.int i4) := Option.some.inj ei4
  obtain ⟨n, o, h1, h2, h3, _, L, rfl, ⟨N, _, _, rfl, _⟩, hq⟩ := m_law l s _ hw i0 i1 i2 i3 i4 tables_1 s.heap ⟨List.nodup_nil, fun _ q => (nomatch q)⟩ p e ha hc hk s m _ below hf ((Spec.applies_iff_loose hf).mp happ).1 ⟨rfl, State.Warmed39.refl s, rfl⟩ trivial
  refine ⟨n, _, h1, h2, h3, hpost _ _ _ _ _ _ ⟨Cond.after_iff.mpr rfl, Cond.after_iff.mpr (eq_i res_at (Term.int_eval (1)) rfl), trivial⟩ ⟨hq.1, hq.2.1, (hq.2.2.sift fun y hy => Or.inr ((N y hy).elim (fun q => absurd q List.not_mem_nil) id)).mono (by decide) (by decide)⟩⟩
theorem main_1_1 : Claimed_1_1 := comes_1 fun _ _ _ _ _ _ h hF => ⟨h.1, hF⟩
theorem main_1_2 : Claimed_1_2 := comes_1 fun _ _ _ _ _ _ h hF => ⟨h.2.1, hF⟩
end Jvm.Pilot.@@N@@
namespace Jvm.Pilot.@@N@@
open Jvm Jvm.ClassFile Sem Op Lib Jvm.Free Jvm.Stand Jvm.Pilot.@@N@@.Jvm.D
/-! MADE BY PROGRAM (witnessworld.py) out of the Statement's table words and the real class files: 10 classes; the members and pool entries that the words name. The judged class is class 1, her method 1. -/
namespace start1
open Jvm.ClassFile
def u (s : String) : CpInfo := .utf8 (stringToUtf16 s)
/-- a pool by its gaps: so many unusable entries, then the entry; so many at the end -/
def gap : Nat → List CpInfo → List CpInfo
  | 0, r => r
  | n + 1, r => .unusable :: gap n r
def poolList (es : List (Nat × CpInfo)) (last : Nat) : List CpInfo := es.foldr (fun e r => gap e.1 (e.2 :: r)) (gap last [])
def pool (es : List (Nat × CpInfo)) (last : Nat) : Array CpInfo := ⟨poolList es last⟩
def fileOf (pool : Array CpInfo) (this : Nat) (attrs : Array Attribute := #[]) (ms : Array MethodInfo := #[]) (fl : Nat := 33) (sup : Nat := 0) (ifs : Array Nat := #[]) (fds : Array FieldInfo := #[]) : ClassFile where
  minorVersion := 0
  majorVersion := 65
  constantPool := pool
  accessFlags := fl
  thisClass := this
  superClass := sup
  interfaces := ifs
  fields := fds
  methods := ms
  attributes := attrs
def plain (name : String) (sup : Option ClassId) : Class where
  name := name
  kind := .ordinary
  loader := none
  accessFlags := 33
  super := sup
  interfaces := #[]
  cf := none
  fields := #[]
  methods := #[]
  instanceTypes := #[]
  staticTypes := #[]
  resolved := #[]
  callSites := []
  init := .initialized
  statics := none
  mirror := none

def pool0 : Array CpInfo := pool [(5, u "<init>"), (0, u "()V"), (1, .class_ 10), (1, u "java/lang/Object")] 113

def k0c0 : Code := { maxStack := 0, maxLocals := 1, code := object_method_1_code, exceptionTable := #[], attributes := #[] }
def k0m0 : Method := { name := "<init>", desc := "()V", sig := { parameters := [], returnType := none }, accessFlags := 1, code := some k0c0 }
/-- java/lang/Object -/
def k0 : Class := { plain "java/lang/Object" none with
  accessFlags := 33
  interfaces := #[]
  cf := some (fileOf pool0 8 #[] #[{ accessFlags := 1, nameIndex := 5, descriptorIndex := 6, attributes := #[] }] 33 0 #[] #[])
  fields := #[]
  methods := #[k0m0]
  instanceTypes := #[]
  staticTypes := #[]
  resolved := Array.replicate 124 none
  statics := none }

def pool1 : Array CpInfo := pool [(2, .class_ 4), (1, u "java/lang/Object"), (0, u "<init>"), (0, u "()V"), (0, .integer 2147483647), (0, .class_ 9), (0, u "com/example/heirring/heirring/IndexedIntSet"), (0, .methodref 8 11), (0, .nameAndType 5 12), (0, u "(I)V"), (0, .methodref 8 14), (0, .nameAndType 15 12), (0, u "add"), (0, .methodref 8 17), (0, .nameAndType 18 19), (0, u "size"), (0, u "()I"), (0, .methodref 8 21), (0, .nameAndType 22 23), (0, u "get"), (0, u "(I)I"), (0, .methodref 8 25), (0, .nameAndType 26 23), (0, u "place"), (0, .class_ 28), (0, u "com/example/heirring/heirring/IndexedIntSetAddPinLaw"), (2, u "law"), (0, u "(IIIII)Z")] 3

def k1m0 : Method := { name := "<init>", desc := "()V", sig := { parameters := [], returnType := none }, accessFlags := 2, code := none }
def k1c1 : Code := { maxStack := 3, maxLocals := 15, code := code, exceptionTable := #[], attributes := #[] }
def k1m1 : Method := { name := "law", desc := "(IIIII)Z", sig := { parameters := [.int, .int, .int, .int, .int], returnType := some .boolean }, accessFlags := 9, code := some k1c1 }
/-- com/example/heirring/heirring/IndexedIntSetAddPinLaw -/
def k1 : Class := { plain "com/example/heirring/heirring/IndexedIntSetAddPinLaw" (some 0) with
  accessFlags := 49
  interfaces := #[]
  cf := some (fileOf pool1 27 #[] #[{ accessFlags := 2, nameIndex := 5, descriptorIndex := 6, attributes := #[] }, { accessFlags := 9, nameIndex := 31, descriptorIndex := 32, attributes := #[] }] 49 2 #[] #[])
  fields := #[]
  methods := #[k1m0, k1m1]
  instanceTypes := #[]
  staticTypes := #[]
  resolved := Array.replicate 36 none
  statics := none }

def pool2 : Array CpInfo := pool [(1, .methodref 2 3), (0, .class_ 4), (0, .nameAndType 5 6), (0, u "java/lang/Object"), (0, u "<init>"), (0, u "()V"), (0, .fieldref 8 9), (0, .class_ 10), (0, .nameAndType 11 12), (0, u "com/example/heirring/heirring/IndexedIntSet"), (0, u "members"), (0, u "[I"), (0, .fieldref 8 14), (0, .nameAndType 15 12), (0, u "places"), (0, .methodref 17 18), (0, .class_ 19), (0, .nameAndType 20 21), (0, u "java/util/Arrays"), (0, u "fill"), (0, u "([II)V"), (2, u "(I)V"), (2, u "add"), (0, .fieldref 8 29), (0, .nameAndType 30 31), (0, u "size"), (0, u "I"), (26, u "()I"), (2, u "get"), (0, u "(I)I"), (0, u "place")] 3

def k2c0 : Code := { maxStack := 2, maxLocals := 2, code := prog_33_method_1_code, exceptionTable := #[], attributes := #[] }
def k2m0 : Method := { name := "<init>", desc := "(I)V", sig := { parameters := [.int], returnType := none }, accessFlags := 0, code := some k2c0 }
def k2c1 : Code := { maxStack := 1, maxLocals := 1, code := prog_33_method_5_code, exceptionTable := #[], attributes := #[] }
def k2m1 : Method := { name := "size", desc := "()I", sig := { parameters := [], returnType := some .int }, accessFlags := 0, code := some k2c1 }
def k2c2 : Code := { maxStack := 2, maxLocals := 2, code := prog_33_method_7_code, exceptionTable := #[], attributes := #[] }
def k2m2 : Method := { name := "get", desc := "(I)I", sig := { parameters := [.int], returnType := some .int }, accessFlags := 0, code := some k2c2 }
def k2c3 : Code := { maxStack := 2, maxLocals := 2, code := prog_33_method_8_code, exceptionTable := #[], attributes := #[] }
def k2m3 : Method := { name := "place", desc := "(I)I", sig := { parameters := [.int], returnType := some .int }, accessFlags := 0, code := some k2c3 }
def k2c4 : Code := { maxStack := 3, maxLocals := 2, code := prog_33_method_9_code, exceptionTable := #[], attributes := #[] }
def k2m4 : Method := { name := "add", desc := "(I)V", sig := { parameters := [.int], returnType := none }, accessFlags := 0, code := some k2c4 }
/-- com/example/heirring/heirring/IndexedIntSet -/
def k2 : Class := { plain "com/example/heirring/heirring/IndexedIntSet" (some 0) with
  accessFlags := 48
  interfaces := #[]
  cf := some (fileOf pool2 8 #[] #[{ accessFlags := 0, nameIndex := 5, descriptorIndex := 24, attributes := #[] }, { accessFlags := 0, nameIndex := 30, descriptorIndex := 58, attributes := #[] }, { accessFlags := 0, nameIndex := 61, descriptorIndex := 62, attributes := #[] }, { accessFlags := 0, nameIndex := 63, descriptorIndex := 62, attributes := #[] }, { accessFlags := 0, nameIndex := 27, descriptorIndex := 24, attributes := #[] }] 48 2 #[] #[{ accessFlags := 18, nameIndex := 11, descriptorIndex := 12, attributes := #[] }, { accessFlags := 18, nameIndex := 15, descriptorIndex := 12, attributes := #[] }, { accessFlags := 2, nameIndex := 30, descriptorIndex := 31, attributes := #[] }])
  fields := #[{ name := "members", type := (.array .int), accessFlags := 18, slot := 0, constantValue := 0 }, { name := "places", type := (.array .int), accessFlags := 18, slot := 1, constantValue := 0 }, { name := "size", type := .int, accessFlags := 2, slot := 2, constantValue := 0 }]
  methods := #[k2m0, k2m1, k2m2, k2m3, k2m4]
  instanceTypes := #[(.array .int), (.array .int), .int]
  staticTypes := #[]
  resolved := Array.replicate 67 none
  statics := none }

def pool3 : Array CpInfo := pool [(2, .class_ 4), (1, u "java/lang/Object"), (0, u "<init>"), (0, u "()V"), (7, .class_ 16), (1, u "java/util/Arrays"), (57, .class_ 76), (1, u "java/util/Arrays$NaturalOrder"), (36, .class_ 115), (1, u "java/util/Arrays$LegacyMergeSort"), (1, u "Z"), (257, .class_ 376), (0, u "java/util/Arrays$ArrayList"), (68, u "$assertionsDisabled"), (269, u "MIN_ARRAY_SORT_GRAN"), (0, u "I"), (2, u "INSERTIONSORT_THRESHOLD"), (120, u "fill"), (4, u "([II)V"), (129, .class_ 976), (0, u "java/util/Arrays$ArrayItr")] 52

def k3m0 : Method := { name := "<init>", desc := "()V", sig := { parameters := [], returnType := none }, accessFlags := 2, code := none }
def k3c1 : Code := { maxStack := 3, maxLocals := 4, code := jdk_65_method_103_code, exceptionTable := #[], attributes := #[] }
def k3m1 : Method := { name := "fill", desc := "([II)V", sig := { parameters := [(.array .int), .int], returnType := none }, accessFlags := 9, code := some k3c1 }
/-- java/util/Arrays -/
def k3 : Class := { plain "java/util/Arrays" (some 0) with
  accessFlags := 49
  interfaces := #[]
  cf := some (fileOf pool3 14 #[.nestMembers #[975, 375, 113, 74]] #[{ accessFlags := 2, nameIndex := 5, descriptorIndex := 6, attributes := #[] }, { accessFlags := 9, nameIndex := 840, descriptorIndex := 845, attributes := #[] }] 49 2 #[] #[{ accessFlags := 26, nameIndex := 715, descriptorIndex := 716, attributes := #[] }, { accessFlags := 26, nameIndex := 719, descriptorIndex := 716, attributes := #[] }, { accessFlags := 4120, nameIndex := 445, descriptorIndex := 117, attributes := #[] }])
  fields := #[{ name := "MIN_ARRAY_SORT_GRAN", type := .int, accessFlags := 26, slot := 0, constantValue := 0 }, { name := "INSERTIONSORT_THRESHOLD", type := .int, accessFlags := 26, slot := 1, constantValue := 0 }, { name := "$assertionsDisabled", type := .boolean, accessFlags := 4120, slot := 2, constantValue := 0 }]
  methods := #[k3m0, k3m1]
  instanceTypes := #[]
  staticTypes := #[.int, .int, .boolean]
  resolved := Array.replicate 1029 none
  statics := none }

def pool4 : Array CpInfo := pool [(1, u "java/lang/Cloneable"), (0, .class_ 1), (0, u "java/lang/Object"), (0, .class_ 3)] 3

/-- java/lang/Cloneable -/
def k4 : Class := { plain "java/lang/Cloneable" (some 0) with
  accessFlags := 1537
  interfaces := #[]
  cf := some (fileOf pool4 2 #[] #[] 1537 4 #[] #[])
  fields := #[]
  methods := #[]
  instanceTypes := #[]
  staticTypes := #[]
  resolved := Array.replicate 8 none
  statics := none }

def pool5 : Array CpInfo := pool [(1, u "java/io/Serializable"), (0, .class_ 1), (0, u "java/lang/Object"), (0, .class_ 3)] 3

/-- java/io/Serializable -/
def k5 : Class := { plain "java/io/Serializable" (some 0) with
  accessFlags := 1537
  interfaces := #[]
  cf := some (fileOf pool5 2 #[] #[] 1537 4 #[] #[])
  fields := #[]
  methods := #[]
  instanceTypes := #[]
  staticTypes := #[]
  resolved := Array.replicate 8 none
  statics := none }

/-- the primitive byte -/
def k6 : Class := { plain "byte" none with kind := .primitive 'B', accessFlags := 0x411 }
/-- [B -/
def k7 : Class := { plain "[B" (some 0) with kind := .array 6 .byte, interfaces := #[4, 5], accessFlags := 1041 }

/-- the primitive int -/
def k8 : Class := { plain "int" none with kind := .primitive 'I', accessFlags := 0x411 }
/-- [I -/
def k9 : Class := { plain "[I" (some 0) with kind := .array 8 .int, interfaces := #[4, 5], accessFlags := 1041 }

def heap : Heap := #[]
def classes : Array Class := #[k0, k1, k2, k3, k4, k5, k6, k7, k8, k9]
def interned : List (Array UInt16 × Addr) := []
def slotsUsed : Nat := 0
def theMethod : MethodId := ⟨1, 1⟩
def args0 : Array Value := #[.int 3, .int 9, .int 5, .int 0, .int 2]
def aboutOver (below : List Frame) : State where
  vm := { classes := classes, interned := interned.toArray }
  heap := heap
  slotsUsed := slotsUsed
  threads := #[{ frames := .invoking theMethod args0 :: below }]
def below0 : List Frame := [.native { method := ⟨0, 0⟩, args := #[] }]
def about1 : State := aboutOver below0
def p0 : Program := .bare "" "" ""
def e0 : Env := launch0.env 0 0 0
theorem w_frames : about1.frames = Frame.invoking theMethod args0 :: below0 := rfl
set_option maxRecDepth 65536 in
theorem w_args : argsFit about1.vm theMethod args0 = true := by decide +kernel
set_option maxRecDepth 65536 in
theorem w_heap : heapFits about1 = true := by decide +kernel
set_option maxRecDepth 65536 in
theorem w_runnable : about1.curStatus? = some .runnable := by decide +kernel
set_option maxRecDepth 65536 in
theorem w_alone : about1.alone = true := by decide +kernel
set_option maxRecDepth 65536 in
theorem w_named : about1.methodNamed? x = some theMethod := by decide +kernel
set_option maxRecDepth 65536 in
theorem w_hears : about1.hears theMethod below0 = true := by decide +kernel
set_option maxRecDepth 65536 in
theorem w_ripe : about1.ripe theMethod args0 below0 = true := by decide +kernel
theorem w_running : about1.status = .running := rfl
set_option maxRecDepth 65536 in
theorem w_room : about1.hasRoom e0.platform room_1 = true :=
  launch0.hasRoom_least _ room_1 (by decide +kernel) (by decide +kernel) (by decide +kernel) (by decide +kernel) (by decide +kernel) (by decide +kernel)
theorem allAtoms_all (ts : List Jvm.Cond) (a : Array Jvm.Value) (st : Jvm.State) : (allAtoms ts).before a st = ts.all (fun c => c.before a st) := by
  induction ts with
  | nil => rfl
  | cons c t ih =>
    show (Jvm.Cond.and c (allAtoms t)).before a st = _
    rw [Jvm.Cond.before_and, ih, List.all_cons]
def words1 : List Jvm.Cond := Jvm.Cond.code x code maxLocals ret :: tables_1
/-- a 'code' word, met by the world's own term for the bytes: nothing is compared byte by byte -/
theorem code_word {y : MethodName} {bytes : ByteArray} {mx : Nat} {rt : Option FieldType} {a : Array Value} {s : State} {m : MethodId} {meth : Method} {c : Code} (h1 : s.methodNamed? y = some m) (h2 : s.vm.method? m = some meth) (h3 : meth.code = some c) (h4 : c.code = bytes)
    (h5 : (c.maxLocals == mx && c.exceptionTable.isEmpty && decide (c.maxStack ≤ mostOperands) && decide (meth.sig.returnType = rt) && !meth.locks && decide (parseMethodDescriptor y.desc = some meth.sig)) = true) : (Jvm.Cond.code y bytes mx rt).before a s = true := by
  simp only [Bool.and_eq_true, beq_iff_eq, Bool.not_eq_true', decide_eq_true_eq] at h5
  obtain ⟨⟨⟨⟨⟨g1, g2⟩, g3⟩, g4⟩, g5⟩, g6⟩ := h5
  simp [Cond.before, Cond.holds, Cond.value, h1, h2, h3, h4, g1, g2, g3, g4, g5, g6]
def isCode : Jvm.Cond → Bool
  | .code _ _ _ _ => true
  | _ => false
theorem all_split {L : List Jvm.Cond} {P : Jvm.Cond → Bool} (h1 : L.all (fun c => isCode c || P c) = true) (h2 : ∀ c ∈ L.filter isCode, P c = true) : L.all P = true := by
  refine List.all_eq_true.mpr fun c hc => ?_
  have h := List.all_eq_true.mp h1 c hc
  rcases Bool.eq_false_or_eq_true (isCode c) with hi | hi
  · exact h2 c (List.mem_filter.mpr ⟨hc, hi⟩)
  · simpa [hi] using h
set_option maxRecDepth 65536 in
theorem w_c0 : (Jvm.Cond.code x code maxLocals ret).before args0 about1 = true := code_word (m := ⟨1, 1⟩) (meth := k1m1) (c := k1c1) (by decide +kernel) rfl rfl rfl (by decide +kernel)
set_option maxRecDepth 65536 in
theorem w_c1 : (Jvm.Cond.code ({ cls := "com/example/heirring/heirring/IndexedIntSet", name := "<init>", desc := "(I)V" } : Jvm.MethodName) prog_33_method_1_code (2 : Nat) (Option.none : Option Jvm.ClassFile.FieldType)).before args0 about1 = true := code_word (m := ⟨2, 0⟩) (meth := k2m0) (c := k2c0) (by decide +kernel) rfl rfl rfl (by decide +kernel)
set_option maxRecDepth 65536 in
theorem w_c2 : (Jvm.Cond.code ({ cls := "java/lang/Object", name := "<init>", desc := "()V" } : Jvm.MethodName) object_method_1_code (1 : Nat) (Option.none : Option Jvm.ClassFile.FieldType)).before args0 about1 = true := code_word (m := ⟨0, 0⟩) (meth := k0m0) (c := k0c0) (by decide +kernel) rfl rfl rfl (by decide +kernel)
set_option maxRecDepth 65536 in
theorem w_c3 : (Jvm.Cond.code ({ cls := "java/util/Arrays", name := "fill", desc := "([II)V" } : Jvm.MethodName) jdk_65_method_103_code (4 : Nat) (Option.none : Option Jvm.ClassFile.FieldType)).before args0 about1 = true := code_word (m := ⟨3, 1⟩) (meth := k3m1) (c := k3c1) (by decide +kernel) rfl rfl rfl (by decide +kernel)
set_option maxRecDepth 65536 in
theorem w_c4 : (Jvm.Cond.code ({ cls := "com/example/heirring/heirring/IndexedIntSet", name := "add", desc := "(I)V" } : Jvm.MethodName) prog_33_method_9_code (2 : Nat) (Option.none : Option Jvm.ClassFile.FieldType)).before args0 about1 = true := code_word (m := ⟨2, 4⟩) (meth := k2m4) (c := k2c4) (by decide +kernel) rfl rfl rfl (by decide +kernel)
set_option maxRecDepth 65536 in
theorem w_c5 : (Jvm.Cond.code ({ cls := "com/example/heirring/heirring/IndexedIntSet", name := "size", desc := "()I" } : Jvm.MethodName) prog_33_method_5_code (1 : Nat) (Option.some Jvm.ClassFile.FieldType.int)).before args0 about1 = true := code_word (m := ⟨2, 1⟩) (meth := k2m1) (c := k2c1) (by decide +kernel) rfl rfl rfl (by decide +kernel)
set_option maxRecDepth 65536 in
theorem w_c6 : (Jvm.Cond.code ({ cls := "com/example/heirring/heirring/IndexedIntSet", name := "get", desc := "(I)I" } : Jvm.MethodName) prog_33_method_7_code (2 : Nat) (Option.some Jvm.ClassFile.FieldType.int)).before args0 about1 = true := code_word (m := ⟨2, 2⟩) (meth := k2m2) (c := k2c2) (by decide +kernel) rfl rfl rfl (by decide +kernel)
set_option maxRecDepth 65536 in
theorem w_c7 : (Jvm.Cond.code ({ cls := "com/example/heirring/heirring/IndexedIntSet", name := "place", desc := "(I)I" } : Jvm.MethodName) prog_33_method_8_code (2 : Nat) (Option.some Jvm.ClassFile.FieldType.int)).before args0 about1 = true := code_word (m := ⟨2, 3⟩) (meth := k2m3) (c := k2c3) (by decide +kernel) rfl rfl rfl (by decide +kernel)
def codes1 : List Jvm.Cond := [Jvm.Cond.code x code maxLocals ret, Jvm.Cond.code ({ cls := "com/example/heirring/heirring/IndexedIntSet", name := "<init>", desc := "(I)V" } : Jvm.MethodName) prog_33_method_1_code (2 : Nat) (Option.none : Option Jvm.ClassFile.FieldType), Jvm.Cond.code ({ cls := "java/lang/Object", name := "<init>", desc := "()V" } : Jvm.MethodName) object_method_1_code (1 : Nat) (Option.none : Option Jvm.ClassFile.FieldType), Jvm.Cond.code ({ cls := "java/util/Arrays", name := "fill", desc := "([II)V" } : Jvm.MethodName) jdk_65_method_103_code (4 : Nat) (Option.none : Option Jvm.ClassFile.FieldType), Jvm.Cond.code ({ cls := "com/example/heirring/heirring/IndexedIntSet", name := "add", desc := "(I)V" } : Jvm.MethodName) prog_33_method_9_code (2 : Nat) (Option.none : Option Jvm.ClassFile.FieldType), Jvm.Cond.code ({ cls := "com/example/heirring/heirring/IndexedIntSet", name := "size", desc := "()I" } : Jvm.MethodName) prog_33_method_5_code (1 : Nat) (Option.some Jvm.ClassFile.FieldType.int), Jvm.Cond.code ({ cls := "com/example/heirring/heirring/IndexedIntSet", name := "get", desc := "(I)I" } : Jvm.MethodName) prog_33_method_7_code (2 : Nat) (Option.some Jvm.ClassFile.FieldType.int), Jvm.Cond.code ({ cls := "com/example/heirring/heirring/IndexedIntSet", name := "place", desc := "(I)I" } : Jvm.MethodName) prog_33_method_8_code (2 : Nat) (Option.some Jvm.ClassFile.FieldType.int)]
set_option maxRecDepth 65536 in
theorem codes_eq : words1.filter isCode = codes1 := rfl
theorem w_codes : ∀ c ∈ words1.filter isCode, c.before args0 about1 = true := by
  rw [codes_eq]
  intro c hc
  simp only [codes1, List.mem_cons, List.not_mem_nil, or_false] at hc
  rcases hc with rfl | rfl | rfl | rfl | rfl | rfl | rfl | rfl
  · exact w_c0
  · exact w_c1
  · exact w_c2
  · exact w_c3
  · exact w_c4
  · exact w_c5
  · exact w_c6
  · exact w_c7
set_option maxRecDepth 65536 in
theorem w_t1 : (words1.take 24).all (fun c => isCode c || c.before args0 about1) = true := by decide +kernel
set_option maxRecDepth 65536 in
theorem w_t2 : (words1.drop 24).all (fun c => isCode c || c.before args0 about1) = true := by decide +kernel
theorem w_tables : (allAtoms (Jvm.Cond.code x code maxLocals ret :: tables_1)).before args0 about1 = true := by
  rw [allAtoms_all]
  show words1.all (fun c => c.before args0 about1) = true
  refine all_split ?_ w_codes
  rw [← List.take_append_drop 24 words1, List.all_append, w_t1, w_t2]
  rfl
set_option maxRecDepth 65536 in
theorem w_case : (Jvm.Cond.and given_1 narrow_1).before args0 about1 = true := by decide +kernel
theorem w_applies : (headSpec (Jvm.Cond.code x code maxLocals ret :: tables_1) room_1).applies x e0.platform about1 = true :=
  (Spec.applies_iff w_frames).mpr ⟨w_running, w_runnable, w_alone, w_named, w_hears, w_ripe, w_room, w_tables⟩
theorem atStart : AtStart classFile x code maxLocals ret World_1 tables_1 room_1 Calls_1 rest_1 Pre_1 launch0 p0 e0 about1 theMethod args0 below0 :=
  ⟨lists_1, trivial, launch0.admits_env _ _ _, launch0.least_env, fairChoices_fair.cas, fairChoices_fair.clock, w_frames, w_args, w_heap, w_applies, trivial, trivial, w_case⟩
end start1
theorem witness_1 : WitnessClaimed_1 := ⟨start1.p0, start1.e0, start1.about1, start1.theMethod, start1.args0, start1.below0, start1.atStart⟩
end Jvm.Pilot.@@N@@
