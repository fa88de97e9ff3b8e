import JvmDerived
import JvmDerived.Pilot.@@N@@Statement
import JvmDerived.Pilot.@@N@@Code
set_option linter.unusedVariables false
set_option linter.unusedSimpArgs false
namespace Jvm.Own
open Jvm Jvm.ClassFile Sem Op Lib Jvm.Free Jvm.Stand Jvm.LawKit Jvm.RoadKit
/-! ## A heap told by a list: each new object or array by its address and what its cell is -/
abbrev Des : Type := State → Cell → Prop
abbrev RL : Type := List (Addr × Des)
/-- an object of class C, its fields (name, descriptor, value), all declared in C -/
def Obj (C : String) (fs : List (String × String × Value)) : Des := fun Z c =>
  Exa Z (#[c] : Heap) 0 C ∧ (∀ (j : Nat) (x : String × String × Value), fs[j]? = some x → Fld Z (#[c] : Heap) 0 C x.1 x.2.1 x.2.2) ∧
  ∀ (i j : Nat) (x y : String × String × Value), i ≠ j → fs[i]? = some x → fs[j]? = some y → Jvm.RoadKit.slotOf Z C x.1 x.2.1 ≠ Jvm.RoadKit.slotOf Z C y.1 y.2.1
/-- an array of ty, all its values -/
def Ar (ty : FieldType) (vs : List Value) : Des := fun Z c => Z.isArrayOf c ty ∧ c.vm ≠ .unknown ∧ c.slots.toList = vs ∧ (∀ v ∈ vs, fits ty v = true) ∧ Exa Z (#[c] : Heap) 0 ("[" ++ ty.toString)
/-- every one of L lies in h, at or behind n0, no two at one place -/
def Rep (Z : State) (n0 : Nat) (h : Heap) (L : RL) : Prop := n0 ≤ h.size ∧ (L.map (·.1)).Nodup ∧ ∀ x ∈ L, n0 ≤ x.1 ∧ ∃ c : Cell, h[x.1]? = some c ∧ x.2 Z c
section Facts
variable {Z : State} {n0 : Nat} {h h' : Heap} {L : RL} {a : Addr} {c : Cell} {C n d : String} {v w : Value} {i j : Nat} {fs : List (String × String × Value)} {P P' : Des} {ty : FieldType} {vs : List Value}
theorem one_eq {c c' : Cell} (q : (#[c] : Heap)[0]? = some c') : c' = c := by simpa using q.symm
theorem fld_of (hc : h[a]? = some c) (F : Fld Z (#[c] : Heap) 0 C n d v) : Fld Z h a C n d v := by
  obtain ⟨cell, cf, k, i, f, h1, r⟩ := F
  cases one_eq h1
  exact ⟨_, cf, k, i, f, hc, r⟩
theorem fld_to (hc : h[a]? = some c) (F : Fld Z h a C n d v) : Fld Z (#[c] : Heap) 0 C n d v := by
  obtain ⟨cell, cf, k, i, f, h1, r⟩ := F
  cases hc.symm.trans h1
  exact ⟨_, cf, k, i, f, rfl, r⟩
theorem exa_of (hc : h[a]? = some c) (F : Exa Z (#[c] : Heap) 0 C) : Exa Z h a C := by
  obtain ⟨cell, k, h1, r⟩ := F
  cases one_eq h1
  exact ⟨_, k, hc, r⟩
theorem exa_to (hc : h[a]? = some c) (F : Exa Z h a C) : Exa Z (#[c] : Heap) 0 C := by
  obtain ⟨cell, k, h1, r⟩ := F
  cases hc.symm.trans h1
  exact ⟨_, k, rfl, r⟩
theorem Rep.nil (h : Heap) : Rep Z h.size h [] := ⟨Nat.le_refl _, List.nodup_nil, fun _ q => nomatch q⟩
theorem Rep.at (R : Rep Z n0 h L) (hi : L[i]? = some (a, P)) : n0 ≤ a ∧ ∃ c : Cell, h[a]? = some c ∧ P Z c := R.2.2 _ (List.mem_of_getElem? hi)
theorem Rep.ge (R : Rep Z n0 h L) (hi : L[i]? = some (a, P)) : n0 ≤ a := (R.at hi).1
theorem Rep.fld (R : Rep Z n0 h L) (hi : L[i]? = some (a, Obj C fs)) (hj : fs[j]? = some (n, d, v)) : Fld Z h a C n d v := by
  obtain ⟨-, c, hc, -, F, -⟩ := R.at hi
  exact fld_of hc (F j _ hj)
theorem Rep.exa (R : Rep Z n0 h L) (hi : L[i]? = some (a, Obj C fs)) : Exa Z h a C := by
  obtain ⟨-, c, hc, E, -⟩ := R.at hi
  exact exa_of hc E
theorem Rep.arr (R : Rep Z n0 h L) (hi : L[i]? = some (a, Ar ty vs)) : ∃ cl : Cell, Arr Z h a cl ty ∧ cl.slots.toList = vs := by
  obtain ⟨-, c, hc, A, B, V, -⟩ := R.at hi
  exact ⟨c, ⟨hc, A, B⟩, V⟩
theorem Rep.arr' (R : Rep Z n0 h L) (hi : L[i]? = some (a, Ar ty vs)) : ∃ cl : Cell, Arr Z h a cl ty ∧ cl.slots.toList = vs ∧ (∀ v ∈ vs, fits ty v = true) ∧ Exa Z h a ("[" ++ ty.toString) := by
  obtain ⟨-, c, hc, A, B, V, F, E⟩ := R.at hi
  exact ⟨c, ⟨hc, A, B⟩, V, F, exa_of hc E⟩
theorem wr_one {sl : Nat} (hc : h[a]? = some c) (W : Wr h h' a sl v) : Wr (#[c] : Heap) (#[c.setSlot sl v] : Heap) 0 sl v := by
  obtain ⟨cell, h1, h2, h3, -⟩ := W
  cases hc.symm.trans h1
  exact ⟨_, rfl, h2, h3, rfl⟩
theorem Rep.upd {sl : Nat} (R : Rep Z n0 h L) (hi : L[i]? = some (a, P)) (W : Wr h h' a sl v) (hP : ∀ c : Cell, h[a]? = some c → P Z c → P' Z (c.setSlot sl v)) : Rep Z n0 h' (L.set i (a, P')) := by
  have em : (L.set i (a, P')).map (·.1) = L.map (·.1) := by
    rw [List.map_set]
    apply List.ext_getElem?
    intro k
    rw [List.getElem?_set]
    split
    · rename_i e; subst e
      split
      · simp [hi]
      · rename_i e; simp only [List.length_map] at e; simp [List.getElem?_eq_none (Nat.le_of_not_lt e)]
    · rfl
  have il : i < L.length := (List.getElem?_eq_some_iff.mp hi).1
  refine ⟨by rw [W.size]; exact R.1, by rw [em]; exact R.2.1, fun x hx => ?_⟩
  obtain ⟨k, hk⟩ := List.mem_iff_getElem?.mp hx
  rw [List.getElem?_set] at hk
  split at hk
  · rename_i e; subst e
    cases hk
    obtain ⟨g, c, hc, p⟩ := R.at hi
    obtain ⟨c', e1, -, -, -, -, -, e7⟩ := wr_at W hc
    exact ⟨g, c', e1, by rw [(e7 rfl).1]; exact hP c hc p⟩
  · rename_i e
    obtain ⟨g, c, hc, p⟩ := R.2.2 x (List.mem_of_getElem? hk)
    have ne : x.1 ≠ a := fun q => by
      refine e ((List.getElem?_inj (l := L.map (·.1)) (by simpa using il) R.2.1).mp ?_)
      simp [hi, hk, q]
    obtain ⟨c', e1, -, -, -, e5, -⟩ := wr_at W hc
    exact ⟨g, c', e1, by rw [e5 ne]; exact p⟩
theorem Rep.put (R : Rep Z n0 h L) (hi : L[i]? = some (a, Obj C fs)) (hj : fs[j]? = some (n, d, w)) (W : Wr h h' a (Jvm.RoadKit.slotOf Z C n d) v) : Rep Z n0 h' (L.set i (a, Obj C (fs.set j (n, d, v)))) := by
  refine R.upd hi W fun c hc ⟨E, F, S⟩ => ?_
  have W1 := wr_one hc W
  have jl : j < fs.length := (List.getElem?_eq_some_iff.mp hj).1
  have key : ∀ (k : Nat) (x : String × String × Value), (fs.set j (n, d, v))[k]? = some x → ∃ y, fs[k]? = some y ∧ y.1 = x.1 ∧ y.2.1 = x.2.1 ∧ (k ≠ j → y = x) ∧ (k = j → x = (n, d, v)) := by
    intro k x hk
    rw [List.getElem?_set] at hk
    split at hk
    · rename_i e; subst e
      have hx := (Option.some.inj hk).symm
      exact ⟨(n, d, w), hj, by rw [hx], by rw [hx], fun q => absurd rfl q, fun _ => hx⟩
    · rename_i e
      exact ⟨x, hk, rfl, rfl, fun _ => rfl, fun q => absurd q.symm e⟩
  refine ⟨E.wr W1, fun k x hk => ?_, fun k k' x y ne hk hk' => ?_⟩
  · obtain ⟨y, y1, y2, y3, y4, y5⟩ := key k x hk
    by_cases e : k = j
    · subst e
      have hx := y5 rfl
      rw [hx]
      exact (F _ _ hj).same W1
    · have hx := y4 e
      subst hx
      have s : Jvm.RoadKit.slotOf Z C y.1 y.2.1 ≠ Jvm.RoadKit.slotOf Z C n d := S k j y (n, d, w) e y1 hj
      exact Fld.other W1 (F k y y1) (Or.inr s)
  · have kx := key k x hk
    have ky := key k' y hk'
    obtain ⟨x', x1, x2, x3, _⟩ := kx
    obtain ⟨y', y1, y2, y3, _⟩ := ky
    have := S k k' x' y' ne x1 y1
    rw [x2, x3, y2, y3] at this
    exact this
theorem Rep.sto {k : Nat} (R : Rep Z n0 h L) (hi : L[i]? = some (a, Ar ty vs)) (W : Wr h h' a k v) (hf : fits ty v = true) : Rep Z n0 h' (L.set i (a, Ar ty (vs.set k v))) := by
  refine R.upd hi W fun c hc ⟨A, B, V, F, E⟩ => ⟨A, B, ?_, fun x hx => ?_, E.wr (wr_one hc W)⟩
  · show (c.slots.setIfInBounds k v).toList = _
    rw [Array.toList_setIfInBounds, V]
  · rcases List.mem_or_eq_of_mem_set hx with q | q
    · exact F x q
    · rw [q]; exact hf
theorem Rep.add (R : Rep Z n0 h L) (E : Ext h h') (g : a = h.size) (hc : h'[a]? = some c) (p : P Z c) : Rep Z n0 h' ((a, P) :: L) := by
  refine ⟨Nat.le_trans R.1 E.1, ?_, fun x hx => ?_⟩
  · rw [List.map_cons, List.nodup_cons]
    refine ⟨fun q => ?_, R.2.1⟩
    obtain ⟨x, hx, e⟩ := List.mem_map.mp q
    obtain ⟨-, c, hc, -⟩ := R.2.2 x hx
    have := (Array.getElem?_eq_some_iff.mp hc).1
    exact absurd (e.trans g) (Nat.ne_of_lt this)
  · rcases List.mem_cons.mp hx with rfl | hx
    · exact ⟨g ▸ R.1, c, hc, p⟩
    · obtain ⟨q, c, hc, p⟩ := R.2.2 x hx
      exact ⟨q, c, E.2 _ _ hc, p⟩
theorem Rep.ext (R : Rep Z n0 h L) (E : Ext h h') : Rep Z n0 h' L := ⟨Nat.le_trans R.1 E.1, R.2.1, fun x hx => by
  obtain ⟨q, c, hc, p⟩ := R.2.2 x hx
  exact ⟨q, c, E.2 _ _ hc, p⟩⟩
theorem perm_front {α : Type} : ∀ (L : List α) (i : Nat) (x : α), L[i]? = some x → (x :: L.eraseIdx i).Perm L
  | [], _, _, q => nomatch q
  | y :: t, 0, x, q => by cases q; exact List.Perm.refl _
  | y :: t, i + 1, x, q => by
    have ih := perm_front t i x (by simpa using q)
    exact (List.Perm.swap y x (t.eraseIdx i)).trans (ih.cons y)
theorem Rep.front {x : Addr × Des} {L' : RL} (R : Rep Z n0 h L) (i : Nat) (hi : L[i]? = some x) (e : L.eraseIdx i = L') : Rep Z n0 h (x :: L') := by
  subst e
  have pm : (x :: L.eraseIdx i).Perm L := perm_front L i x hi
  exact ⟨R.1, (pm.map _).nodup_iff.mpr R.2.1, fun y hy => R.2.2 y (pm.mem_iff.mp hy)⟩
theorem Rep.tail {x : Addr × Des} (R : Rep Z n0 h (x :: L)) : Rep Z n0 h L := ⟨R.1, (List.nodup_cons.mp (by simpa using R.2.1)).2, fun y hy => R.2.2 y (List.mem_cons_of_mem _ hy)⟩
/-- what the sheet says of the fields of a new object, one by one -/
def LaidAll (Z : State) (a0 : Array Value) (C : String) : List (String × String × Value) → Prop
  | [] => True
  | x :: r => (Laid Z a0 C C x.1 x.2.1 ∧ ∃ ty, parseFieldDescriptor x.2.1 = some ty ∧ x.2.2 = defaultValue ty) ∧ LaidAll Z a0 C r
theorem LaidAll.mem {a0 : Array Value} : ∀ {fs : List (String × String × Value)}, LaidAll Z a0 C fs → ∀ x ∈ fs, Laid Z a0 C C x.1 x.2.1 ∧ ∃ ty, parseFieldDescriptor x.2.1 = some ty ∧ x.2.2 = defaultValue ty
  | [], _, _, hx => nomatch hx
  | y :: r, q, x, hx => (List.mem_cons.mp hx).elim (fun e => e ▸ q.1) (LaidAll.mem q.2 x)
theorem Rep.newO {a0 : Array Value} (R : Rep Z n0 h L) (E : Ext h h') (g : a = h.size) (A : Exa Z h' a C) (D : ∀ {O nm d : String} {ty : FieldType}, Laid Z a0 C O nm d → parseFieldDescriptor d = some ty → Fld Z h' a O nm d (defaultValue ty)) (hl : LaidAll Z a0 C fs) (hn : (fs.map (·.1)).Nodup) : Rep Z n0 h' ((a, Obj C fs) :: L) := by
  obtain ⟨c, k, hc, r⟩ := id A
  refine R.add E g hc ⟨exa_to hc A, fun j x hx => ?_, fun i j x y ne hx hy e => ?_⟩
  · obtain ⟨l, ty, p, q⟩ := hl.mem x (List.mem_of_getElem? hx)
    rw [q]; exact fld_to hc (D l p)
  · obtain ⟨l, ty, p, q⟩ := hl.mem x (List.mem_of_getElem? hx)
    obtain ⟨l', ty', p', q'⟩ := hl.mem y (List.mem_of_getElem? hy)
    refine slot_ne l l' (fun en => ne ?_) p p' e
    refine (List.getElem?_inj (l := fs.map (·.1)) (by simpa using (List.getElem?_eq_some_iff.mp hx).1) hn).mp ?_
    simp [hx, hy, en]
theorem Rep.newAr {z : Int32} {k : ClassId} (R : Rep Z n0 h L) (E : Ext h h') (g : a = h.size) (A : Arr Z h' a (newA k ty z) ty) (X : Exa Z h' a ("[" ++ ty.toString)) (hf : fits ty (defaultValue ty) = true) (hv : List.replicate z.toNatClampNeg (defaultValue ty) = vs) : Rep Z n0 h' ((a, Ar ty vs) :: L) := by
  refine R.add E g A.1 ⟨A.2.1, A.2.2, ?_, fun v hq => ?_, exa_to A.1 X⟩
  · rw [← hv]; simp [newA]
  · rw [← hv] at hq; rw [List.eq_of_mem_replicate hq]; exact hf
theorem in_of {cl : Cell} {q : Int32} (V : cl.slots.toList = vs) (hq : ¬ q < 0) (hv : q.toNatClampNeg < vs.length) : ¬ (q < 0 ∨ cl.slots.size ≤ q.toNatClampNeg) := by
  rintro (q1 | q1)
  · exact hq q1
  · rw [← V, Array.length_toList] at hv; omega
theorem at_of {cl : Cell} {k : Nat} (V : cl.slots.toList = vs) (hv : vs[k]? = some v) : cl.slots[k]? = some v := by
  rw [← hv, ← V, Array.getElem?_toList]
theorem lt_of {k : Nat} (hv : vs[k]? = some v) : k < vs.length := (List.getElem?_eq_some_iff.mp hv).1
end Facts
/-! ## One law a step -/
section Steps
variable {p : Program} {l : Launch} {e : Env} {R : Room} {s : State} {m : MethodId} {args : Array Value} {below : List Frame} {meth : Method} {c : Code} {T : State} {locs : List Loc} {cells slots : Nat} {Z : State} {a0 : Array Value} {h : Heap} {n0 : Nat} {L : RL}
theorem gGet (X : Stand p l e R s m args below meth c T locs cells slots) (hx : p.tables.exec = Jvm.exec) (hZ : Z.Warmed39 s.vm) {own C n d host : String} {index : Nat} (hown : s.vm.findClass own = some m.cls) (w : (Cond.fieldLink own index C n d).before a0 Z = true ∨ (Cond.fieldLinkNest own index C n d host).before a0 Z = true)
    (eT : T.heap = h) (Q : Rep Z n0 h L) (i j : Nat) {a : Addr} {fs : List (String × String × Value)} {v : Value} (hi : L[i]? = some (a, Obj C fs)) (hj : fs[j]? = some (n, d, v)) {g : JFrame} (hg : g.method = m) {rest : List Value} (hs : g.stack = .ref a :: rest) (hd : decode c.code g.pc = .ok (.getfield index, 3)) :
    ∃ T', Stand p l e R s m args below meth c T' locs cells slots ∧ T'.heap = h ∧ ∀ target, Steps p.tables e below (T'.setTop { g with pc := g.pc + 3, stack := v :: rest }) target → Steps p.tables e below (T.setTop g) target :=
  getF X hx hZ hown w Via.refl eT (Q.fld hi hj) hg hs hd
theorem gPut (X : Stand p l e R s m args below meth c T locs cells slots) (hx : p.tables.exec = Jvm.exec) (hZ : Z.Warmed39 s.vm) {own C n d host : String} {index kk : Nat} {ty : FieldType} (hown : s.vm.findClass own = some m.cls) (w : (Cond.fieldLink own index C n d).before a0 Z = true ∨ (Cond.fieldLinkNest own index C n d host).before a0 Z = true)
    (eT : T.heap = h) (N : Fr n0 locs) (Q : Rep Z n0 h L) (i j : Nat) {a : Addr} {fs : List (String × String × Value)} {v old : Value} (hi : L[i]? = some (a, Obj C fs)) (hj : fs[j]? = some (n, d, old))
    (Lw : (Cond.lays C C n d).before a0 Z = true ∨ ((Cond.laysFinal C C n d).before a0 Z = true ∧ own = C ∧ meth.name = "<init>")) (wi : (Cond.instantiable C kk).before a0 Z = true)
    (hty : parseFieldDescriptor d = some ty) (hn : narrow ty v = v) (hf : fits ty v = true) {g : JFrame} (hg : g.method = m) {rest : List Value} (hs : g.stack = v :: .ref a :: rest) (hd : decode c.code g.pc = .ok (.putfield index, 3)) :
    ∃ T' h' locs', Stand p l e R s m args below meth c T' locs' cells slots ∧ T'.heap = h' ∧ Fr n0 locs' ∧ Rep Z n0 h' (L.set i (a, Obj C (fs.set j (n, d, v)))) ∧ ∀ target, Steps p.tables e below (T'.setTop { g with pc := g.pc + 3, stack := rest }) target → Steps p.tables e below (T.setTop g) target := by
  obtain ⟨T', h', X', e', W, st⟩ := putF X hx hZ hown w Via.refl eT (Q.fld hi hj) (Q.exa hi) Lw wi hty hn hf hg hs hd
  exact ⟨T', h', _, X', e', Fr.snoc X' N (Q.ge hi), Q.put hi hj W, st⟩
theorem gNew (X : Stand p l e R s m args below meth c T locs cells slots) (hx : p.tables.exec = Jvm.exec) (hZ : Z.Warmed39 s.vm) {own C : String} {index n : Nat} (hown : s.vm.findClass own = some m.cls) (w : (Cond.classLink own index C).before a0 Z = true) (wi : (Cond.instantiable C n).before a0 Z = true) (wz : (Cond.initialized C).before a0 Z = true)
    (eT : T.heap = h) (Q : Rep Z n0 h L) {fs : List (String × String × Value)} (hl : LaidAll Z a0 C fs) (hn : (fs.map (·.1)).Nodup) {g : JFrame} (hg : g.method = m) (hd : decode c.code g.pc = .ok (.new index, 3)) (hc : cells + 1 ≤ R.cells) (hs : slots + n ≤ R.slots) :
    ∃ T' h' a, Stand p l e R s m args below meth c T' locs (cells + 1) (slots + n) ∧ T'.heap = h' ∧ Rep Z n0 h' ((a, Obj C fs) :: L) ∧ ∀ target, Steps p.tables e below (T'.setTop { g with pc := g.pc + 3, stack := .ref a :: g.stack }) target → Steps p.tables e below (T.setTop g) target := by
  obtain ⟨T', h', X', e', E, A, D, -, st⟩ := newO X hx hZ hown w wi wz eT hg hd hc hs
  exact ⟨T', h', _, X', e', Q.newO E rfl A D hl hn, st⟩
theorem gNewP (X : Stand p l e R s m args below meth c T locs cells slots) (hx : p.tables.exec = Jvm.exec) (hZ : Z.Warmed39 s.vm) {aty : ArrayType} (w : (Cond.arrayClass (newarray.typeOf aty)).before a0 Z = true)
    (eT : T.heap = h) (Q : Rep Z n0 h L) {g : JFrame} (hg : g.method = m) (hd : decode c.code g.pc = .ok (.newarray aty, 2)) {n : Int32} {rest : List Value} (hs : g.stack = .int n :: rest) (hn : ¬ n < 0) (cap : Nat) (hcap : n.toNatClampNeg ≤ cap) (hb : cap * 8 ≤ 536870912) (hc : cells + 1 ≤ R.cells) (hl : slots + cap ≤ R.slots)
    {vs : List Value} (hv : List.replicate n.toNatClampNeg (defaultValue (newarray.typeOf aty)) = vs) :
    ∃ T' h' a, Stand p l e R s m args below meth c T' locs (cells + 1) (slots + cap) ∧ T'.heap = h' ∧ Rep Z n0 h' ((a, Ar (newarray.typeOf aty) vs) :: L) ∧ ∀ target, Steps p.tables e below (T'.setTop { g with pc := g.pc + 2, stack := .ref a :: rest }) target → Steps p.tables e below (T.setTop g) target := by
  obtain ⟨T', h', cA, X', e', E, A, EX, st⟩ := newPE X hx hZ w eT hg hd hs hn hcap hb hc hl rfl
  exact ⟨T', h', _, X', e', Q.newAr E rfl A EX (by cases aty <;> rfl) hv, st⟩
theorem gLen (X : Stand p l e R s m args below meth c T locs cells slots) (hx : p.tables.exec = Jvm.exec) (hZ : Z.Warmed39 s.vm) (eT : T.heap = h) (Q : Rep Z n0 h L) (i : Nat) {a : Addr} {ty : FieldType} {vs : List Value} (hi : L[i]? = some (a, Ar ty vs))
    {g : JFrame} (hg : g.method = m) {rest : List Value} (hs : g.stack = .ref a :: rest) (hd : decode c.code g.pc = .ok (.arraylength, 1)) {z : Int32} (hz : Int32.ofNat vs.length = z) :
    ∀ target, Steps p.tables e below (T.setTop { g with pc := g.pc + 1, stack := .int z :: rest }) target → Steps p.tables e below (T.setTop g) target := by
  obtain ⟨cl, A, V⟩ := Q.arr hi
  intro target k
  refine X.arraylength hx (cell := cl) (by rw [eT]; exact A.1) (State.isArrayOf_alike hZ.alike A.2.1) hg hs hd _ ?_
  have q : cl.slots.size.toInt32 = z := by rw [← hz, ← V, Array.length_toList]
  rw [q]; exact k
theorem gIald (X : Stand p l e R s m args below meth c T locs cells slots) (hx : p.tables.exec = Jvm.exec) (hZ : Z.Warmed39 s.vm) (eT : T.heap = h) (Q : Rep Z n0 h L) (i : Nat) {a : Addr} {vs : List Value} (hi : L[i]? = some (a, Ar .int vs))
    {j : Int32} {v : Value} (hj : ¬ j < 0) (hv : vs[j.toNatClampNeg]? = some v) {g : JFrame} (hg : g.method = m) {rest : List Value} (hs : g.stack = .int j :: .ref a :: rest) (hd : decode c.code g.pc = .ok (.iaload, 1)) :
    ∀ target, Steps p.tables e below (T.setTop { g with pc := g.pc + 1, stack := v :: rest }) target → Steps p.tables e below (T.setTop g) target := by
  obtain ⟨cl, A, V⟩ := Q.arr hi
  intro target k
  exact X.iaload hx (by rw [eT]; exact A.1) (State.isArrayOf_alike hZ.alike A.2.1) A.2.2 (in_of V hj (lt_of hv)) (at_of V hv) hg hs hd _ k
theorem gLald (X : Stand p l e R s m args below meth c T locs cells slots) (hx : p.tables.exec = Jvm.exec) (hZ : Z.Warmed39 s.vm) (eT : T.heap = h) (Q : Rep Z n0 h L) (i : Nat) {a : Addr} {vs : List Value} (hi : L[i]? = some (a, Ar .long vs))
    {j : Int32} {v : Value} (hj : ¬ j < 0) (hv : vs[j.toNatClampNeg]? = some v) {g : JFrame} (hg : g.method = m) {rest : List Value} (hs : g.stack = .int j :: .ref a :: rest) (hd : decode c.code g.pc = .ok (.laload, 1)) :
    ∀ target, Steps p.tables e below (T.setTop { g with pc := g.pc + 1, stack := v :: rest }) target → Steps p.tables e below (T.setTop g) target := by
  obtain ⟨cl, A, V⟩ := Q.arr hi
  intro target k
  exact X.laload hx (by rw [eT]; exact A.1) (State.isArrayOf_alike hZ.alike A.2.1) A.2.2 (in_of V hj (lt_of hv)) (at_of V hv) hg hs hd _ k
theorem gBald (X : Stand p l e R s m args below meth c T locs cells slots) (hx : p.tables.exec = Jvm.exec) (hZ : Z.Warmed39 s.vm) (eT : T.heap = h) (Q : Rep Z n0 h L) (i : Nat) {a : Addr} {vs : List Value} (hi : L[i]? = some (a, Ar .byte vs))
    {j : Int32} {v : Value} (hj : ¬ j < 0) (hv : vs[j.toNatClampNeg]? = some v) {g : JFrame} (hg : g.method = m) {rest : List Value} (hs : g.stack = .int j :: .ref a :: rest) (hd : decode c.code g.pc = .ok (.baload, 1)) :
    ∀ target, Steps p.tables e below (T.setTop { g with pc := g.pc + 1, stack := v :: rest }) target → Steps p.tables e below (T.setTop g) target := by
  obtain ⟨cl, A, V⟩ := Q.arr hi
  intro target k
  exact X.baloadBytes hx (by rw [eT]; exact A.1) (State.isArrayOf_alike hZ.alike A.2.1) A.2.2 (in_of V hj (lt_of hv)) (at_of V hv) hg hs hd _ k
theorem gIst (X : Stand p l e R s m args below meth c T locs cells slots) (hx : p.tables.exec = Jvm.exec) (hZ : Z.Warmed39 s.vm) (eT : T.heap = h) (N : Fr n0 locs) (Q : Rep Z n0 h L) (i : Nat) {a : Addr} {vs : List Value} (hi : L[i]? = some (a, Ar .int vs))
    {j x : Int32} (hj : ¬ j < 0) (k : Nat) (hk : j.toNatClampNeg = k) (hv : k < vs.length) {g : JFrame} (hg : g.method = m) {rest : List Value} (hs : g.stack = .int x :: .int j :: .ref a :: rest) (hd : decode c.code g.pc = .ok (.iastore, 1)) :
    ∃ T' h' locs', Stand p l e R s m args below meth c T' locs' cells slots ∧ T'.heap = h' ∧ Fr n0 locs' ∧ Rep Z n0 h' (L.set i (a, Ar .int (vs.set k (.int x)))) ∧ ∀ target, Steps p.tables e below (T'.setTop { g with pc := g.pc + 1, stack := rest }) target → Steps p.tables e below (T.setTop g) target := by
  obtain ⟨cl, A, V⟩ := Q.arr hi
  subst hk
  obtain ⟨T', h', X', e', W, st⟩ := stI X hx hZ eT A (j := j) (x := x) (in_of V hj hv) hg hs hd
  exact ⟨T', h', _, X', e', Fr.snoc X' N (Q.ge hi), Q.sto hi W rfl, st⟩
theorem gLst (X : Stand p l e R s m args below meth c T locs cells slots) (hx : p.tables.exec = Jvm.exec) (hZ : Z.Warmed39 s.vm) (eT : T.heap = h) (N : Fr n0 locs) (Q : Rep Z n0 h L) (i : Nat) {a : Addr} {vs : List Value} (hi : L[i]? = some (a, Ar .long vs))
    {j : Int32} {x : Int64} (hj : ¬ j < 0) (k : Nat) (hk : j.toNatClampNeg = k) (hv : k < vs.length) {g : JFrame} (hg : g.method = m) {rest : List Value} (hs : g.stack = .long x :: .int j :: .ref a :: rest) (hd : decode c.code g.pc = .ok (.lastore, 1)) :
    ∃ T' h' locs', Stand p l e R s m args below meth c T' locs' cells slots ∧ T'.heap = h' ∧ Fr n0 locs' ∧ Rep Z n0 h' (L.set i (a, Ar .long (vs.set k (.long x)))) ∧ ∀ target, Steps p.tables e below (T'.setTop { g with pc := g.pc + 1, stack := rest }) target → Steps p.tables e below (T.setTop g) target := by
  obtain ⟨cl, A, V⟩ := Q.arr hi
  subst hk
  obtain ⟨T', h', X', e', W, st⟩ := stJ X hx hZ eT A (j := j) (x := x) (in_of V hj hv) hg hs hd
  exact ⟨T', h', _, X', e', Fr.snoc X' N (Q.ge hi), Q.sto hi W rfl, st⟩
theorem gBst (X : Stand p l e R s m args below meth c T locs cells slots) (hx : p.tables.exec = Jvm.exec) (hZ : Z.Warmed39 s.vm) (eT : T.heap = h) (N : Fr n0 locs) (Q : Rep Z n0 h L) (i : Nat) {a : Addr} {vs : List Value} (hi : L[i]? = some (a, Ar .byte vs))
    {j x : Int32} (hj : ¬ j < 0) (k : Nat) (hk : j.toNatClampNeg = k) (hv : k < vs.length) {g : JFrame} (hg : g.method = m) {rest : List Value} (hs : g.stack = .int x :: .int j :: .ref a :: rest) (hd : decode c.code g.pc = .ok (.bastore, 1)) :
    ∃ T' h' locs', Stand p l e R s m args below meth c T' locs' cells slots ∧ T'.heap = h' ∧ Fr n0 locs' ∧ Rep Z n0 h' (L.set i (a, Ar .byte (vs.set k (.int x.toInt8.toInt32)))) ∧ ∀ target, Steps p.tables e below (T'.setTop { g with pc := g.pc + 1, stack := rest }) target → Steps p.tables e below (T.setTop g) target := by
  obtain ⟨cl, A, V⟩ := Q.arr hi
  subst hk
  obtain ⟨T', h', X', e', W, st⟩ := stB X hx hZ eT A (j := j) (x := x) (in_of V hj hv) hg hs hd
  exact ⟨T', h', _, X', e', Fr.snoc X' N (Q.ge hi), Q.sto hi W (fits_nar_byte x), st⟩
theorem gClone (X : Stand p l e R s m args below meth c T locs cells slots) (hx : p.tables.exec = Jvm.exec) (hZ : Z.Warmed39 s.vm) {own ad : String} {index : Nat} (hown : s.vm.findClass own = some m.cls)
    (w1 : (Cond.methodLink own index ⟨ad, "clone", "()Ljava/lang/Object;"⟩).before a0 Z = true) (w2 : (Cond.sameMethod ad "java/lang/Object" "clone" "()Ljava/lang/Object;").before a0 Z = true) (w3 : (Cond.native ⟨"java/lang/Object", "clone", "()Ljava/lang/Object;"⟩).before a0 Z = true)
    (w4 : (Cond.instanceMethod ⟨"java/lang/Object", "clone", "()Ljava/lang/Object;"⟩).before a0 Z = true) (w5 : (Cond.selects ad ⟨ad, "clone", "()Ljava/lang/Object;"⟩ ⟨"java/lang/Object", "clone", "()Ljava/lang/Object;"⟩).before a0 Z = true) (w6 : (Cond.castable ad "java/lang/Cloneable").before a0 Z = true)
    (eT : T.heap = h) (Q : Rep Z n0 h L) (i : Nat) {a : Addr} {ty : FieldType} {vs : List Value} (hi : L[i]? = some (a, Ar ty vs)) (had : "[" ++ ty.toString = ad) {g : JFrame} (hg : g.method = m) (hsize : g.locals.size = c.maxLocals) {rest : List Value} (hs : g.stack = .ref a :: rest) (hd : decode c.code g.pc = .ok (.invokevirtual index, 3))
    (hf : 1 ≤ R.frames) {W : Nat} (cap : Nat) (hW : 2 * g.monitorRoom + (rest.map fun v => v.category).sum ≤ W) (hl : W + 14 ≤ R.locals) (hcap : vs.length ≤ cap) (hc : cells + 1 ≤ R.cells) (hsl : slots + cap ≤ R.slots) :
    ∃ T' h' b, Stand p l e R s m args below meth c T' locs (cells + 1) (slots + cap) ∧ T'.heap = h' ∧ Rep Z n0 h' ((b, Ar ty vs) :: L) ∧ Exa Z h' b ad ∧
      ∀ target, Steps p.tables e below (T'.setTop { g with pc := g.pc + 3, stack := .ref b :: rest }) target → Steps p.tables e below (T.setTop g) target := by
  subst had
  obtain ⟨cl, A, V, F, E⟩ := Q.arr' hi
  have FC : FitC Z cl := fitC_of A fun k hk v hv => F v (by rw [← V]; exact Array.mem_toList_iff.mpr (Array.mem_of_getElem? hv))
  obtain ⟨T', h', X', e', ex, A', E', st⟩ := cloneA X hx hZ hown w1 w2 w3 w4 w5 w6 eT A E FC hg hsize hs hd hf hW hl (by rw [← V, Array.length_toList] at hcap; exact hcap) hc hsl
  exact ⟨T', h', _, X', e', Q.add ex rfl A'.1 ⟨A'.2.1, A'.2.2, V, F, exa_to A'.1 E'⟩, E', st⟩
theorem gCast (X : Stand p l e R s m args below meth c T locs cells slots) (hx : p.tables.exec = Jvm.exec) (hZ : Z.Warmed39 s.vm) {own K : String} {index : Nat} (hown : s.vm.findClass own = some m.cls) (w : (Cond.classLink own index K).before a0 Z = true) (eT : T.heap = h) {a : Addr} (E : Exa Z h a K)
    {g : JFrame} (hg : g.method = m) {rest : List Value} (hs : g.stack = .ref a :: rest) (hd : decode c.code g.pc = .ok (.checkcast index, 3)) : ∃ T', Stand p l e R s m args below meth c T' locs cells slots ∧ T'.heap = h ∧ ∀ target, Steps p.tables e below (T'.setTop { g with pc := g.pc + 3 }) target → Steps p.tables e below (T.setTop g) target :=
  castY X hx hZ hown w eT (Ins.self E) hg hs hd
theorem arv_of {a : Addr} {ty : FieldType} {vs : List Value} {dv : Value} {cl : Cell} (A : Arr Z h a cl ty) (V : cl.slots.toList = vs) (F : ∀ v ∈ vs, fits ty v = true) (hl : vs.length < 2 ^ 31) : Arv Z h a cl.cls ty (Int32.ofNat vs.length) vs dv := by
  have q : (Int32.ofNat vs.length).toNatClampNeg = vs.length := by
    rw [Int32.toNatClampNeg, Int32.toInt_ofNat_of_lt hl]; rfl
  have S : cl.slots.size = vs.length := by rw [← V, Array.length_toList]
  have G : ∀ k, k < cl.slots.size → cl.slots[k]? = some (vs.getD k dv) := fun k hk => by
    rw [← Array.getElem?_toList, V, List.getD_eq_getElem?_getD, List.getElem?_eq_getElem (by omega)]; rfl
  refine ⟨cl, A, rfl, by rw [q, S], ?_, G, fun k hk => ?_⟩
  · rw [Int32.lt_iff_toInt_lt, Int32.toInt_ofNat_of_lt hl, show (0 : Int32).toInt = 0 from rfl]; omega
  · rw [List.getD_eq_getElem?_getD, List.getElem?_eq_getElem (by omega)]
    exact F _ (List.getElem_mem _)
theorem Rep.kept {h' : Heap} {i : Nat} {b : Addr} {P P' : Des} {cb : Cell} (Q : Rep Z n0 h L) (hi : L[i]? = some (b, P)) (K : Keep h h' [b]) (hc : h'[b]? = some cb) (p : P' Z cb) : Rep Z n0 h' (L.set i (b, P')) := by
  have em : (L.set i (b, P')).map (·.1) = L.map (·.1) := by
    rw [List.map_set]
    apply List.ext_getElem?
    intro k
    rw [List.getElem?_set]
    split
    · rename_i e; subst e
      split
      · simp [hi]
      · rename_i e; simp only [List.length_map] at e; simp [List.getElem?_eq_none (Nat.le_of_not_lt e)]
    · rfl
  have il : i < L.length := (List.getElem?_eq_some_iff.mp hi).1
  refine ⟨Nat.le_trans Q.1 K.1, by rw [em]; exact Q.2.1, fun x hx => ?_⟩
  obtain ⟨k, hk⟩ := List.mem_iff_getElem?.mp hx
  rw [List.getElem?_set] at hk
  split at hk
  · rename_i e; subst e
    cases hk
    exact ⟨Q.ge hi, cb, hc, p⟩
  · rename_i e
    obtain ⟨g, c, hc', p'⟩ := Q.2.2 x (List.mem_of_getElem? hk)
    have ne : x.1 ≠ b := fun q => by
      refine e ((List.getElem?_inj (l := L.map (·.1)) (by simpa using il) Q.2.1).mp ?_)
      simp [hi, hk, q]
    exact ⟨g, c, K.2.1 _ _ hc' (by simpa using ne), p'⟩
theorem gCopy (X : Stand p l e R s m args below meth c T locs cells slots) (hx : p.tables.exec = Jvm.exec) (hZ : Z.Warmed39 s.vm) {own : String} {index : Nat} (hown : s.vm.findClass own = some m.cls)
    (w1 : (Cond.methodLink own index Jvm.Stand.acN).before a0 Z = true) (w2 : (Cond.native Jvm.Stand.acN).before a0 Z = true) (w3 : (Cond.static Jvm.Stand.acN).before a0 Z = true) (w4 : (Cond.initialized "java/lang/System").before a0 Z = true) (eT : T.heap = h) (N : Fr n0 locs) (Q : Rep Z n0 h L) (i j : Nat)
    {a b : Addr} {ty : FieldType} {vs vd : List Value} (hi : L[i]? = some (a, Ar ty vs)) (hj : L[j]? = some (b, Ar ty vd)) (hty : refKind ty = false) (l1 : vs.length < 2 ^ 31) (l2 : vd.length < 2 ^ 31) {sp dp nn : Int32} (h1 : ¬ sp < 0) (h2 : ¬ dp < 0) (h3 : ¬ nn < 0) (si di ni : Nat) (es : sp.toNatClampNeg = si) (ed : dp.toNatClampNeg = di) (en : nn.toNatClampNeg = ni)
    (h4 : si + ni ≤ vs.length) (h5 : di + ni ≤ vd.length)
    {g : JFrame} (hg : g.method = m) (hsize : g.locals.size = c.maxLocals) {rest : List Value} (hs : g.stack = .int nn :: .int dp :: .ref b :: .int sp :: .ref a :: rest) (hd : decode c.code g.pc = .ok (.invokestatic index, 3))
    (hf : 1 ≤ R.frames) {W : Nat} (hW : 2 * g.monitorRoom + (rest.map fun v => v.category).sum ≤ W) (hlo : W + (nativeFrameWords "java/lang/System" "arraycopy" 5 + 11) ≤ R.locals) :
    ∃ T' h' L', Stand p l e R s m args below meth c T' L' cells slots ∧ T'.heap = h' ∧ Fr n0 L' ∧ Rep Z n0 h' (L.set j (b, Ar ty (vd.take di ++ (vs.drop si).take ni ++ vd.drop (di + ni)))) ∧
      ∀ target, Steps p.tables e below (T'.setTop { g with pc := g.pc + 3, stack := rest }) target → Steps p.tables e below (T.setTop g) target := by
  subst es ed en
  obtain ⟨ca, A, Va, Fa, Ea⟩ := Q.arr' hi
  obtain ⟨cb, B, Vb, Fb, Eb⟩ := Q.arr' hj
  have za : (Int32.ofNat vs.length).toNatClampNeg = vs.length := by rw [Int32.toNatClampNeg, Int32.toInt_ofNat_of_lt l1]; rfl
  have zb : (Int32.ofNat vd.length).toNatClampNeg = vd.length := by rw [Int32.toNatClampNeg, Int32.toInt_ofNat_of_lt l2]; rfl
  have hus : (vs.drop sp.toNatClampNeg).take nn.toNatClampNeg = (List.range nn.toNatClampNeg).map fun k => vs.getD (sp.toNatClampNeg + k) .null := by
    apply List.ext_getElem?
    intro k
    rw [List.getElem?_take, List.getElem?_drop, List.getElem?_map]
    by_cases q : k < nn.toNatClampNeg
    · rw [if_pos q, List.getElem?_range q, List.getElem?_eq_getElem (by omega)]
      simp [List.getD_eq_getElem?_getD, List.getElem?_eq_getElem (show sp.toNatClampNeg + k < vs.length by omega)]
    · rw [if_neg q, List.getElem?_eq_none (by simpa using q)]; rfl
  obtain ⟨T', h', L', X', e', N', K, ⟨c', A', -, S', -, H', G'⟩, st⟩ := cpA X hx hZ hown w1 w2 w3 w4 eT (arv_of (dv := .null) A Va Fa l1) (arv_of (dv := .null) B Vb Fb l2) (Or.inl ⟨rfl, hty⟩) h1 h2 h3 (by rw [za]; exact h4) (by rw [zb]; exact h5) hus h5 N (Q.ge hj) hg hsize hs hd hf hW hlo
  refine ⟨T', h', L', X', e', N', Q.kept hj K A'.1 ⟨A'.2.1, A'.2.2, ?_, fun v hv => ?_, exa_to A'.1 (Eb.keep K)⟩, st⟩
  · apply List.ext_getElem?
    intro k
    rw [Array.getElem?_toList]
    by_cases q : k < c'.slots.size
    · rw [H' k q, List.getD_eq_getElem?_getD, List.getElem?_eq_getElem]
      · rfl
      · rw [S', zb] at q; simp only [List.length_append, List.length_take, List.length_drop]; omega
    · rw [Array.getElem?_eq_none (by omega), List.getElem?_eq_none]
      rw [S', zb] at q; simp only [List.length_append, List.length_take, List.length_drop]; omega
  · rcases List.mem_append.mp hv with hv | hv
    · rcases List.mem_append.mp hv with hv | hv
      · exact Fb v (List.mem_of_mem_take hv)
      · exact Fa v (List.mem_of_mem_drop (List.mem_of_mem_take hv))
    · exact Fb v (List.mem_of_mem_drop hv)
theorem gMono (X : Stand p l e R s m args below meth c T locs cells slots) {cells' slots' : Nat} (h1 : cells ≤ cells') (h2 : slots ≤ slots') : Stand p l e R s m args below meth c T locs cells' slots' := { X with same := X.same.mono h1 h2 }
theorem retI (X : Stand p l e R s m args below meth c T locs cells slots) (hx : p.tables.exec = Jvm.exec) {pc : Nat} {Ls : Array Slot} {z : Int32} {rest : List Value} (hret : meth.sig.returnType = some .int) (hd : decode c.code pc = .ok (.ireturn, 1)) {fs : List Frame}
    (hl : ∀ (f : JFrame) (acts : List Action), f.method = m → f.locked = none → f.entered = [] → (doReturn e (T.setTop f) acts (some (.int z))).1 = T.setFrames fs) : Steps p.tables e below (T.setTop (mkF m pc Ls (.int z :: rest))) (T.setFrames fs) := by
  have hm' : T.vm.method? m = some meth := X.method'
  have hn : narrow .int (.int z) = .int z := rfl
  show Steps p.tables e below (T.setTop { method := m, pc := pc, locals := Ls, stack := _ :: rest, locked := none }) _
  jvm_step X.here [X.here.top, hx, hd, hm', hret, hn]
  first | (intro acts; rw [hl _ acts rfl rfl rfl]) | rw [hl _ _ rfl rfl rfl]
  exact Steps.refl _
theorem retL (X : Stand p l e R s m args below meth c T locs cells slots) (hx : p.tables.exec = Jvm.exec) {pc : Nat} {Ls : Array Slot} {z : Int64} {rest : List Value} (hret : meth.sig.returnType = some .long) (hd : decode c.code pc = .ok (.lreturn, 1)) {fs : List Frame}
    (hl : ∀ (f : JFrame) (acts : List Action), f.method = m → f.locked = none → f.entered = [] → (doReturn e (T.setTop f) acts (some (.long z))).1 = T.setFrames fs) : Steps p.tables e below (T.setTop (mkF m pc Ls (.long z :: rest))) (T.setFrames fs) := by
  have hm' : T.vm.method? m = some meth := X.method'
  have hn : narrow .long (.long z) = .long z := rfl
  show Steps p.tables e below (T.setTop { method := m, pc := pc, locals := Ls, stack := _ :: rest, locked := none }) _
  jvm_step X.here [X.here.top, hx, hd, hm', hret, hn]
  first | (intro acts; rw [hl _ acts rfl rfl rfl]) | rw [hl _ _ rfl rfl rfl]
  exact Steps.refl _
theorem retA (X : Stand p l e R s m args below meth c T locs cells slots) (hx : p.tables.exec = Jvm.exec) {pc : Nat} {Ls : Array Slot} {a : Addr} {rest : List Value} {t : FieldType} (ht : t.isReference = true) (hret : meth.sig.returnType = some t) (hd : decode c.code pc = .ok (.areturn, 1)) {fs : List Frame}
    (hl : ∀ (f : JFrame) (acts : List Action), f.method = m → f.locked = none → f.entered = [] → (doReturn e (T.setTop f) acts (some (.ref a))).1 = T.setFrames fs) : Steps p.tables e below (T.setTop (mkF m pc Ls (.ref a :: rest))) (T.setFrames fs) := by
  have hm' : T.vm.method? m = some meth := X.method'
  show Steps p.tables e below (T.setTop { method := m, pc := pc, locals := Ls, stack := _ :: rest, locked := none }) _
  jvm_step X.here [X.here.top, hx, hd, hm', hret, ht, Value.isRef]
  first | (intro acts; rw [hl _ acts rfl rfl rfl]) | rw [hl _ _ rfl rfl rfl]
  exact Steps.refl _
end Steps
abbrev iushr (x y : Int32) : Int32 := (x.toUInt32 >>> (y &&& 31).toUInt32).toInt32
abbrev lushr (x : Int64) (y : Int32) : Int64 := (x.toUInt64 >>> (y &&& 0x3f).toInt64.toUInt64).toInt64
abbrev ishl (x y : Int32) : Int32 := x <<< (y &&& 31)
abbrev ishr (x y : Int32) : Int32 := x >>> (y &&& 31)
abbrev lshl (x : Int64) (y : Int32) : Int64 := x <<< (y &&& 0x3f).toInt64
abbrev lshr (x : Int64) (y : Int32) : Int64 := x >>> (y &&& 0x3f).toInt64
/-- a boolean told by a condition, as an int of the machine's -/
abbrev bz (P : Prop) [Decidable P] : Int32 := if P then 1 else 0
theorem nar_b (P : Prop) [Decidable P] : nar .boolean (bz P) = bz P := by unfold bz; split <;> rfl
theorem bz_t {P : Prop} [Decidable P] (h : P) : bz P = 1 := if_pos h
theorem bz_congr {P Q : Prop} [Decidable P] [Decidable Q] (h : P ↔ Q) : bz P = bz Q := by
  by_cases q : Q
  · rw [bz, bz, if_pos q, if_pos (h.mpr q)]
  · rw [bz, bz, if_neg q, if_neg (fun p => q (h.mp p))]
theorem bz_one {P : Prop} [Decidable P] (h : P ↔ True) : bz P = 1 := if_pos (h.mpr trivial)
theorem bz_zero {P : Prop} [Decidable P] (h : P ↔ False) : bz P = 0 := if_neg h.mp
theorem ow_bne_t {P : Prop} [Decidable P] (h : P) : ifCond.holds .ne (bz P) = true := by rw [if0, bz_t h]; decide
theorem ow_bne_f {P : Prop} [Decidable P] (h : ¬ P) : ifCond.holds .ne (bz P) = false := by rw [if0, bz, if_neg h]; decide
theorem ow_beq_t {P : Prop} [Decidable P] (h : ¬ P) : ifCond.holds .eq (bz P) = true := by rw [if0, bz, if_neg h]; decide
theorem ow_beq_f {P : Prop} [Decidable P] (h : P) : ifCond.holds .eq (bz P) = false := by rw [if0, bz_t h]; decide
theorem bz_f {P : Prop} [Decidable P] (h : ¬ P) : bz P = 0 := if_neg h
theorem ite_or_t {α : Type} {c d : Prop} [Decidable c] [Decidable d] {a y : α} (h : c) : (if c ∨ d then a else y) = a := if_pos (Or.inl h)
theorem ite_or_f {α : Type} {c d : Prop} [Decidable c] [Decidable d] {a y : α} (h : ¬ c) : (if c ∨ d then a else y) = (if d then a else y) := by
  by_cases q : d
  · rw [if_pos q, if_pos (Or.inr q)]
  · rw [if_neg q, if_neg (fun z => z.elim h q)]
theorem ite_and_t {α : Type} {c d : Prop} [Decidable c] [Decidable d] {a y : α} (h : c) : (if c ∧ d then a else y) = (if d then a else y) := by
  by_cases q : d
  · rw [if_pos q, if_pos ⟨h, q⟩]
  · rw [if_neg q, if_neg (fun z => q z.2)]
theorem ite_and_f {α : Type} {c d : Prop} [Decidable c] [Decidable d] {a y : α} (h : ¬ c) : (if c ∧ d then a else y) = y := if_neg fun q => h q.1
theorem ow_fin {P : Prop} [Decidable P] (h : P) : some (Value.int (nar .boolean (bz P))) = some (Value.int (1 : Int32)) := by rw [bz_t h]; rfl
theorem ow_fin' {P : Prop} [Decidable P] (h : P) : some (Value.int (bz P)) = some (Value.int (1 : Int32)) := by rw [bz_t h]
end Jvm.Own
namespace Jvm.Own
open Jvm Jvm.RoadKit
/-! ## Longs and ints as natural numbers -/
def nj (x : Int64) : Nat := x.toBitVec.toNat
def ni (x : Int32) : Nat := x.toBitVec.toNat
theorem nj_lt (x : Int64) : nj x < 18446744073709551616 := x.toBitVec.isLt
theorem ni_lt (x : Int32) : ni x < 4294967296 := x.toBitVec.isLt
theorem nj_inj {x y : Int64} (h : nj x = nj y) : x = y := Int64.toBitVec_inj.mp (BitVec.eq_of_toNat_eq h)
theorem ni_inj {x y : Int32} (h : ni x = ni y) : x = y := Int32.toBitVec_inj.mp (BitVec.eq_of_toNat_eq h)
theorem nj_int (x : Int64) : x.toInt = if nj x < 9223372036854775808 then (nj x : Int) else (nj x : Int) - 18446744073709551616 := by
  show x.toBitVec.toInt = _
  rw [BitVec.toInt_eq_toNat_cond]
  show (if 2 * nj x < 2 ^ 64 then (nj x : Int) else (nj x : Int) - (2 ^ 64 : Nat)) = _
  split <;> split <;> omega
theorem ni_int (x : Int32) : x.toInt = if ni x < 2147483648 then (ni x : Int) else (ni x : Int) - 4294967296 := by
  show x.toBitVec.toInt = _
  rw [BitVec.toInt_eq_toNat_cond]
  show (if 2 * ni x < 2 ^ 32 then (ni x : Int) else (ni x : Int) - (2 ^ 32 : Nat)) = _
  split <;> split <;> omega
theorem nj_and (x y : Int64) : nj (x &&& y) = nj x &&& nj y := by show (x.toBitVec &&& y.toBitVec).toNat = _; rw [BitVec.toNat_and]; rfl
theorem nj_or (x y : Int64) : nj (x ||| y) = nj x ||| nj y := by show (x.toBitVec ||| y.toBitVec).toNat = _; rw [BitVec.toNat_or]; rfl
theorem nj_xor (x y : Int64) : nj (x ^^^ y) = nj x ^^^ nj y := by show (x.toBitVec ^^^ y.toBitVec).toNat = _; rw [BitVec.toNat_xor]; rfl
theorem nj_add (x y : Int64) : nj (x + y) = (nj x + nj y) % 18446744073709551616 := by show (x.toBitVec + y.toBitVec).toNat = _; rw [BitVec.toNat_add]; rfl
theorem nj_sub (x y : Int64) : nj (x - y) = (18446744073709551616 - nj y + nj x) % 18446744073709551616 := by show (x.toBitVec - y.toBitVec).toNat = _; rw [BitVec.toNat_sub]; rfl
theorem ni_and (x y : Int32) : ni (x &&& y) = ni x &&& ni y := by show (x.toBitVec &&& y.toBitVec).toNat = _; rw [BitVec.toNat_and]; rfl
theorem nj_lushr (x : Int64) (q : Int32) (k : Nat) (hk : ni q % 64 = k) : nj (lushr x q) = nj x / 2 ^ k := by
  show (x.toBitVec >>> ((q &&& 0x3f).toInt64.toBitVec % 64)).toNat = x.toBitVec.toNat / 2 ^ k
  have h5 := (sm64 q k hk).2
  rw [BitVec.ushiftRight_eq', BitVec.toNat_ushiftRight, Nat.shiftRight_eq_div_pow, BitVec.toNat_umod, (sm64 q k hk).1, BitVec.toNat_ofNat]; congr 2; show k % 2 ^ 64 % 64 = k; omega
theorem nj_lshl (x : Int64) (q : Int32) (k : Nat) (hk : ni q % 64 = k) : nj (lshl x q) = nj x * 2 ^ k % 18446744073709551616 := by
  show (x.toBitVec <<< ((q &&& 0x3f).toInt64.toBitVec.smod 64)).toNat = _
  rw [BitVec.shiftLeft_eq', (sm64 q k hk).1, smod64 k (sm64 q k hk).2, BitVec.toNat_shiftLeft, Nat.shiftLeft_eq]; rfl
theorem ni_l2i (x : Int64) : ni x.toInt32 = nj x % 4294967296 := by
  show (x.toBitVec.signExtend 32).toNat = _
  rw [BitVec.signExtend_eq_setWidth_of_le _ (by decide), BitVec.toNat_setWidth]; rfl
theorem nj_i2l (x : Int32) (h : ni x < 2147483648) : nj x.toInt64 = ni x := by
  have e := nj_int x.toInt64
  rw [Int32.toInt_toInt64, ni_int, if_pos h] at e
  have := nj_lt x.toInt64
  split at e <;> omega
theorem mask_n (x k : Nat) : x &&& (2 ^ k - 1) = x % 2 ^ k := Nat.and_two_pow_sub_one_eq_mod x k
theorem lt64 {x y : Int64} : x < y ↔ x.toInt < y.toInt := Int64.lt_iff_toInt_lt
theorem lt32 {x y : Int32} : x < y ↔ x.toInt < y.toInt := Int32.lt_iff_toInt_lt
/-- the byte at place k of a long, as javac reads it into an int -/
theorem byteI (w : Int64) (q : Int32) (k : Nat) (hk : ni q % 64 = k) : ((lushr w q).toInt32 &&& (255 : Int32)) = Int32.ofNat (nj w / 2 ^ k % 256) := by
  apply ni_inj
  rw [ni_and, ni_l2i, nj_lushr w q k hk, show ni (255 : Int32) = 2 ^ 8 - 1 from rfl, mask_n]
  show _ = (BitVec.ofNat 32 _).toNat
  rw [BitVec.toNat_ofNat]
  omega
theorem byteJ (w : Int64) (q : Int32) (k : Nat) (hk : ni q % 64 = k) : ((lushr w q) &&& (255 : Int64)) = Int64.ofNat (nj w / 2 ^ k % 256) := by
  apply nj_inj
  rw [nj_and, nj_lushr w q k hk, show nj (255 : Int64) = 2 ^ 8 - 1 from rfl, mask_n]
  show _ = (BitVec.ofNat 64 _).toNat
  rw [BitVec.toNat_ofNat]
  omega
theorem all8 {P : Int8 → Prop} (h : ∀ n : Fin 256, P (Int8.ofNat n.1)) (y : Int8) : P y := by
  have q := h ⟨y.toBitVec.toNat, y.toBitVec.isLt⟩
  have e : Int8.ofNat y.toBitVec.toNat = y := by
    apply Int8.toBitVec_inj.mp
    show BitVec.ofNat 8 y.toBitVec.toNat = y.toBitVec
    rw [BitVec.ofNat_toNat]; simp
  rw [e] at q; exact q
/-- an int told by its natural number -/
theorem ofni (x : Int32) : Int32.ofNat (ni x) = x := by
  apply ni_inj
  show (BitVec.ofNat 32 x.toBitVec.toNat).toNat = x.toBitVec.toNat
  rw [BitVec.toNat_ofNat, Nat.mod_eq_of_lt x.toBitVec.isLt]
/-- (x & 0x7fffffff) % m for a small m -/
theorem remN (x : Int32) (m : Int32) (k : Nat) (hm : ni m = k) (h0 : 0 < k) (h1 : k < 2147483648) : ∃ n : Nat, n < k ∧ ((x &&& (2147483647 : Int32)) % m) = Int32.ofNat n := by
  have e1 : ni (x &&& (2147483647 : Int32)) = ni x % 2147483648 := by rw [ni_and, show ni (2147483647 : Int32) = 2 ^ 31 - 1 from rfl, mask_n]
  have m1 : m.toInt = k := by rw [ni_int, if_pos (by omega), hm]
  have a1 : (x &&& (2147483647 : Int32)).toInt = (ni x % 2147483648 : Nat) := by rw [ni_int, if_pos (by omega), e1]
  obtain ⟨p, -⟩ := c_irem (x &&& (2147483647 : Int32)) m k m1
  have r := p (by omega)
  refine ⟨ni x % 2147483648 % k, Nat.mod_lt _ h0, ?_⟩
  have q : ni x % 2147483648 % k < k := Nat.mod_lt _ h0
  apply Int32.toInt_inj.mp
  rw [r, a1, Int32.toInt_ofNat_of_lt (by omega)]; rfl
end Jvm.Own
namespace Jvm.Pilot.@@N@@
open Jvm Jvm.ClassFile Sem Op Lib Jvm.Free Jvm.Stand Jvm.LawKit Jvm.RoadKit Bundle Jvm.Own Jvm.Pilot.@@N@@.Jvm.D
theorem d1_0 : decode prog_32_method_2_code 0 = .ok (.iload_n 0, 1) := by decide +kernel
theorem d1_1 : decode prog_32_method_2_code 1 = .ok (.bipush 32, 2) := by decide +kernel
theorem d1_3 : decode prog_32_method_2_code 3 = .ok (.if_icmp .ge 27, 3) := by decide +kernel
theorem d1_6 : decode prog_32_method_2_code 6 = .ok (.iload_n 0, 1) := by decide +kernel
theorem d1_7 : decode prog_32_method_2_code 7 = .ok (.bipush 9, 2) := by decide +kernel
theorem d1_9 : decode prog_32_method_2_code 9 = .ok (.if_icmp .eq 15, 3) := by decide +kernel
theorem d1_24 : decode prog_32_method_2_code 24 = .ok (.iconst 1, 1) := by decide +kernel
theorem d1_25 : decode prog_32_method_2_code 25 = .ok (.goto 4, 3) := by decide +kernel
theorem d1_12 : decode prog_32_method_2_code 12 = .ok (.iload_n 0, 1) := by decide +kernel
theorem d1_13 : decode prog_32_method_2_code 13 = .ok (.bipush 10, 2) := by decide +kernel
theorem d1_15 : decode prog_32_method_2_code 15 = .ok (.if_icmp .eq 9, 3) := by decide +kernel
theorem d1_18 : decode prog_32_method_2_code 18 = .ok (.iload_n 0, 1) := by decide +kernel
theorem d1_19 : decode prog_32_method_2_code 19 = .ok (.bipush 13, 2) := by decide +kernel
theorem d1_21 : decode prog_32_method_2_code 21 = .ok (.if_icmp .ne 7, 3) := by decide +kernel
theorem d1_28 : decode prog_32_method_2_code 28 = .ok (.iconst 0, 1) := by decide +kernel
theorem d1_30 : decode prog_32_method_2_code 30 = .ok (.iload_n 0, 1) := by decide +kernel
theorem d1_31 : decode prog_32_method_2_code 31 = .ok (.ldc 7, 2) := by decide +kernel
theorem d1_33 : decode prog_32_method_2_code 33 = .ok (.if_icmp .le 27, 3) := by decide +kernel
theorem d1_36 : decode prog_32_method_2_code 36 = .ok (.iload_n 0, 1) := by decide +kernel
theorem d1_37 : decode prog_32_method_2_code 37 = .ok (.ldc 8, 2) := by decide +kernel
theorem d1_39 : decode prog_32_method_2_code 39 = .ok (.if_icmp .lt 9, 3) := by decide +kernel
theorem d1_48 : decode prog_32_method_2_code 48 = .ok (.iload_n 0, 1) := by decide +kernel
theorem d1_49 : decode prog_32_method_2_code 49 = .ok (.ldc 10, 2) := by decide +kernel
theorem d1_51 : decode prog_32_method_2_code 51 = .ok (.if_icmp .lt 13, 3) := by decide +kernel
theorem d1_64 : decode prog_32_method_2_code 64 = .ok (.iconst 0, 1) := by decide +kernel
theorem d1_54 : decode prog_32_method_2_code 54 = .ok (.iload_n 0, 1) := by decide +kernel
theorem d1_55 : decode prog_32_method_2_code 55 = .ok (.ldc 11, 2) := by decide +kernel
theorem d1_57 : decode prog_32_method_2_code 57 = .ok (.if_icmp .gt 7, 3) := by decide +kernel
theorem d1_60 : decode prog_32_method_2_code 60 = .ok (.iconst 1, 1) := by decide +kernel
theorem d1_61 : decode prog_32_method_2_code 61 = .ok (.goto 4, 3) := by decide +kernel
theorem d1_42 : decode prog_32_method_2_code 42 = .ok (.iload_n 0, 1) := by decide +kernel
theorem d1_43 : decode prog_32_method_2_code 43 = .ok (.ldc 9, 2) := by decide +kernel
theorem d1_45 : decode prog_32_method_2_code 45 = .ok (.if_icmp .le 15, 3) := by decide +kernel
theorem d1_29 : decode prog_32_method_2_code 29 = .ok (.ireturn, 1) := by decide +kernel
theorem d1_65 : decode prog_32_method_2_code 65 = .ok (.ireturn, 1) := by decide +kernel
theorem pn_com_example_taggen_taggen_XmlChars : plainName "com/example/taggen/taggen/XmlChars" = true := by first | (simp [plainName, overriddenIn]; done) | decide +kernel
theorem ef_1 (m : MethodId) (x0 : Int32) : entryFrame m #[(.int x0)] 1 = mkF m 0 #[.val (.int x0)] [] := by first | (simp [entryFrame, mkF, argsToLocals, Value.category]; done) | rfl
def F1 (cx : Int32) : Int32 :=
  (bz (if cx < (32 : Int32) then ((cx = (9 : Int32)) ∨ ((cx = (10 : Int32)) ∨ (cx = (13 : Int32)))) else ((¬ ((55295 : Int32) < cx)) ∨ (((¬ (cx < (57344 : Int32))) ∧ (¬ ((65533 : Int32) < cx))) ∨ ((¬ (cx < (65536 : Int32))) ∧ (¬ ((1114111 : Int32) < cx)))))))
def Q1 (Z : State) (cx : Int32) (n0 : Nat) (Rst : RL) (v : Option Value) (h : Heap) (L : List Loc) : Prop := v = some (.int (F1 cx)) ∧ Fr n0 L ∧ Rep Z n0 h (Rst)
set_option maxRecDepth 65536 in
set_option maxHeartbeats 40000000 in
theorem rm1 (l : Launch) (Z : State) (a0 : Array Value) (hw : ∀ d ∈ tables_1, d.before a0 Z = true) (ws : List Jvm.Cond) (cx : Int32) (h0 : Heap) (n0 : Nat) (Rst : RL) (R0 : Rep Z n0 h0 (Rst)) :
    MetFree l (⟨"com/example/taggen/taggen/XmlChars", "isChar", "(I)Z"⟩ : MethodName) (head1 (Jvm.Cond.code (⟨"com/example/taggen/taggen/XmlChars", "isChar", "(I)Z"⟩ : MethodName) prog_32_method_2_code 1 (some .boolean) :: ws) ({ frames := 0, cells := 0, slots := 0, locals := 0 } : Room)) (fun a U => a = #[(.int cx)] ∧ Z.Warmed39 U.vm ∧ U.heap = h0) (fun _ _ _ _ _ => True) (fun _ U o U' => ∃ v L, o = .returned v ∧ Q1 Z cx n0 Rst v U'.heap L ∧ FrameEnd U o U' L ({ frames := 0, cells := 0, slots := 0, locals := 0 } : Room).cells ({ frames := 0, cells := 0, slots := 0, locals := 0 } : Room).slots) := by
  refine MetFree.of_bodySF (plainFor_of_name pn_com_example_taggen_taggen_XmlChars) hisR ?_
  intro p e s m args below meth c s₁ Bd hml0 hP hK
  obtain ⟨rfl, hZ, hh⟩ := hP
  have hx := Bd.exec
  have hby := Bd.bytes
  have hml : c.maxLocals = 1 := hml0
  have hown : s.vm.findClass "com/example/taggen/taggen/XmlChars" = some m.cls := findClass_of_methodNamed Bd.named
  have hnm := (name_of_methodNamed Bd.named Bd.method).1
  have X0 : Stand p l e ({ frames := 0, cells := 0, slots := 0, locals := 0 } : Room) s m #[(.int cx)] below meth c s₁ [] 0 0 := Stand.of_body Bd
  have e0 : s₁.heap = h0 := by rw [← hh, Bd.state]; rfl
  have N0 := Fr.nil n0
  have pre0 : ∀ t, Steps p.tables e below (s₁.setTop (mkF m 0 #[.val (.int cx)] [])) t → Steps p.tables e below (s₁.setTop (entryFrame m #[(.int cx)] 1)) t := fun t k => castTop (ef_1 m cx) k
  have pre1 : ∀ t, Steps p.tables e below (s₁.setTop (mkF m 3 #[.val (.int cx)] [(.int (32 : Int32)), (.int cx)])) t → Steps p.tables e below (s₁.setTop (entryFrame m #[(.int cx)] 1)) t := fun t k => pre0 t (by
    show Steps p.tables e below (s₁.setTop (mkF m 0 #[.val (.int cx)] [])) _
    refine XS.iloadN X0.here hx rfl (hb hby d1_0) rfl ?_
    refine XS.bipush X0.here hx rfl (hb hby d1_1) ?_
    exact k)
  have tl6 : ∀ fs, (∀ (f : JFrame) (acts : List Action), f.method = m → f.locked = none → f.entered = [] → (doReturn e (s₁.setTop f) acts (some (.int (bz (cx = (13 : Int32)))))).1 = s₁.setFrames fs) → Steps p.tables e below (s₁.setTop (mkF m 21 #[.val (.int cx)] [(.int (13 : Int32)), (.int cx)])) (s₁.setFrames fs) := fun fs k => by
    by_cases hb5 : cx = (13 : Int32)
    · refine XS.icmpNo X0.here hx rfl (hb hby d1_21) rfl (teq hb5).2 ?_
      rw [bz_one (P := (cx = (13 : Int32))) (iff_true_intro hb5)] at k
      show Steps p.tables e below (s₁.setTop (mkF m 24 #[.val (.int cx)] [])) _
      refine XS.iconst X0.here hx rfl (hb hby d1_24) ?_
      refine XS.goto X0.here hx rfl (pc0 := 25) (pc' := 29) rfl (hb hby d1_25) (by decide) (by decide) ?_
      exact retN X0 hx (t := .boolean) Bd.returns (by simp) (hb hby d1_29) k
    · refine XS.icmpYes X0.here hx rfl (pc0 := 21) (pc' := 28) rfl (hb hby d1_21) rfl (feq hb5).2 (by decide) (by decide) ?_
      rw [bz_zero (P := (cx = (13 : Int32))) (iff_false_intro hb5)] at k
      show Steps p.tables e below (s₁.setTop (mkF m 28 #[.val (.int cx)] [])) _
      refine XS.iconst X0.here hx rfl (hb hby d1_28) ?_
      exact retN X0 hx (t := .boolean) Bd.returns (by simp) (hb hby d1_29) k
  have tl7 : ∀ fs, (∀ (f : JFrame) (acts : List Action), f.method = m → f.locked = none → f.entered = [] → (doReturn e (s₁.setTop f) acts (some (.int (bz ((cx = (10 : Int32)) ∨ (cx = (13 : Int32))))))).1 = s₁.setFrames fs) → Steps p.tables e below (s₁.setTop (mkF m 15 #[.val (.int cx)] [(.int (10 : Int32)), (.int cx)])) (s₁.setFrames fs) := fun fs k => by
    by_cases hb4 : cx = (10 : Int32)
    · refine XS.icmpYes X0.here hx rfl (pc0 := 15) (pc' := 24) rfl (hb hby d1_15) rfl (teq hb4).1 (by decide) (by decide) ?_
      rw [bz_one (P := ((cx = (10 : Int32)) ∨ (cx = (13 : Int32)))) (iff_true_intro (Or.inl hb4))] at k
      show Steps p.tables e below (s₁.setTop (mkF m 24 #[.val (.int cx)] [])) _
      refine XS.iconst X0.here hx rfl (hb hby d1_24) ?_
      refine XS.goto X0.here hx rfl (pc0 := 25) (pc' := 29) rfl (hb hby d1_25) (by decide) (by decide) ?_
      exact retN X0 hx (t := .boolean) Bd.returns (by simp) (hb hby d1_29) k
    · refine XS.icmpNo X0.here hx rfl (hb hby d1_15) rfl (feq hb4).1 ?_
      rw [bz_congr (P := ((cx = (10 : Int32)) ∨ (cx = (13 : Int32)))) (Q := (cx = (13 : Int32))) (or_iff_right hb4)] at k
      show Steps p.tables e below (s₁.setTop (mkF m 18 #[.val (.int cx)] [])) _
      refine XS.iloadN X0.here hx rfl (hb hby d1_18) rfl ?_
      refine XS.bipush X0.here hx rfl (hb hby d1_19) ?_
      exact tl6 fs k
  have tl8 : ∀ fs, (∀ (f : JFrame) (acts : List Action), f.method = m → f.locked = none → f.entered = [] → (doReturn e (s₁.setTop f) acts (some (.int (bz ((cx = (9 : Int32)) ∨ ((cx = (10 : Int32)) ∨ (cx = (13 : Int32)))))))).1 = s₁.setFrames fs) → Steps p.tables e below (s₁.setTop (mkF m 9 #[.val (.int cx)] [(.int (9 : Int32)), (.int cx)])) (s₁.setFrames fs) := fun fs k => by
    by_cases hb3 : cx = (9 : Int32)
    · refine XS.icmpYes X0.here hx rfl (pc0 := 9) (pc' := 24) rfl (hb hby d1_9) rfl (teq hb3).1 (by decide) (by decide) ?_
      rw [bz_one (P := ((cx = (9 : Int32)) ∨ ((cx = (10 : Int32)) ∨ (cx = (13 : Int32))))) (iff_true_intro (Or.inl hb3))] at k
      show Steps p.tables e below (s₁.setTop (mkF m 24 #[.val (.int cx)] [])) _
      refine XS.iconst X0.here hx rfl (hb hby d1_24) ?_
      refine XS.goto X0.here hx rfl (pc0 := 25) (pc' := 29) rfl (hb hby d1_25) (by decide) (by decide) ?_
      exact retN X0 hx (t := .boolean) Bd.returns (by simp) (hb hby d1_29) k
    · refine XS.icmpNo X0.here hx rfl (hb hby d1_9) rfl (feq hb3).1 ?_
      rw [bz_congr (P := ((cx = (9 : Int32)) ∨ ((cx = (10 : Int32)) ∨ (cx = (13 : Int32))))) (Q := ((cx = (10 : Int32)) ∨ (cx = (13 : Int32)))) (or_iff_right hb3)] at k
      show Steps p.tables e below (s₁.setTop (mkF m 12 #[.val (.int cx)] [])) _
      refine XS.iloadN X0.here hx rfl (hb hby d1_12) rfl ?_
      refine XS.bipush X0.here hx rfl (hb hby d1_13) ?_
      exact tl7 fs k
  have tl13 : ∀ fs, (∀ (f : JFrame) (acts : List Action), f.method = m → f.locked = none → f.entered = [] → (doReturn e (s₁.setTop f) acts (some (.int (bz (¬ ((1114111 : Int32) < cx)))))).1 = s₁.setFrames fs) → Steps p.tables e below (s₁.setTop (mkF m 57 #[.val (.int cx)] [(.int (1114111 : Int32)), (.int cx)])) (s₁.setFrames fs) := fun fs k => by
    by_cases hb12 : (1114111 : Int32) < cx
    · refine XS.icmpYes X0.here hx rfl (pc0 := 57) (pc' := 64) rfl (hb hby d1_57) rfl (tlt hb12).2.2.1 (by decide) (by decide) ?_
      rw [bz_zero (P := (¬ ((1114111 : Int32) < cx))) (iff_false_intro (not_not_intro hb12))] at k
      show Steps p.tables e below (s₁.setTop (mkF m 64 #[.val (.int cx)] [])) _
      refine XS.iconst X0.here hx rfl (hb hby d1_64) ?_
      exact retN X0 hx (t := .boolean) Bd.returns (by simp) (hb hby d1_65) k
    · refine XS.icmpNo X0.here hx rfl (hb hby d1_57) rfl (flt hb12).2.2.1 ?_
      rw [bz_one (P := (¬ ((1114111 : Int32) < cx))) (iff_true_intro hb12)] at k
      show Steps p.tables e below (s₁.setTop (mkF m 60 #[.val (.int cx)] [])) _
      refine XS.iconst X0.here hx rfl (hb hby d1_60) ?_
      refine XS.goto X0.here hx rfl (pc0 := 61) (pc' := 65) rfl (hb hby d1_61) (by decide) (by decide) ?_
      exact retN X0 hx (t := .boolean) Bd.returns (by simp) (hb hby d1_65) k
  have tl14 : ∀ fs, (∀ (f : JFrame) (acts : List Action), f.method = m → f.locked = none → f.entered = [] → (doReturn e (s₁.setTop f) acts (some (.int (bz ((¬ (cx < (65536 : Int32))) ∧ (¬ ((1114111 : Int32) < cx))))))).1 = s₁.setFrames fs) → Steps p.tables e below (s₁.setTop (mkF m 51 #[.val (.int cx)] [(.int (65536 : Int32)), (.int cx)])) (s₁.setFrames fs) := fun fs k => by
    by_cases hb11 : cx < (65536 : Int32)
    · refine XS.icmpYes X0.here hx rfl (pc0 := 51) (pc' := 64) rfl (hb hby d1_51) rfl (tlt hb11).1 (by decide) (by decide) ?_
      rw [bz_zero (P := ((¬ (cx < (65536 : Int32))) ∧ (¬ ((1114111 : Int32) < cx)))) (iff_false_intro (fun q => q.1 hb11))] at k
      show Steps p.tables e below (s₁.setTop (mkF m 64 #[.val (.int cx)] [])) _
      refine XS.iconst X0.here hx rfl (hb hby d1_64) ?_
      exact retN X0 hx (t := .boolean) Bd.returns (by simp) (hb hby d1_65) k
    · refine XS.icmpNo X0.here hx rfl (hb hby d1_51) rfl (flt hb11).1 ?_
      rw [bz_congr (P := ((¬ (cx < (65536 : Int32))) ∧ (¬ ((1114111 : Int32) < cx)))) (Q := (¬ ((1114111 : Int32) < cx))) (and_iff_right hb11)] at k
      show Steps p.tables e below (s₁.setTop (mkF m 54 #[.val (.int cx)] [])) _
      refine XS.iloadN X0.here hx rfl (hb hby d1_54) rfl ?_
      refine X0.ldcInt hx hown (mvT hZ (hw _ (List.mem_of_getElem? (i := 23) rfl))) (g := (mkF m 55 #[.val (.int cx)] [(.int cx)])) rfl (hb hby d1_55) _ ?_
      exact tl13 fs k
  have tl16 : ∀ fs, (∀ (f : JFrame) (acts : List Action), f.method = m → f.locked = none → f.entered = [] → (doReturn e (s₁.setTop f) acts (some (.int (bz ((¬ ((65533 : Int32) < cx)) ∨ ((¬ (cx < (65536 : Int32))) ∧ (¬ ((1114111 : Int32) < cx)))))))).1 = s₁.setFrames fs) → Steps p.tables e below (s₁.setTop (mkF m 45 #[.val (.int cx)] [(.int (65533 : Int32)), (.int cx)])) (s₁.setFrames fs) := fun fs k => by
    by_cases hb15 : (65533 : Int32) < cx
    · refine XS.icmpNo X0.here hx rfl (hb hby d1_45) rfl (tlt hb15).2.2.2 ?_
      rw [bz_congr (P := ((¬ ((65533 : Int32) < cx)) ∨ ((¬ (cx < (65536 : Int32))) ∧ (¬ ((1114111 : Int32) < cx))))) (Q := ((¬ (cx < (65536 : Int32))) ∧ (¬ ((1114111 : Int32) < cx)))) (or_iff_right (not_not_intro hb15))] at k
      show Steps p.tables e below (s₁.setTop (mkF m 48 #[.val (.int cx)] [])) _
      refine XS.iloadN X0.here hx rfl (hb hby d1_48) rfl ?_
      refine X0.ldcInt hx hown (mvT hZ (hw _ (List.mem_of_getElem? (i := 22) rfl))) (g := (mkF m 49 #[.val (.int cx)] [(.int cx)])) rfl (hb hby d1_49) _ ?_
      exact tl14 fs k
    · refine XS.icmpYes X0.here hx rfl (pc0 := 45) (pc' := 60) rfl (hb hby d1_45) rfl (flt hb15).2.2.2 (by decide) (by decide) ?_
      rw [bz_one (P := ((¬ ((65533 : Int32) < cx)) ∨ ((¬ (cx < (65536 : Int32))) ∧ (¬ ((1114111 : Int32) < cx))))) (iff_true_intro (Or.inl hb15))] at k
      show Steps p.tables e below (s₁.setTop (mkF m 60 #[.val (.int cx)] [])) _
      refine XS.iconst X0.here hx rfl (hb hby d1_60) ?_
      refine XS.goto X0.here hx rfl (pc0 := 61) (pc' := 65) rfl (hb hby d1_61) (by decide) (by decide) ?_
      exact retN X0 hx (t := .boolean) Bd.returns (by simp) (hb hby d1_65) k
  have tl17 : ∀ fs, (∀ (f : JFrame) (acts : List Action), f.method = m → f.locked = none → f.entered = [] → (doReturn e (s₁.setTop f) acts (some (.int (bz (((¬ (cx < (57344 : Int32))) ∧ (¬ ((65533 : Int32) < cx))) ∨ ((¬ (cx < (65536 : Int32))) ∧ (¬ ((1114111 : Int32) < cx)))))))).1 = s₁.setFrames fs) → Steps p.tables e below (s₁.setTop (mkF m 39 #[.val (.int cx)] [(.int (57344 : Int32)), (.int cx)])) (s₁.setFrames fs) := fun fs k => by
    by_cases hb10 : cx < (57344 : Int32)
    · refine XS.icmpYes X0.here hx rfl (pc0 := 39) (pc' := 48) rfl (hb hby d1_39) rfl (tlt hb10).1 (by decide) (by decide) ?_
      rw [bz_congr (P := (((¬ (cx < (57344 : Int32))) ∧ (¬ ((65533 : Int32) < cx))) ∨ ((¬ (cx < (65536 : Int32))) ∧ (¬ ((1114111 : Int32) < cx))))) (Q := ((¬ (cx < (65536 : Int32))) ∧ (¬ ((1114111 : Int32) < cx)))) (or_iff_right (fun q => q.1 hb10))] at k
      show Steps p.tables e below (s₁.setTop (mkF m 48 #[.val (.int cx)] [])) _
      refine XS.iloadN X0.here hx rfl (hb hby d1_48) rfl ?_
      refine X0.ldcInt hx hown (mvT hZ (hw _ (List.mem_of_getElem? (i := 22) rfl))) (g := (mkF m 49 #[.val (.int cx)] [(.int cx)])) rfl (hb hby d1_49) _ ?_
      exact tl14 fs k
    · refine XS.icmpNo X0.here hx rfl (hb hby d1_39) rfl (flt hb10).1 ?_
      rw [bz_congr (P := (((¬ (cx < (57344 : Int32))) ∧ (¬ ((65533 : Int32) < cx))) ∨ ((¬ (cx < (65536 : Int32))) ∧ (¬ ((1114111 : Int32) < cx))))) (Q := ((¬ ((65533 : Int32) < cx)) ∨ ((¬ (cx < (65536 : Int32))) ∧ (¬ ((1114111 : Int32) < cx))))) (or_congr (and_iff_right hb10) Iff.rfl)] at k
      show Steps p.tables e below (s₁.setTop (mkF m 42 #[.val (.int cx)] [])) _
      refine XS.iloadN X0.here hx rfl (hb hby d1_42) rfl ?_
      refine X0.ldcInt hx hown (mvT hZ (hw _ (List.mem_of_getElem? (i := 21) rfl))) (g := (mkF m 43 #[.val (.int cx)] [(.int cx)])) rfl (hb hby d1_43) _ ?_
      exact tl16 fs k
  have tl18 : ∀ fs, (∀ (f : JFrame) (acts : List Action), f.method = m → f.locked = none → f.entered = [] → (doReturn e (s₁.setTop f) acts (some (.int (bz ((¬ ((55295 : Int32) < cx)) ∨ (((¬ (cx < (57344 : Int32))) ∧ (¬ ((65533 : Int32) < cx))) ∨ ((¬ (cx < (65536 : Int32))) ∧ (¬ ((1114111 : Int32) < cx))))))))).1 = s₁.setFrames fs) → Steps p.tables e below (s₁.setTop (mkF m 33 #[.val (.int cx)] [(.int (55295 : Int32)), (.int cx)])) (s₁.setFrames fs) := fun fs k => by
    by_cases hb9 : (55295 : Int32) < cx
    · refine XS.icmpNo X0.here hx rfl (hb hby d1_33) rfl (tlt hb9).2.2.2 ?_
      rw [bz_congr (P := ((¬ ((55295 : Int32) < cx)) ∨ (((¬ (cx < (57344 : Int32))) ∧ (¬ ((65533 : Int32) < cx))) ∨ ((¬ (cx < (65536 : Int32))) ∧ (¬ ((1114111 : Int32) < cx)))))) (Q := (((¬ (cx < (57344 : Int32))) ∧ (¬ ((65533 : Int32) < cx))) ∨ ((¬ (cx < (65536 : Int32))) ∧ (¬ ((1114111 : Int32) < cx))))) (or_iff_right (not_not_intro hb9))] at k
      show Steps p.tables e below (s₁.setTop (mkF m 36 #[.val (.int cx)] [])) _
      refine XS.iloadN X0.here hx rfl (hb hby d1_36) rfl ?_
      refine X0.ldcInt hx hown (mvT hZ (hw _ (List.mem_of_getElem? (i := 20) rfl))) (g := (mkF m 37 #[.val (.int cx)] [(.int cx)])) rfl (hb hby d1_37) _ ?_
      exact tl17 fs k
    · refine XS.icmpYes X0.here hx rfl (pc0 := 33) (pc' := 60) rfl (hb hby d1_33) rfl (flt hb9).2.2.2 (by decide) (by decide) ?_
      rw [bz_one (P := ((¬ ((55295 : Int32) < cx)) ∨ (((¬ (cx < (57344 : Int32))) ∧ (¬ ((65533 : Int32) < cx))) ∨ ((¬ (cx < (65536 : Int32))) ∧ (¬ ((1114111 : Int32) < cx)))))) (iff_true_intro (Or.inl hb9))] at k
      show Steps p.tables e below (s₁.setTop (mkF m 60 #[.val (.int cx)] [])) _
      refine XS.iconst X0.here hx rfl (hb hby d1_60) ?_
      refine XS.goto X0.here hx rfl (pc0 := 61) (pc' := 65) rfl (hb hby d1_61) (by decide) (by decide) ?_
      exact retN X0 hx (t := .boolean) Bd.returns (by simp) (hb hby d1_65) k
  have tl19 : ∀ fs, (∀ (f : JFrame) (acts : List Action), f.method = m → f.locked = none → f.entered = [] → (doReturn e (s₁.setTop f) acts (some (.int (bz (if cx < (32 : Int32) then ((cx = (9 : Int32)) ∨ ((cx = (10 : Int32)) ∨ (cx = (13 : Int32)))) else ((¬ ((55295 : Int32) < cx)) ∨ (((¬ (cx < (57344 : Int32))) ∧ (¬ ((65533 : Int32) < cx))) ∨ ((¬ (cx < (65536 : Int32))) ∧ (¬ ((1114111 : Int32) < cx)))))))))).1 = s₁.setFrames fs) → Steps p.tables e below (s₁.setTop (mkF m 3 #[.val (.int cx)] [(.int (32 : Int32)), (.int cx)])) (s₁.setFrames fs) := fun fs k => by
    by_cases hb2 : cx < (32 : Int32)
    · refine XS.icmpNo X0.here hx rfl (hb hby d1_3) rfl (tlt hb2).2.1 ?_
      rw [bz_congr (P := (if cx < (32 : Int32) then ((cx = (9 : Int32)) ∨ ((cx = (10 : Int32)) ∨ (cx = (13 : Int32)))) else ((¬ ((55295 : Int32) < cx)) ∨ (((¬ (cx < (57344 : Int32))) ∧ (¬ ((65533 : Int32) < cx))) ∨ ((¬ (cx < (65536 : Int32))) ∧ (¬ ((1114111 : Int32) < cx))))))) (Q := ((cx = (9 : Int32)) ∨ ((cx = (10 : Int32)) ∨ (cx = (13 : Int32))))) (iff_of_eq (if_pos hb2))] at k
      show Steps p.tables e below (s₁.setTop (mkF m 6 #[.val (.int cx)] [])) _
      refine XS.iloadN X0.here hx rfl (hb hby d1_6) rfl ?_
      refine XS.bipush X0.here hx rfl (hb hby d1_7) ?_
      exact tl8 fs k
    · refine XS.icmpYes X0.here hx rfl (pc0 := 3) (pc' := 30) rfl (hb hby d1_3) rfl (flt hb2).2.1 (by decide) (by decide) ?_
      rw [bz_congr (P := (if cx < (32 : Int32) then ((cx = (9 : Int32)) ∨ ((cx = (10 : Int32)) ∨ (cx = (13 : Int32)))) else ((¬ ((55295 : Int32) < cx)) ∨ (((¬ (cx < (57344 : Int32))) ∧ (¬ ((65533 : Int32) < cx))) ∨ ((¬ (cx < (65536 : Int32))) ∧ (¬ ((1114111 : Int32) < cx))))))) (Q := ((¬ ((55295 : Int32) < cx)) ∨ (((¬ (cx < (57344 : Int32))) ∧ (¬ ((65533 : Int32) < cx))) ∨ ((¬ (cx < (65536 : Int32))) ∧ (¬ ((1114111 : Int32) < cx)))))) (iff_of_eq (if_neg hb2))] at k
      show Steps p.tables e below (s₁.setTop (mkF m 30 #[.val (.int cx)] [])) _
      refine XS.iloadN X0.here hx rfl (hb hby d1_30) rfl ?_
      refine X0.ldcInt hx hown (mvT hZ (hw _ (List.mem_of_getElem? (i := 19) rfl))) (g := (mkF m 31 #[.val (.int cx)] [(.int cx)])) rfl (hb hby d1_31) _ ?_
      exact tl18 fs k
  obtain ⟨fs, hr, hrun, hended, hW, hsame⟩ := X0.leave (v := some (.int (bz (if cx < (32 : Int32) then ((cx = (9 : Int32)) ∨ ((cx = (10 : Int32)) ∨ (cx = (13 : Int32)))) else ((¬ ((55295 : Int32) < cx)) ∨ (((¬ (cx < (57344 : Int32))) ∧ (¬ ((65533 : Int32) < cx))) ∨ ((¬ (cx < (65536 : Int32))) ∧ (¬ ((1114111 : Int32) < cx))))))))) (fun h => by rw [Bd.returns] at h; cases h)
  refine ⟨_, _, pre1 _ ?_, hrun, hended, _, _, rfl, ?_, ⟨_, rfl⟩, hW, hsame.mono (by decide) (by decide)⟩
  · skip
    exact tl19 fs hr
  · show Q1 Z cx n0 Rst _ s₁.heap _
    rw [e0]
    exact ⟨(by first | rfl | simp only [F1]), N0, R0⟩
theorem d2_0 : decode method_3_code 0 = .ok (.iload_n 0, 1) := by decide +kernel
theorem d2_1 : decode method_3_code 1 = .ok (.ifCond .lt 9, 3) := by decide +kernel
theorem d2_10 : decode method_3_code 10 = .ok (.iconst 1, 1) := by decide +kernel
theorem d2_11 : decode method_3_code 11 = .ok (.goto 4, 3) := by decide +kernel
theorem d2_4 : decode method_3_code 4 = .ok (.iload_n 0, 1) := by decide +kernel
theorem d2_5 : decode method_3_code 5 = .ok (.ldc 11, 2) := by decide +kernel
theorem d2_7 : decode method_3_code 7 = .ok (.if_icmp .le 7, 3) := by decide +kernel
theorem d2_14 : decode method_3_code 14 = .ok (.iconst 0, 1) := by decide +kernel
theorem d2_15 : decode method_3_code 15 = .ok (.istore_n 1, 1) := by decide +kernel
theorem d2_16 : decode method_3_code 16 = .ok (.iload_n 0, 1) := by decide +kernel
theorem d2_17 : decode method_3_code 17 = .ok (.ifCond .lt 31, 3) := by decide +kernel
theorem d2_48 : decode method_3_code 48 = .ok (.iconst 0, 1) := by decide +kernel
theorem d2_20 : decode method_3_code 20 = .ok (.iload_n 0, 1) := by decide +kernel
theorem d2_21 : decode method_3_code 21 = .ok (.bipush 32, 2) := by decide +kernel
theorem d2_23 : decode method_3_code 23 = .ok (.if_icmp .ge 25, 3) := by decide +kernel
theorem d2_26 : decode method_3_code 26 = .ok (.iload_n 0, 1) := by decide +kernel
theorem d2_27 : decode method_3_code 27 = .ok (.bipush 9, 2) := by decide +kernel
theorem d2_29 : decode method_3_code 29 = .ok (.if_icmp .eq 19, 3) := by decide +kernel
theorem d2_32 : decode method_3_code 32 = .ok (.iload_n 0, 1) := by decide +kernel
theorem d2_33 : decode method_3_code 33 = .ok (.bipush 10, 2) := by decide +kernel
theorem d2_35 : decode method_3_code 35 = .ok (.if_icmp .eq 13, 3) := by decide +kernel
theorem d2_38 : decode method_3_code 38 = .ok (.iload_n 0, 1) := by decide +kernel
theorem d2_39 : decode method_3_code 39 = .ok (.bipush 13, 2) := by decide +kernel
theorem d2_41 : decode method_3_code 41 = .ok (.if_icmp .eq 7, 3) := by decide +kernel
theorem d2_44 : decode method_3_code 44 = .ok (.iconst 1, 1) := by decide +kernel
theorem d2_45 : decode method_3_code 45 = .ok (.goto 4, 3) := by decide +kernel
theorem d2_49 : decode method_3_code 49 = .ok (.istore_n 2, 1) := by decide +kernel
theorem d2_50 : decode method_3_code 50 = .ok (.iload_n 0, 1) := by decide +kernel
theorem d2_51 : decode method_3_code 51 = .ok (.ldc 28, 2) := by decide +kernel
theorem d2_53 : decode method_3_code 53 = .ok (.if_icmp .lt 13, 3) := by decide +kernel
theorem d2_66 : decode method_3_code 66 = .ok (.iconst 0, 1) := by decide +kernel
theorem d2_56 : decode method_3_code 56 = .ok (.iload_n 0, 1) := by decide +kernel
theorem d2_57 : decode method_3_code 57 = .ok (.ldc 8, 2) := by decide +kernel
theorem d2_59 : decode method_3_code 59 = .ok (.if_icmp .gt 7, 3) := by decide +kernel
theorem d2_62 : decode method_3_code 62 = .ok (.iconst 1, 1) := by decide +kernel
theorem d2_63 : decode method_3_code 63 = .ok (.goto 4, 3) := by decide +kernel
theorem d2_67 : decode method_3_code 67 = .ok (.istore_n 3, 1) := by decide +kernel
theorem d2_68 : decode method_3_code 68 = .ok (.iload_n 0, 1) := by decide +kernel
theorem d2_69 : decode method_3_code 69 = .ok (.ldc 29, 2) := by decide +kernel
theorem d2_71 : decode method_3_code 71 = .ok (.if_icmp .eq 9, 3) := by decide +kernel
theorem d2_80 : decode method_3_code 80 = .ok (.iconst 1, 1) := by decide +kernel
theorem d2_81 : decode method_3_code 81 = .ok (.goto 4, 3) := by decide +kernel
theorem d2_74 : decode method_3_code 74 = .ok (.iload_n 0, 1) := by decide +kernel
theorem d2_75 : decode method_3_code 75 = .ok (.ldc 10, 2) := by decide +kernel
theorem d2_77 : decode method_3_code 77 = .ok (.if_icmp .ne 7, 3) := by decide +kernel
theorem d2_84 : decode method_3_code 84 = .ok (.iconst 0, 1) := by decide +kernel
theorem d2_85 : decode method_3_code 85 = .ok (.istore 4, 2) := by decide +kernel
theorem d2_87 : decode method_3_code 87 = .ok (.iload_n 1, 1) := by decide +kernel
theorem d2_88 : decode method_3_code 88 = .ok (.ifCond .ne 20, 3) := by decide +kernel
theorem d2_108 : decode method_3_code 108 = .ok (.iconst 0, 1) := by decide +kernel
theorem d2_91 : decode method_3_code 91 = .ok (.iload_n 2, 1) := by decide +kernel
theorem d2_92 : decode method_3_code 92 = .ok (.ifCond .ne 16, 3) := by decide +kernel
theorem d2_95 : decode method_3_code 95 = .ok (.iload_n 3, 1) := by decide +kernel
theorem d2_96 : decode method_3_code 96 = .ok (.ifCond .ne 12, 3) := by decide +kernel
theorem d2_99 : decode method_3_code 99 = .ok (.iload 4, 2) := by decide +kernel
theorem d2_101 : decode method_3_code 101 = .ok (.ifCond .ne 7, 3) := by decide +kernel
theorem d2_104 : decode method_3_code 104 = .ok (.iconst 1, 1) := by decide +kernel
theorem d2_105 : decode method_3_code 105 = .ok (.goto 4, 3) := by decide +kernel
theorem d2_109 : decode method_3_code 109 = .ok (.ireturn, 1) := by decide +kernel
theorem pn_com_example_taggen_taggen_XmlCharsIsCharPinLaw : plainName "com/example/taggen/taggen/XmlCharsIsCharPinLaw" = true := by first | (simp [plainName, overriddenIn]; done) | decide +kernel
theorem ef_2 (m : MethodId) (x0 : Int32) : entryFrame m #[(.int x0)] 5 = mkF m 0 #[.val (.int x0), .unset, .unset, .unset, .unset] [] := by first | (simp [entryFrame, mkF, argsToLocals, Value.category]; done) | rfl
def F2 (cx : Int32) : Int32 :=
  (bz ((¬ (((cx < (0 : Int32)) ∨ ((1114111 : Int32) < cx)))) ∧ ((¬ (((¬ (cx < (0 : Int32))) ∧ ((cx < (32 : Int32)) ∧ ((¬ (cx = (9 : Int32))) ∧ ((¬ (cx = (10 : Int32))) ∧ (¬ (cx = (13 : Int32))))))))) ∧ ((¬ (((¬ (cx < (55296 : Int32))) ∧ (¬ ((57343 : Int32) < cx))))) ∧ (¬ (((cx = (65534 : Int32)) ∨ (cx = (65535 : Int32)))))))))
def Q2 (Z : State) (cx : Int32) (n0 : Nat) (Rst : RL) (v : Option Value) (h : Heap) (L : List Loc) : Prop := v = some (.int (F2 cx)) ∧ Fr n0 L ∧ Rep Z n0 h (Rst)
set_option maxRecDepth 65536 in
set_option maxHeartbeats 40000000 in
theorem rm2 (l : Launch) (Z : State) (a0 : Array Value) (hw : ∀ d ∈ tables_1, d.before a0 Z = true) (ws : List Jvm.Cond) (cx : Int32) (h0 : Heap) (n0 : Nat) (Rst : RL) (R0 : Rep Z n0 h0 (Rst)) :
    MetFree l (⟨"com/example/taggen/taggen/XmlCharsIsCharPinLaw", "expected", "(I)Z"⟩ : MethodName) (head1 (Jvm.Cond.code (⟨"com/example/taggen/taggen/XmlCharsIsCharPinLaw", "expected", "(I)Z"⟩ : MethodName) method_3_code 5 (some .boolean) :: ws) ({ frames := 0, cells := 0, slots := 0, locals := 0 } : Room)) (fun a U => a = #[(.int cx)] ∧ Z.Warmed39 U.vm ∧ U.heap = h0) (fun _ _ _ _ _ => True) (fun _ U o U' => ∃ v L, o = .returned v ∧ Q2 Z cx n0 Rst v U'.heap L ∧ FrameEnd U o U' L ({ frames := 0, cells := 0, slots := 0, locals := 0 } : Room).cells ({ frames := 0, cells := 0, slots := 0, locals := 0 } : Room).slots) := by
  refine MetFree.of_bodySF (plainFor_of_name pn_com_example_taggen_taggen_XmlCharsIsCharPinLaw) hisR ?_
  intro p e s m args below meth c s₁ Bd hml0 hP hK
  obtain ⟨rfl, hZ, hh⟩ := hP
  have hx := Bd.exec
  have hby := Bd.bytes
  have hml : c.maxLocals = 5 := hml0
  have hown : s.vm.findClass "com/example/taggen/taggen/XmlCharsIsCharPinLaw" = some m.cls := findClass_of_methodNamed Bd.named
  have hnm := (name_of_methodNamed Bd.named Bd.method).1
  have X0 : Stand p l e ({ frames := 0, cells := 0, slots := 0, locals := 0 } : Room) s m #[(.int cx)] below meth c s₁ [] 0 0 := Stand.of_body Bd
  have e0 : s₁.heap = h0 := by rw [← hh, Bd.state]; rfl
  have N0 := Fr.nil n0
  have pre0 : ∀ t, Steps p.tables e below (s₁.setTop (mkF m 0 #[.val (.int cx), .unset, .unset, .unset, .unset] [])) t → Steps p.tables e below (s₁.setTop (entryFrame m #[(.int cx)] 5)) t := fun t k => castTop (ef_2 m cx) k
  have pre5 : ∀ t, Steps p.tables e below (s₁.setTop (mkF m 1 #[.val (.int cx), .unset, .unset, .unset, .unset] [(.int cx)])) t → Steps p.tables e below (s₁.setTop (entryFrame m #[(.int cx)] 5)) t := fun t k => pre0 t (by
    show Steps p.tables e below (s₁.setTop (mkF m 0 #[.val (.int cx), .unset, .unset, .unset, .unset] [])) _
    refine XS.iloadN X0.here hx rfl (hb hby d2_0) rfl ?_
    exact k)
  have tl3 : ∀ t, Steps p.tables e below (s₁.setTop (mkF m 15 #[.val (.int cx), .unset, .unset, .unset, .unset] [(.int (bz ((1114111 : Int32) < cx)))])) t → Steps p.tables e below (s₁.setTop (mkF m 7 #[.val (.int cx), .unset, .unset, .unset, .unset] [(.int (1114111 : Int32)), (.int cx)])) t := fun t k => by
    by_cases hb2 : (1114111 : Int32) < cx
    · refine XS.icmpNo X0.here hx rfl (hb hby d2_7) rfl (tlt hb2).2.2.2 ?_
      rw [bz_one (P := ((1114111 : Int32) < cx)) (iff_true_intro hb2)] at k
      show Steps p.tables e below (s₁.setTop (mkF m 10 #[.val (.int cx), .unset, .unset, .unset, .unset] [])) _
      refine XS.iconst X0.here hx rfl (hb hby d2_10) ?_
      refine XS.goto X0.here hx rfl (pc0 := 11) (pc' := 15) rfl (hb hby d2_11) (by decide) (by decide) ?_
      exact k
    · refine XS.icmpYes X0.here hx rfl (pc0 := 7) (pc' := 14) rfl (hb hby d2_7) rfl (flt hb2).2.2.2 (by decide) (by decide) ?_
      rw [bz_zero (P := ((1114111 : Int32) < cx)) (iff_false_intro hb2)] at k
      show Steps p.tables e below (s₁.setTop (mkF m 14 #[.val (.int cx), .unset, .unset, .unset, .unset] [])) _
      refine XS.iconst X0.here hx rfl (hb hby d2_14) ?_
      exact k
  have tl4 : ∀ t, Steps p.tables e below (s₁.setTop (mkF m 15 #[.val (.int cx), .unset, .unset, .unset, .unset] [(.int (bz ((cx < (0 : Int32)) ∨ ((1114111 : Int32) < cx))))])) t → Steps p.tables e below (s₁.setTop (mkF m 1 #[.val (.int cx), .unset, .unset, .unset, .unset] [(.int cx)])) t := fun t k => by
    by_cases hb1 : cx < (0 : Int32)
    · refine XS.ifYes X0.here hx rfl (pc0 := 1) (pc' := 10) rfl (hb hby d2_1) rfl ((if0 _ _).trans (tlt hb1).1) (by decide) (by decide) ?_
      rw [bz_one (P := ((cx < (0 : Int32)) ∨ ((1114111 : Int32) < cx))) (iff_true_intro (Or.inl hb1))] at k
      show Steps p.tables e below (s₁.setTop (mkF m 10 #[.val (.int cx), .unset, .unset, .unset, .unset] [])) _
      refine XS.iconst X0.here hx rfl (hb hby d2_10) ?_
      refine XS.goto X0.here hx rfl (pc0 := 11) (pc' := 15) rfl (hb hby d2_11) (by decide) (by decide) ?_
      exact k
    · refine XS.ifNo X0.here hx rfl (hb hby d2_1) rfl ((if0 _ _).trans (flt hb1).1) ?_
      rw [bz_congr (P := ((cx < (0 : Int32)) ∨ ((1114111 : Int32) < cx))) (Q := ((1114111 : Int32) < cx)) (or_iff_right hb1)] at k
      show Steps p.tables e below (s₁.setTop (mkF m 4 #[.val (.int cx), .unset, .unset, .unset, .unset] [])) _
      refine XS.iloadN X0.here hx rfl (hb hby d2_4) rfl ?_
      refine X0.ldcInt hx hown (mvT hZ (hw _ (List.mem_of_getElem? (i := 5) rfl))) (g := (mkF m 5 #[.val (.int cx), .unset, .unset, .unset, .unset] [(.int cx)])) rfl (hb hby d2_5) _ ?_
      exact tl3 t k
  have pre6 : ∀ t, Steps p.tables e below (s₁.setTop (mkF m 15 #[.val (.int cx), .unset, .unset, .unset, .unset] [(.int (bz ((cx < (0 : Int32)) ∨ ((1114111 : Int32) < cx))))])) t → Steps p.tables e below (s₁.setTop (entryFrame m #[(.int cx)] 5)) t := fun t k => pre5 t (by
    exact tl4 t k)
  have pre17 : ∀ t, Steps p.tables e below (s₁.setTop (mkF m 17 #[.val (.int cx), .val (.int (bz ((cx < (0 : Int32)) ∨ ((1114111 : Int32) < cx)))), .unset, .unset, .unset] [(.int cx)])) t → Steps p.tables e below (s₁.setTop (entryFrame m #[(.int cx)] 5)) t := fun t k => pre6 t (by
    show Steps p.tables e below (s₁.setTop (mkF m 15 #[.val (.int cx), .unset, .unset, .unset, .unset] [(.int (bz ((cx < (0 : Int32)) ∨ ((1114111 : Int32) < cx))))])) _
    refine XS.istoreN X0.here hx rfl (hb hby d2_15) rfl (l' := #[.val (.int cx), .val (.int (bz ((cx < (0 : Int32)) ∨ ((1114111 : Int32) < cx)))), .unset, .unset, .unset]) rfl ?_
    refine XS.iloadN X0.here hx rfl (hb hby d2_16) rfl ?_
    exact k)
  have tl12 : ∀ t, Steps p.tables e below (s₁.setTop (mkF m 49 #[.val (.int cx), .val (.int (bz ((cx < (0 : Int32)) ∨ ((1114111 : Int32) < cx)))), .unset, .unset, .unset] [(.int (bz (¬ (cx = (13 : Int32)))))])) t → Steps p.tables e below (s₁.setTop (mkF m 41 #[.val (.int cx), .val (.int (bz ((cx < (0 : Int32)) ∨ ((1114111 : Int32) < cx)))), .unset, .unset, .unset] [(.int (13 : Int32)), (.int cx)])) t := fun t k => by
    by_cases hb11 : cx = (13 : Int32)
    · refine XS.icmpYes X0.here hx rfl (pc0 := 41) (pc' := 48) rfl (hb hby d2_41) rfl (teq hb11).1 (by decide) (by decide) ?_
      rw [bz_zero (P := (¬ (cx = (13 : Int32)))) (iff_false_intro (not_not_intro hb11))] at k
      show Steps p.tables e below (s₁.setTop (mkF m 48 #[.val (.int cx), .val (.int (bz ((cx < (0 : Int32)) ∨ ((1114111 : Int32) < cx)))), .unset, .unset, .unset] [])) _
      refine XS.iconst X0.here hx rfl (hb hby d2_48) ?_
      exact k
    · refine XS.icmpNo X0.here hx rfl (hb hby d2_41) rfl (feq hb11).1 ?_
      rw [bz_one (P := (¬ (cx = (13 : Int32)))) (iff_true_intro hb11)] at k
      show Steps p.tables e below (s₁.setTop (mkF m 44 #[.val (.int cx), .val (.int (bz ((cx < (0 : Int32)) ∨ ((1114111 : Int32) < cx)))), .unset, .unset, .unset] [])) _
      refine XS.iconst X0.here hx rfl (hb hby d2_44) ?_
      refine XS.goto X0.here hx rfl (pc0 := 45) (pc' := 49) rfl (hb hby d2_45) (by decide) (by decide) ?_
      exact k
  have tl13 : ∀ t, Steps p.tables e below (s₁.setTop (mkF m 49 #[.val (.int cx), .val (.int (bz ((cx < (0 : Int32)) ∨ ((1114111 : Int32) < cx)))), .unset, .unset, .unset] [(.int (bz ((¬ (cx = (10 : Int32))) ∧ (¬ (cx = (13 : Int32))))))])) t → Steps p.tables e below (s₁.setTop (mkF m 35 #[.val (.int cx), .val (.int (bz ((cx < (0 : Int32)) ∨ ((1114111 : Int32) < cx)))), .unset, .unset, .unset] [(.int (10 : Int32)), (.int cx)])) t := fun t k => by
    by_cases hb10 : cx = (10 : Int32)
    · refine XS.icmpYes X0.here hx rfl (pc0 := 35) (pc' := 48) rfl (hb hby d2_35) rfl (teq hb10).1 (by decide) (by decide) ?_
      rw [bz_zero (P := ((¬ (cx = (10 : Int32))) ∧ (¬ (cx = (13 : Int32))))) (iff_false_intro (fun q => q.1 hb10))] at k
      show Steps p.tables e below (s₁.setTop (mkF m 48 #[.val (.int cx), .val (.int (bz ((cx < (0 : Int32)) ∨ ((1114111 : Int32) < cx)))), .unset, .unset, .unset] [])) _
      refine XS.iconst X0.here hx rfl (hb hby d2_48) ?_
      exact k
    · refine XS.icmpNo X0.here hx rfl (hb hby d2_35) rfl (feq hb10).1 ?_
      rw [bz_congr (P := ((¬ (cx = (10 : Int32))) ∧ (¬ (cx = (13 : Int32))))) (Q := (¬ (cx = (13 : Int32)))) (and_iff_right hb10)] at k
      show Steps p.tables e below (s₁.setTop (mkF m 38 #[.val (.int cx), .val (.int (bz ((cx < (0 : Int32)) ∨ ((1114111 : Int32) < cx)))), .unset, .unset, .unset] [])) _
      refine XS.iloadN X0.here hx rfl (hb hby d2_38) rfl ?_
      refine XS.bipush X0.here hx rfl (hb hby d2_39) ?_
      exact tl12 t k
  have tl14 : ∀ t, Steps p.tables e below (s₁.setTop (mkF m 49 #[.val (.int cx), .val (.int (bz ((cx < (0 : Int32)) ∨ ((1114111 : Int32) < cx)))), .unset, .unset, .unset] [(.int (bz ((¬ (cx = (9 : Int32))) ∧ ((¬ (cx = (10 : Int32))) ∧ (¬ (cx = (13 : Int32)))))))])) t → Steps p.tables e below (s₁.setTop (mkF m 29 #[.val (.int cx), .val (.int (bz ((cx < (0 : Int32)) ∨ ((1114111 : Int32) < cx)))), .unset, .unset, .unset] [(.int (9 : Int32)), (.int cx)])) t := fun t k => by
    by_cases hb9 : cx = (9 : Int32)
    · refine XS.icmpYes X0.here hx rfl (pc0 := 29) (pc' := 48) rfl (hb hby d2_29) rfl (teq hb9).1 (by decide) (by decide) ?_
      rw [bz_zero (P := ((¬ (cx = (9 : Int32))) ∧ ((¬ (cx = (10 : Int32))) ∧ (¬ (cx = (13 : Int32)))))) (iff_false_intro (fun q => q.1 hb9))] at k
      show Steps p.tables e below (s₁.setTop (mkF m 48 #[.val (.int cx), .val (.int (bz ((cx < (0 : Int32)) ∨ ((1114111 : Int32) < cx)))), .unset, .unset, .unset] [])) _
      refine XS.iconst X0.here hx rfl (hb hby d2_48) ?_
      exact k
    · refine XS.icmpNo X0.here hx rfl (hb hby d2_29) rfl (feq hb9).1 ?_
      rw [bz_congr (P := ((¬ (cx = (9 : Int32))) ∧ ((¬ (cx = (10 : Int32))) ∧ (¬ (cx = (13 : Int32)))))) (Q := ((¬ (cx = (10 : Int32))) ∧ (¬ (cx = (13 : Int32))))) (and_iff_right hb9)] at k
      show Steps p.tables e below (s₁.setTop (mkF m 32 #[.val (.int cx), .val (.int (bz ((cx < (0 : Int32)) ∨ ((1114111 : Int32) < cx)))), .unset, .unset, .unset] [])) _
      refine XS.iloadN X0.here hx rfl (hb hby d2_32) rfl ?_
      refine XS.bipush X0.here hx rfl (hb hby d2_33) ?_
      exact tl13 t k
  have tl15 : ∀ t, Steps p.tables e below (s₁.setTop (mkF m 49 #[.val (.int cx), .val (.int (bz ((cx < (0 : Int32)) ∨ ((1114111 : Int32) < cx)))), .unset, .unset, .unset] [(.int (bz ((cx < (32 : Int32)) ∧ ((¬ (cx = (9 : Int32))) ∧ ((¬ (cx = (10 : Int32))) ∧ (¬ (cx = (13 : Int32))))))))])) t → Steps p.tables e below (s₁.setTop (mkF m 23 #[.val (.int cx), .val (.int (bz ((cx < (0 : Int32)) ∨ ((1114111 : Int32) < cx)))), .unset, .unset, .unset] [(.int (32 : Int32)), (.int cx)])) t := fun t k => by
    by_cases hb8 : cx < (32 : Int32)
    · refine XS.icmpNo X0.here hx rfl (hb hby d2_23) rfl (tlt hb8).2.1 ?_
      rw [bz_congr (P := ((cx < (32 : Int32)) ∧ ((¬ (cx = (9 : Int32))) ∧ ((¬ (cx = (10 : Int32))) ∧ (¬ (cx = (13 : Int32))))))) (Q := ((¬ (cx = (9 : Int32))) ∧ ((¬ (cx = (10 : Int32))) ∧ (¬ (cx = (13 : Int32)))))) (and_iff_right hb8)] at k
      show Steps p.tables e below (s₁.setTop (mkF m 26 #[.val (.int cx), .val (.int (bz ((cx < (0 : Int32)) ∨ ((1114111 : Int32) < cx)))), .unset, .unset, .unset] [])) _
      refine XS.iloadN X0.here hx rfl (hb hby d2_26) rfl ?_
      refine XS.bipush X0.here hx rfl (hb hby d2_27) ?_
      exact tl14 t k
    · refine XS.icmpYes X0.here hx rfl (pc0 := 23) (pc' := 48) rfl (hb hby d2_23) rfl (flt hb8).2.1 (by decide) (by decide) ?_
      rw [bz_zero (P := ((cx < (32 : Int32)) ∧ ((¬ (cx = (9 : Int32))) ∧ ((¬ (cx = (10 : Int32))) ∧ (¬ (cx = (13 : Int32))))))) (iff_false_intro (fun q => hb8 q.1))] at k
      show Steps p.tables e below (s₁.setTop (mkF m 48 #[.val (.int cx), .val (.int (bz ((cx < (0 : Int32)) ∨ ((1114111 : Int32) < cx)))), .unset, .unset, .unset] [])) _
      refine XS.iconst X0.here hx rfl (hb hby d2_48) ?_
      exact k
  have tl16 : ∀ t, Steps p.tables e below (s₁.setTop (mkF m 49 #[.val (.int cx), .val (.int (bz ((cx < (0 : Int32)) ∨ ((1114111 : Int32) < cx)))), .unset, .unset, .unset] [(.int (bz ((¬ (cx < (0 : Int32))) ∧ ((cx < (32 : Int32)) ∧ ((¬ (cx = (9 : Int32))) ∧ ((¬ (cx = (10 : Int32))) ∧ (¬ (cx = (13 : Int32)))))))))])) t → Steps p.tables e below (s₁.setTop (mkF m 17 #[.val (.int cx), .val (.int (bz ((cx < (0 : Int32)) ∨ ((1114111 : Int32) < cx)))), .unset, .unset, .unset] [(.int cx)])) t := fun t k => by
    by_cases hb7 : cx < (0 : Int32)
    · refine XS.ifYes X0.here hx rfl (pc0 := 17) (pc' := 48) rfl (hb hby d2_17) rfl ((if0 _ _).trans (tlt hb7).1) (by decide) (by decide) ?_
      rw [bz_zero (P := ((¬ (cx < (0 : Int32))) ∧ ((cx < (32 : Int32)) ∧ ((¬ (cx = (9 : Int32))) ∧ ((¬ (cx = (10 : Int32))) ∧ (¬ (cx = (13 : Int32)))))))) (iff_false_intro (fun q => q.1 hb7))] at k
      show Steps p.tables e below (s₁.setTop (mkF m 48 #[.val (.int cx), .val (.int (bz ((cx < (0 : Int32)) ∨ ((1114111 : Int32) < cx)))), .unset, .unset, .unset] [])) _
      refine XS.iconst X0.here hx rfl (hb hby d2_48) ?_
      exact k
    · refine XS.ifNo X0.here hx rfl (hb hby d2_17) rfl ((if0 _ _).trans (flt hb7).1) ?_
      rw [bz_congr (P := ((¬ (cx < (0 : Int32))) ∧ ((cx < (32 : Int32)) ∧ ((¬ (cx = (9 : Int32))) ∧ ((¬ (cx = (10 : Int32))) ∧ (¬ (cx = (13 : Int32)))))))) (Q := ((cx < (32 : Int32)) ∧ ((¬ (cx = (9 : Int32))) ∧ ((¬ (cx = (10 : Int32))) ∧ (¬ (cx = (13 : Int32))))))) (and_iff_right hb7)] at k
      show Steps p.tables e below (s₁.setTop (mkF m 20 #[.val (.int cx), .val (.int (bz ((cx < (0 : Int32)) ∨ ((1114111 : Int32) < cx)))), .unset, .unset, .unset] [])) _
      refine XS.iloadN X0.here hx rfl (hb hby d2_20) rfl ?_
      refine XS.bipush X0.here hx rfl (hb hby d2_21) ?_
      exact tl15 t k
  have pre18 : ∀ t, Steps p.tables e below (s₁.setTop (mkF m 49 #[.val (.int cx), .val (.int (bz ((cx < (0 : Int32)) ∨ ((1114111 : Int32) < cx)))), .unset, .unset, .unset] [(.int (bz ((¬ (cx < (0 : Int32))) ∧ ((cx < (32 : Int32)) ∧ ((¬ (cx = (9 : Int32))) ∧ ((¬ (cx = (10 : Int32))) ∧ (¬ (cx = (13 : Int32)))))))))])) t → Steps p.tables e below (s₁.setTop (entryFrame m #[(.int cx)] 5)) t := fun t k => pre17 t (by
    exact tl16 t k)
  have pre23 : ∀ t, Steps p.tables e below (s₁.setTop (mkF m 53 #[.val (.int cx), .val (.int (bz ((cx < (0 : Int32)) ∨ ((1114111 : Int32) < cx)))), .val (.int (bz ((¬ (cx < (0 : Int32))) ∧ ((cx < (32 : Int32)) ∧ ((¬ (cx = (9 : Int32))) ∧ ((¬ (cx = (10 : Int32))) ∧ (¬ (cx = (13 : Int32))))))))), .unset, .unset] [(.int (55296 : Int32)), (.int cx)])) t → Steps p.tables e below (s₁.setTop (entryFrame m #[(.int cx)] 5)) t := fun t k => pre18 t (by
    show Steps p.tables e below (s₁.setTop (mkF m 49 #[.val (.int cx), .val (.int (bz ((cx < (0 : Int32)) ∨ ((1114111 : Int32) < cx)))), .unset, .unset, .unset] [(.int (bz ((¬ (cx < (0 : Int32))) ∧ ((cx < (32 : Int32)) ∧ ((¬ (cx = (9 : Int32))) ∧ ((¬ (cx = (10 : Int32))) ∧ (¬ (cx = (13 : Int32)))))))))])) _
    refine XS.istoreN X0.here hx rfl (hb hby d2_49) rfl (l' := #[.val (.int cx), .val (.int (bz ((cx < (0 : Int32)) ∨ ((1114111 : Int32) < cx)))), .val (.int (bz ((¬ (cx < (0 : Int32))) ∧ ((cx < (32 : Int32)) ∧ ((¬ (cx = (9 : Int32))) ∧ ((¬ (cx = (10 : Int32))) ∧ (¬ (cx = (13 : Int32))))))))), .unset, .unset]) rfl ?_
    refine XS.iloadN X0.here hx rfl (hb hby d2_50) rfl ?_
    refine X0.ldcInt hx hown (mvT hZ (hw _ (List.mem_of_getElem? (i := 17) rfl))) (g := (mkF m 51 #[.val (.int cx), .val (.int (bz ((cx < (0 : Int32)) ∨ ((1114111 : Int32) < cx)))), .val (.int (bz ((¬ (cx < (0 : Int32))) ∧ ((cx < (32 : Int32)) ∧ ((¬ (cx = (9 : Int32))) ∧ ((¬ (cx = (10 : Int32))) ∧ (¬ (cx = (13 : Int32))))))))), .unset, .unset] [(.int cx)])) rfl (hb hby d2_51) _ ?_
    exact k)
  have tl21 : ∀ t, Steps p.tables e below (s₁.setTop (mkF m 67 #[.val (.int cx), .val (.int (bz ((cx < (0 : Int32)) ∨ ((1114111 : Int32) < cx)))), .val (.int (bz ((¬ (cx < (0 : Int32))) ∧ ((cx < (32 : Int32)) ∧ ((¬ (cx = (9 : Int32))) ∧ ((¬ (cx = (10 : Int32))) ∧ (¬ (cx = (13 : Int32))))))))), .unset, .unset] [(.int (bz (¬ ((57343 : Int32) < cx))))])) t → Steps p.tables e below (s₁.setTop (mkF m 59 #[.val (.int cx), .val (.int (bz ((cx < (0 : Int32)) ∨ ((1114111 : Int32) < cx)))), .val (.int (bz ((¬ (cx < (0 : Int32))) ∧ ((cx < (32 : Int32)) ∧ ((¬ (cx = (9 : Int32))) ∧ ((¬ (cx = (10 : Int32))) ∧ (¬ (cx = (13 : Int32))))))))), .unset, .unset] [(.int (57343 : Int32)), (.int cx)])) t := fun t k => by
    by_cases hb20 : (57343 : Int32) < cx
    · refine XS.icmpYes X0.here hx rfl (pc0 := 59) (pc' := 66) rfl (hb hby d2_59) rfl (tlt hb20).2.2.1 (by decide) (by decide) ?_
      rw [bz_zero (P := (¬ ((57343 : Int32) < cx))) (iff_false_intro (not_not_intro hb20))] at k
      show Steps p.tables e below (s₁.setTop (mkF m 66 #[.val (.int cx), .val (.int (bz ((cx < (0 : Int32)) ∨ ((1114111 : Int32) < cx)))), .val (.int (bz ((¬ (cx < (0 : Int32))) ∧ ((cx < (32 : Int32)) ∧ ((¬ (cx = (9 : Int32))) ∧ ((¬ (cx = (10 : Int32))) ∧ (¬ (cx = (13 : Int32))))))))), .unset, .unset] [])) _
      refine XS.iconst X0.here hx rfl (hb hby d2_66) ?_
      exact k
    · refine XS.icmpNo X0.here hx rfl (hb hby d2_59) rfl (flt hb20).2.2.1 ?_
      rw [bz_one (P := (¬ ((57343 : Int32) < cx))) (iff_true_intro hb20)] at k
      show Steps p.tables e below (s₁.setTop (mkF m 62 #[.val (.int cx), .val (.int (bz ((cx < (0 : Int32)) ∨ ((1114111 : Int32) < cx)))), .val (.int (bz ((¬ (cx < (0 : Int32))) ∧ ((cx < (32 : Int32)) ∧ ((¬ (cx = (9 : Int32))) ∧ ((¬ (cx = (10 : Int32))) ∧ (¬ (cx = (13 : Int32))))))))), .unset, .unset] [])) _
      refine XS.iconst X0.here hx rfl (hb hby d2_62) ?_
      refine XS.goto X0.here hx rfl (pc0 := 63) (pc' := 67) rfl (hb hby d2_63) (by decide) (by decide) ?_
      exact k
  have tl22 : ∀ t, Steps p.tables e below (s₁.setTop (mkF m 67 #[.val (.int cx), .val (.int (bz ((cx < (0 : Int32)) ∨ ((1114111 : Int32) < cx)))), .val (.int (bz ((¬ (cx < (0 : Int32))) ∧ ((cx < (32 : Int32)) ∧ ((¬ (cx = (9 : Int32))) ∧ ((¬ (cx = (10 : Int32))) ∧ (¬ (cx = (13 : Int32))))))))), .unset, .unset] [(.int (bz ((¬ (cx < (55296 : Int32))) ∧ (¬ ((57343 : Int32) < cx)))))])) t → Steps p.tables e below (s₁.setTop (mkF m 53 #[.val (.int cx), .val (.int (bz ((cx < (0 : Int32)) ∨ ((1114111 : Int32) < cx)))), .val (.int (bz ((¬ (cx < (0 : Int32))) ∧ ((cx < (32 : Int32)) ∧ ((¬ (cx = (9 : Int32))) ∧ ((¬ (cx = (10 : Int32))) ∧ (¬ (cx = (13 : Int32))))))))), .unset, .unset] [(.int (55296 : Int32)), (.int cx)])) t := fun t k => by
    by_cases hb19 : cx < (55296 : Int32)
    · refine XS.icmpYes X0.here hx rfl (pc0 := 53) (pc' := 66) rfl (hb hby d2_53) rfl (tlt hb19).1 (by decide) (by decide) ?_
      rw [bz_zero (P := ((¬ (cx < (55296 : Int32))) ∧ (¬ ((57343 : Int32) < cx)))) (iff_false_intro (fun q => q.1 hb19))] at k
      show Steps p.tables e below (s₁.setTop (mkF m 66 #[.val (.int cx), .val (.int (bz ((cx < (0 : Int32)) ∨ ((1114111 : Int32) < cx)))), .val (.int (bz ((¬ (cx < (0 : Int32))) ∧ ((cx < (32 : Int32)) ∧ ((¬ (cx = (9 : Int32))) ∧ ((¬ (cx = (10 : Int32))) ∧ (¬ (cx = (13 : Int32))))))))), .unset, .unset] [])) _
      refine XS.iconst X0.here hx rfl (hb hby d2_66) ?_
      exact k
    · refine XS.icmpNo X0.here hx rfl (hb hby d2_53) rfl (flt hb19).1 ?_
      rw [bz_congr (P := ((¬ (cx < (55296 : Int32))) ∧ (¬ ((57343 : Int32) < cx)))) (Q := (¬ ((57343 : Int32) < cx))) (and_iff_right hb19)] at k
      show Steps p.tables e below (s₁.setTop (mkF m 56 #[.val (.int cx), .val (.int (bz ((cx < (0 : Int32)) ∨ ((1114111 : Int32) < cx)))), .val (.int (bz ((¬ (cx < (0 : Int32))) ∧ ((cx < (32 : Int32)) ∧ ((¬ (cx = (9 : Int32))) ∧ ((¬ (cx = (10 : Int32))) ∧ (¬ (cx = (13 : Int32))))))))), .unset, .unset] [])) _
      refine XS.iloadN X0.here hx rfl (hb hby d2_56) rfl ?_
      refine X0.ldcInt hx hown (mvT hZ (hw _ (List.mem_of_getElem? (i := 2) rfl))) (g := (mkF m 57 #[.val (.int cx), .val (.int (bz ((cx < (0 : Int32)) ∨ ((1114111 : Int32) < cx)))), .val (.int (bz ((¬ (cx < (0 : Int32))) ∧ ((cx < (32 : Int32)) ∧ ((¬ (cx = (9 : Int32))) ∧ ((¬ (cx = (10 : Int32))) ∧ (¬ (cx = (13 : Int32))))))))), .unset, .unset] [(.int cx)])) rfl (hb hby d2_57) _ ?_
      exact tl21 t k
  have pre24 : ∀ t, Steps p.tables e below (s₁.setTop (mkF m 67 #[.val (.int cx), .val (.int (bz ((cx < (0 : Int32)) ∨ ((1114111 : Int32) < cx)))), .val (.int (bz ((¬ (cx < (0 : Int32))) ∧ ((cx < (32 : Int32)) ∧ ((¬ (cx = (9 : Int32))) ∧ ((¬ (cx = (10 : Int32))) ∧ (¬ (cx = (13 : Int32))))))))), .unset, .unset] [(.int (bz ((¬ (cx < (55296 : Int32))) ∧ (¬ ((57343 : Int32) < cx)))))])) t → Steps p.tables e below (s₁.setTop (entryFrame m #[(.int cx)] 5)) t := fun t k => pre23 t (by
    exact tl22 t k)
  have pre29 : ∀ t, Steps p.tables e below (s₁.setTop (mkF m 71 #[.val (.int cx), .val (.int (bz ((cx < (0 : Int32)) ∨ ((1114111 : Int32) < cx)))), .val (.int (bz ((¬ (cx < (0 : Int32))) ∧ ((cx < (32 : Int32)) ∧ ((¬ (cx = (9 : Int32))) ∧ ((¬ (cx = (10 : Int32))) ∧ (¬ (cx = (13 : Int32))))))))), .val (.int (bz ((¬ (cx < (55296 : Int32))) ∧ (¬ ((57343 : Int32) < cx))))), .unset] [(.int (65534 : Int32)), (.int cx)])) t → Steps p.tables e below (s₁.setTop (entryFrame m #[(.int cx)] 5)) t := fun t k => pre24 t (by
    show Steps p.tables e below (s₁.setTop (mkF m 67 #[.val (.int cx), .val (.int (bz ((cx < (0 : Int32)) ∨ ((1114111 : Int32) < cx)))), .val (.int (bz ((¬ (cx < (0 : Int32))) ∧ ((cx < (32 : Int32)) ∧ ((¬ (cx = (9 : Int32))) ∧ ((¬ (cx = (10 : Int32))) ∧ (¬ (cx = (13 : Int32))))))))), .unset, .unset] [(.int (bz ((¬ (cx < (55296 : Int32))) ∧ (¬ ((57343 : Int32) < cx)))))])) _
    refine XS.istoreN X0.here hx rfl (hb hby d2_67) rfl (l' := #[.val (.int cx), .val (.int (bz ((cx < (0 : Int32)) ∨ ((1114111 : Int32) < cx)))), .val (.int (bz ((¬ (cx < (0 : Int32))) ∧ ((cx < (32 : Int32)) ∧ ((¬ (cx = (9 : Int32))) ∧ ((¬ (cx = (10 : Int32))) ∧ (¬ (cx = (13 : Int32))))))))), .val (.int (bz ((¬ (cx < (55296 : Int32))) ∧ (¬ ((57343 : Int32) < cx))))), .unset]) rfl ?_
    refine XS.iloadN X0.here hx rfl (hb hby d2_68) rfl ?_
    refine X0.ldcInt hx hown (mvT hZ (hw _ (List.mem_of_getElem? (i := 18) rfl))) (g := (mkF m 69 #[.val (.int cx), .val (.int (bz ((cx < (0 : Int32)) ∨ ((1114111 : Int32) < cx)))), .val (.int (bz ((¬ (cx < (0 : Int32))) ∧ ((cx < (32 : Int32)) ∧ ((¬ (cx = (9 : Int32))) ∧ ((¬ (cx = (10 : Int32))) ∧ (¬ (cx = (13 : Int32))))))))), .val (.int (bz ((¬ (cx < (55296 : Int32))) ∧ (¬ ((57343 : Int32) < cx))))), .unset] [(.int cx)])) rfl (hb hby d2_69) _ ?_
    exact k)
  have tl27 : ∀ t, Steps p.tables e below (s₁.setTop (mkF m 85 #[.val (.int cx), .val (.int (bz ((cx < (0 : Int32)) ∨ ((1114111 : Int32) < cx)))), .val (.int (bz ((¬ (cx < (0 : Int32))) ∧ ((cx < (32 : Int32)) ∧ ((¬ (cx = (9 : Int32))) ∧ ((¬ (cx = (10 : Int32))) ∧ (¬ (cx = (13 : Int32))))))))), .val (.int (bz ((¬ (cx < (55296 : Int32))) ∧ (¬ ((57343 : Int32) < cx))))), .unset] [(.int (bz (cx = (65535 : Int32))))])) t → Steps p.tables e below (s₁.setTop (mkF m 77 #[.val (.int cx), .val (.int (bz ((cx < (0 : Int32)) ∨ ((1114111 : Int32) < cx)))), .val (.int (bz ((¬ (cx < (0 : Int32))) ∧ ((cx < (32 : Int32)) ∧ ((¬ (cx = (9 : Int32))) ∧ ((¬ (cx = (10 : Int32))) ∧ (¬ (cx = (13 : Int32))))))))), .val (.int (bz ((¬ (cx < (55296 : Int32))) ∧ (¬ ((57343 : Int32) < cx))))), .unset] [(.int (65535 : Int32)), (.int cx)])) t := fun t k => by
    by_cases hb26 : cx = (65535 : Int32)
    · refine XS.icmpNo X0.here hx rfl (hb hby d2_77) rfl (teq hb26).2 ?_
      rw [bz_one (P := (cx = (65535 : Int32))) (iff_true_intro hb26)] at k
      show Steps p.tables e below (s₁.setTop (mkF m 80 #[.val (.int cx), .val (.int (bz ((cx < (0 : Int32)) ∨ ((1114111 : Int32) < cx)))), .val (.int (bz ((¬ (cx < (0 : Int32))) ∧ ((cx < (32 : Int32)) ∧ ((¬ (cx = (9 : Int32))) ∧ ((¬ (cx = (10 : Int32))) ∧ (¬ (cx = (13 : Int32))))))))), .val (.int (bz ((¬ (cx < (55296 : Int32))) ∧ (¬ ((57343 : Int32) < cx))))), .unset] [])) _
      refine XS.iconst X0.here hx rfl (hb hby d2_80) ?_
      refine XS.goto X0.here hx rfl (pc0 := 81) (pc' := 85) rfl (hb hby d2_81) (by decide) (by decide) ?_
      exact k
    · refine XS.icmpYes X0.here hx rfl (pc0 := 77) (pc' := 84) rfl (hb hby d2_77) rfl (feq hb26).2 (by decide) (by decide) ?_
      rw [bz_zero (P := (cx = (65535 : Int32))) (iff_false_intro hb26)] at k
      show Steps p.tables e below (s₁.setTop (mkF m 84 #[.val (.int cx), .val (.int (bz ((cx < (0 : Int32)) ∨ ((1114111 : Int32) < cx)))), .val (.int (bz ((¬ (cx < (0 : Int32))) ∧ ((cx < (32 : Int32)) ∧ ((¬ (cx = (9 : Int32))) ∧ ((¬ (cx = (10 : Int32))) ∧ (¬ (cx = (13 : Int32))))))))), .val (.int (bz ((¬ (cx < (55296 : Int32))) ∧ (¬ ((57343 : Int32) < cx))))), .unset] [])) _
      refine XS.iconst X0.here hx rfl (hb hby d2_84) ?_
      exact k
  have tl28 : ∀ t, Steps p.tables e below (s₁.setTop (mkF m 85 #[.val (.int cx), .val (.int (bz ((cx < (0 : Int32)) ∨ ((1114111 : Int32) < cx)))), .val (.int (bz ((¬ (cx < (0 : Int32))) ∧ ((cx < (32 : Int32)) ∧ ((¬ (cx = (9 : Int32))) ∧ ((¬ (cx = (10 : Int32))) ∧ (¬ (cx = (13 : Int32))))))))), .val (.int (bz ((¬ (cx < (55296 : Int32))) ∧ (¬ ((57343 : Int32) < cx))))), .unset] [(.int (bz ((cx = (65534 : Int32)) ∨ (cx = (65535 : Int32)))))])) t → Steps p.tables e below (s₁.setTop (mkF m 71 #[.val (.int cx), .val (.int (bz ((cx < (0 : Int32)) ∨ ((1114111 : Int32) < cx)))), .val (.int (bz ((¬ (cx < (0 : Int32))) ∧ ((cx < (32 : Int32)) ∧ ((¬ (cx = (9 : Int32))) ∧ ((¬ (cx = (10 : Int32))) ∧ (¬ (cx = (13 : Int32))))))))), .val (.int (bz ((¬ (cx < (55296 : Int32))) ∧ (¬ ((57343 : Int32) < cx))))), .unset] [(.int (65534 : Int32)), (.int cx)])) t := fun t k => by
    by_cases hb25 : cx = (65534 : Int32)
    · refine XS.icmpYes X0.here hx rfl (pc0 := 71) (pc' := 80) rfl (hb hby d2_71) rfl (teq hb25).1 (by decide) (by decide) ?_
      rw [bz_one (P := ((cx = (65534 : Int32)) ∨ (cx = (65535 : Int32)))) (iff_true_intro (Or.inl hb25))] at k
      show Steps p.tables e below (s₁.setTop (mkF m 80 #[.val (.int cx), .val (.int (bz ((cx < (0 : Int32)) ∨ ((1114111 : Int32) < cx)))), .val (.int (bz ((¬ (cx < (0 : Int32))) ∧ ((cx < (32 : Int32)) ∧ ((¬ (cx = (9 : Int32))) ∧ ((¬ (cx = (10 : Int32))) ∧ (¬ (cx = (13 : Int32))))))))), .val (.int (bz ((¬ (cx < (55296 : Int32))) ∧ (¬ ((57343 : Int32) < cx))))), .unset] [])) _
      refine XS.iconst X0.here hx rfl (hb hby d2_80) ?_
      refine XS.goto X0.here hx rfl (pc0 := 81) (pc' := 85) rfl (hb hby d2_81) (by decide) (by decide) ?_
      exact k
    · refine XS.icmpNo X0.here hx rfl (hb hby d2_71) rfl (feq hb25).1 ?_
      rw [bz_congr (P := ((cx = (65534 : Int32)) ∨ (cx = (65535 : Int32)))) (Q := (cx = (65535 : Int32))) (or_iff_right hb25)] at k
      show Steps p.tables e below (s₁.setTop (mkF m 74 #[.val (.int cx), .val (.int (bz ((cx < (0 : Int32)) ∨ ((1114111 : Int32) < cx)))), .val (.int (bz ((¬ (cx < (0 : Int32))) ∧ ((cx < (32 : Int32)) ∧ ((¬ (cx = (9 : Int32))) ∧ ((¬ (cx = (10 : Int32))) ∧ (¬ (cx = (13 : Int32))))))))), .val (.int (bz ((¬ (cx < (55296 : Int32))) ∧ (¬ ((57343 : Int32) < cx))))), .unset] [])) _
      refine XS.iloadN X0.here hx rfl (hb hby d2_74) rfl ?_
      refine X0.ldcInt hx hown (mvT hZ (hw _ (List.mem_of_getElem? (i := 4) rfl))) (g := (mkF m 75 #[.val (.int cx), .val (.int (bz ((cx < (0 : Int32)) ∨ ((1114111 : Int32) < cx)))), .val (.int (bz ((¬ (cx < (0 : Int32))) ∧ ((cx < (32 : Int32)) ∧ ((¬ (cx = (9 : Int32))) ∧ ((¬ (cx = (10 : Int32))) ∧ (¬ (cx = (13 : Int32))))))))), .val (.int (bz ((¬ (cx < (55296 : Int32))) ∧ (¬ ((57343 : Int32) < cx))))), .unset] [(.int cx)])) rfl (hb hby d2_75) _ ?_
      exact tl27 t k
  have pre30 : ∀ t, Steps p.tables e below (s₁.setTop (mkF m 85 #[.val (.int cx), .val (.int (bz ((cx < (0 : Int32)) ∨ ((1114111 : Int32) < cx)))), .val (.int (bz ((¬ (cx < (0 : Int32))) ∧ ((cx < (32 : Int32)) ∧ ((¬ (cx = (9 : Int32))) ∧ ((¬ (cx = (10 : Int32))) ∧ (¬ (cx = (13 : Int32))))))))), .val (.int (bz ((¬ (cx < (55296 : Int32))) ∧ (¬ ((57343 : Int32) < cx))))), .unset] [(.int (bz ((cx = (65534 : Int32)) ∨ (cx = (65535 : Int32)))))])) t → Steps p.tables e below (s₁.setTop (entryFrame m #[(.int cx)] 5)) t := fun t k => pre29 t (by
    exact tl28 t k)
  have pre39 : ∀ t, Steps p.tables e below (s₁.setTop (mkF m 88 #[.val (.int cx), .val (.int (bz ((cx < (0 : Int32)) ∨ ((1114111 : Int32) < cx)))), .val (.int (bz ((¬ (cx < (0 : Int32))) ∧ ((cx < (32 : Int32)) ∧ ((¬ (cx = (9 : Int32))) ∧ ((¬ (cx = (10 : Int32))) ∧ (¬ (cx = (13 : Int32))))))))), .val (.int (bz ((¬ (cx < (55296 : Int32))) ∧ (¬ ((57343 : Int32) < cx))))), .val (.int (bz ((cx = (65534 : Int32)) ∨ (cx = (65535 : Int32)))))] [(.int (bz ((cx < (0 : Int32)) ∨ ((1114111 : Int32) < cx))))])) t → Steps p.tables e below (s₁.setTop (entryFrame m #[(.int cx)] 5)) t := fun t k => pre30 t (by
    show Steps p.tables e below (s₁.setTop (mkF m 85 #[.val (.int cx), .val (.int (bz ((cx < (0 : Int32)) ∨ ((1114111 : Int32) < cx)))), .val (.int (bz ((¬ (cx < (0 : Int32))) ∧ ((cx < (32 : Int32)) ∧ ((¬ (cx = (9 : Int32))) ∧ ((¬ (cx = (10 : Int32))) ∧ (¬ (cx = (13 : Int32))))))))), .val (.int (bz ((¬ (cx < (55296 : Int32))) ∧ (¬ ((57343 : Int32) < cx))))), .unset] [(.int (bz ((cx = (65534 : Int32)) ∨ (cx = (65535 : Int32)))))])) _
    refine XS.istore X0.here hx rfl (hb hby d2_85) rfl (l' := #[.val (.int cx), .val (.int (bz ((cx < (0 : Int32)) ∨ ((1114111 : Int32) < cx)))), .val (.int (bz ((¬ (cx < (0 : Int32))) ∧ ((cx < (32 : Int32)) ∧ ((¬ (cx = (9 : Int32))) ∧ ((¬ (cx = (10 : Int32))) ∧ (¬ (cx = (13 : Int32))))))))), .val (.int (bz ((¬ (cx < (55296 : Int32))) ∧ (¬ ((57343 : Int32) < cx))))), .val (.int (bz ((cx = (65534 : Int32)) ∨ (cx = (65535 : Int32)))))]) rfl ?_
    refine XS.iloadN X0.here hx rfl (hb hby d2_87) rfl ?_
    exact k)
  have tl35 : ∀ t, Steps p.tables e below (s₁.setTop (mkF m 109 #[.val (.int cx), .val (.int (bz ((cx < (0 : Int32)) ∨ ((1114111 : Int32) < cx)))), .val (.int (bz ((¬ (cx < (0 : Int32))) ∧ ((cx < (32 : Int32)) ∧ ((¬ (cx = (9 : Int32))) ∧ ((¬ (cx = (10 : Int32))) ∧ (¬ (cx = (13 : Int32))))))))), .val (.int (bz ((¬ (cx < (55296 : Int32))) ∧ (¬ ((57343 : Int32) < cx))))), .val (.int (bz ((cx = (65534 : Int32)) ∨ (cx = (65535 : Int32)))))] [(.int (bz (¬ (((cx = (65534 : Int32)) ∨ (cx = (65535 : Int32)))))))])) t → Steps p.tables e below (s₁.setTop (mkF m 101 #[.val (.int cx), .val (.int (bz ((cx < (0 : Int32)) ∨ ((1114111 : Int32) < cx)))), .val (.int (bz ((¬ (cx < (0 : Int32))) ∧ ((cx < (32 : Int32)) ∧ ((¬ (cx = (9 : Int32))) ∧ ((¬ (cx = (10 : Int32))) ∧ (¬ (cx = (13 : Int32))))))))), .val (.int (bz ((¬ (cx < (55296 : Int32))) ∧ (¬ ((57343 : Int32) < cx))))), .val (.int (bz ((cx = (65534 : Int32)) ∨ (cx = (65535 : Int32)))))] [(.int (bz ((cx = (65534 : Int32)) ∨ (cx = (65535 : Int32)))))])) t := fun t k => by
    by_cases hb34 : ((cx = (65534 : Int32)) ∨ (cx = (65535 : Int32)))
    · refine XS.ifYes X0.here hx rfl (pc0 := 101) (pc' := 108) rfl (hb hby d2_101) rfl (ow_bne_t hb34) (by decide) (by decide) ?_
      rw [bz_zero (P := (¬ (((cx = (65534 : Int32)) ∨ (cx = (65535 : Int32)))))) (iff_false_intro (not_not_intro hb34))] at k
      show Steps p.tables e below (s₁.setTop (mkF m 108 #[.val (.int cx), .val (.int (bz ((cx < (0 : Int32)) ∨ ((1114111 : Int32) < cx)))), .val (.int (bz ((¬ (cx < (0 : Int32))) ∧ ((cx < (32 : Int32)) ∧ ((¬ (cx = (9 : Int32))) ∧ ((¬ (cx = (10 : Int32))) ∧ (¬ (cx = (13 : Int32))))))))), .val (.int (bz ((¬ (cx < (55296 : Int32))) ∧ (¬ ((57343 : Int32) < cx))))), .val (.int (bz ((cx = (65534 : Int32)) ∨ (cx = (65535 : Int32)))))] [])) _
      refine XS.iconst X0.here hx rfl (hb hby d2_108) ?_
      exact k
    · refine XS.ifNo X0.here hx rfl (hb hby d2_101) rfl (ow_bne_f hb34) ?_
      rw [bz_one (P := (¬ (((cx = (65534 : Int32)) ∨ (cx = (65535 : Int32)))))) (iff_true_intro hb34)] at k
      show Steps p.tables e below (s₁.setTop (mkF m 104 #[.val (.int cx), .val (.int (bz ((cx < (0 : Int32)) ∨ ((1114111 : Int32) < cx)))), .val (.int (bz ((¬ (cx < (0 : Int32))) ∧ ((cx < (32 : Int32)) ∧ ((¬ (cx = (9 : Int32))) ∧ ((¬ (cx = (10 : Int32))) ∧ (¬ (cx = (13 : Int32))))))))), .val (.int (bz ((¬ (cx < (55296 : Int32))) ∧ (¬ ((57343 : Int32) < cx))))), .val (.int (bz ((cx = (65534 : Int32)) ∨ (cx = (65535 : Int32)))))] [])) _
      refine XS.iconst X0.here hx rfl (hb hby d2_104) ?_
      refine XS.goto X0.here hx rfl (pc0 := 105) (pc' := 109) rfl (hb hby d2_105) (by decide) (by decide) ?_
      exact k
  have tl36 : ∀ t, Steps p.tables e below (s₁.setTop (mkF m 109 #[.val (.int cx), .val (.int (bz ((cx < (0 : Int32)) ∨ ((1114111 : Int32) < cx)))), .val (.int (bz ((¬ (cx < (0 : Int32))) ∧ ((cx < (32 : Int32)) ∧ ((¬ (cx = (9 : Int32))) ∧ ((¬ (cx = (10 : Int32))) ∧ (¬ (cx = (13 : Int32))))))))), .val (.int (bz ((¬ (cx < (55296 : Int32))) ∧ (¬ ((57343 : Int32) < cx))))), .val (.int (bz ((cx = (65534 : Int32)) ∨ (cx = (65535 : Int32)))))] [(.int (bz ((¬ (((¬ (cx < (55296 : Int32))) ∧ (¬ ((57343 : Int32) < cx))))) ∧ (¬ (((cx = (65534 : Int32)) ∨ (cx = (65535 : Int32))))))))])) t → Steps p.tables e below (s₁.setTop (mkF m 96 #[.val (.int cx), .val (.int (bz ((cx < (0 : Int32)) ∨ ((1114111 : Int32) < cx)))), .val (.int (bz ((¬ (cx < (0 : Int32))) ∧ ((cx < (32 : Int32)) ∧ ((¬ (cx = (9 : Int32))) ∧ ((¬ (cx = (10 : Int32))) ∧ (¬ (cx = (13 : Int32))))))))), .val (.int (bz ((¬ (cx < (55296 : Int32))) ∧ (¬ ((57343 : Int32) < cx))))), .val (.int (bz ((cx = (65534 : Int32)) ∨ (cx = (65535 : Int32)))))] [(.int (bz ((¬ (cx < (55296 : Int32))) ∧ (¬ ((57343 : Int32) < cx)))))])) t := fun t k => by
    by_cases hb33 : ((¬ (cx < (55296 : Int32))) ∧ (¬ ((57343 : Int32) < cx)))
    · refine XS.ifYes X0.here hx rfl (pc0 := 96) (pc' := 108) rfl (hb hby d2_96) rfl (ow_bne_t hb33) (by decide) (by decide) ?_
      rw [bz_zero (P := ((¬ (((¬ (cx < (55296 : Int32))) ∧ (¬ ((57343 : Int32) < cx))))) ∧ (¬ (((cx = (65534 : Int32)) ∨ (cx = (65535 : Int32))))))) (iff_false_intro (fun q => q.1 hb33))] at k
      show Steps p.tables e below (s₁.setTop (mkF m 108 #[.val (.int cx), .val (.int (bz ((cx < (0 : Int32)) ∨ ((1114111 : Int32) < cx)))), .val (.int (bz ((¬ (cx < (0 : Int32))) ∧ ((cx < (32 : Int32)) ∧ ((¬ (cx = (9 : Int32))) ∧ ((¬ (cx = (10 : Int32))) ∧ (¬ (cx = (13 : Int32))))))))), .val (.int (bz ((¬ (cx < (55296 : Int32))) ∧ (¬ ((57343 : Int32) < cx))))), .val (.int (bz ((cx = (65534 : Int32)) ∨ (cx = (65535 : Int32)))))] [])) _
      refine XS.iconst X0.here hx rfl (hb hby d2_108) ?_
      exact k
    · refine XS.ifNo X0.here hx rfl (hb hby d2_96) rfl (ow_bne_f hb33) ?_
      rw [bz_congr (P := ((¬ (((¬ (cx < (55296 : Int32))) ∧ (¬ ((57343 : Int32) < cx))))) ∧ (¬ (((cx = (65534 : Int32)) ∨ (cx = (65535 : Int32))))))) (Q := (¬ (((cx = (65534 : Int32)) ∨ (cx = (65535 : Int32)))))) (and_iff_right hb33)] at k
      show Steps p.tables e below (s₁.setTop (mkF m 99 #[.val (.int cx), .val (.int (bz ((cx < (0 : Int32)) ∨ ((1114111 : Int32) < cx)))), .val (.int (bz ((¬ (cx < (0 : Int32))) ∧ ((cx < (32 : Int32)) ∧ ((¬ (cx = (9 : Int32))) ∧ ((¬ (cx = (10 : Int32))) ∧ (¬ (cx = (13 : Int32))))))))), .val (.int (bz ((¬ (cx < (55296 : Int32))) ∧ (¬ ((57343 : Int32) < cx))))), .val (.int (bz ((cx = (65534 : Int32)) ∨ (cx = (65535 : Int32)))))] [])) _
      refine XS.iload X0.here hx rfl (hb hby d2_99) rfl ?_
      exact tl35 t k
  have tl37 : ∀ t, Steps p.tables e below (s₁.setTop (mkF m 109 #[.val (.int cx), .val (.int (bz ((cx < (0 : Int32)) ∨ ((1114111 : Int32) < cx)))), .val (.int (bz ((¬ (cx < (0 : Int32))) ∧ ((cx < (32 : Int32)) ∧ ((¬ (cx = (9 : Int32))) ∧ ((¬ (cx = (10 : Int32))) ∧ (¬ (cx = (13 : Int32))))))))), .val (.int (bz ((¬ (cx < (55296 : Int32))) ∧ (¬ ((57343 : Int32) < cx))))), .val (.int (bz ((cx = (65534 : Int32)) ∨ (cx = (65535 : Int32)))))] [(.int (bz ((¬ (((¬ (cx < (0 : Int32))) ∧ ((cx < (32 : Int32)) ∧ ((¬ (cx = (9 : Int32))) ∧ ((¬ (cx = (10 : Int32))) ∧ (¬ (cx = (13 : Int32))))))))) ∧ ((¬ (((¬ (cx < (55296 : Int32))) ∧ (¬ ((57343 : Int32) < cx))))) ∧ (¬ (((cx = (65534 : Int32)) ∨ (cx = (65535 : Int32)))))))))])) t → Steps p.tables e below (s₁.setTop (mkF m 92 #[.val (.int cx), .val (.int (bz ((cx < (0 : Int32)) ∨ ((1114111 : Int32) < cx)))), .val (.int (bz ((¬ (cx < (0 : Int32))) ∧ ((cx < (32 : Int32)) ∧ ((¬ (cx = (9 : Int32))) ∧ ((¬ (cx = (10 : Int32))) ∧ (¬ (cx = (13 : Int32))))))))), .val (.int (bz ((¬ (cx < (55296 : Int32))) ∧ (¬ ((57343 : Int32) < cx))))), .val (.int (bz ((cx = (65534 : Int32)) ∨ (cx = (65535 : Int32)))))] [(.int (bz ((¬ (cx < (0 : Int32))) ∧ ((cx < (32 : Int32)) ∧ ((¬ (cx = (9 : Int32))) ∧ ((¬ (cx = (10 : Int32))) ∧ (¬ (cx = (13 : Int32)))))))))])) t := fun t k => by
    by_cases hb32 : ((¬ (cx < (0 : Int32))) ∧ ((cx < (32 : Int32)) ∧ ((¬ (cx = (9 : Int32))) ∧ ((¬ (cx = (10 : Int32))) ∧ (¬ (cx = (13 : Int32)))))))
    · refine XS.ifYes X0.here hx rfl (pc0 := 92) (pc' := 108) rfl (hb hby d2_92) rfl (ow_bne_t hb32) (by decide) (by decide) ?_
      rw [bz_zero (P := ((¬ (((¬ (cx < (0 : Int32))) ∧ ((cx < (32 : Int32)) ∧ ((¬ (cx = (9 : Int32))) ∧ ((¬ (cx = (10 : Int32))) ∧ (¬ (cx = (13 : Int32))))))))) ∧ ((¬ (((¬ (cx < (55296 : Int32))) ∧ (¬ ((57343 : Int32) < cx))))) ∧ (¬ (((cx = (65534 : Int32)) ∨ (cx = (65535 : Int32)))))))) (iff_false_intro (fun q => q.1 hb32))] at k
      show Steps p.tables e below (s₁.setTop (mkF m 108 #[.val (.int cx), .val (.int (bz ((cx < (0 : Int32)) ∨ ((1114111 : Int32) < cx)))), .val (.int (bz ((¬ (cx < (0 : Int32))) ∧ ((cx < (32 : Int32)) ∧ ((¬ (cx = (9 : Int32))) ∧ ((¬ (cx = (10 : Int32))) ∧ (¬ (cx = (13 : Int32))))))))), .val (.int (bz ((¬ (cx < (55296 : Int32))) ∧ (¬ ((57343 : Int32) < cx))))), .val (.int (bz ((cx = (65534 : Int32)) ∨ (cx = (65535 : Int32)))))] [])) _
      refine XS.iconst X0.here hx rfl (hb hby d2_108) ?_
      exact k
    · refine XS.ifNo X0.here hx rfl (hb hby d2_92) rfl (ow_bne_f hb32) ?_
      rw [bz_congr (P := ((¬ (((¬ (cx < (0 : Int32))) ∧ ((cx < (32 : Int32)) ∧ ((¬ (cx = (9 : Int32))) ∧ ((¬ (cx = (10 : Int32))) ∧ (¬ (cx = (13 : Int32))))))))) ∧ ((¬ (((¬ (cx < (55296 : Int32))) ∧ (¬ ((57343 : Int32) < cx))))) ∧ (¬ (((cx = (65534 : Int32)) ∨ (cx = (65535 : Int32)))))))) (Q := ((¬ (((¬ (cx < (55296 : Int32))) ∧ (¬ ((57343 : Int32) < cx))))) ∧ (¬ (((cx = (65534 : Int32)) ∨ (cx = (65535 : Int32))))))) (and_iff_right hb32)] at k
      show Steps p.tables e below (s₁.setTop (mkF m 95 #[.val (.int cx), .val (.int (bz ((cx < (0 : Int32)) ∨ ((1114111 : Int32) < cx)))), .val (.int (bz ((¬ (cx < (0 : Int32))) ∧ ((cx < (32 : Int32)) ∧ ((¬ (cx = (9 : Int32))) ∧ ((¬ (cx = (10 : Int32))) ∧ (¬ (cx = (13 : Int32))))))))), .val (.int (bz ((¬ (cx < (55296 : Int32))) ∧ (¬ ((57343 : Int32) < cx))))), .val (.int (bz ((cx = (65534 : Int32)) ∨ (cx = (65535 : Int32)))))] [])) _
      refine XS.iloadN X0.here hx rfl (hb hby d2_95) rfl ?_
      exact tl36 t k
  have tl38 : ∀ t, Steps p.tables e below (s₁.setTop (mkF m 109 #[.val (.int cx), .val (.int (bz ((cx < (0 : Int32)) ∨ ((1114111 : Int32) < cx)))), .val (.int (bz ((¬ (cx < (0 : Int32))) ∧ ((cx < (32 : Int32)) ∧ ((¬ (cx = (9 : Int32))) ∧ ((¬ (cx = (10 : Int32))) ∧ (¬ (cx = (13 : Int32))))))))), .val (.int (bz ((¬ (cx < (55296 : Int32))) ∧ (¬ ((57343 : Int32) < cx))))), .val (.int (bz ((cx = (65534 : Int32)) ∨ (cx = (65535 : Int32)))))] [(.int (bz ((¬ (((cx < (0 : Int32)) ∨ ((1114111 : Int32) < cx)))) ∧ ((¬ (((¬ (cx < (0 : Int32))) ∧ ((cx < (32 : Int32)) ∧ ((¬ (cx = (9 : Int32))) ∧ ((¬ (cx = (10 : Int32))) ∧ (¬ (cx = (13 : Int32))))))))) ∧ ((¬ (((¬ (cx < (55296 : Int32))) ∧ (¬ ((57343 : Int32) < cx))))) ∧ (¬ (((cx = (65534 : Int32)) ∨ (cx = (65535 : Int32))))))))))])) t → Steps p.tables e below (s₁.setTop (mkF m 88 #[.val (.int cx), .val (.int (bz ((cx < (0 : Int32)) ∨ ((1114111 : Int32) < cx)))), .val (.int (bz ((¬ (cx < (0 : Int32))) ∧ ((cx < (32 : Int32)) ∧ ((¬ (cx = (9 : Int32))) ∧ ((¬ (cx = (10 : Int32))) ∧ (¬ (cx = (13 : Int32))))))))), .val (.int (bz ((¬ (cx < (55296 : Int32))) ∧ (¬ ((57343 : Int32) < cx))))), .val (.int (bz ((cx = (65534 : Int32)) ∨ (cx = (65535 : Int32)))))] [(.int (bz ((cx < (0 : Int32)) ∨ ((1114111 : Int32) < cx))))])) t := fun t k => by
    by_cases hb31 : ((cx < (0 : Int32)) ∨ ((1114111 : Int32) < cx))
    · refine XS.ifYes X0.here hx rfl (pc0 := 88) (pc' := 108) rfl (hb hby d2_88) rfl (ow_bne_t hb31) (by decide) (by decide) ?_
      rw [bz_zero (P := ((¬ (((cx < (0 : Int32)) ∨ ((1114111 : Int32) < cx)))) ∧ ((¬ (((¬ (cx < (0 : Int32))) ∧ ((cx < (32 : Int32)) ∧ ((¬ (cx = (9 : Int32))) ∧ ((¬ (cx = (10 : Int32))) ∧ (¬ (cx = (13 : Int32))))))))) ∧ ((¬ (((¬ (cx < (55296 : Int32))) ∧ (¬ ((57343 : Int32) < cx))))) ∧ (¬ (((cx = (65534 : Int32)) ∨ (cx = (65535 : Int32))))))))) (iff_false_intro (fun q => q.1 hb31))] at k
      show Steps p.tables e below (s₁.setTop (mkF m 108 #[.val (.int cx), .val (.int (bz ((cx < (0 : Int32)) ∨ ((1114111 : Int32) < cx)))), .val (.int (bz ((¬ (cx < (0 : Int32))) ∧ ((cx < (32 : Int32)) ∧ ((¬ (cx = (9 : Int32))) ∧ ((¬ (cx = (10 : Int32))) ∧ (¬ (cx = (13 : Int32))))))))), .val (.int (bz ((¬ (cx < (55296 : Int32))) ∧ (¬ ((57343 : Int32) < cx))))), .val (.int (bz ((cx = (65534 : Int32)) ∨ (cx = (65535 : Int32)))))] [])) _
      refine XS.iconst X0.here hx rfl (hb hby d2_108) ?_
      exact k
    · refine XS.ifNo X0.here hx rfl (hb hby d2_88) rfl (ow_bne_f hb31) ?_
      rw [bz_congr (P := ((¬ (((cx < (0 : Int32)) ∨ ((1114111 : Int32) < cx)))) ∧ ((¬ (((¬ (cx < (0 : Int32))) ∧ ((cx < (32 : Int32)) ∧ ((¬ (cx = (9 : Int32))) ∧ ((¬ (cx = (10 : Int32))) ∧ (¬ (cx = (13 : Int32))))))))) ∧ ((¬ (((¬ (cx < (55296 : Int32))) ∧ (¬ ((57343 : Int32) < cx))))) ∧ (¬ (((cx = (65534 : Int32)) ∨ (cx = (65535 : Int32))))))))) (Q := ((¬ (((¬ (cx < (0 : Int32))) ∧ ((cx < (32 : Int32)) ∧ ((¬ (cx = (9 : Int32))) ∧ ((¬ (cx = (10 : Int32))) ∧ (¬ (cx = (13 : Int32))))))))) ∧ ((¬ (((¬ (cx < (55296 : Int32))) ∧ (¬ ((57343 : Int32) < cx))))) ∧ (¬ (((cx = (65534 : Int32)) ∨ (cx = (65535 : Int32)))))))) (and_iff_right hb31)] at k
      show Steps p.tables e below (s₁.setTop (mkF m 91 #[.val (.int cx), .val (.int (bz ((cx < (0 : Int32)) ∨ ((1114111 : Int32) < cx)))), .val (.int (bz ((¬ (cx < (0 : Int32))) ∧ ((cx < (32 : Int32)) ∧ ((¬ (cx = (9 : Int32))) ∧ ((¬ (cx = (10 : Int32))) ∧ (¬ (cx = (13 : Int32))))))))), .val (.int (bz ((¬ (cx < (55296 : Int32))) ∧ (¬ ((57343 : Int32) < cx))))), .val (.int (bz ((cx = (65534 : Int32)) ∨ (cx = (65535 : Int32)))))] [])) _
      refine XS.iloadN X0.here hx rfl (hb hby d2_91) rfl ?_
      exact tl37 t k
  have pre40 : ∀ t, Steps p.tables e below (s₁.setTop (mkF m 109 #[.val (.int cx), .val (.int (bz ((cx < (0 : Int32)) ∨ ((1114111 : Int32) < cx)))), .val (.int (bz ((¬ (cx < (0 : Int32))) ∧ ((cx < (32 : Int32)) ∧ ((¬ (cx = (9 : Int32))) ∧ ((¬ (cx = (10 : Int32))) ∧ (¬ (cx = (13 : Int32))))))))), .val (.int (bz ((¬ (cx < (55296 : Int32))) ∧ (¬ ((57343 : Int32) < cx))))), .val (.int (bz ((cx = (65534 : Int32)) ∨ (cx = (65535 : Int32)))))] [(.int (bz ((¬ (((cx < (0 : Int32)) ∨ ((1114111 : Int32) < cx)))) ∧ ((¬ (((¬ (cx < (0 : Int32))) ∧ ((cx < (32 : Int32)) ∧ ((¬ (cx = (9 : Int32))) ∧ ((¬ (cx = (10 : Int32))) ∧ (¬ (cx = (13 : Int32))))))))) ∧ ((¬ (((¬ (cx < (55296 : Int32))) ∧ (¬ ((57343 : Int32) < cx))))) ∧ (¬ (((cx = (65534 : Int32)) ∨ (cx = (65535 : Int32))))))))))])) t → Steps p.tables e below (s₁.setTop (entryFrame m #[(.int cx)] 5)) t := fun t k => pre39 t (by
    exact tl38 t k)
  obtain ⟨fs, hr, hrun, hended, hW, hsame⟩ := X0.leave (v := some (.int (nar .boolean (bz ((¬ (((cx < (0 : Int32)) ∨ ((1114111 : Int32) < cx)))) ∧ ((¬ (((¬ (cx < (0 : Int32))) ∧ ((cx < (32 : Int32)) ∧ ((¬ (cx = (9 : Int32))) ∧ ((¬ (cx = (10 : Int32))) ∧ (¬ (cx = (13 : Int32))))))))) ∧ ((¬ (((¬ (cx < (55296 : Int32))) ∧ (¬ ((57343 : Int32) < cx))))) ∧ (¬ (((cx = (65534 : Int32)) ∨ (cx = (65535 : Int32)))))))))))) (fun h => by rw [Bd.returns] at h; cases h)
  refine ⟨_, _, pre40 _ ?_, hrun, hended, _, _, rfl, ?_, ⟨_, rfl⟩, hW, hsame.mono (by decide) (by decide)⟩
  · show Steps p.tables e below (s₁.setTop (mkF m 109 #[.val (.int cx), .val (.int (bz ((cx < (0 : Int32)) ∨ ((1114111 : Int32) < cx)))), .val (.int (bz ((¬ (cx < (0 : Int32))) ∧ ((cx < (32 : Int32)) ∧ ((¬ (cx = (9 : Int32))) ∧ ((¬ (cx = (10 : Int32))) ∧ (¬ (cx = (13 : Int32))))))))), .val (.int (bz ((¬ (cx < (55296 : Int32))) ∧ (¬ ((57343 : Int32) < cx))))), .val (.int (bz ((cx = (65534 : Int32)) ∨ (cx = (65535 : Int32)))))] [(.int (bz ((¬ (((cx < (0 : Int32)) ∨ ((1114111 : Int32) < cx)))) ∧ ((¬ (((¬ (cx < (0 : Int32))) ∧ ((cx < (32 : Int32)) ∧ ((¬ (cx = (9 : Int32))) ∧ ((¬ (cx = (10 : Int32))) ∧ (¬ (cx = (13 : Int32))))))))) ∧ ((¬ (((¬ (cx < (55296 : Int32))) ∧ (¬ ((57343 : Int32) < cx))))) ∧ (¬ (((cx = (65534 : Int32)) ∨ (cx = (65535 : Int32))))))))))])) _
    exact retN X0 hx (t := .boolean) Bd.returns (by simp) (hb hby d2_109) hr
  · show Q2 Z cx n0 Rst _ s₁.heap _
    rw [e0]
    exact ⟨(by exact congrArg (fun z => some (Value.int z)) (by simp only [F2] <;> first | rfl | exact nar_b _ | decide)), N0, R0⟩
theorem own_eq (c : Int32) : F1 c = F2 c := by
  unfold F1 F2
  apply bz_congr
  simp only [lt32, ← Int32.toInt_inj, Int32.reduceToInt]
  split <;> omega
theorem own_ix (x : Int32) : ¬ (x &&& (15 : Int32)) < 0 ∧ (x &&& (15 : Int32)).toNatClampNeg < 16 := by
  have h := c_and x (15 : Int32) (by decide)
  rw [show (15 : Int32).toInt = 15 from rfl] at h
  rw [lt32, Int32.toNatClampNeg, show (0 : Int32).toInt = 0 from rfl]
  omega
theorem own_get (ws : List Int32) (k : Nat) (h : k < ws.length) : ∃ w, (ws.map Value.int)[k]? = some (.int w) := ⟨ws[k], by simp [h]⟩
theorem pd__28I_29Z : parseMethodDescriptor "(I)Z" = some ⟨[.int], some .boolean⟩ := by decide +kernel
theorem ef_0 (m : MethodId) (x0 : Int32) (x1 : Int32) (x2 : Int32) : entryFrame m #[(.int x0), (.int x1), (.int x2)] maxLocals = mkF m 0 #[.val (.int x0), .val (.int x1), .val (.int x2), .unset, .unset] [] := by first | (simp [entryFrame, mkF, argsToLocals, Value.category, maxLocals]; done) | rfl
def Q0 (Z : State) (px : Int32) (qx : Int32) (dx : Int32) (n0 : Nat) (Rst : RL) (v : Option Value) (h : Heap) (L : List Loc) : Prop := v = some (.int (1 : Int32)) ∧ Fr n0 L ∧ Rep Z n0 h (Rst)
set_option maxRecDepth 65536 in
set_option maxHeartbeats 40000000 in
theorem rm0 (l : Launch) (Z : State) (a0 : Array Value) (hw : ∀ d ∈ tables_1, d.before a0 Z = true) (ws : List Jvm.Cond) (px : Int32) (qx : Int32) (dx : Int32) (h0 : Heap) (n0 : Nat) (R0 : Rep Z n0 h0 ([])) :
    MetFree l x (head1 (Jvm.Cond.code x code maxLocals ret :: ws) room_1) (fun a U => a = #[(.int px), (.int qx), (.int dx)] ∧ Z.Warmed39 U.vm ∧ U.heap = h0) (fun _ _ _ _ _ => True) (fun _ U o U' => ∃ v L, o = .returned v ∧ Q0 Z px qx dx n0 [] v U'.heap L ∧ FrameEnd U o U' L 16 128) := by
  refine MetFree.of_bodySF (plainFor_of_name pn_com_example_taggen_taggen_XmlCharsIsCharPinLaw) hisR ?_
  intro p e s m args below meth c s₁ Bd hml0 hP hK
  obtain ⟨rfl, hZ, hh⟩ := hP
  have hx := Bd.exec
  have hby := Bd.bytes
  have hml : c.maxLocals = 5 := hml0
  have hown : s.vm.findClass "com/example/taggen/taggen/XmlCharsIsCharPinLaw" = some m.cls := findClass_of_methodNamed Bd.named
  have hnm := (name_of_methodNamed Bd.named Bd.method).1
  have X0 : Stand p l e room_1 s m #[(.int px), (.int qx), (.int dx)] below meth c s₁ [] 0 0 := Stand.of_body Bd
  have e0 : s₁.heap = h0 := by rw [← hh, Bd.state]; rfl
  have N0 := Fr.nil n0
  have pre0 : ∀ t, Steps p.tables e below (s₁.setTop (mkF m 0 #[.val (.int px), .val (.int qx), .val (.int dx), .unset, .unset] [])) t → Steps p.tables e below (s₁.setTop (entryFrame m #[(.int px), (.int qx), (.int dx)] maxLocals)) t := fun t k => castTop (ef_0 m px qx dx) k
  have pre1 : ∀ t, Steps p.tables e below (s₁.setTop (mkF m 2 #[.val (.int px), .val (.int qx), .val (.int dx), .unset, .unset] [(.int (16 : Int32))])) t → Steps p.tables e below (s₁.setTop (entryFrame m #[(.int px), (.int qx), (.int dx)] maxLocals)) t := fun t k => pre0 t (by
    show Steps p.tables e below (s₁.setTop (mkF m 0 #[.val (.int px), .val (.int qx), .val (.int dx), .unset, .unset] [])) _
    refine XS.bipush X0.here hx rfl (hb hby at_0) ?_
    exact k)
  obtain ⟨T2, h2, b2, X2, e2, R2, st2⟩ := gNewP X0 hx hZ (hw _ (List.mem_of_getElem? (i := 0) rfl)) e0 R0 (g := (mkF m 2 #[.val (.int px), .val (.int qx), .val (.int dx), .unset, .unset] [(.int (16 : Int32))])) rfl (hb hby at_2) rfl (by decide) 16 (by decide) (by decide) (by decide) (by decide) (vs := [(.int (0 : Int32)), (.int (0 : Int32)), (.int (0 : Int32)), (.int (0 : Int32)), (.int (0 : Int32)), (.int (0 : Int32)), (.int (0 : Int32)), (.int (0 : Int32)), (.int (0 : Int32)), (.int (0 : Int32)), (.int (0 : Int32)), (.int (0 : Int32)), (.int (0 : Int32)), (.int (0 : Int32)), (.int (0 : Int32)), (.int (0 : Int32))]) rfl
  replace R2 : Rep Z n0 h2 ((b2, Ar .int [(.int (0 : Int32)), (.int (0 : Int32)), (.int (0 : Int32)), (.int (0 : Int32)), (.int (0 : Int32)), (.int (0 : Int32)), (.int (0 : Int32)), (.int (0 : Int32)), (.int (0 : Int32)), (.int (0 : Int32)), (.int (0 : Int32)), (.int (0 : Int32)), (.int (0 : Int32)), (.int (0 : Int32)), (.int (0 : Int32)), (.int (0 : Int32))]) :: []) := R2
  have pre3 : ∀ t, Steps p.tables e below (T2.setTop (mkF m 4 #[.val (.int px), .val (.int qx), .val (.int dx), .unset, .unset] [(.ref b2)])) t → Steps p.tables e below (s₁.setTop (entryFrame m #[(.int px), (.int qx), (.int dx)] maxLocals)) t := fun t k => pre1 t (st2 t k)
  have pre4 : ∀ t, Steps p.tables e below (T2.setTop (mkF m 7 #[.val (.int px), .val (.int qx), .val (.int dx), .unset, .unset] [(.int (0 : Int32)), (.int (0 : Int32)), (.ref b2), (.ref b2)])) t → Steps p.tables e below (s₁.setTop (entryFrame m #[(.int px), (.int qx), (.int dx)] maxLocals)) t := fun t k => pre3 t (by
    show Steps p.tables e below (T2.setTop (mkF m 4 #[.val (.int px), .val (.int qx), .val (.int dx), .unset, .unset] [(.ref b2)])) _
    refine XS.dup X2.here hx rfl (hb hby at_4) rfl rfl ?_
    refine XS.iconst X2.here hx rfl (hb hby at_5) ?_
    refine XS.iconst X2.here hx rfl (hb hby at_6) ?_
    exact k)
  obtain ⟨T5, h5, ls5, X5, e5, N5, R5, st5⟩ := gIst X2 hx hZ e2 N0 R2 0 rfl (j := (0 : Int32)) (by decide) (0) rfl (by decide) (g := (mkF m 7 #[.val (.int px), .val (.int qx), .val (.int dx), .unset, .unset] [(.int (0 : Int32)), (.int (0 : Int32)), (.ref b2), (.ref b2)])) rfl rfl (hb hby at_7)
  replace R5 : Rep Z n0 h5 ((b2, Ar .int [(.int (0 : Int32)), (.int (0 : Int32)), (.int (0 : Int32)), (.int (0 : Int32)), (.int (0 : Int32)), (.int (0 : Int32)), (.int (0 : Int32)), (.int (0 : Int32)), (.int (0 : Int32)), (.int (0 : Int32)), (.int (0 : Int32)), (.int (0 : Int32)), (.int (0 : Int32)), (.int (0 : Int32)), (.int (0 : Int32)), (.int (0 : Int32))]) :: []) := R5
  have pre6 : ∀ t, Steps p.tables e below (T5.setTop (mkF m 8 #[.val (.int px), .val (.int qx), .val (.int dx), .unset, .unset] [(.ref b2)])) t → Steps p.tables e below (s₁.setTop (entryFrame m #[(.int px), (.int qx), (.int dx)] maxLocals)) t := fun t k => pre4 t (st5 t k)
  have pre7 : ∀ t, Steps p.tables e below (T5.setTop (mkF m 12 #[.val (.int px), .val (.int qx), .val (.int dx), .unset, .unset] [(.int (8 : Int32)), (.int (1 : Int32)), (.ref b2), (.ref b2)])) t → Steps p.tables e below (s₁.setTop (entryFrame m #[(.int px), (.int qx), (.int dx)] maxLocals)) t := fun t k => pre6 t (by
    show Steps p.tables e below (T5.setTop (mkF m 8 #[.val (.int px), .val (.int qx), .val (.int dx), .unset, .unset] [(.ref b2)])) _
    refine XS.dup X5.here hx rfl (hb hby at_8) rfl rfl ?_
    refine XS.iconst X5.here hx rfl (hb hby at_9) ?_
    refine XS.bipush X5.here hx rfl (hb hby at_10) ?_
    exact k)
  obtain ⟨T8, h8, ls8, X8, e8, N8, R8, st8⟩ := gIst X5 hx hZ e5 N5 R5 0 rfl (j := (1 : Int32)) (by decide) (1) rfl (by decide) (g := (mkF m 12 #[.val (.int px), .val (.int qx), .val (.int dx), .unset, .unset] [(.int (8 : Int32)), (.int (1 : Int32)), (.ref b2), (.ref b2)])) rfl rfl (hb hby at_12)
  replace R8 : Rep Z n0 h8 ((b2, Ar .int [(.int (0 : Int32)), (.int (8 : Int32)), (.int (0 : Int32)), (.int (0 : Int32)), (.int (0 : Int32)), (.int (0 : Int32)), (.int (0 : Int32)), (.int (0 : Int32)), (.int (0 : Int32)), (.int (0 : Int32)), (.int (0 : Int32)), (.int (0 : Int32)), (.int (0 : Int32)), (.int (0 : Int32)), (.int (0 : Int32)), (.int (0 : Int32))]) :: []) := R8
  have pre9 : ∀ t, Steps p.tables e below (T8.setTop (mkF m 13 #[.val (.int px), .val (.int qx), .val (.int dx), .unset, .unset] [(.ref b2)])) t → Steps p.tables e below (s₁.setTop (entryFrame m #[(.int px), (.int qx), (.int dx)] maxLocals)) t := fun t k => pre7 t (st8 t k)
  have pre10 : ∀ t, Steps p.tables e below (T8.setTop (mkF m 17 #[.val (.int px), .val (.int qx), .val (.int dx), .unset, .unset] [(.int (10 : Int32)), (.int (2 : Int32)), (.ref b2), (.ref b2)])) t → Steps p.tables e below (s₁.setTop (entryFrame m #[(.int px), (.int qx), (.int dx)] maxLocals)) t := fun t k => pre9 t (by
    show Steps p.tables e below (T8.setTop (mkF m 13 #[.val (.int px), .val (.int qx), .val (.int dx), .unset, .unset] [(.ref b2)])) _
    refine XS.dup X8.here hx rfl (hb hby at_13) rfl rfl ?_
    refine XS.iconst X8.here hx rfl (hb hby at_14) ?_
    refine XS.bipush X8.here hx rfl (hb hby at_15) ?_
    exact k)
  obtain ⟨T11, h11, ls11, X11, e11, N11, R11, st11⟩ := gIst X8 hx hZ e8 N8 R8 0 rfl (j := (2 : Int32)) (by decide) (2) rfl (by decide) (g := (mkF m 17 #[.val (.int px), .val (.int qx), .val (.int dx), .unset, .unset] [(.int (10 : Int32)), (.int (2 : Int32)), (.ref b2), (.ref b2)])) rfl rfl (hb hby at_17)
  replace R11 : Rep Z n0 h11 ((b2, Ar .int [(.int (0 : Int32)), (.int (8 : Int32)), (.int (10 : Int32)), (.int (0 : Int32)), (.int (0 : Int32)), (.int (0 : Int32)), (.int (0 : Int32)), (.int (0 : Int32)), (.int (0 : Int32)), (.int (0 : Int32)), (.int (0 : Int32)), (.int (0 : Int32)), (.int (0 : Int32)), (.int (0 : Int32)), (.int (0 : Int32)), (.int (0 : Int32))]) :: []) := R11
  have pre12 : ∀ t, Steps p.tables e below (T11.setTop (mkF m 18 #[.val (.int px), .val (.int qx), .val (.int dx), .unset, .unset] [(.ref b2)])) t → Steps p.tables e below (s₁.setTop (entryFrame m #[(.int px), (.int qx), (.int dx)] maxLocals)) t := fun t k => pre10 t (st11 t k)
  have pre13 : ∀ t, Steps p.tables e below (T11.setTop (mkF m 22 #[.val (.int px), .val (.int qx), .val (.int dx), .unset, .unset] [(.int (13 : Int32)), (.int (3 : Int32)), (.ref b2), (.ref b2)])) t → Steps p.tables e below (s₁.setTop (entryFrame m #[(.int px), (.int qx), (.int dx)] maxLocals)) t := fun t k => pre12 t (by
    show Steps p.tables e below (T11.setTop (mkF m 18 #[.val (.int px), .val (.int qx), .val (.int dx), .unset, .unset] [(.ref b2)])) _
    refine XS.dup X11.here hx rfl (hb hby at_18) rfl rfl ?_
    refine XS.iconst X11.here hx rfl (hb hby at_19) ?_
    refine XS.bipush X11.here hx rfl (hb hby at_20) ?_
    exact k)
  obtain ⟨T14, h14, ls14, X14, e14, N14, R14, st14⟩ := gIst X11 hx hZ e11 N11 R11 0 rfl (j := (3 : Int32)) (by decide) (3) rfl (by decide) (g := (mkF m 22 #[.val (.int px), .val (.int qx), .val (.int dx), .unset, .unset] [(.int (13 : Int32)), (.int (3 : Int32)), (.ref b2), (.ref b2)])) rfl rfl (hb hby at_22)
  replace R14 : Rep Z n0 h14 ((b2, Ar .int [(.int (0 : Int32)), (.int (8 : Int32)), (.int (10 : Int32)), (.int (13 : Int32)), (.int (0 : Int32)), (.int (0 : Int32)), (.int (0 : Int32)), (.int (0 : Int32)), (.int (0 : Int32)), (.int (0 : Int32)), (.int (0 : Int32)), (.int (0 : Int32)), (.int (0 : Int32)), (.int (0 : Int32)), (.int (0 : Int32)), (.int (0 : Int32))]) :: []) := R14
  have pre15 : ∀ t, Steps p.tables e below (T14.setTop (mkF m 23 #[.val (.int px), .val (.int qx), .val (.int dx), .unset, .unset] [(.ref b2)])) t → Steps p.tables e below (s₁.setTop (entryFrame m #[(.int px), (.int qx), (.int dx)] maxLocals)) t := fun t k => pre13 t (st14 t k)
  have pre16 : ∀ t, Steps p.tables e below (T14.setTop (mkF m 27 #[.val (.int px), .val (.int qx), .val (.int dx), .unset, .unset] [(.int (31 : Int32)), (.int (4 : Int32)), (.ref b2), (.ref b2)])) t → Steps p.tables e below (s₁.setTop (entryFrame m #[(.int px), (.int qx), (.int dx)] maxLocals)) t := fun t k => pre15 t (by
    show Steps p.tables e below (T14.setTop (mkF m 23 #[.val (.int px), .val (.int qx), .val (.int dx), .unset, .unset] [(.ref b2)])) _
    refine XS.dup X14.here hx rfl (hb hby at_23) rfl rfl ?_
    refine XS.iconst X14.here hx rfl (hb hby at_24) ?_
    refine XS.bipush X14.here hx rfl (hb hby at_25) ?_
    exact k)
  obtain ⟨T17, h17, ls17, X17, e17, N17, R17, st17⟩ := gIst X14 hx hZ e14 N14 R14 0 rfl (j := (4 : Int32)) (by decide) (4) rfl (by decide) (g := (mkF m 27 #[.val (.int px), .val (.int qx), .val (.int dx), .unset, .unset] [(.int (31 : Int32)), (.int (4 : Int32)), (.ref b2), (.ref b2)])) rfl rfl (hb hby at_27)
  replace R17 : Rep Z n0 h17 ((b2, Ar .int [(.int (0 : Int32)), (.int (8 : Int32)), (.int (10 : Int32)), (.int (13 : Int32)), (.int (31 : Int32)), (.int (0 : Int32)), (.int (0 : Int32)), (.int (0 : Int32)), (.int (0 : Int32)), (.int (0 : Int32)), (.int (0 : Int32)), (.int (0 : Int32)), (.int (0 : Int32)), (.int (0 : Int32)), (.int (0 : Int32)), (.int (0 : Int32))]) :: []) := R17
  have pre18 : ∀ t, Steps p.tables e below (T17.setTop (mkF m 28 #[.val (.int px), .val (.int qx), .val (.int dx), .unset, .unset] [(.ref b2)])) t → Steps p.tables e below (s₁.setTop (entryFrame m #[(.int px), (.int qx), (.int dx)] maxLocals)) t := fun t k => pre16 t (st17 t k)
  have pre19 : ∀ t, Steps p.tables e below (T17.setTop (mkF m 32 #[.val (.int px), .val (.int qx), .val (.int dx), .unset, .unset] [(.int (127 : Int32)), (.int (5 : Int32)), (.ref b2), (.ref b2)])) t → Steps p.tables e below (s₁.setTop (entryFrame m #[(.int px), (.int qx), (.int dx)] maxLocals)) t := fun t k => pre18 t (by
    show Steps p.tables e below (T17.setTop (mkF m 28 #[.val (.int px), .val (.int qx), .val (.int dx), .unset, .unset] [(.ref b2)])) _
    refine XS.dup X17.here hx rfl (hb hby at_28) rfl rfl ?_
    refine XS.iconst X17.here hx rfl (hb hby at_29) ?_
    refine XS.bipush X17.here hx rfl (hb hby at_30) ?_
    exact k)
  obtain ⟨T20, h20, ls20, X20, e20, N20, R20, st20⟩ := gIst X17 hx hZ e17 N17 R17 0 rfl (j := (5 : Int32)) (by decide) (5) rfl (by decide) (g := (mkF m 32 #[.val (.int px), .val (.int qx), .val (.int dx), .unset, .unset] [(.int (127 : Int32)), (.int (5 : Int32)), (.ref b2), (.ref b2)])) rfl rfl (hb hby at_32)
  replace R20 : Rep Z n0 h20 ((b2, Ar .int [(.int (0 : Int32)), (.int (8 : Int32)), (.int (10 : Int32)), (.int (13 : Int32)), (.int (31 : Int32)), (.int (127 : Int32)), (.int (0 : Int32)), (.int (0 : Int32)), (.int (0 : Int32)), (.int (0 : Int32)), (.int (0 : Int32)), (.int (0 : Int32)), (.int (0 : Int32)), (.int (0 : Int32)), (.int (0 : Int32)), (.int (0 : Int32))]) :: []) := R20
  have pre21 : ∀ t, Steps p.tables e below (T20.setTop (mkF m 33 #[.val (.int px), .val (.int qx), .val (.int dx), .unset, .unset] [(.ref b2)])) t → Steps p.tables e below (s₁.setTop (entryFrame m #[(.int px), (.int qx), (.int dx)] maxLocals)) t := fun t k => pre19 t (st20 t k)
  have pre22 : ∀ t, Steps p.tables e below (T20.setTop (mkF m 38 #[.val (.int px), .val (.int qx), .val (.int dx), .unset, .unset] [(.int (55295 : Int32)), (.int (6 : Int32)), (.ref b2), (.ref b2)])) t → Steps p.tables e below (s₁.setTop (entryFrame m #[(.int px), (.int qx), (.int dx)] maxLocals)) t := fun t k => pre21 t (by
    show Steps p.tables e below (T20.setTop (mkF m 33 #[.val (.int px), .val (.int qx), .val (.int dx), .unset, .unset] [(.ref b2)])) _
    refine XS.dup X20.here hx rfl (hb hby at_33) rfl rfl ?_
    refine XS.bipush X20.here hx rfl (hb hby at_34) ?_
    refine X20.ldcInt hx hown (mvT hZ (hw _ (List.mem_of_getElem? (i := 1) rfl))) (g := (mkF m 36 #[.val (.int px), .val (.int qx), .val (.int dx), .unset, .unset] [(.int (6 : Int32)), (.ref b2), (.ref b2)])) rfl (hb hby at_36) _ ?_
    exact k)
  obtain ⟨T23, h23, ls23, X23, e23, N23, R23, st23⟩ := gIst X20 hx hZ e20 N20 R20 0 rfl (j := (6 : Int32)) (by decide) (6) rfl (by decide) (g := (mkF m 38 #[.val (.int px), .val (.int qx), .val (.int dx), .unset, .unset] [(.int (55295 : Int32)), (.int (6 : Int32)), (.ref b2), (.ref b2)])) rfl rfl (hb hby at_38)
  replace R23 : Rep Z n0 h23 ((b2, Ar .int [(.int (0 : Int32)), (.int (8 : Int32)), (.int (10 : Int32)), (.int (13 : Int32)), (.int (31 : Int32)), (.int (127 : Int32)), (.int (55295 : Int32)), (.int (0 : Int32)), (.int (0 : Int32)), (.int (0 : Int32)), (.int (0 : Int32)), (.int (0 : Int32)), (.int (0 : Int32)), (.int (0 : Int32)), (.int (0 : Int32)), (.int (0 : Int32))]) :: []) := R23
  have pre24 : ∀ t, Steps p.tables e below (T23.setTop (mkF m 39 #[.val (.int px), .val (.int qx), .val (.int dx), .unset, .unset] [(.ref b2)])) t → Steps p.tables e below (s₁.setTop (entryFrame m #[(.int px), (.int qx), (.int dx)] maxLocals)) t := fun t k => pre22 t (st23 t k)
  have pre25 : ∀ t, Steps p.tables e below (T23.setTop (mkF m 44 #[.val (.int px), .val (.int qx), .val (.int dx), .unset, .unset] [(.int (57343 : Int32)), (.int (7 : Int32)), (.ref b2), (.ref b2)])) t → Steps p.tables e below (s₁.setTop (entryFrame m #[(.int px), (.int qx), (.int dx)] maxLocals)) t := fun t k => pre24 t (by
    show Steps p.tables e below (T23.setTop (mkF m 39 #[.val (.int px), .val (.int qx), .val (.int dx), .unset, .unset] [(.ref b2)])) _
    refine XS.dup X23.here hx rfl (hb hby at_39) rfl rfl ?_
    refine XS.bipush X23.here hx rfl (hb hby at_40) ?_
    refine X23.ldcInt hx hown (mvT hZ (hw _ (List.mem_of_getElem? (i := 2) rfl))) (g := (mkF m 42 #[.val (.int px), .val (.int qx), .val (.int dx), .unset, .unset] [(.int (7 : Int32)), (.ref b2), (.ref b2)])) rfl (hb hby at_42) _ ?_
    exact k)
  obtain ⟨T26, h26, ls26, X26, e26, N26, R26, st26⟩ := gIst X23 hx hZ e23 N23 R23 0 rfl (j := (7 : Int32)) (by decide) (7) rfl (by decide) (g := (mkF m 44 #[.val (.int px), .val (.int qx), .val (.int dx), .unset, .unset] [(.int (57343 : Int32)), (.int (7 : Int32)), (.ref b2), (.ref b2)])) rfl rfl (hb hby at_44)
  replace R26 : Rep Z n0 h26 ((b2, Ar .int [(.int (0 : Int32)), (.int (8 : Int32)), (.int (10 : Int32)), (.int (13 : Int32)), (.int (31 : Int32)), (.int (127 : Int32)), (.int (55295 : Int32)), (.int (57343 : Int32)), (.int (0 : Int32)), (.int (0 : Int32)), (.int (0 : Int32)), (.int (0 : Int32)), (.int (0 : Int32)), (.int (0 : Int32)), (.int (0 : Int32)), (.int (0 : Int32))]) :: []) := R26
  have pre27 : ∀ t, Steps p.tables e below (T26.setTop (mkF m 45 #[.val (.int px), .val (.int qx), .val (.int dx), .unset, .unset] [(.ref b2)])) t → Steps p.tables e below (s₁.setTop (entryFrame m #[(.int px), (.int qx), (.int dx)] maxLocals)) t := fun t k => pre25 t (st26 t k)
  have pre28 : ∀ t, Steps p.tables e below (T26.setTop (mkF m 50 #[.val (.int px), .val (.int qx), .val (.int dx), .unset, .unset] [(.int (65533 : Int32)), (.int (8 : Int32)), (.ref b2), (.ref b2)])) t → Steps p.tables e below (s₁.setTop (entryFrame m #[(.int px), (.int qx), (.int dx)] maxLocals)) t := fun t k => pre27 t (by
    show Steps p.tables e below (T26.setTop (mkF m 45 #[.val (.int px), .val (.int qx), .val (.int dx), .unset, .unset] [(.ref b2)])) _
    refine XS.dup X26.here hx rfl (hb hby at_45) rfl rfl ?_
    refine XS.bipush X26.here hx rfl (hb hby at_46) ?_
    refine X26.ldcInt hx hown (mvT hZ (hw _ (List.mem_of_getElem? (i := 3) rfl))) (g := (mkF m 48 #[.val (.int px), .val (.int qx), .val (.int dx), .unset, .unset] [(.int (8 : Int32)), (.ref b2), (.ref b2)])) rfl (hb hby at_48) _ ?_
    exact k)
  obtain ⟨T29, h29, ls29, X29, e29, N29, R29, st29⟩ := gIst X26 hx hZ e26 N26 R26 0 rfl (j := (8 : Int32)) (by decide) (8) rfl (by decide) (g := (mkF m 50 #[.val (.int px), .val (.int qx), .val (.int dx), .unset, .unset] [(.int (65533 : Int32)), (.int (8 : Int32)), (.ref b2), (.ref b2)])) rfl rfl (hb hby at_50)
  replace R29 : Rep Z n0 h29 ((b2, Ar .int [(.int (0 : Int32)), (.int (8 : Int32)), (.int (10 : Int32)), (.int (13 : Int32)), (.int (31 : Int32)), (.int (127 : Int32)), (.int (55295 : Int32)), (.int (57343 : Int32)), (.int (65533 : Int32)), (.int (0 : Int32)), (.int (0 : Int32)), (.int (0 : Int32)), (.int (0 : Int32)), (.int (0 : Int32)), (.int (0 : Int32)), (.int (0 : Int32))]) :: []) := R29
  have pre30 : ∀ t, Steps p.tables e below (T29.setTop (mkF m 51 #[.val (.int px), .val (.int qx), .val (.int dx), .unset, .unset] [(.ref b2)])) t → Steps p.tables e below (s₁.setTop (entryFrame m #[(.int px), (.int qx), (.int dx)] maxLocals)) t := fun t k => pre28 t (st29 t k)
  have pre31 : ∀ t, Steps p.tables e below (T29.setTop (mkF m 56 #[.val (.int px), .val (.int qx), .val (.int dx), .unset, .unset] [(.int (65535 : Int32)), (.int (9 : Int32)), (.ref b2), (.ref b2)])) t → Steps p.tables e below (s₁.setTop (entryFrame m #[(.int px), (.int qx), (.int dx)] maxLocals)) t := fun t k => pre30 t (by
    show Steps p.tables e below (T29.setTop (mkF m 51 #[.val (.int px), .val (.int qx), .val (.int dx), .unset, .unset] [(.ref b2)])) _
    refine XS.dup X29.here hx rfl (hb hby at_51) rfl rfl ?_
    refine XS.bipush X29.here hx rfl (hb hby at_52) ?_
    refine X29.ldcInt hx hown (mvT hZ (hw _ (List.mem_of_getElem? (i := 4) rfl))) (g := (mkF m 54 #[.val (.int px), .val (.int qx), .val (.int dx), .unset, .unset] [(.int (9 : Int32)), (.ref b2), (.ref b2)])) rfl (hb hby at_54) _ ?_
    exact k)
  obtain ⟨T32, h32, ls32, X32, e32, N32, R32, st32⟩ := gIst X29 hx hZ e29 N29 R29 0 rfl (j := (9 : Int32)) (by decide) (9) rfl (by decide) (g := (mkF m 56 #[.val (.int px), .val (.int qx), .val (.int dx), .unset, .unset] [(.int (65535 : Int32)), (.int (9 : Int32)), (.ref b2), (.ref b2)])) rfl rfl (hb hby at_56)
  replace R32 : Rep Z n0 h32 ((b2, Ar .int [(.int (0 : Int32)), (.int (8 : Int32)), (.int (10 : Int32)), (.int (13 : Int32)), (.int (31 : Int32)), (.int (127 : Int32)), (.int (55295 : Int32)), (.int (57343 : Int32)), (.int (65533 : Int32)), (.int (65535 : Int32)), (.int (0 : Int32)), (.int (0 : Int32)), (.int (0 : Int32)), (.int (0 : Int32)), (.int (0 : Int32)), (.int (0 : Int32))]) :: []) := R32
  have pre33 : ∀ t, Steps p.tables e below (T32.setTop (mkF m 57 #[.val (.int px), .val (.int qx), .val (.int dx), .unset, .unset] [(.ref b2)])) t → Steps p.tables e below (s₁.setTop (entryFrame m #[(.int px), (.int qx), (.int dx)] maxLocals)) t := fun t k => pre31 t (st32 t k)
  have pre34 : ∀ t, Steps p.tables e below (T32.setTop (mkF m 62 #[.val (.int px), .val (.int qx), .val (.int dx), .unset, .unset] [(.int (1114111 : Int32)), (.int (10 : Int32)), (.ref b2), (.ref b2)])) t → Steps p.tables e below (s₁.setTop (entryFrame m #[(.int px), (.int qx), (.int dx)] maxLocals)) t := fun t k => pre33 t (by
    show Steps p.tables e below (T32.setTop (mkF m 57 #[.val (.int px), .val (.int qx), .val (.int dx), .unset, .unset] [(.ref b2)])) _
    refine XS.dup X32.here hx rfl (hb hby at_57) rfl rfl ?_
    refine XS.bipush X32.here hx rfl (hb hby at_58) ?_
    refine X32.ldcInt hx hown (mvT hZ (hw _ (List.mem_of_getElem? (i := 5) rfl))) (g := (mkF m 60 #[.val (.int px), .val (.int qx), .val (.int dx), .unset, .unset] [(.int (10 : Int32)), (.ref b2), (.ref b2)])) rfl (hb hby at_60) _ ?_
    exact k)
  obtain ⟨T35, h35, ls35, X35, e35, N35, R35, st35⟩ := gIst X32 hx hZ e32 N32 R32 0 rfl (j := (10 : Int32)) (by decide) (10) rfl (by decide) (g := (mkF m 62 #[.val (.int px), .val (.int qx), .val (.int dx), .unset, .unset] [(.int (1114111 : Int32)), (.int (10 : Int32)), (.ref b2), (.ref b2)])) rfl rfl (hb hby at_62)
  replace R35 : Rep Z n0 h35 ((b2, Ar .int [(.int (0 : Int32)), (.int (8 : Int32)), (.int (10 : Int32)), (.int (13 : Int32)), (.int (31 : Int32)), (.int (127 : Int32)), (.int (55295 : Int32)), (.int (57343 : Int32)), (.int (65533 : Int32)), (.int (65535 : Int32)), (.int (1114111 : Int32)), (.int (0 : Int32)), (.int (0 : Int32)), (.int (0 : Int32)), (.int (0 : Int32)), (.int (0 : Int32))]) :: []) := R35
  have pre36 : ∀ t, Steps p.tables e below (T35.setTop (mkF m 63 #[.val (.int px), .val (.int qx), .val (.int dx), .unset, .unset] [(.ref b2)])) t → Steps p.tables e below (s₁.setTop (entryFrame m #[(.int px), (.int qx), (.int dx)] maxLocals)) t := fun t k => pre34 t (st35 t k)
  have pre37 : ∀ t, Steps p.tables e below (T35.setTop (mkF m 68 #[.val (.int px), .val (.int qx), .val (.int dx), .unset, .unset] [(.int (-2147483648 : Int32)), (.int (11 : Int32)), (.ref b2), (.ref b2)])) t → Steps p.tables e below (s₁.setTop (entryFrame m #[(.int px), (.int qx), (.int dx)] maxLocals)) t := fun t k => pre36 t (by
    show Steps p.tables e below (T35.setTop (mkF m 63 #[.val (.int px), .val (.int qx), .val (.int dx), .unset, .unset] [(.ref b2)])) _
    refine XS.dup X35.here hx rfl (hb hby at_63) rfl rfl ?_
    refine XS.bipush X35.here hx rfl (hb hby at_64) ?_
    refine X35.ldcInt hx hown (mvT hZ (hw _ (List.mem_of_getElem? (i := 6) rfl))) (g := (mkF m 66 #[.val (.int px), .val (.int qx), .val (.int dx), .unset, .unset] [(.int (11 : Int32)), (.ref b2), (.ref b2)])) rfl (hb hby at_66) _ ?_
    exact k)
  obtain ⟨T38, h38, ls38, X38, e38, N38, R38, st38⟩ := gIst X35 hx hZ e35 N35 R35 0 rfl (j := (11 : Int32)) (by decide) (11) rfl (by decide) (g := (mkF m 68 #[.val (.int px), .val (.int qx), .val (.int dx), .unset, .unset] [(.int (-2147483648 : Int32)), (.int (11 : Int32)), (.ref b2), (.ref b2)])) rfl rfl (hb hby at_68)
  replace R38 : Rep Z n0 h38 ((b2, Ar .int [(.int (0 : Int32)), (.int (8 : Int32)), (.int (10 : Int32)), (.int (13 : Int32)), (.int (31 : Int32)), (.int (127 : Int32)), (.int (55295 : Int32)), (.int (57343 : Int32)), (.int (65533 : Int32)), (.int (65535 : Int32)), (.int (1114111 : Int32)), (.int (-2147483648 : Int32)), (.int (0 : Int32)), (.int (0 : Int32)), (.int (0 : Int32)), (.int (0 : Int32))]) :: []) := R38
  have pre39 : ∀ t, Steps p.tables e below (T38.setTop (mkF m 69 #[.val (.int px), .val (.int qx), .val (.int dx), .unset, .unset] [(.ref b2)])) t → Steps p.tables e below (s₁.setTop (entryFrame m #[(.int px), (.int qx), (.int dx)] maxLocals)) t := fun t k => pre37 t (st38 t k)
  have pre40 : ∀ t, Steps p.tables e below (T38.setTop (mkF m 74 #[.val (.int px), .val (.int qx), .val (.int dx), .unset, .unset] [(.int (2147483647 : Int32)), (.int (12 : Int32)), (.ref b2), (.ref b2)])) t → Steps p.tables e below (s₁.setTop (entryFrame m #[(.int px), (.int qx), (.int dx)] maxLocals)) t := fun t k => pre39 t (by
    show Steps p.tables e below (T38.setTop (mkF m 69 #[.val (.int px), .val (.int qx), .val (.int dx), .unset, .unset] [(.ref b2)])) _
    refine XS.dup X38.here hx rfl (hb hby at_69) rfl rfl ?_
    refine XS.bipush X38.here hx rfl (hb hby at_70) ?_
    refine X38.ldcInt hx hown (mvT hZ (hw _ (List.mem_of_getElem? (i := 7) rfl))) (g := (mkF m 72 #[.val (.int px), .val (.int qx), .val (.int dx), .unset, .unset] [(.int (12 : Int32)), (.ref b2), (.ref b2)])) rfl (hb hby at_72) _ ?_
    exact k)
  obtain ⟨T41, h41, ls41, X41, e41, N41, R41, st41⟩ := gIst X38 hx hZ e38 N38 R38 0 rfl (j := (12 : Int32)) (by decide) (12) rfl (by decide) (g := (mkF m 74 #[.val (.int px), .val (.int qx), .val (.int dx), .unset, .unset] [(.int (2147483647 : Int32)), (.int (12 : Int32)), (.ref b2), (.ref b2)])) rfl rfl (hb hby at_74)
  replace R41 : Rep Z n0 h41 ((b2, Ar .int [(.int (0 : Int32)), (.int (8 : Int32)), (.int (10 : Int32)), (.int (13 : Int32)), (.int (31 : Int32)), (.int (127 : Int32)), (.int (55295 : Int32)), (.int (57343 : Int32)), (.int (65533 : Int32)), (.int (65535 : Int32)), (.int (1114111 : Int32)), (.int (-2147483648 : Int32)), (.int (2147483647 : Int32)), (.int (0 : Int32)), (.int (0 : Int32)), (.int (0 : Int32))]) :: []) := R41
  have pre42 : ∀ t, Steps p.tables e below (T41.setTop (mkF m 75 #[.val (.int px), .val (.int qx), .val (.int dx), .unset, .unset] [(.ref b2)])) t → Steps p.tables e below (s₁.setTop (entryFrame m #[(.int px), (.int qx), (.int dx)] maxLocals)) t := fun t k => pre40 t (st41 t k)
  have pre43 : ∀ t, Steps p.tables e below (T41.setTop (mkF m 80 #[.val (.int px), .val (.int qx), .val (.int dx), .unset, .unset] [(.int (65279 : Int32)), (.int (13 : Int32)), (.ref b2), (.ref b2)])) t → Steps p.tables e below (s₁.setTop (entryFrame m #[(.int px), (.int qx), (.int dx)] maxLocals)) t := fun t k => pre42 t (by
    show Steps p.tables e below (T41.setTop (mkF m 75 #[.val (.int px), .val (.int qx), .val (.int dx), .unset, .unset] [(.ref b2)])) _
    refine XS.dup X41.here hx rfl (hb hby at_75) rfl rfl ?_
    refine XS.bipush X41.here hx rfl (hb hby at_76) ?_
    refine X41.ldcInt hx hown (mvT hZ (hw _ (List.mem_of_getElem? (i := 8) rfl))) (g := (mkF m 78 #[.val (.int px), .val (.int qx), .val (.int dx), .unset, .unset] [(.int (13 : Int32)), (.ref b2), (.ref b2)])) rfl (hb hby at_78) _ ?_
    exact k)
  obtain ⟨T44, h44, ls44, X44, e44, N44, R44, st44⟩ := gIst X41 hx hZ e41 N41 R41 0 rfl (j := (13 : Int32)) (by decide) (13) rfl (by decide) (g := (mkF m 80 #[.val (.int px), .val (.int qx), .val (.int dx), .unset, .unset] [(.int (65279 : Int32)), (.int (13 : Int32)), (.ref b2), (.ref b2)])) rfl rfl (hb hby at_80)
  replace R44 : Rep Z n0 h44 ((b2, Ar .int [(.int (0 : Int32)), (.int (8 : Int32)), (.int (10 : Int32)), (.int (13 : Int32)), (.int (31 : Int32)), (.int (127 : Int32)), (.int (55295 : Int32)), (.int (57343 : Int32)), (.int (65533 : Int32)), (.int (65535 : Int32)), (.int (1114111 : Int32)), (.int (-2147483648 : Int32)), (.int (2147483647 : Int32)), (.int (65279 : Int32)), (.int (0 : Int32)), (.int (0 : Int32))]) :: []) := R44
  have pre45 : ∀ t, Steps p.tables e below (T44.setTop (mkF m 81 #[.val (.int px), .val (.int qx), .val (.int dx), .unset, .unset] [(.ref b2)])) t → Steps p.tables e below (s₁.setTop (entryFrame m #[(.int px), (.int qx), (.int dx)] maxLocals)) t := fun t k => pre43 t (st44 t k)
  have pre46 : ∀ t, Steps p.tables e below (T44.setTop (mkF m 87 #[.val (.int px), .val (.int qx), .val (.int dx), .unset, .unset] [(.int (133 : Int32)), (.int (14 : Int32)), (.ref b2), (.ref b2)])) t → Steps p.tables e below (s₁.setTop (entryFrame m #[(.int px), (.int qx), (.int dx)] maxLocals)) t := fun t k => pre45 t (by
    show Steps p.tables e below (T44.setTop (mkF m 81 #[.val (.int px), .val (.int qx), .val (.int dx), .unset, .unset] [(.ref b2)])) _
    refine XS.dup X44.here hx rfl (hb hby at_81) rfl rfl ?_
    refine XS.bipush X44.here hx rfl (hb hby at_82) ?_
    refine XS.sipush X44.here hx rfl (hb hby at_84) ?_
    exact k)
  obtain ⟨T47, h47, ls47, X47, e47, N47, R47, st47⟩ := gIst X44 hx hZ e44 N44 R44 0 rfl (j := (14 : Int32)) (by decide) (14) rfl (by decide) (g := (mkF m 87 #[.val (.int px), .val (.int qx), .val (.int dx), .unset, .unset] [(.int (133 : Int32)), (.int (14 : Int32)), (.ref b2), (.ref b2)])) rfl rfl (hb hby at_87)
  replace R47 : Rep Z n0 h47 ((b2, Ar .int [(.int (0 : Int32)), (.int (8 : Int32)), (.int (10 : Int32)), (.int (13 : Int32)), (.int (31 : Int32)), (.int (127 : Int32)), (.int (55295 : Int32)), (.int (57343 : Int32)), (.int (65533 : Int32)), (.int (65535 : Int32)), (.int (1114111 : Int32)), (.int (-2147483648 : Int32)), (.int (2147483647 : Int32)), (.int (65279 : Int32)), (.int (133 : Int32)), (.int (0 : Int32))]) :: []) := R47
  have pre48 : ∀ t, Steps p.tables e below (T47.setTop (mkF m 88 #[.val (.int px), .val (.int qx), .val (.int dx), .unset, .unset] [(.ref b2)])) t → Steps p.tables e below (s₁.setTop (entryFrame m #[(.int px), (.int qx), (.int dx)] maxLocals)) t := fun t k => pre46 t (st47 t k)
  have pre49 : ∀ t, Steps p.tables e below (T47.setTop (mkF m 94 #[.val (.int px), .val (.int qx), .val (.int dx), .unset, .unset] [(.int (8232 : Int32)), (.int (15 : Int32)), (.ref b2), (.ref b2)])) t → Steps p.tables e below (s₁.setTop (entryFrame m #[(.int px), (.int qx), (.int dx)] maxLocals)) t := fun t k => pre48 t (by
    show Steps p.tables e below (T47.setTop (mkF m 88 #[.val (.int px), .val (.int qx), .val (.int dx), .unset, .unset] [(.ref b2)])) _
    refine XS.dup X47.here hx rfl (hb hby at_88) rfl rfl ?_
    refine XS.bipush X47.here hx rfl (hb hby at_89) ?_
    refine XS.sipush X47.here hx rfl (hb hby at_91) ?_
    exact k)
  obtain ⟨T50, h50, ls50, X50, e50, N50, R50, st50⟩ := gIst X47 hx hZ e47 N47 R47 0 rfl (j := (15 : Int32)) (by decide) (15) rfl (by decide) (g := (mkF m 94 #[.val (.int px), .val (.int qx), .val (.int dx), .unset, .unset] [(.int (8232 : Int32)), (.int (15 : Int32)), (.ref b2), (.ref b2)])) rfl rfl (hb hby at_94)
  replace R50 : Rep Z n0 h50 ((b2, Ar .int [(.int (0 : Int32)), (.int (8 : Int32)), (.int (10 : Int32)), (.int (13 : Int32)), (.int (31 : Int32)), (.int (127 : Int32)), (.int (55295 : Int32)), (.int (57343 : Int32)), (.int (65533 : Int32)), (.int (65535 : Int32)), (.int (1114111 : Int32)), (.int (-2147483648 : Int32)), (.int (2147483647 : Int32)), (.int (65279 : Int32)), (.int (133 : Int32)), (.int (8232 : Int32))]) :: []) := R50
  have pre51 : ∀ t, Steps p.tables e below (T50.setTop (mkF m 95 #[.val (.int px), .val (.int qx), .val (.int dx), .unset, .unset] [(.ref b2)])) t → Steps p.tables e below (s₁.setTop (entryFrame m #[(.int px), (.int qx), (.int dx)] maxLocals)) t := fun t k => pre49 t (st50 t k)
  have pre53 : ∀ t, Steps p.tables e below (T50.setTop (mkF m 99 #[.val (.int px), .val (.int qx), .val (.int dx), .val (.ref b2), .unset] [(.int (qx &&& (1 : Int32)))])) t → Steps p.tables e below (s₁.setTop (entryFrame m #[(.int px), (.int qx), (.int dx)] maxLocals)) t := fun t k => pre51 t (by
    show Steps p.tables e below (T50.setTop (mkF m 95 #[.val (.int px), .val (.int qx), .val (.int dx), .unset, .unset] [(.ref b2)])) _
    refine XS.astoreN X50.here hx rfl (hb hby at_95) rfl rfl (l' := #[.val (.int px), .val (.int qx), .val (.int dx), .val (.ref b2), .unset]) rfl ?_
    refine XS.iloadN X50.here hx rfl (hb hby at_96) rfl ?_
    refine XS.iconst X50.here hx rfl (hb hby at_97) ?_
    refine XS.iand X50.here hx rfl (hb hby at_98) rfl ?_
    exact k)
  by_cases hb55 : (qx &&& (1 : Int32)) = (0 : Int32)
  · have pre56 : ∀ t, Steps p.tables e below (T50.setTop (mkF m 102 #[.val (.int px), .val (.int qx), .val (.int dx), .val (.ref b2), .unset] [])) t → Steps p.tables e below (s₁.setTop (entryFrame m #[(.int px), (.int qx), (.int dx)] maxLocals)) t := fun t k => pre53 t (by show Steps p.tables e below (T50.setTop (mkF m 99 #[.val (.int px), .val (.int qx), .val (.int dx), .val (.ref b2), .unset] [(.int (qx &&& (1 : Int32)))])) _; refine XS.ifNo X50.here hx rfl (hb hby at_99) rfl ((if0 _ _).trans (teq hb55).2) ?_; exact k)
    have pre57 : ∀ t, Steps p.tables e below (T50.setTop (mkF m 126 #[.val (.int px), .val (.int qx), .val (.int dx), .val (.ref b2), .val (.int px)] [(.int px)])) t → Steps p.tables e below (s₁.setTop (entryFrame m #[(.int px), (.int qx), (.int dx)] maxLocals)) t := fun t k => pre56 t (by
      show Steps p.tables e below (T50.setTop (mkF m 102 #[.val (.int px), .val (.int qx), .val (.int dx), .val (.ref b2), .unset] [])) _
      refine XS.iloadN X50.here hx rfl (hb hby at_102) rfl ?_
      refine XS.istore X50.here hx rfl (hb hby at_103) rfl (l' := #[.val (.int px), .val (.int qx), .val (.int dx), .val (.ref b2), .val (.int px)]) rfl ?_
      refine XS.goto X50.here hx rfl (pc0 := 105) (pc' := 124) rfl (hb hby at_105) (by decide) (by decide) ?_
      refine XS.iload X50.here hx rfl (hb hby at_124) rfl ?_
      exact k)
    obtain ⟨_, _, ⟨T58, L58, k58, n58⟩, -, X58, ⟨Lc58, hQ58, l58, y58, z58⟩, st58⟩ := Jvm.LawKit.callS X50 hx (y := (⟨"com/example/taggen/taggen/XmlChars", "isChar", "(I)Z"⟩ : MethodName)) hown (mvT hZ (hw _ (List.mem_of_getElem? (i := 9) rfl))) (mvT hZ (hw _ (List.mem_of_getElem? (i := 10) rfl))) (mvT hZ (hw _ (List.mem_of_getElem? (i := 11) rfl))) (mvT hZ (hw _ (List.mem_of_getElem? (i := 12) rfl))) (by decide) (backOf (W := 0) (rm1 l Z a0 hw [] px  h50 n0 _ R50 ) hZ (hw _ (List.mem_of_getElem? (i := 12) rfl)) (hw _ (List.mem_of_getElem? (i := 11) rfl)) (by decide) (by decide)) (g := (mkF m 126 #[.val (.int px), .val (.int qx), .val (.int dx), .val (.ref b2), .val (.int px)] [(.int px)])) rfl (by rw [hml]; rfl) (argsL := [(.int px)]) (rest := []) (lenOf pd__28I_29Z rfl) rfl (by show 2 * 0 + _ ≤ _; exact Nat.le_of_eq rfl) (hb hby at_126) (fun _ _ => ⟨rfl, e50, (by decide : 1 + 0 ≤ _), (by decide : 16 + 0 ≤ _)⟩)
    dsimp only [Pt.U, Pt.locs, Pt.cells, Pt.slots] at X58 l58 y58 z58 st58 hQ58
    subst l58 y58 z58
    obtain ⟨rfl, N58q, R58⟩ := hQ58
    have N58 := Fr.app N50 N58q
    replace R58 : Rep Z n0 T58.heap ((b2, Ar .int [(.int (0 : Int32)), (.int (8 : Int32)), (.int (10 : Int32)), (.int (13 : Int32)), (.int (31 : Int32)), (.int (127 : Int32)), (.int (55295 : Int32)), (.int (57343 : Int32)), (.int (65533 : Int32)), (.int (65535 : Int32)), (.int (1114111 : Int32)), (.int (-2147483648 : Int32)), (.int (2147483647 : Int32)), (.int (65279 : Int32)), (.int (133 : Int32)), (.int (8232 : Int32))]) :: []) := R58
    have pre59 : ∀ t, Steps p.tables e below (T58.setTop (mkF m 129 #[.val (.int px), .val (.int qx), .val (.int dx), .val (.ref b2), .val (.int px)] [(.int (F1 px))])) t → Steps p.tables e below (s₁.setTop (entryFrame m #[(.int px), (.int qx), (.int dx)] maxLocals)) t := fun t k => pre57 t (st58 t k)
    have pre60 : ∀ t, Steps p.tables e below (T58.setTop (mkF m 131 #[.val (.int px), .val (.int qx), .val (.int dx), .val (.ref b2), .val (.int px)] [(.int px), (.int (F1 px))])) t → Steps p.tables e below (s₁.setTop (entryFrame m #[(.int px), (.int qx), (.int dx)] maxLocals)) t := fun t k => pre59 t (by
      show Steps p.tables e below (T58.setTop (mkF m 129 #[.val (.int px), .val (.int qx), .val (.int dx), .val (.ref b2), .val (.int px)] [(.int (F1 px))])) _
      refine XS.iload X58.here hx rfl (hb hby at_129) rfl ?_
      exact k)
    obtain ⟨_, _, ⟨T61, L61, k61, n61⟩, -, X61, ⟨Lc61, hQ61, l61, y61, z61⟩, st61⟩ := Jvm.LawKit.callS X58 hx (y := (⟨"com/example/taggen/taggen/XmlCharsIsCharPinLaw", "expected", "(I)Z"⟩ : MethodName)) hown (mvT hZ (hw _ (List.mem_of_getElem? (i := 13) rfl))) (mvT hZ (hw _ (List.mem_of_getElem? (i := 14) rfl))) (mvT hZ (hw _ (List.mem_of_getElem? (i := 15) rfl))) (mvT hZ (hw _ (List.mem_of_getElem? (i := 16) rfl))) (by decide) (backOf (W := 1) (rm2 l Z a0 hw [] px  T58.heap n0 _ R58 ) hZ (hw _ (List.mem_of_getElem? (i := 16) rfl)) (hw _ (List.mem_of_getElem? (i := 15) rfl)) (by decide) (by decide)) (g := (mkF m 131 #[.val (.int px), .val (.int qx), .val (.int dx), .val (.ref b2), .val (.int px)] [(.int px), (.int (F1 px))])) rfl (by rw [hml]; rfl) (argsL := [(.int px)]) (rest := [(.int (F1 px))]) (lenOf pd__28I_29Z rfl) rfl (by show 2 * 0 + _ ≤ _; exact Nat.le_of_eq rfl) (hb hby at_131) (fun _ _ => ⟨rfl, rfl, (by decide : 1 + 0 ≤ _), (by decide : 16 + 0 ≤ _)⟩)
    dsimp only [Pt.U, Pt.locs, Pt.cells, Pt.slots] at X61 l61 y61 z61 st61 hQ61
    subst l61 y61 z61
    obtain ⟨rfl, N61q, R61⟩ := hQ61
    have N61 := Fr.app N58 N61q
    replace R61 : Rep Z n0 T61.heap ((b2, Ar .int [(.int (0 : Int32)), (.int (8 : Int32)), (.int (10 : Int32)), (.int (13 : Int32)), (.int (31 : Int32)), (.int (127 : Int32)), (.int (55295 : Int32)), (.int (57343 : Int32)), (.int (65533 : Int32)), (.int (65535 : Int32)), (.int (1114111 : Int32)), (.int (-2147483648 : Int32)), (.int (2147483647 : Int32)), (.int (65279 : Int32)), (.int (133 : Int32)), (.int (8232 : Int32))]) :: []) := R61
    have pre62 : ∀ t, Steps p.tables e below (T61.setTop (mkF m 134 #[.val (.int px), .val (.int qx), .val (.int dx), .val (.ref b2), .val (.int px)] [(.int (F2 px)), (.int (F1 px))])) t → Steps p.tables e below (s₁.setTop (entryFrame m #[(.int px), (.int qx), (.int dx)] maxLocals)) t := fun t k => pre60 t (st61 t k)
    have tl64 : ∀ t, Steps p.tables e below (T61.setTop (mkF m 142 #[.val (.int px), .val (.int qx), .val (.int dx), .val (.ref b2), .val (.int px)] [(.int (bz ((F1 px) = (F2 px))))])) t → Steps p.tables e below (T61.setTop (mkF m 134 #[.val (.int px), .val (.int qx), .val (.int dx), .val (.ref b2), .val (.int px)] [(.int (F2 px)), (.int (F1 px))])) t := fun t k => by
      by_cases hb63 : (F1 px) = (F2 px)
      · refine XS.icmpNo X61.here hx rfl (hb hby at_134) rfl (teq hb63).2 ?_
        rw [bz_one (P := ((F1 px) = (F2 px))) (iff_true_intro hb63)] at k
        show Steps p.tables e below (T61.setTop (mkF m 137 #[.val (.int px), .val (.int qx), .val (.int dx), .val (.ref b2), .val (.int px)] [])) _
        refine XS.iconst X61.here hx rfl (hb hby at_137) ?_
        refine XS.goto X61.here hx rfl (pc0 := 138) (pc' := 142) rfl (hb hby at_138) (by decide) (by decide) ?_
        exact k
      · refine XS.icmpYes X61.here hx rfl (pc0 := 134) (pc' := 141) rfl (hb hby at_134) rfl (feq hb63).2 (by decide) (by decide) ?_
        rw [bz_zero (P := ((F1 px) = (F2 px))) (iff_false_intro hb63)] at k
        show Steps p.tables e below (T61.setTop (mkF m 141 #[.val (.int px), .val (.int qx), .val (.int dx), .val (.ref b2), .val (.int px)] [])) _
        refine XS.iconst X61.here hx rfl (hb hby at_141) ?_
        exact k
    have pre65 : ∀ t, Steps p.tables e below (T61.setTop (mkF m 142 #[.val (.int px), .val (.int qx), .val (.int dx), .val (.ref b2), .val (.int px)] [(.int (bz ((F1 px) = (F2 px))))])) t → Steps p.tables e below (s₁.setTop (entryFrame m #[(.int px), (.int qx), (.int dx)] maxLocals)) t := fun t k => pre62 t (by
      exact tl64 t k)
    obtain ⟨fs, hr, hrun, hended, hW, hsame⟩ := X61.leave (v := some (.int (nar .boolean (bz ((F1 px) = (F2 px)))))) (fun h => by rw [Bd.returns] at h; cases h)
    refine ⟨_, _, pre65 _ ?_, hrun, hended, _, _, rfl, ?_, ⟨_, rfl⟩, hW, hsame.mono (by decide) (by decide)⟩
    · show Steps p.tables e below (T61.setTop (mkF m 142 #[.val (.int px), .val (.int qx), .val (.int dx), .val (.ref b2), .val (.int px)] [(.int (bz ((F1 px) = (F2 px))))])) _
      exact retN X61 hx (t := .boolean) Bd.returns (by simp) (hb hby at_142) hr
    · show Q0 Z px qx dx n0 [] _ T61.heap _
      have R66 : Rep Z n0 T61.heap ([]) := (R61.front 0 rfl rfl : Rep Z n0 T61.heap ((b2, Ar .int [(.int (0 : Int32)), (.int (8 : Int32)), (.int (10 : Int32)), (.int (13 : Int32)), (.int (31 : Int32)), (.int (127 : Int32)), (.int (55295 : Int32)), (.int (57343 : Int32)), (.int (65533 : Int32)), (.int (65535 : Int32)), (.int (1114111 : Int32)), (.int (-2147483648 : Int32)), (.int (2147483647 : Int32)), (.int (65279 : Int32)), (.int (133 : Int32)), (.int (8232 : Int32))]) :: [])).tail
      exact ⟨(by exact ow_fin (own_eq _)), N61, R66⟩
  · have pre67 : ∀ t, Steps p.tables e below (T50.setTop (mkF m 108 #[.val (.int px), .val (.int qx), .val (.int dx), .val (.ref b2), .unset] [])) t → Steps p.tables e below (s₁.setTop (entryFrame m #[(.int px), (.int qx), (.int dx)] maxLocals)) t := fun t k => pre53 t (by show Steps p.tables e below (T50.setTop (mkF m 99 #[.val (.int px), .val (.int qx), .val (.int dx), .val (.ref b2), .unset] [(.int (qx &&& (1 : Int32)))])) _; refine XS.ifYes X50.here hx rfl (pc0 := 99) (pc' := 108) rfl (hb hby at_99) rfl ((if0 _ _).trans (feq hb55).2) (by decide) (by decide) ?_; exact k)
    obtain ⟨wq, hwq⟩ := own_get [(0 : Int32), (8 : Int32), (10 : Int32), (13 : Int32), (31 : Int32), (127 : Int32), (55295 : Int32), (57343 : Int32), (65533 : Int32), (65535 : Int32), (1114111 : Int32), (-2147483648 : Int32), (2147483647 : Int32), (65279 : Int32), (133 : Int32), (8232 : Int32)] (((iushr qx (1 : Int32)) &&& (15 : Int32))).toNatClampNeg (own_ix _).2
    have pre69 : ∀ t, Steps p.tables e below (T50.setTop (mkF m 124 #[.val (.int px), .val (.int qx), .val (.int dx), .val (.ref b2), .val (.int (wq + ((dx &&& (3 : Int32)) - (1 : Int32))))] [])) t → Steps p.tables e below (s₁.setTop (entryFrame m #[(.int px), (.int qx), (.int dx)] maxLocals)) t := fun t k => pre67 t (by
      show Steps p.tables e below (T50.setTop (mkF m 108 #[.val (.int px), .val (.int qx), .val (.int dx), .val (.ref b2), .unset] [])) _
      refine XS.aloadN X50.here hx rfl (hb hby at_108) rfl rfl ?_
      refine XS.iloadN X50.here hx rfl (hb hby at_109) rfl ?_
      refine XS.iconst X50.here hx rfl (hb hby at_110) ?_
      refine XS.iushr X50.here hx rfl (hb hby at_111) rfl ?_
      refine XS.bipush X50.here hx rfl (hb hby at_112) ?_
      refine XS.iand X50.here hx rfl (hb hby at_114) rfl ?_
      refine gIald X50 hx hZ e50 R50 0 rfl (j := ((iushr qx (1 : Int32)) &&& (15 : Int32))) (v := (.int wq)) ((own_ix _).1) (hwq) (g := (mkF m 115 #[.val (.int px), .val (.int qx), .val (.int dx), .val (.ref b2), .unset] [(.int ((iushr qx (1 : Int32)) &&& (15 : Int32))), (.ref b2)])) rfl rfl (hb hby at_115) _ ?_
      show Steps p.tables e below (T50.setTop (mkF m 116 #[.val (.int px), .val (.int qx), .val (.int dx), .val (.ref b2), .unset] [(.int wq)])) _
      refine XS.iloadN X50.here hx rfl (hb hby at_116) rfl ?_
      refine XS.iconst X50.here hx rfl (hb hby at_117) ?_
      refine XS.iand X50.here hx rfl (hb hby at_118) rfl ?_
      refine XS.iconst X50.here hx rfl (hb hby at_119) ?_
      refine XS.isub X50.here hx rfl (hb hby at_120) rfl ?_
      refine XS.iadd X50.here hx rfl (hb hby at_121) rfl ?_
      refine XS.istore X50.here hx rfl (hb hby at_122) rfl (l' := #[.val (.int px), .val (.int qx), .val (.int dx), .val (.ref b2), .val (.int (wq + ((dx &&& (3 : Int32)) - (1 : Int32))))]) rfl ?_
      exact k)
    obtain ⟨v68, hv68⟩ : ∃ z : Int32, z = (wq + ((dx &&& (3 : Int32)) - (1 : Int32))) := ⟨_, rfl⟩
    rw [← hv68] at pre69
    have pre70 : ∀ t, Steps p.tables e below (T50.setTop (mkF m 126 #[.val (.int px), .val (.int qx), .val (.int dx), .val (.ref b2), .val (.int v68)] [(.int v68)])) t → Steps p.tables e below (s₁.setTop (entryFrame m #[(.int px), (.int qx), (.int dx)] maxLocals)) t := fun t k => pre69 t (by
      show Steps p.tables e below (T50.setTop (mkF m 124 #[.val (.int px), .val (.int qx), .val (.int dx), .val (.ref b2), .val (.int v68)] [])) _
      refine XS.iload X50.here hx rfl (hb hby at_124) rfl ?_
      exact k)
    obtain ⟨_, _, ⟨T71, L71, k71, n71⟩, -, X71, ⟨Lc71, hQ71, l71, y71, z71⟩, st71⟩ := Jvm.LawKit.callS X50 hx (y := (⟨"com/example/taggen/taggen/XmlChars", "isChar", "(I)Z"⟩ : MethodName)) hown (mvT hZ (hw _ (List.mem_of_getElem? (i := 9) rfl))) (mvT hZ (hw _ (List.mem_of_getElem? (i := 10) rfl))) (mvT hZ (hw _ (List.mem_of_getElem? (i := 11) rfl))) (mvT hZ (hw _ (List.mem_of_getElem? (i := 12) rfl))) (by decide) (backOf (W := 0) (rm1 l Z a0 hw [] v68  h50 n0 _ R50 ) hZ (hw _ (List.mem_of_getElem? (i := 12) rfl)) (hw _ (List.mem_of_getElem? (i := 11) rfl)) (by decide) (by decide)) (g := (mkF m 126 #[.val (.int px), .val (.int qx), .val (.int dx), .val (.ref b2), .val (.int v68)] [(.int v68)])) rfl (by rw [hml]; rfl) (argsL := [(.int v68)]) (rest := []) (lenOf pd__28I_29Z rfl) rfl (by show 2 * 0 + _ ≤ _; exact Nat.le_of_eq rfl) (hb hby at_126) (fun _ _ => ⟨rfl, e50, (by decide : 1 + 0 ≤ _), (by decide : 16 + 0 ≤ _)⟩)
    dsimp only [Pt.U, Pt.locs, Pt.cells, Pt.slots] at X71 l71 y71 z71 st71 hQ71
    subst l71 y71 z71
    obtain ⟨rfl, N71q, R71⟩ := hQ71
    have N71 := Fr.app N50 N71q
    replace R71 : Rep Z n0 T71.heap ((b2, Ar .int [(.int (0 : Int32)), (.int (8 : Int32)), (.int (10 : Int32)), (.int (13 : Int32)), (.int (31 : Int32)), (.int (127 : Int32)), (.int (55295 : Int32)), (.int (57343 : Int32)), (.int (65533 : Int32)), (.int (65535 : Int32)), (.int (1114111 : Int32)), (.int (-2147483648 : Int32)), (.int (2147483647 : Int32)), (.int (65279 : Int32)), (.int (133 : Int32)), (.int (8232 : Int32))]) :: []) := R71
    have pre72 : ∀ t, Steps p.tables e below (T71.setTop (mkF m 129 #[.val (.int px), .val (.int qx), .val (.int dx), .val (.ref b2), .val (.int v68)] [(.int (F1 v68))])) t → Steps p.tables e below (s₁.setTop (entryFrame m #[(.int px), (.int qx), (.int dx)] maxLocals)) t := fun t k => pre70 t (st71 t k)
    have pre73 : ∀ t, Steps p.tables e below (T71.setTop (mkF m 131 #[.val (.int px), .val (.int qx), .val (.int dx), .val (.ref b2), .val (.int v68)] [(.int v68), (.int (F1 v68))])) t → Steps p.tables e below (s₁.setTop (entryFrame m #[(.int px), (.int qx), (.int dx)] maxLocals)) t := fun t k => pre72 t (by
      show Steps p.tables e below (T71.setTop (mkF m 129 #[.val (.int px), .val (.int qx), .val (.int dx), .val (.ref b2), .val (.int v68)] [(.int (F1 v68))])) _
      refine XS.iload X71.here hx rfl (hb hby at_129) rfl ?_
      exact k)
    obtain ⟨_, _, ⟨T74, L74, k74, n74⟩, -, X74, ⟨Lc74, hQ74, l74, y74, z74⟩, st74⟩ := Jvm.LawKit.callS X71 hx (y := (⟨"com/example/taggen/taggen/XmlCharsIsCharPinLaw", "expected", "(I)Z"⟩ : MethodName)) hown (mvT hZ (hw _ (List.mem_of_getElem? (i := 13) rfl))) (mvT hZ (hw _ (List.mem_of_getElem? (i := 14) rfl))) (mvT hZ (hw _ (List.mem_of_getElem? (i := 15) rfl))) (mvT hZ (hw _ (List.mem_of_getElem? (i := 16) rfl))) (by decide) (backOf (W := 1) (rm2 l Z a0 hw [] v68  T71.heap n0 _ R71 ) hZ (hw _ (List.mem_of_getElem? (i := 16) rfl)) (hw _ (List.mem_of_getElem? (i := 15) rfl)) (by decide) (by decide)) (g := (mkF m 131 #[.val (.int px), .val (.int qx), .val (.int dx), .val (.ref b2), .val (.int v68)] [(.int v68), (.int (F1 v68))])) rfl (by rw [hml]; rfl) (argsL := [(.int v68)]) (rest := [(.int (F1 v68))]) (lenOf pd__28I_29Z rfl) rfl (by show 2 * 0 + _ ≤ _; exact Nat.le_of_eq rfl) (hb hby at_131) (fun _ _ => ⟨rfl, rfl, (by decide : 1 + 0 ≤ _), (by decide : 16 + 0 ≤ _)⟩)
    dsimp only [Pt.U, Pt.locs, Pt.cells, Pt.slots] at X74 l74 y74 z74 st74 hQ74
    subst l74 y74 z74
    obtain ⟨rfl, N74q, R74⟩ := hQ74
    have N74 := Fr.app N71 N74q
    replace R74 : Rep Z n0 T74.heap ((b2, Ar .int [(.int (0 : Int32)), (.int (8 : Int32)), (.int (10 : Int32)), (.int (13 : Int32)), (.int (31 : Int32)), (.int (127 : Int32)), (.int (55295 : Int32)), (.int (57343 : Int32)), (.int (65533 : Int32)), (.int (65535 : Int32)), (.int (1114111 : Int32)), (.int (-2147483648 : Int32)), (.int (2147483647 : Int32)), (.int (65279 : Int32)), (.int (133 : Int32)), (.int (8232 : Int32))]) :: []) := R74
    have pre75 : ∀ t, Steps p.tables e below (T74.setTop (mkF m 134 #[.val (.int px), .val (.int qx), .val (.int dx), .val (.ref b2), .val (.int v68)] [(.int (F2 v68)), (.int (F1 v68))])) t → Steps p.tables e below (s₁.setTop (entryFrame m #[(.int px), (.int qx), (.int dx)] maxLocals)) t := fun t k => pre73 t (st74 t k)
    have tl77 : ∀ t, Steps p.tables e below (T74.setTop (mkF m 142 #[.val (.int px), .val (.int qx), .val (.int dx), .val (.ref b2), .val (.int v68)] [(.int (bz ((F1 v68) = (F2 v68))))])) t → Steps p.tables e below (T74.setTop (mkF m 134 #[.val (.int px), .val (.int qx), .val (.int dx), .val (.ref b2), .val (.int v68)] [(.int (F2 v68)), (.int (F1 v68))])) t := fun t k => by
      by_cases hb76 : (F1 v68) = (F2 v68)
      · refine XS.icmpNo X74.here hx rfl (hb hby at_134) rfl (teq hb76).2 ?_
        rw [bz_one (P := ((F1 v68) = (F2 v68))) (iff_true_intro hb76)] at k
        show Steps p.tables e below (T74.setTop (mkF m 137 #[.val (.int px), .val (.int qx), .val (.int dx), .val (.ref b2), .val (.int v68)] [])) _
        refine XS.iconst X74.here hx rfl (hb hby at_137) ?_
        refine XS.goto X74.here hx rfl (pc0 := 138) (pc' := 142) rfl (hb hby at_138) (by decide) (by decide) ?_
        exact k
      · refine XS.icmpYes X74.here hx rfl (pc0 := 134) (pc' := 141) rfl (hb hby at_134) rfl (feq hb76).2 (by decide) (by decide) ?_
        rw [bz_zero (P := ((F1 v68) = (F2 v68))) (iff_false_intro hb76)] at k
        show Steps p.tables e below (T74.setTop (mkF m 141 #[.val (.int px), .val (.int qx), .val (.int dx), .val (.ref b2), .val (.int v68)] [])) _
        refine XS.iconst X74.here hx rfl (hb hby at_141) ?_
        exact k
    have pre78 : ∀ t, Steps p.tables e below (T74.setTop (mkF m 142 #[.val (.int px), .val (.int qx), .val (.int dx), .val (.ref b2), .val (.int v68)] [(.int (bz ((F1 v68) = (F2 v68))))])) t → Steps p.tables e below (s₁.setTop (entryFrame m #[(.int px), (.int qx), (.int dx)] maxLocals)) t := fun t k => pre75 t (by
      exact tl77 t k)
    obtain ⟨fs, hr, hrun, hended, hW, hsame⟩ := X74.leave (v := some (.int (nar .boolean (bz ((F1 v68) = (F2 v68)))))) (fun h => by rw [Bd.returns] at h; cases h)
    refine ⟨_, _, pre78 _ ?_, hrun, hended, _, _, rfl, ?_, ⟨_, rfl⟩, hW, hsame.mono (by decide) (by decide)⟩
    · show Steps p.tables e below (T74.setTop (mkF m 142 #[.val (.int px), .val (.int qx), .val (.int dx), .val (.ref b2), .val (.int v68)] [(.int (bz ((F1 v68) = (F2 v68))))])) _
      exact retN X74 hx (t := .boolean) Bd.returns (by simp) (hb hby at_142) hr
    · show Q0 Z px qx dx n0 [] _ T74.heap _
      have R79 : Rep Z n0 T74.heap ([]) := (R74.front 0 rfl rfl : Rep Z n0 T74.heap ((b2, Ar .int [(.int (0 : Int32)), (.int (8 : Int32)), (.int (10 : Int32)), (.int (13 : Int32)), (.int (31 : Int32)), (.int (127 : Int32)), (.int (55295 : Int32)), (.int (57343 : Int32)), (.int (65533 : Int32)), (.int (65535 : Int32)), (.int (1114111 : Int32)), (.int (-2147483648 : Int32)), (.int (2147483647 : Int32)), (.int (65279 : Int32)), (.int (133 : Int32)), (.int (8232 : Int32))]) :: [])).tail
      exact ⟨(by exact ow_fin (own_eq _)), N74, R79⟩
set_option maxRecDepth 65536 in
set_option maxHeartbeats 40000000 in
theorem comes_1 {Post : Tables → Env → Array Value → State → Outcome → State → Prop} (hpost : ∀ tb e args s v u, (limb_1_1.after args s (.returned v) u = true ∧ limb_1_2.after args s (.returned v) u = true ∧ True) → FrameEnd s (.returned v) u (Jvm.fieldLocs frame_1_writes args s ++ Jvm.arrayLocs frame_1_arrays args s ++ Jvm.staticLocs frame_1_statics s) 16 128 → Post tb e args s (.returned v) u) :
    ArmFor flags0 classFile x code maxLocals ret World_1 tables_1 room_1 Calls_1 rest_1 Pre_1 Post := by
  intro l hfl _ _ p e ha hc hk s m args below hf hA hF happ hP
  obtain ⟨hcalls, hrest, hpre⟩ := hP
  obtain ⟨-, -, -, hnamed, -, -, -, hat⟩ := (Spec.applies_iff hf).mp happ
  obtain ⟨hg, hn⟩ := and_e (Cond.before_iff.mp (show (Jvm.Cond.and given_1 narrow_1).before args s = true from hpre))
  obtain ⟨hct, hg⟩ := and_e hg
  obtain ⟨hg0, hg⟩ := and_e hg
  obtain ⟨hg1, hg⟩ := and_e hg
  have hg2 := hg
  obtain ⟨w0, w1, w2, rfl⟩ : ∃ w0 w1 w2 : Value, args = #[w0, w1, w2] := by
    have hs : args.size = 3 := by simpa [Cond.value, given_1] using hct
    obtain ⟨L⟩ := args
    match L, hs with
    | [w0, w1, w2], _ => exact ⟨w0, w1, w2, rfl⟩
  have hw := fun d (hd : d ∈ tables_1) => atoms_spec (ws := Jvm.Cond.code x code maxLocals ret :: tables_1) hat d (List.mem_cons_of_mem _ hd)
  obtain ⟨i0, ei0⟩ := is_v hg0
  obtain rfl : w0 = (.int i0) := Option.some.inj ei0
  obtain ⟨i1, ei1⟩ := is_v hg1
  obtain rfl : w1 = (.int i1) := Option.some.inj ei1
  obtain ⟨i2, ei2⟩ := is_v hg2
  obtain rfl : w2 = (.int i2) := Option.some.inj ei2
  obtain ⟨n, o, h1, h2, h3, _, L, rfl, ⟨rfl, N, -⟩, hq⟩ := rm0 l s _ hw tables_1 i0 i1 i2 s.heap s.heap.size (Rep.nil _) p e ha hc hk s m _ below hf ((Spec.applies_iff_loose hf).mp happ).1 ⟨rfl, State.Warmed39.refl s, rfl⟩ trivial
  refine ⟨n, _, h1, h2, h3, hpost _ _ _ _ _ _ ⟨Cond.after_iff.mpr rfl, Cond.after_iff.mpr (eq_i res_at (Term.int_eval (1)) rfl), trivial⟩ ⟨hq.1, hq.2.1, (hq.2.2.sift fun y hy => Or.inr (N y hy)).mono (by decide) (by decide)⟩⟩
theorem main_1_1 : Claimed_1_1 := comes_1 fun _ _ _ _ _ _ h hF => ⟨h.1, hF⟩
theorem main_1_2 : Claimed_1_2 := comes_1 fun _ _ _ _ _ _ h hF => ⟨h.2.1, hF⟩
end Jvm.Pilot.@@N@@
namespace Jvm.Pilot.@@N@@
open Jvm Jvm.ClassFile Sem Op Lib Jvm.Free Jvm.Stand Jvm.Pilot.@@N@@.Jvm.D
/-! MADE BY PROGRAM (witnessworld.py) out of the Statement's table words and the real class files: 9 classes; the members and pool entries that the words name. The judged class is class 1, her method 1. -/
namespace start1
open Jvm.ClassFile
def u (s : String) : CpInfo := .utf8 (stringToUtf16 s)
/-- a pool by its gaps: so many unusable entries, then the entry; so many at the end -/
def gap : Nat → List CpInfo → List CpInfo
  | 0, r => r
  | n + 1, r => .unusable :: gap n r
def poolList (es : List (Nat × CpInfo)) (last : Nat) : List CpInfo := es.foldr (fun e r => gap e.1 (e.2 :: r)) (gap last [])
def pool (es : List (Nat × CpInfo)) (last : Nat) : Array CpInfo := ⟨poolList es last⟩
def fileOf (pool : Array CpInfo) (this : Nat) (attrs : Array Attribute := #[]) (ms : Array MethodInfo := #[]) (fl : Nat := 33) (sup : Nat := 0) (ifs : Array Nat := #[]) (fds : Array FieldInfo := #[]) : ClassFile where
  minorVersion := 0
  majorVersion := 65
  constantPool := pool
  accessFlags := fl
  thisClass := this
  superClass := sup
  interfaces := ifs
  fields := fds
  methods := ms
  attributes := attrs
def plain (name : String) (sup : Option ClassId) : Class where
  name := name
  kind := .ordinary
  loader := none
  accessFlags := 33
  super := sup
  interfaces := #[]
  cf := none
  fields := #[]
  methods := #[]
  instanceTypes := #[]
  staticTypes := #[]
  resolved := #[]
  callSites := []
  init := .initialized
  statics := none
  mirror := none

def pool0 : Array CpInfo := pool [(5, u "<init>"), (0, u "()V"), (1, .class_ 10), (1, u "java/lang/Object")] 113

def k0m0 : Method := { name := "<init>", desc := "()V", sig := { parameters := [], returnType := none }, accessFlags := 1, code := none }
/-- java/lang/Object -/
def k0 : Class := { plain "java/lang/Object" none with
  accessFlags := 33
  interfaces := #[]
  cf := some (fileOf pool0 8 #[] #[{ accessFlags := 1, nameIndex := 5, descriptorIndex := 6, attributes := #[] }] 33 0 #[] #[])
  fields := #[]
  methods := #[k0m0]
  instanceTypes := #[]
  staticTypes := #[]
  resolved := Array.replicate 124 none
  statics := none }

def pool1 : Array CpInfo := pool [(2, .class_ 4), (1, u "java/lang/Object"), (0, u "<init>"), (0, u "()V"), (0, .integer 55295), (0, .integer 57343), (0, .integer 65533), (0, .integer 65535), (0, .integer 1114111), (2, .integer 2147483648), (0, .integer 2147483647), (0, .integer 65279), (0, .methodref 18 19), (0, .class_ 20), (0, .nameAndType 21 22), (0, u "com/example/taggen/taggen/XmlChars"), (0, u "isChar"), (0, u "(I)Z"), (0, .methodref 24 25), (0, .class_ 26), (0, .nameAndType 27 22), (0, u "com/example/taggen/taggen/XmlCharsIsCharPinLaw"), (0, u "expected"), (0, .integer 55296), (0, .integer 65534), (2, u "law"), (0, u "(III)Z")] 5

def k1m0 : Method := { name := "<init>", desc := "()V", sig := { parameters := [], returnType := none }, accessFlags := 2, code := none }
def k1c1 : Code := { maxStack := 4, maxLocals := 5, code := code, exceptionTable := #[], attributes := #[] }
def k1m1 : Method := { name := "law", desc := "(III)Z", sig := { parameters := [.int, .int, .int], returnType := some .boolean }, accessFlags := 9, code := some k1c1 }
def k1c2 : Code := { maxStack := 2, maxLocals := 5, code := method_3_code, exceptionTable := #[], attributes := #[] }
def k1m2 : Method := { name := "expected", desc := "(I)Z", sig := { parameters := [.int], returnType := some .boolean }, accessFlags := 10, code := some k1c2 }
/-- com/example/taggen/taggen/XmlCharsIsCharPinLaw -/
def k1 : Class := { plain "com/example/taggen/taggen/XmlCharsIsCharPinLaw" (some 0) with
  accessFlags := 49
  interfaces := #[]
  cf := some (fileOf pool1 24 #[] #[{ accessFlags := 2, nameIndex := 5, descriptorIndex := 6, attributes := #[] }, { accessFlags := 9, nameIndex := 32, descriptorIndex := 33, attributes := #[] }, { accessFlags := 10, nameIndex := 27, descriptorIndex := 22, attributes := #[] }] 49 2 #[] #[])
  fields := #[]
  methods := #[k1m0, k1m1, k1m2]
  instanceTypes := #[]
  staticTypes := #[]
  resolved := Array.replicate 39 none
  statics := none }

def pool2 : Array CpInfo := pool [(2, .class_ 4), (1, u "java/lang/Object"), (0, u "<init>"), (0, u "()V"), (0, .integer 55295), (0, .integer 57344), (0, .integer 65533), (0, .integer 65536), (0, .integer 1114111), (5, .class_ 19), (1, u "com/example/taggen/taggen/XmlChars"), (1, u "(I)Z"), (2, u "FOURTH_EDITION_NAME_START"), (0, u "[J"), (6, u "FOURTH_EDITION_NAME"), (58, u "ASCII_NC_NAME_START"), (0, u "[Z"), (2, u "ASCII_NC_NAME"), (59, u "BASE_CHAR"), (0, u "[I"), (3, u "IDEOGRAPHIC"), (2, u "COMBINING_CHAR"), (2, u "DIGIT"), (2, u "EXTENDER"), (11, u "isChar")] 34

def k2m0 : Method := { name := "<init>", desc := "()V", sig := { parameters := [], returnType := none }, accessFlags := 2, code := none }
def k2c1 : Code := { maxStack := 2, maxLocals := 1, code := prog_32_method_2_code, exceptionTable := #[], attributes := #[] }
def k2m1 : Method := { name := "isChar", desc := "(I)Z", sig := { parameters := [.int], returnType := some .boolean }, accessFlags := 8, code := some k2c1 }
/-- com/example/taggen/taggen/XmlChars -/
def k2 : Class := { plain "com/example/taggen/taggen/XmlChars" (some 0) with
  accessFlags := 48
  interfaces := #[]
  cf := some (fileOf pool2 17 #[] #[{ accessFlags := 2, nameIndex := 5, descriptorIndex := 6, attributes := #[] }, { accessFlags := 8, nameIndex := 181, descriptorIndex := 21, attributes := #[] }] 48 2 #[] #[{ accessFlags := 26, nameIndex := 155, descriptorIndex := 156, attributes := #[] }, { accessFlags := 26, nameIndex := 160, descriptorIndex := 156, attributes := #[] }, { accessFlags := 26, nameIndex := 163, descriptorIndex := 156, attributes := #[] }, { accessFlags := 26, nameIndex := 166, descriptorIndex := 156, attributes := #[] }, { accessFlags := 26, nameIndex := 169, descriptorIndex := 156, attributes := #[] }, { accessFlags := 26, nameIndex := 24, descriptorIndex := 25, attributes := #[] }, { accessFlags := 26, nameIndex := 32, descriptorIndex := 25, attributes := #[] }, { accessFlags := 26, nameIndex := 91, descriptorIndex := 92, attributes := #[] }, { accessFlags := 26, nameIndex := 95, descriptorIndex := 92, attributes := #[] }])
  fields := #[{ name := "BASE_CHAR", type := (.array .int), accessFlags := 26, slot := 0, constantValue := 0 }, { name := "IDEOGRAPHIC", type := (.array .int), accessFlags := 26, slot := 1, constantValue := 0 }, { name := "COMBINING_CHAR", type := (.array .int), accessFlags := 26, slot := 2, constantValue := 0 }, { name := "DIGIT", type := (.array .int), accessFlags := 26, slot := 3, constantValue := 0 }, { name := "EXTENDER", type := (.array .int), accessFlags := 26, slot := 4, constantValue := 0 }, { name := "FOURTH_EDITION_NAME_START", type := (.array .long), accessFlags := 26, slot := 5, constantValue := 0 }, { name := "FOURTH_EDITION_NAME", type := (.array .long), accessFlags := 26, slot := 6, constantValue := 0 }, { name := "ASCII_NC_NAME_START", type := (.array .boolean), accessFlags := 26, slot := 7, constantValue := 0 }, { name := "ASCII_NC_NAME", type := (.array .boolean), accessFlags := 26, slot := 8, constantValue := 0 }]
  methods := #[k2m0, k2m1]
  instanceTypes := #[]
  staticTypes := #[(.array .int), (.array .int), (.array .int), (.array .int), (.array .int), (.array .long), (.array .long), (.array .boolean), (.array .boolean)]
  resolved := Array.replicate 216 none
  statics := none }

def pool3 : Array CpInfo := pool [(1, u "java/lang/Cloneable"), (0, .class_ 1), (0, u "java/lang/Object"), (0, .class_ 3)] 3

/-- java/lang/Cloneable -/
def k3 : Class := { plain "java/lang/Cloneable" (some 0) with
  accessFlags := 1537
  interfaces := #[]
  cf := some (fileOf pool3 2 #[] #[] 1537 4 #[] #[])
  fields := #[]
  methods := #[]
  instanceTypes := #[]
  staticTypes := #[]
  resolved := Array.replicate 8 none
  statics := none }

def pool4 : Array CpInfo := pool [(1, u "java/io/Serializable"), (0, .class_ 1), (0, u "java/lang/Object"), (0, .class_ 3)] 3

/-- java/io/Serializable -/
def k4 : Class := { plain "java/io/Serializable" (some 0) with
  accessFlags := 1537
  interfaces := #[]
  cf := some (fileOf pool4 2 #[] #[] 1537 4 #[] #[])
  fields := #[]
  methods := #[]
  instanceTypes := #[]
  staticTypes := #[]
  resolved := Array.replicate 8 none
  statics := none }

/-- the primitive byte -/
def k5 : Class := { plain "byte" none with kind := .primitive 'B', accessFlags := 0x411 }
/-- [B -/
def k6 : Class := { plain "[B" (some 0) with kind := .array 5 .byte, interfaces := #[3, 4], accessFlags := 1041 }

/-- the primitive int -/
def k7 : Class := { plain "int" none with kind := .primitive 'I', accessFlags := 0x411 }
/-- [I -/
def k8 : Class := { plain "[I" (some 0) with kind := .array 7 .int, interfaces := #[3, 4], accessFlags := 1041 }

def heap : Heap := #[]
def classes : Array Class := #[k0, k1, k2, k3, k4, k5, k6, k7, k8]
def interned : List (Array UInt16 × Addr) := []
def slotsUsed : Nat := 0
def theMethod : MethodId := ⟨1, 1⟩
def args0 : Array Value := #[.int 5, .int 2, .int 3]
def aboutOver (below : List Frame) : State where
  vm := { classes := classes, interned := interned.toArray }
  heap := heap
  slotsUsed := slotsUsed
  threads := #[{ frames := .invoking theMethod args0 :: below }]
def below0 : List Frame := [.native { method := ⟨0, 0⟩, args := #[] }]
def about1 : State := aboutOver below0
def p0 : Program := .bare "" "" ""
def e0 : Env := launch0.env 0 0 0
theorem w_frames : about1.frames = Frame.invoking theMethod args0 :: below0 := rfl
set_option maxRecDepth 65536 in
theorem w_args : argsFit about1.vm theMethod args0 = true := by decide +kernel
set_option maxRecDepth 65536 in
theorem w_heap : heapFits about1 = true := by decide +kernel
set_option maxRecDepth 65536 in
theorem w_runnable : about1.curStatus? = some .runnable := by decide +kernel
set_option maxRecDepth 65536 in
theorem w_alone : about1.alone = true := by decide +kernel
set_option maxRecDepth 65536 in
theorem w_named : about1.methodNamed? x = some theMethod := by decide +kernel
set_option maxRecDepth 65536 in
theorem w_hears : about1.hears theMethod below0 = true := by decide +kernel
set_option maxRecDepth 65536 in
theorem w_ripe : about1.ripe theMethod args0 below0 = true := by decide +kernel
theorem w_running : about1.status = .running := rfl
set_option maxRecDepth 65536 in
theorem w_room : about1.hasRoom e0.platform room_1 = true :=
  launch0.hasRoom_least _ room_1 (by decide +kernel) (by decide +kernel) (by decide +kernel) (by decide +kernel) (by decide +kernel) (by decide +kernel)
theorem allAtoms_all (ts : List Jvm.Cond) (a : Array Jvm.Value) (st : Jvm.State) : (allAtoms ts).before a st = ts.all (fun c => c.before a st) := by
  induction ts with
  | nil => rfl
  | cons c t ih =>
    show (Jvm.Cond.and c (allAtoms t)).before a st = _
    rw [Jvm.Cond.before_and, ih, List.all_cons]
def words1 : List Jvm.Cond := Jvm.Cond.code x code maxLocals ret :: tables_1
/-- a 'code' word, met by the world's own term for the bytes: nothing is compared byte by byte -/
theorem code_word {y : MethodName} {bytes : ByteArray} {mx : Nat} {rt : Option FieldType} {a : Array Value} {s : State} {m : MethodId} {meth : Method} {c : Code} (h1 : s.methodNamed? y = some m) (h2 : s.vm.method? m = some meth) (h3 : meth.code = some c) (h4 : c.code = bytes)
    (h5 : (c.maxLocals == mx && c.exceptionTable.isEmpty && decide (c.maxStack ≤ mostOperands) && decide (meth.sig.returnType = rt) && !meth.locks && decide (parseMethodDescriptor y.desc = some meth.sig)) = true) : (Jvm.Cond.code y bytes mx rt).before a s = true := by
  simp only [Bool.and_eq_true, beq_iff_eq, Bool.not_eq_true', decide_eq_true_eq] at h5
  obtain ⟨⟨⟨⟨⟨g1, g2⟩, g3⟩, g4⟩, g5⟩, g6⟩ := h5
  simp [Cond.before, Cond.holds, Cond.value, h1, h2, h3, h4, g1, g2, g3, g4, g5, g6]
def isCode : Jvm.Cond → Bool
  | .code _ _ _ _ => true
  | _ => false
theorem all_split {L : List Jvm.Cond} {P : Jvm.Cond → Bool} (h1 : L.all (fun c => isCode c || P c) = true) (h2 : ∀ c ∈ L.filter isCode, P c = true) : L.all P = true := by
  refine List.all_eq_true.mpr fun c hc => ?_
  have h := List.all_eq_true.mp h1 c hc
  rcases Bool.eq_false_or_eq_true (isCode c) with hi | hi
  · exact h2 c (List.mem_filter.mpr ⟨hc, hi⟩)
  · simpa [hi] using h
set_option maxRecDepth 65536 in
theorem w_c0 : (Jvm.Cond.code x code maxLocals ret).before args0 about1 = true := code_word (m := ⟨1, 1⟩) (meth := k1m1) (c := k1c1) (by decide +kernel) rfl rfl rfl (by decide +kernel)
set_option maxRecDepth 65536 in
theorem w_c1 : (Jvm.Cond.code ({ cls := "com/example/taggen/taggen/XmlChars", name := "isChar", desc := "(I)Z" } : Jvm.MethodName) prog_32_method_2_code (1 : Nat) (Option.some Jvm.ClassFile.FieldType.boolean)).before args0 about1 = true := code_word (m := ⟨2, 1⟩) (meth := k2m1) (c := k2c1) (by decide +kernel) rfl rfl rfl (by decide +kernel)
set_option maxRecDepth 65536 in
theorem w_c2 : (Jvm.Cond.code ({ cls := "com/example/taggen/taggen/XmlCharsIsCharPinLaw", name := "expected", desc := "(I)Z" } : Jvm.MethodName) method_3_code (5 : Nat) (Option.some Jvm.ClassFile.FieldType.boolean)).before args0 about1 = true := code_word (m := ⟨1, 2⟩) (meth := k1m2) (c := k1c2) (by decide +kernel) rfl rfl rfl (by decide +kernel)
def codes1 : List Jvm.Cond := [Jvm.Cond.code x code maxLocals ret, Jvm.Cond.code ({ cls := "com/example/taggen/taggen/XmlChars", name := "isChar", desc := "(I)Z" } : Jvm.MethodName) prog_32_method_2_code (1 : Nat) (Option.some Jvm.ClassFile.FieldType.boolean), Jvm.Cond.code ({ cls := "com/example/taggen/taggen/XmlCharsIsCharPinLaw", name := "expected", desc := "(I)Z" } : Jvm.MethodName) method_3_code (5 : Nat) (Option.some Jvm.ClassFile.FieldType.boolean)]
set_option maxRecDepth 65536 in
theorem codes_eq : words1.filter isCode = codes1 := rfl
theorem w_codes : ∀ c ∈ words1.filter isCode, c.before args0 about1 = true := by
  rw [codes_eq]
  intro c hc
  simp only [codes1, List.mem_cons, List.not_mem_nil, or_false] at hc
  rcases hc with rfl | rfl | rfl
  · exact w_c0
  · exact w_c1
  · exact w_c2
set_option maxRecDepth 65536 in
theorem w_t1 : (words1.take 24).all (fun c => isCode c || c.before args0 about1) = true := by decide +kernel
set_option maxRecDepth 65536 in
theorem w_t2 : (words1.drop 24).all (fun c => isCode c || c.before args0 about1) = true := by decide +kernel
theorem w_tables : (allAtoms (Jvm.Cond.code x code maxLocals ret :: tables_1)).before args0 about1 = true := by
  rw [allAtoms_all]
  show words1.all (fun c => c.before args0 about1) = true
  refine all_split ?_ w_codes
  rw [← List.take_append_drop 24 words1, List.all_append, w_t1, w_t2]
  rfl
set_option maxRecDepth 65536 in
theorem w_case : (Jvm.Cond.and given_1 narrow_1).before args0 about1 = true := by decide +kernel
theorem w_applies : (headSpec (Jvm.Cond.code x code maxLocals ret :: tables_1) room_1).applies x e0.platform about1 = true :=
  (Spec.applies_iff w_frames).mpr ⟨w_running, w_runnable, w_alone, w_named, w_hears, w_ripe, w_room, w_tables⟩
theorem atStart : AtStart classFile x code maxLocals ret World_1 tables_1 room_1 Calls_1 rest_1 Pre_1 launch0 p0 e0 about1 theMethod args0 below0 :=
  ⟨lists_1, trivial, launch0.admits_env _ _ _, launch0.least_env, fairChoices_fair.cas, fairChoices_fair.clock, w_frames, w_args, w_heap, w_applies, trivial, trivial, w_case⟩
end start1
theorem witness_1 : WitnessClaimed_1 := ⟨start1.p0, start1.e0, start1.about1, start1.theMethod, start1.args0, start1.below0, start1.atStart⟩
end Jvm.Pilot.@@N@@
