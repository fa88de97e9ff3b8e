import JvmDerived
import JvmDerived.Pilot.@@N@@Statement
import JvmDerived.Pilot.@@N@@Code
set_option linter.unusedVariables false
set_option linter.unusedSimpArgs false
namespace Jvm.Own
open Jvm Jvm.ClassFile Sem Op Lib Jvm.Free Jvm.Stand Jvm.LawKit Jvm.RoadKit
/-! ## A heap told by a list: each new object or array by its address and what its cell is -/
abbrev Des : Type := State → Cell → Prop
abbrev RL : Type := List (Addr × Des)
/-- an object of class C, its fields (name, descriptor, value), all declared in C -/
def Obj (C : String) (fs : List (String × String × Value)) : Des := fun Z c =>
  Exa Z (#[c] : Heap) 0 C ∧ (∀ (j : Nat) (x : String × String × Value), fs[j]? = some x → Fld Z (#[c] : Heap) 0 C x.1 x.2.1 x.2.2) ∧
  ∀ (i j : Nat) (x y : String × String × Value), i ≠ j → fs[i]? = some x → fs[j]? = some y → Jvm.RoadKit.slotOf Z C x.1 x.2.1 ≠ Jvm.RoadKit.slotOf Z C y.1 y.2.1
/-- an array of ty, all its values -/
def Ar (ty : FieldType) (vs : List Value) : Des := fun Z c => Z.isArrayOf c ty ∧ c.vm ≠ .unknown ∧ c.slots.toList = vs ∧ (∀ v ∈ vs, fits ty v = true) ∧ Exa Z (#[c] : Heap) 0 ("[" ++ ty.toString)
/-- every one of L lies in h, at or behind n0, no two at one place -/
def Rep (Z : State) (n0 : Nat) (h : Heap) (L : RL) : Prop := n0 ≤ h.size ∧ (L.map (·.1)).Nodup ∧ ∀ x ∈ L, n0 ≤ x.1 ∧ ∃ c : Cell, h[x.1]? = some c ∧ x.2 Z c
section Facts
variable {Z : State} {n0 : Nat} {h h' : Heap} {L : RL} {a : Addr} {c : Cell} {C n d : String} {v w : Value} {i j : Nat} {fs : List (String × String × Value)} {P P' : Des} {ty : FieldType} {vs : List Value}
theorem one_eq {c c' : Cell} (q : (#[c] : Heap)[0]? = some c') : c' = c := by simpa using q.symm
theorem fld_of (hc : h[a]? = some c) (F : Fld Z (#[c] : Heap) 0 C n d v) : Fld Z h a C n d v := by
  obtain ⟨cell, cf, k, i, f, h1, r⟩ := F
  cases one_eq h1
  exact ⟨_, cf, k, i, f, hc, r⟩
theorem fld_to (hc : h[a]? = some c) (F : Fld Z h a C n d v) : Fld Z (#[c] : Heap) 0 C n d v := by
  obtain ⟨cell, cf, k, i, f, h1, r⟩ := F
  cases hc.symm.trans h1
  exact ⟨_, cf, k, i, f, rfl, r⟩
theorem exa_of (hc : h[a]? = some c) (F : Exa Z (#[c] : Heap) 0 C) : Exa Z h a C := by
  obtain ⟨cell, k, h1, r⟩ := F
  cases one_eq h1
  exact ⟨_, k, hc, r⟩
theorem exa_to (hc : h[a]? = some c) (F : Exa Z h a C) : Exa Z (#[c] : Heap) 0 C := by
  obtain ⟨cell, k, h1, r⟩ := F
  cases hc.symm.trans h1
  exact ⟨_, k, rfl, r⟩
theorem Rep.nil (h : Heap) : Rep Z h.size h [] := ⟨Nat.le_refl _, List.nodup_nil, fun _ q => nomatch q⟩
theorem Rep.at (R : Rep Z n0 h L) (hi : L[i]? = some (a, P)) : n0 ≤ a ∧ ∃ c : Cell, h[a]? = some c ∧ P Z c := R.2.2 _ (List.mem_of_getElem? hi)
theorem Rep.ge (R : Rep Z n0 h L) (hi : L[i]? = some (a, P)) : n0 ≤ a := (R.at hi).1
theorem Rep.fld (R : Rep Z n0 h L) (hi : L[i]? = some (a, Obj C fs)) (hj : fs[j]? = some (n, d, v)) : Fld Z h a C n d v := by
  obtain ⟨-, c, hc, -, F, -⟩ := R.at hi
  exact fld_of hc (F j _ hj)
theorem Rep.exa (R : Rep Z n0 h L) (hi : L[i]? = some (a, Obj C fs)) : Exa Z h a C := by
  obtain ⟨-, c, hc, E, -⟩ := R.at hi
  exact exa_of hc E
theorem Rep.arr (R : Rep Z n0 h L) (hi : L[i]? = some (a, Ar ty vs)) : ∃ cl : Cell, Arr Z h a cl ty ∧ cl.slots.toList = vs := by
  obtain ⟨-, c, hc, A, B, V, -⟩ := R.at hi
  exact ⟨c, ⟨hc, A, B⟩, V⟩
theorem Rep.arr' (R : Rep Z n0 h L) (hi : L[i]? = some (a, Ar ty vs)) : ∃ cl : Cell, Arr Z h a cl ty ∧ cl.slots.toList = vs ∧ (∀ v ∈ vs, fits ty v = true) ∧ Exa Z h a ("[" ++ ty.toString) := by
  obtain ⟨-, c, hc, A, B, V, F, E⟩ := R.at hi
  exact ⟨c, ⟨hc, A, B⟩, V, F, exa_of hc E⟩
theorem wr_one {sl : Nat} (hc : h[a]? = some c) (W : Wr h h' a sl v) : Wr (#[c] : Heap) (#[c.setSlot sl v] : Heap) 0 sl v := by
  obtain ⟨cell, h1, h2, h3, -⟩ := W
  cases hc.symm.trans h1
  exact ⟨_, rfl, h2, h3, rfl⟩
theorem Rep.upd {sl : Nat} (R : Rep Z n0 h L) (hi : L[i]? = some (a, P)) (W : Wr h h' a sl v) (hP : ∀ c : Cell, h[a]? = some c → P Z c → P' Z (c.setSlot sl v)) : Rep Z n0 h' (L.set i (a, P')) := by
  have em : (L.set i (a, P')).map (·.1) = L.map (·.1) := by
    rw [List.map_set]
    apply List.ext_getElem?
    intro k
    rw [List.getElem?_set]
    split
    · rename_i e; subst e
      split
      · simp [hi]
      · rename_i e; simp only [List.length_map] at e; simp [List.getElem?_eq_none (Nat.le_of_not_lt e)]
    · rfl
  have il : i < L.length := (List.getElem?_eq_some_iff.mp hi).1
  refine ⟨by rw [W.size]; exact R.1, by rw [em]; exact R.2.1, fun x hx => ?_⟩
  obtain ⟨k, hk⟩ := List.mem_iff_getElem?.mp hx
  rw [List.getElem?_set] at hk
  split at hk
  · rename_i e; subst e
    cases hk
    obtain ⟨g, c, hc, p⟩ := R.at hi
    obtain ⟨c', e1, -, -, -, -, -, e7⟩ := wr_at W hc
    exact ⟨g, c', e1, by rw [(e7 rfl).1]; exact hP c hc p⟩
  · rename_i e
    obtain ⟨g, c, hc, p⟩ := R.2.2 x (List.mem_of_getElem? hk)
    have ne : x.1 ≠ a := fun q => by
      refine e ((List.getElem?_inj (l := L.map (·.1)) (by simpa using il) R.2.1).mp ?_)
      simp [hi, hk, q]
    obtain ⟨c', e1, -, -, -, e5, -⟩ := wr_at W hc
    exact ⟨g, c', e1, by rw [e5 ne]; exact p⟩
theorem Rep.put (R : Rep Z n0 h L) (hi : L[i]? = some (a, Obj C fs)) (hj : fs[j]? = some (n, d, w)) (W : Wr h h' a (Jvm.RoadKit.slotOf Z C n d) v) : Rep Z n0 h' (L.set i (a, Obj C (fs.set j (n, d, v)))) := by
  refine R.upd hi W fun c hc ⟨E, F, S⟩ => ?_
  have W1 := wr_one hc W
  have jl : j < fs.length := (List.getElem?_eq_some_iff.mp hj).1
  have key : ∀ (k : Nat) (x : String × String × Value), (fs.set j (n, d, v))[k]? = some x → ∃ y, fs[k]? = some y ∧ y.1 = x.1 ∧ y.2.1 = x.2.1 ∧ (k ≠ j → y = x) ∧ (k = j → x = (n, d, v)) := by
    intro k x hk
    rw [List.getElem?_set] at hk
    split at hk
    · rename_i e; subst e
      have hx := (Option.some.inj hk).symm
      exact ⟨(n, d, w), hj, by rw [hx], by rw [hx], fun q => absurd rfl q, fun _ => hx⟩
    · rename_i e
      exact ⟨x, hk, rfl, rfl, fun _ => rfl, fun q => absurd q.symm e⟩
  refine ⟨E.wr W1, fun k x hk => ?_, fun k k' x y ne hk hk' => ?_⟩
  · obtain ⟨y, y1, y2, y3, y4, y5⟩ := key k x hk
    by_cases e : k = j
    · subst e
      have hx := y5 rfl
      rw [hx]
      exact (F _ _ hj).same W1
    · have hx := y4 e
      subst hx
      have s : Jvm.RoadKit.slotOf Z C y.1 y.2.1 ≠ Jvm.RoadKit.slotOf Z C n d := S k j y (n, d, w) e y1 hj
      exact Fld.other W1 (F k y y1) (Or.inr s)
  · have kx := key k x hk
    have ky := key k' y hk'
    obtain ⟨x', x1, x2, x3, _⟩ := kx
    obtain ⟨y', y1, y2, y3, _⟩ := ky
    have := S k k' x' y' ne x1 y1
    rw [x2, x3, y2, y3] at this
    exact this
theorem Rep.sto {k : Nat} (R : Rep Z n0 h L) (hi : L[i]? = some (a, Ar ty vs)) (W : Wr h h' a k v) (hf : fits ty v = true) : Rep Z n0 h' (L.set i (a, Ar ty (vs.set k v))) := by
  refine R.upd hi W fun c hc ⟨A, B, V, F, E⟩ => ⟨A, B, ?_, fun x hx => ?_, E.wr (wr_one hc W)⟩
  · show (c.slots.setIfInBounds k v).toList = _
    rw [Array.toList_setIfInBounds, V]
  · rcases List.mem_or_eq_of_mem_set hx with q | q
    · exact F x q
    · rw [q]; exact hf
theorem Rep.add (R : Rep Z n0 h L) (E : Ext h h') (g : a = h.size) (hc : h'[a]? = some c) (p : P Z c) : Rep Z n0 h' ((a, P) :: L) := by
  refine ⟨Nat.le_trans R.1 E.1, ?_, fun x hx => ?_⟩
  · rw [List.map_cons, List.nodup_cons]
    refine ⟨fun q => ?_, R.2.1⟩
    obtain ⟨x, hx, e⟩ := List.mem_map.mp q
    obtain ⟨-, c, hc, -⟩ := R.2.2 x hx
    have := (Array.getElem?_eq_some_iff.mp hc).1
    exact absurd (e.trans g) (Nat.ne_of_lt this)
  · rcases List.mem_cons.mp hx with rfl | hx
    · exact ⟨g ▸ R.1, c, hc, p⟩
    · obtain ⟨q, c, hc, p⟩ := R.2.2 x hx
      exact ⟨q, c, E.2 _ _ hc, p⟩
theorem Rep.ext (R : Rep Z n0 h L) (E : Ext h h') : Rep Z n0 h' L := ⟨Nat.le_trans R.1 E.1, R.2.1, fun x hx => by
  obtain ⟨q, c, hc, p⟩ := R.2.2 x hx
  exact ⟨q, c, E.2 _ _ hc, p⟩⟩
theorem perm_front {α : Type} : ∀ (L : List α) (i : Nat) (x : α), L[i]? = some x → (x :: L.eraseIdx i).Perm L
  | [], _, _, q => nomatch q
  | y :: t, 0, x, q => by cases q; exact List.Perm.refl _
  | y :: t, i + 1, x, q => by
    have ih := perm_front t i x (by simpa using q)
    exact (List.Perm.swap y x (t.eraseIdx i)).trans (ih.cons y)
theorem Rep.front {x : Addr × Des} {L' : RL} (R : Rep Z n0 h L) (i : Nat) (hi : L[i]? = some x) (e : L.eraseIdx i = L') : Rep Z n0 h (x :: L') := by
  subst e
  have pm : (x :: L.eraseIdx i).Perm L := perm_front L i x hi
  exact ⟨R.1, (pm.map _).nodup_iff.mpr R.2.1, fun y hy => R.2.2 y (pm.mem_iff.mp hy)⟩
theorem Rep.tail {x : Addr × Des} (R : Rep Z n0 h (x :: L)) : Rep Z n0 h L := ⟨R.1, (List.nodup_cons.mp (by simpa using R.2.1)).2, fun y hy => R.2.2 y (List.mem_cons_of_mem _ hy)⟩
/-- what the sheet says of the fields of a new object, one by one -/
def LaidAll (Z : State) (a0 : Array Value) (C : String) : List (String × String × Value) → Prop
  | [] => True
  | x :: r => (Laid Z a0 C C x.1 x.2.1 ∧ ∃ ty, parseFieldDescriptor x.2.1 = some ty ∧ x.2.2 = defaultValue ty) ∧ LaidAll Z a0 C r
theorem LaidAll.mem {a0 : Array Value} : ∀ {fs : List (String × String × Value)}, LaidAll Z a0 C fs → ∀ x ∈ fs, Laid Z a0 C C x.1 x.2.1 ∧ ∃ ty, parseFieldDescriptor x.2.1 = some ty ∧ x.2.2 = defaultValue ty
  | [], _, _, hx => nomatch hx
  | y :: r, q, x, hx => (List.mem_cons.mp hx).elim (fun e => e ▸ q.1) (LaidAll.mem q.2 x)
theorem Rep.newO {a0 : Array Value} (R : Rep Z n0 h L) (E : Ext h h') (g : a = h.size) (A : Exa Z h' a C) (D : ∀ {O nm d : String} {ty : FieldType}, Laid Z a0 C O nm d → parseFieldDescriptor d = some ty → Fld Z h' a O nm d (defaultValue ty)) (hl : LaidAll Z a0 C fs) (hn : (fs.map (·.1)).Nodup) : Rep Z n0 h' ((a, Obj C fs) :: L) := by
  obtain ⟨c, k, hc, r⟩ := id A
  refine R.add E g hc ⟨exa_to hc A, fun j x hx => ?_, fun i j x y ne hx hy e => ?_⟩
  · obtain ⟨l, ty, p, q⟩ := hl.mem x (List.mem_of_getElem? hx)
    rw [q]; exact fld_to hc (D l p)
  · obtain ⟨l, ty, p, q⟩ := hl.mem x (List.mem_of_getElem? hx)
    obtain ⟨l', ty', p', q'⟩ := hl.mem y (List.mem_of_getElem? hy)
    refine slot_ne l l' (fun en => ne ?_) p p' e
    refine (List.getElem?_inj (l := fs.map (·.1)) (by simpa using (List.getElem?_eq_some_iff.mp hx).1) hn).mp ?_
    simp [hx, hy, en]
theorem Rep.newAr {z : Int32} {k : ClassId} (R : Rep Z n0 h L) (E : Ext h h') (g : a = h.size) (A : Arr Z h' a (newA k ty z) ty) (X : Exa Z h' a ("[" ++ ty.toString)) (hf : fits ty (defaultValue ty) = true) (hv : List.replicate z.toNatClampNeg (defaultValue ty) = vs) : Rep Z n0 h' ((a, Ar ty vs) :: L) := by
  refine R.add E g A.1 ⟨A.2.1, A.2.2, ?_, fun v hq => ?_, exa_to A.1 X⟩
  · rw [← hv]; simp [newA]
  · rw [← hv] at hq; rw [List.eq_of_mem_replicate hq]; exact hf
theorem in_of {cl : Cell} {q : Int32} (V : cl.slots.toList = vs) (hq : ¬ q < 0) (hv : q.toNatClampNeg < vs.length) : ¬ (q < 0 ∨ cl.slots.size ≤ q.toNatClampNeg) := by
  rintro (q1 | q1)
  · exact hq q1
  · rw [← V, Array.length_toList] at hv; omega
theorem at_of {cl : Cell} {k : Nat} (V : cl.slots.toList = vs) (hv : vs[k]? = some v) : cl.slots[k]? = some v := by
  rw [← hv, ← V, Array.getElem?_toList]
theorem lt_of {k : Nat} (hv : vs[k]? = some v) : k < vs.length := (List.getElem?_eq_some_iff.mp hv).1
end Facts
/-! ## One law a step -/
section Steps
variable {p : Program} {l : Launch} {e : Env} {R : Room} {s : State} {m : MethodId} {args : Array Value} {below : List Frame} {meth : Method} {c : Code} {T : State} {locs : List Loc} {cells slots : Nat} {Z : State} {a0 : Array Value} {h : Heap} {n0 : Nat} {L : RL}
theorem gGet (X : Stand p l e R s m args below meth c T locs cells slots) (hx : p.tables.exec = Jvm.exec) (hZ : Z.Warmed39 s.vm) {own C n d host : String} {index : Nat} (hown : s.vm.findClass own = some m.cls) (w : (Cond.fieldLink own index C n d).before a0 Z = true ∨ (Cond.fieldLinkNest own index C n d host).before a0 Z = true)
    (eT : T.heap = h) (Q : Rep Z n0 h L) (i j : Nat) {a : Addr} {fs : List (String × String × Value)} {v : Value} (hi : L[i]? = some (a, Obj C fs)) (hj : fs[j]? = some (n, d, v)) {g : JFrame} (hg : g.method = m) {rest : List Value} (hs : g.stack = .ref a :: rest) (hd : decode c.code g.pc = .ok (.getfield index, 3)) :
    ∃ T', Stand p l e R s m args below meth c T' locs cells slots ∧ T'.heap = h ∧ ∀ target, Steps p.tables e below (T'.setTop { g with pc := g.pc + 3, stack := v :: rest }) target → Steps p.tables e below (T.setTop g) target :=
  getF X hx hZ hown w Via.refl eT (Q.fld hi hj) hg hs hd
theorem gPut (X : Stand p l e R s m args below meth c T locs cells slots) (hx : p.tables.exec = Jvm.exec) (hZ : Z.Warmed39 s.vm) {own C n d host : String} {index kk : Nat} {ty : FieldType} (hown : s.vm.findClass own = some m.cls) (w : (Cond.fieldLink own index C n d).before a0 Z = true ∨ (Cond.fieldLinkNest own index C n d host).before a0 Z = true)
    (eT : T.heap = h) (N : Fr n0 locs) (Q : Rep Z n0 h L) (i j : Nat) {a : Addr} {fs : List (String × String × Value)} {v old : Value} (hi : L[i]? = some (a, Obj C fs)) (hj : fs[j]? = some (n, d, old))
    (Lw : (Cond.lays C C n d).before a0 Z = true ∨ ((Cond.laysFinal C C n d).before a0 Z = true ∧ own = C ∧ meth.name = "<init>")) (wi : (Cond.instantiable C kk).before a0 Z = true)
    (hty : parseFieldDescriptor d = some ty) (hn : narrow ty v = v) (hf : fits ty v = true) {g : JFrame} (hg : g.method = m) {rest : List Value} (hs : g.stack = v :: .ref a :: rest) (hd : decode c.code g.pc = .ok (.putfield index, 3)) :
    ∃ T' h' locs', Stand p l e R s m args below meth c T' locs' cells slots ∧ T'.heap = h' ∧ Fr n0 locs' ∧ Rep Z n0 h' (L.set i (a, Obj C (fs.set j (n, d, v)))) ∧ ∀ target, Steps p.tables e below (T'.setTop { g with pc := g.pc + 3, stack := rest }) target → Steps p.tables e below (T.setTop g) target := by
  obtain ⟨T', h', X', e', W, st⟩ := putF X hx hZ hown w Via.refl eT (Q.fld hi hj) (Q.exa hi) Lw wi hty hn hf hg hs hd
  exact ⟨T', h', _, X', e', Fr.snoc X' N (Q.ge hi), Q.put hi hj W, st⟩
theorem gNew (X : Stand p l e R s m args below meth c T locs cells slots) (hx : p.tables.exec = Jvm.exec) (hZ : Z.Warmed39 s.vm) {own C : String} {index n : Nat} (hown : s.vm.findClass own = some m.cls) (w : (Cond.classLink own index C).before a0 Z = true) (wi : (Cond.instantiable C n).before a0 Z = true) (wz : (Cond.initialized C).before a0 Z = true)
    (eT : T.heap = h) (Q : Rep Z n0 h L) {fs : List (String × String × Value)} (hl : LaidAll Z a0 C fs) (hn : (fs.map (·.1)).Nodup) {g : JFrame} (hg : g.method = m) (hd : decode c.code g.pc = .ok (.new index, 3)) (hc : cells + 1 ≤ R.cells) (hs : slots + n ≤ R.slots) :
    ∃ T' h' a, Stand p l e R s m args below meth c T' locs (cells + 1) (slots + n) ∧ T'.heap = h' ∧ Rep Z n0 h' ((a, Obj C fs) :: L) ∧ ∀ target, Steps p.tables e below (T'.setTop { g with pc := g.pc + 3, stack := .ref a :: g.stack }) target → Steps p.tables e below (T.setTop g) target := by
  obtain ⟨T', h', X', e', E, A, D, -, st⟩ := newO X hx hZ hown w wi wz eT hg hd hc hs
  exact ⟨T', h', _, X', e', Q.newO E rfl A D hl hn, st⟩
theorem gNewP (X : Stand p l e R s m args below meth c T locs cells slots) (hx : p.tables.exec = Jvm.exec) (hZ : Z.Warmed39 s.vm) {aty : ArrayType} (w : (Cond.arrayClass (newarray.typeOf aty)).before a0 Z = true)
    (eT : T.heap = h) (Q : Rep Z n0 h L) {g : JFrame} (hg : g.method = m) (hd : decode c.code g.pc = .ok (.newarray aty, 2)) {n : Int32} {rest : List Value} (hs : g.stack = .int n :: rest) (hn : ¬ n < 0) (cap : Nat) (hcap : n.toNatClampNeg ≤ cap) (hb : cap * 8 ≤ 536870912) (hc : cells + 1 ≤ R.cells) (hl : slots + cap ≤ R.slots)
    {vs : List Value} (hv : List.replicate n.toNatClampNeg (defaultValue (newarray.typeOf aty)) = vs) :
    ∃ T' h' a, Stand p l e R s m args below meth c T' locs (cells + 1) (slots + cap) ∧ T'.heap = h' ∧ Rep Z n0 h' ((a, Ar (newarray.typeOf aty) vs) :: L) ∧ ∀ target, Steps p.tables e below (T'.setTop { g with pc := g.pc + 2, stack := .ref a :: rest }) target → Steps p.tables e below (T.setTop g) target := by
  obtain ⟨T', h', cA, X', e', E, A, EX, st⟩ := newPE X hx hZ w eT hg hd hs hn hcap hb hc hl rfl
  exact ⟨T', h', _, X', e', Q.newAr E rfl A EX (by cases aty <;> rfl) hv, st⟩
theorem gLen (X : Stand p l e R s m args below meth c T locs cells slots) (hx : p.tables.exec = Jvm.exec) (hZ : Z.Warmed39 s.vm) (eT : T.heap = h) (Q : Rep Z n0 h L) (i : Nat) {a : Addr} {ty : FieldType} {vs : List Value} (hi : L[i]? = some (a, Ar ty vs))
    {g : JFrame} (hg : g.method = m) {rest : List Value} (hs : g.stack = .ref a :: rest) (hd : decode c.code g.pc = .ok (.arraylength, 1)) {z : Int32} (hz : Int32.ofNat vs.length = z) :
    ∀ target, Steps p.tables e below (T.setTop { g with pc := g.pc + 1, stack := .int z :: rest }) target → Steps p.tables e below (T.setTop g) target := by
  obtain ⟨cl, A, V⟩ := Q.arr hi
  intro target k
  refine X.arraylength hx (cell := cl) (by rw [eT]; exact A.1) (State.isArrayOf_alike hZ.alike A.2.1) hg hs hd _ ?_
  have q : cl.slots.size.toInt32 = z := by rw [← hz, ← V, Array.length_toList]
  rw [q]; exact k
theorem gIald (X : Stand p l e R s m args below meth c T locs cells slots) (hx : p.tables.exec = Jvm.exec) (hZ : Z.Warmed39 s.vm) (eT : T.heap = h) (Q : Rep Z n0 h L) (i : Nat) {a : Addr} {vs : List Value} (hi : L[i]? = some (a, Ar .int vs))
    {j : Int32} {v : Value} (hj : ¬ j < 0) (hv : vs[j.toNatClampNeg]? = some v) {g : JFrame} (hg : g.method = m) {rest : List Value} (hs : g.stack = .int j :: .ref a :: rest) (hd : decode c.code g.pc = .ok (.iaload, 1)) :
    ∀ target, Steps p.tables e below (T.setTop { g with pc := g.pc + 1, stack := v :: rest }) target → Steps p.tables e below (T.setTop g) target := by
  obtain ⟨cl, A, V⟩ := Q.arr hi
  intro target k
  exact X.iaload hx (by rw [eT]; exact A.1) (State.isArrayOf_alike hZ.alike A.2.1) A.2.2 (in_of V hj (lt_of hv)) (at_of V hv) hg hs hd _ k
theorem gLald (X : Stand p l e R s m args below meth c T locs cells slots) (hx : p.tables.exec = Jvm.exec) (hZ : Z.Warmed39 s.vm) (eT : T.heap = h) (Q : Rep Z n0 h L) (i : Nat) {a : Addr} {vs : List Value} (hi : L[i]? = some (a, Ar .long vs))
    {j : Int32} {v : Value} (hj : ¬ j < 0) (hv : vs[j.toNatClampNeg]? = some v) {g : JFrame} (hg : g.method = m) {rest : List Value} (hs : g.stack = .int j :: .ref a :: rest) (hd : decode c.code g.pc = .ok (.laload, 1)) :
    ∀ target, Steps p.tables e below (T.setTop { g with pc := g.pc + 1, stack := v :: rest }) target → Steps p.tables e below (T.setTop g) target := by
  obtain ⟨cl, A, V⟩ := Q.arr hi
  intro target k
  exact X.laload hx (by rw [eT]; exact A.1) (State.isArrayOf_alike hZ.alike A.2.1) A.2.2 (in_of V hj (lt_of hv)) (at_of V hv) hg hs hd _ k
theorem gBald (X : Stand p l e R s m args below meth c T locs cells slots) (hx : p.tables.exec = Jvm.exec) (hZ : Z.Warmed39 s.vm) (eT : T.heap = h) (Q : Rep Z n0 h L) (i : Nat) {a : Addr} {vs : List Value} (hi : L[i]? = some (a, Ar .byte vs))
    {j : Int32} {v : Value} (hj : ¬ j < 0) (hv : vs[j.toNatClampNeg]? = some v) {g : JFrame} (hg : g.method = m) {rest : List Value} (hs : g.stack = .int j :: .ref a :: rest) (hd : decode c.code g.pc = .ok (.baload, 1)) :
    ∀ target, Steps p.tables e below (T.setTop { g with pc := g.pc + 1, stack := v :: rest }) target → Steps p.tables e below (T.setTop g) target := by
  obtain ⟨cl, A, V⟩ := Q.arr hi
  intro target k
  exact X.baloadBytes hx (by rw [eT]; exact A.1) (State.isArrayOf_alike hZ.alike A.2.1) A.2.2 (in_of V hj (lt_of hv)) (at_of V hv) hg hs hd _ k
theorem gIst (X : Stand p l e R s m args below meth c T locs cells slots) (hx : p.tables.exec = Jvm.exec) (hZ : Z.Warmed39 s.vm) (eT : T.heap = h) (N : Fr n0 locs) (Q : Rep Z n0 h L) (i : Nat) {a : Addr} {vs : List Value} (hi : L[i]? = some (a, Ar .int vs))
    {j x : Int32} (hj : ¬ j < 0) (k : Nat) (hk : j.toNatClampNeg = k) (hv : k < vs.length) {g : JFrame} (hg : g.method = m) {rest : List Value} (hs : g.stack = .int x :: .int j :: .ref a :: rest) (hd : decode c.code g.pc = .ok (.iastore, 1)) :
    ∃ T' h' locs', Stand p l e R s m args below meth c T' locs' cells slots ∧ T'.heap = h' ∧ Fr n0 locs' ∧ Rep Z n0 h' (L.set i (a, Ar .int (vs.set k (.int x)))) ∧ ∀ target, Steps p.tables e below (T'.setTop { g with pc := g.pc + 1, stack := rest }) target → Steps p.tables e below (T.setTop g) target := by
  obtain ⟨cl, A, V⟩ := Q.arr hi
  subst hk
  obtain ⟨T', h', X', e', W, st⟩ := stI X hx hZ eT A (j := j) (x := x) (in_of V hj hv) hg hs hd
  exact ⟨T', h', _, X', e', Fr.snoc X' N (Q.ge hi), Q.sto hi W rfl, st⟩
theorem gLst (X : Stand p l e R s m args below meth c T locs cells slots) (hx : p.tables.exec = Jvm.exec) (hZ : Z.Warmed39 s.vm) (eT : T.heap = h) (N : Fr n0 locs) (Q : Rep Z n0 h L) (i : Nat) {a : Addr} {vs : List Value} (hi : L[i]? = some (a, Ar .long vs))
    {j : Int32} {x : Int64} (hj : ¬ j < 0) (k : Nat) (hk : j.toNatClampNeg = k) (hv : k < vs.length) {g : JFrame} (hg : g.method = m) {rest : List Value} (hs : g.stack = .long x :: .int j :: .ref a :: rest) (hd : decode c.code g.pc = .ok (.lastore, 1)) :
    ∃ T' h' locs', Stand p l e R s m args below meth c T' locs' cells slots ∧ T'.heap = h' ∧ Fr n0 locs' ∧ Rep Z n0 h' (L.set i (a, Ar .long (vs.set k (.long x)))) ∧ ∀ target, Steps p.tables e below (T'.setTop { g with pc := g.pc + 1, stack := rest }) target → Steps p.tables e below (T.setTop g) target := by
  obtain ⟨cl, A, V⟩ := Q.arr hi
  subst hk
  obtain ⟨T', h', X', e', W, st⟩ := stJ X hx hZ eT A (j := j) (x := x) (in_of V hj hv) hg hs hd
  exact ⟨T', h', _, X', e', Fr.snoc X' N (Q.ge hi), Q.sto hi W rfl, st⟩
theorem gBst (X : Stand p l e R s m args below meth c T locs cells slots) (hx : p.tables.exec = Jvm.exec) (hZ : Z.Warmed39 s.vm) (eT : T.heap = h) (N : Fr n0 locs) (Q : Rep Z n0 h L) (i : Nat) {a : Addr} {vs : List Value} (hi : L[i]? = some (a, Ar .byte vs))
    {j x : Int32} (hj : ¬ j < 0) (k : Nat) (hk : j.toNatClampNeg = k) (hv : k < vs.length) {g : JFrame} (hg : g.method = m) {rest : List Value} (hs : g.stack = .int x :: .int j :: .ref a :: rest) (hd : decode c.code g.pc = .ok (.bastore, 1)) :
    ∃ T' h' locs', Stand p l e R s m args below meth c T' locs' cells slots ∧ T'.heap = h' ∧ Fr n0 locs' ∧ Rep Z n0 h' (L.set i (a, Ar .byte (vs.set k (.int x.toInt8.toInt32)))) ∧ ∀ target, Steps p.tables e below (T'.setTop { g with pc := g.pc + 1, stack := rest }) target → Steps p.tables e below (T.setTop g) target := by
  obtain ⟨cl, A, V⟩ := Q.arr hi
  subst hk
  obtain ⟨T', h', X', e', W, st⟩ := stB X hx hZ eT A (j := j) (x := x) (in_of V hj hv) hg hs hd
  exact ⟨T', h', _, X', e', Fr.snoc X' N (Q.ge hi), Q.sto hi W (fits_nar_byte x), st⟩
theorem gClone (X : Stand p l e R s m args below meth c T locs cells slots) (hx : p.tables.exec = Jvm.exec) (hZ : Z.Warmed39 s.vm) {own ad : String} {index : Nat} (hown : s.vm.findClass own = some m.cls)
    (w1 : (Cond.methodLink own index ⟨ad, "clone", "()Ljava/lang/Object;"⟩).before a0 Z = true) (w2 : (Cond.sameMethod ad "java/lang/Object" "clone" "()Ljava/lang/Object;").before a0 Z = true) (w3 : (Cond.native ⟨"java/lang/Object", "clone", "()Ljava/lang/Object;"⟩).before a0 Z = true)
    (w4 : (Cond.instanceMethod ⟨"java/lang/Object", "clone", "()Ljava/lang/Object;"⟩).before a0 Z = true) (w5 : (Cond.selects ad ⟨ad, "clone", "()Ljava/lang/Object;"⟩ ⟨"java/lang/Object", "clone", "()Ljava/lang/Object;"⟩).before a0 Z = true) (w6 : (Cond.castable ad "java/lang/Cloneable").before a0 Z = true)
    (eT : T.heap = h) (Q : Rep Z n0 h L) (i : Nat) {a : Addr} {ty : FieldType} {vs : List Value} (hi : L[i]? = some (a, Ar ty vs)) (had : "[" ++ ty.toString = ad) {g : JFrame} (hg : g.method = m) (hsize : g.locals.size = c.maxLocals) {rest : List Value} (hs : g.stack = .ref a :: rest) (hd : decode c.code g.pc = .ok (.invokevirtual index, 3))
    (hf : 1 ≤ R.frames) {W : Nat} (cap : Nat) (hW : 2 * g.monitorRoom + (rest.map fun v => v.category).sum ≤ W) (hl : W + 14 ≤ R.locals) (hcap : vs.length ≤ cap) (hc : cells + 1 ≤ R.cells) (hsl : slots + cap ≤ R.slots) :
    ∃ T' h' b, Stand p l e R s m args below meth c T' locs (cells + 1) (slots + cap) ∧ T'.heap = h' ∧ Rep Z n0 h' ((b, Ar ty vs) :: L) ∧ Exa Z h' b ad ∧
      ∀ target, Steps p.tables e below (T'.setTop { g with pc := g.pc + 3, stack := .ref b :: rest }) target → Steps p.tables e below (T.setTop g) target := by
  subst had
  obtain ⟨cl, A, V, F, E⟩ := Q.arr' hi
  have FC : FitC Z cl := fitC_of A fun k hk v hv => F v (by rw [← V]; exact Array.mem_toList_iff.mpr (Array.mem_of_getElem? hv))
  obtain ⟨T', h', X', e', ex, A', E', st⟩ := cloneA X hx hZ hown w1 w2 w3 w4 w5 w6 eT A E FC hg hsize hs hd hf hW hl (by rw [← V, Array.length_toList] at hcap; exact hcap) hc hsl
  exact ⟨T', h', _, X', e', Q.add ex rfl A'.1 ⟨A'.2.1, A'.2.2, V, F, exa_to A'.1 E'⟩, E', st⟩
theorem gCast (X : Stand p l e R s m args below meth c T locs cells slots) (hx : p.tables.exec = Jvm.exec) (hZ : Z.Warmed39 s.vm) {own K : String} {index : Nat} (hown : s.vm.findClass own = some m.cls) (w : (Cond.classLink own index K).before a0 Z = true) (eT : T.heap = h) {a : Addr} (E : Exa Z h a K)
    {g : JFrame} (hg : g.method = m) {rest : List Value} (hs : g.stack = .ref a :: rest) (hd : decode c.code g.pc = .ok (.checkcast index, 3)) : ∃ T', Stand p l e R s m args below meth c T' locs cells slots ∧ T'.heap = h ∧ ∀ target, Steps p.tables e below (T'.setTop { g with pc := g.pc + 3 }) target → Steps p.tables e below (T.setTop g) target :=
  castY X hx hZ hown w eT (Ins.self E) hg hs hd
theorem arv_of {a : Addr} {ty : FieldType} {vs : List Value} {dv : Value} {cl : Cell} (A : Arr Z h a cl ty) (V : cl.slots.toList = vs) (F : ∀ v ∈ vs, fits ty v = true) (hl : vs.length < 2 ^ 31) : Arv Z h a cl.cls ty (Int32.ofNat vs.length) vs dv := by
  have q : (Int32.ofNat vs.length).toNatClampNeg = vs.length := by
    rw [Int32.toNatClampNeg, Int32.toInt_ofNat_of_lt hl]; rfl
  have S : cl.slots.size = vs.length := by rw [← V, Array.length_toList]
  have G : ∀ k, k < cl.slots.size → cl.slots[k]? = some (vs.getD k dv) := fun k hk => by
    rw [← Array.getElem?_toList, V, List.getD_eq_getElem?_getD, List.getElem?_eq_getElem (by omega)]; rfl
  refine ⟨cl, A, rfl, by rw [q, S], ?_, G, fun k hk => ?_⟩
  · rw [Int32.lt_iff_toInt_lt, Int32.toInt_ofNat_of_lt hl, show (0 : Int32).toInt = 0 from rfl]; omega
  · rw [List.getD_eq_getElem?_getD, List.getElem?_eq_getElem (by omega)]
    exact F _ (List.getElem_mem _)
theorem Rep.kept {h' : Heap} {i : Nat} {b : Addr} {P P' : Des} {cb : Cell} (Q : Rep Z n0 h L) (hi : L[i]? = some (b, P)) (K : Keep h h' [b]) (hc : h'[b]? = some cb) (p : P' Z cb) : Rep Z n0 h' (L.set i (b, P')) := by
  have em : (L.set i (b, P')).map (·.1) = L.map (·.1) := by
    rw [List.map_set]
    apply List.ext_getElem?
    intro k
    rw [List.getElem?_set]
    split
    · rename_i e; subst e
      split
      · simp [hi]
      · rename_i e; simp only [List.length_map] at e; simp [List.getElem?_eq_none (Nat.le_of_not_lt e)]
    · rfl
  have il : i < L.length := (List.getElem?_eq_some_iff.mp hi).1
  refine ⟨Nat.le_trans Q.1 K.1, by rw [em]; exact Q.2.1, fun x hx => ?_⟩
  obtain ⟨k, hk⟩ := List.mem_iff_getElem?.mp hx
  rw [List.getElem?_set] at hk
  split at hk
  · rename_i e; subst e
    cases hk
    exact ⟨Q.ge hi, cb, hc, p⟩
  · rename_i e
    obtain ⟨g, c, hc', p'⟩ := Q.2.2 x (List.mem_of_getElem? hk)
    have ne : x.1 ≠ b := fun q => by
      refine e ((List.getElem?_inj (l := L.map (·.1)) (by simpa using il) Q.2.1).mp ?_)
      simp [hi, hk, q]
    exact ⟨g, c, K.2.1 _ _ hc' (by simpa using ne), p'⟩
theorem gCopy (X : Stand p l e R s m args below meth c T locs cells slots) (hx : p.tables.exec = Jvm.exec) (hZ : Z.Warmed39 s.vm) {own : String} {index : Nat} (hown : s.vm.findClass own = some m.cls)
    (w1 : (Cond.methodLink own index Jvm.Stand.acN).before a0 Z = true) (w2 : (Cond.native Jvm.Stand.acN).before a0 Z = true) (w3 : (Cond.static Jvm.Stand.acN).before a0 Z = true) (w4 : (Cond.initialized "java/lang/System").before a0 Z = true) (eT : T.heap = h) (N : Fr n0 locs) (Q : Rep Z n0 h L) (i j : Nat)
    {a b : Addr} {ty : FieldType} {vs vd : List Value} (hi : L[i]? = some (a, Ar ty vs)) (hj : L[j]? = some (b, Ar ty vd)) (hty : refKind ty = false) (l1 : vs.length < 2 ^ 31) (l2 : vd.length < 2 ^ 31) {sp dp nn : Int32} (h1 : ¬ sp < 0) (h2 : ¬ dp < 0) (h3 : ¬ nn < 0) (si di ni : Nat) (es : sp.toNatClampNeg = si) (ed : dp.toNatClampNeg = di) (en : nn.toNatClampNeg = ni)
    (h4 : si + ni ≤ vs.length) (h5 : di + ni ≤ vd.length)
    {g : JFrame} (hg : g.method = m) (hsize : g.locals.size = c.maxLocals) {rest : List Value} (hs : g.stack = .int nn :: .int dp :: .ref b :: .int sp :: .ref a :: rest) (hd : decode c.code g.pc = .ok (.invokestatic index, 3))
    (hf : 1 ≤ R.frames) {W : Nat} (hW : 2 * g.monitorRoom + (rest.map fun v => v.category).sum ≤ W) (hlo : W + (nativeFrameWords "java/lang/System" "arraycopy" 5 + 11) ≤ R.locals) :
    ∃ T' h' L', Stand p l e R s m args below meth c T' L' cells slots ∧ T'.heap = h' ∧ Fr n0 L' ∧ Rep Z n0 h' (L.set j (b, Ar ty (vd.take di ++ (vs.drop si).take ni ++ vd.drop (di + ni)))) ∧
      ∀ target, Steps p.tables e below (T'.setTop { g with pc := g.pc + 3, stack := rest }) target → Steps p.tables e below (T.setTop g) target := by
  subst es ed en
  obtain ⟨ca, A, Va, Fa, Ea⟩ := Q.arr' hi
  obtain ⟨cb, B, Vb, Fb, Eb⟩ := Q.arr' hj
  have za : (Int32.ofNat vs.length).toNatClampNeg = vs.length := by rw [Int32.toNatClampNeg, Int32.toInt_ofNat_of_lt l1]; rfl
  have zb : (Int32.ofNat vd.length).toNatClampNeg = vd.length := by rw [Int32.toNatClampNeg, Int32.toInt_ofNat_of_lt l2]; rfl
  have hus : (vs.drop sp.toNatClampNeg).take nn.toNatClampNeg = (List.range nn.toNatClampNeg).map fun k => vs.getD (sp.toNatClampNeg + k) .null := by
    apply List.ext_getElem?
    intro k
    rw [List.getElem?_take, List.getElem?_drop, List.getElem?_map]
    by_cases q : k < nn.toNatClampNeg
    · rw [if_pos q, List.getElem?_range q, List.getElem?_eq_getElem (by omega)]
      simp [List.getD_eq_getElem?_getD, List.getElem?_eq_getElem (show sp.toNatClampNeg + k < vs.length by omega)]
    · rw [if_neg q, List.getElem?_eq_none (by simpa using q)]; rfl
  obtain ⟨T', h', L', X', e', N', K, ⟨c', A', -, S', -, H', G'⟩, st⟩ := cpA X hx hZ hown w1 w2 w3 w4 eT (arv_of (dv := .null) A Va Fa l1) (arv_of (dv := .null) B Vb Fb l2) (Or.inl ⟨rfl, hty⟩) h1 h2 h3 (by rw [za]; exact h4) (by rw [zb]; exact h5) hus h5 N (Q.ge hj) hg hsize hs hd hf hW hlo
  refine ⟨T', h', L', X', e', N', Q.kept hj K A'.1 ⟨A'.2.1, A'.2.2, ?_, fun v hv => ?_, exa_to A'.1 (Eb.keep K)⟩, st⟩
  · apply List.ext_getElem?
    intro k
    rw [Array.getElem?_toList]
    by_cases q : k < c'.slots.size
    · rw [H' k q, List.getD_eq_getElem?_getD, List.getElem?_eq_getElem]
      · rfl
      · rw [S', zb] at q; simp only [List.length_append, List.length_take, List.length_drop]; omega
    · rw [Array.getElem?_eq_none (by omega), List.getElem?_eq_none]
      rw [S', zb] at q; simp only [List.length_append, List.length_take, List.length_drop]; omega
  · rcases List.mem_append.mp hv with hv | hv
    · rcases List.mem_append.mp hv with hv | hv
      · exact Fb v (List.mem_of_mem_take hv)
      · exact Fa v (List.mem_of_mem_drop (List.mem_of_mem_take hv))
    · exact Fb v (List.mem_of_mem_drop hv)
theorem gMono (X : Stand p l e R s m args below meth c T locs cells slots) {cells' slots' : Nat} (h1 : cells ≤ cells') (h2 : slots ≤ slots') : Stand p l e R s m args below meth c T locs cells' slots' := { X with same := X.same.mono h1 h2 }
theorem retI (X : Stand p l e R s m args below meth c T locs cells slots) (hx : p.tables.exec = Jvm.exec) {pc : Nat} {Ls : Array Slot} {z : Int32} {rest : List Value} (hret : meth.sig.returnType = some .int) (hd : decode c.code pc = .ok (.ireturn, 1)) {fs : List Frame}
    (hl : ∀ (f : JFrame) (acts : List Action), f.method = m → f.locked = none → f.entered = [] → (doReturn e (T.setTop f) acts (some (.int z))).1 = T.setFrames fs) : Steps p.tables e below (T.setTop (mkF m pc Ls (.int z :: rest))) (T.setFrames fs) := by
  have hm' : T.vm.method? m = some meth := X.method'
  have hn : narrow .int (.int z) = .int z := rfl
  show Steps p.tables e below (T.setTop { method := m, pc := pc, locals := Ls, stack := _ :: rest, locked := none }) _
  jvm_step X.here [X.here.top, hx, hd, hm', hret, hn]
  first | (intro acts; rw [hl _ acts rfl rfl rfl]) | rw [hl _ _ rfl rfl rfl]
  exact Steps.refl _
theorem retL (X : Stand p l e R s m args below meth c T locs cells slots) (hx : p.tables.exec = Jvm.exec) {pc : Nat} {Ls : Array Slot} {z : Int64} {rest : List Value} (hret : meth.sig.returnType = some .long) (hd : decode c.code pc = .ok (.lreturn, 1)) {fs : List Frame}
    (hl : ∀ (f : JFrame) (acts : List Action), f.method = m → f.locked = none → f.entered = [] → (doReturn e (T.setTop f) acts (some (.long z))).1 = T.setFrames fs) : Steps p.tables e below (T.setTop (mkF m pc Ls (.long z :: rest))) (T.setFrames fs) := by
  have hm' : T.vm.method? m = some meth := X.method'
  have hn : narrow .long (.long z) = .long z := rfl
  show Steps p.tables e below (T.setTop { method := m, pc := pc, locals := Ls, stack := _ :: rest, locked := none }) _
  jvm_step X.here [X.here.top, hx, hd, hm', hret, hn]
  first | (intro acts; rw [hl _ acts rfl rfl rfl]) | rw [hl _ _ rfl rfl rfl]
  exact Steps.refl _
theorem retA (X : Stand p l e R s m args below meth c T locs cells slots) (hx : p.tables.exec = Jvm.exec) {pc : Nat} {Ls : Array Slot} {a : Addr} {rest : List Value} {t : FieldType} (ht : t.isReference = true) (hret : meth.sig.returnType = some t) (hd : decode c.code pc = .ok (.areturn, 1)) {fs : List Frame}
    (hl : ∀ (f : JFrame) (acts : List Action), f.method = m → f.locked = none → f.entered = [] → (doReturn e (T.setTop f) acts (some (.ref a))).1 = T.setFrames fs) : Steps p.tables e below (T.setTop (mkF m pc Ls (.ref a :: rest))) (T.setFrames fs) := by
  have hm' : T.vm.method? m = some meth := X.method'
  show Steps p.tables e below (T.setTop { method := m, pc := pc, locals := Ls, stack := _ :: rest, locked := none }) _
  jvm_step X.here [X.here.top, hx, hd, hm', hret, ht, Value.isRef]
  first | (intro acts; rw [hl _ acts rfl rfl rfl]) | rw [hl _ _ rfl rfl rfl]
  exact Steps.refl _
end Steps
abbrev iushr (x y : Int32) : Int32 := (x.toUInt32 >>> (y &&& 31).toUInt32).toInt32
abbrev lushr (x : Int64) (y : Int32) : Int64 := (x.toUInt64 >>> (y &&& 0x3f).toInt64.toUInt64).toInt64
abbrev ishl (x y : Int32) : Int32 := x <<< (y &&& 31)
abbrev ishr (x y : Int32) : Int32 := x >>> (y &&& 31)
abbrev lshl (x : Int64) (y : Int32) : Int64 := x <<< (y &&& 0x3f).toInt64
abbrev lshr (x : Int64) (y : Int32) : Int64 := x >>> (y &&& 0x3f).toInt64
/-- a boolean told by a condition, as an int of the machine's -/
abbrev bz (P : Prop) [Decidable P] : Int32 := if P then 1 else 0
theorem nar_b (P : Prop) [Decidable P] : nar .boolean (bz P) = bz P := by unfold bz; split <;> rfl
theorem bz_t {P : Prop} [Decidable P] (h : P) : bz P = 1 := if_pos h
theorem bz_congr {P Q : Prop} [Decidable P] [Decidable Q] (h : P ↔ Q) : bz P = bz Q := by
  by_cases q : Q
  · rw [bz, bz, if_pos q, if_pos (h.mpr q)]
  · rw [bz, bz, if_neg q, if_neg (fun p => q (h.mp p))]
theorem bz_one {P : Prop} [Decidable P] (h : P ↔ True) : bz P = 1 := if_pos (h.mpr trivial)
theorem bz_zero {P : Prop} [Decidable P] (h : P ↔ False) : bz P = 0 := if_neg h.mp
theorem ow_bne_t {P : Prop} [Decidable P] (h : P) : ifCond.holds .ne (bz P) = true := by rw [if0, bz_t h]; decide
theorem ow_bne_f {P : Prop} [Decidable P] (h : ¬ P) : ifCond.holds .ne (bz P) = false := by rw [if0, bz, if_neg h]; decide
theorem ow_beq_t {P : Prop} [Decidable P] (h : ¬ P) : ifCond.holds .eq (bz P) = true := by rw [if0, bz, if_neg h]; decide
theorem ow_beq_f {P : Prop} [Decidable P] (h : P) : ifCond.holds .eq (bz P) = false := by rw [if0, bz_t h]; decide
theorem bz_f {P : Prop} [Decidable P] (h : ¬ P) : bz P = 0 := if_neg h
theorem ite_or_t {α : Type} {c d : Prop} [Decidable c] [Decidable d] {a y : α} (h : c) : (if c ∨ d then a else y) = a := if_pos (Or.inl h)
theorem ite_or_f {α : Type} {c d : Prop} [Decidable c] [Decidable d] {a y : α} (h : ¬ c) : (if c ∨ d then a else y) = (if d then a else y) := by
  by_cases q : d
  · rw [if_pos q, if_pos (Or.inr q)]
  · rw [if_neg q, if_neg (fun z => z.elim h q)]
theorem ite_and_t {α : Type} {c d : Prop} [Decidable c] [Decidable d] {a y : α} (h : c) : (if c ∧ d then a else y) = (if d then a else y) := by
  by_cases q : d
  · rw [if_pos q, if_pos ⟨h, q⟩]
  · rw [if_neg q, if_neg (fun z => q z.2)]
theorem ite_and_f {α : Type} {c d : Prop} [Decidable c] [Decidable d] {a y : α} (h : ¬ c) : (if c ∧ d then a else y) = y := if_neg fun q => h q.1
theorem ow_fin {P : Prop} [Decidable P] (h : P) : some (Value.int (nar .boolean (bz P))) = some (Value.int (1 : Int32)) := by rw [bz_t h]; rfl
theorem ow_fin' {P : Prop} [Decidable P] (h : P) : some (Value.int (bz P)) = some (Value.int (1 : Int32)) := by rw [bz_t h]
end Jvm.Own
namespace Jvm.Own
open Jvm Jvm.RoadKit
/-! ## Longs and ints as natural numbers -/
def nj (x : Int64) : Nat := x.toBitVec.toNat
def ni (x : Int32) : Nat := x.toBitVec.toNat
theorem nj_lt (x : Int64) : nj x < 18446744073709551616 := x.toBitVec.isLt
theorem ni_lt (x : Int32) : ni x < 4294967296 := x.toBitVec.isLt
theorem nj_inj {x y : Int64} (h : nj x = nj y) : x = y := Int64.toBitVec_inj.mp (BitVec.eq_of_toNat_eq h)
theorem ni_inj {x y : Int32} (h : ni x = ni y) : x = y := Int32.toBitVec_inj.mp (BitVec.eq_of_toNat_eq h)
theorem nj_int (x : Int64) : x.toInt = if nj x < 9223372036854775808 then (nj x : Int) else (nj x : Int) - 18446744073709551616 := by
  show x.toBitVec.toInt = _
  rw [BitVec.toInt_eq_toNat_cond]
  show (if 2 * nj x < 2 ^ 64 then (nj x : Int) else (nj x : Int) - (2 ^ 64 : Nat)) = _
  split <;> split <;> omega
theorem ni_int (x : Int32) : x.toInt = if ni x < 2147483648 then (ni x : Int) else (ni x : Int) - 4294967296 := by
  show x.toBitVec.toInt = _
  rw [BitVec.toInt_eq_toNat_cond]
  show (if 2 * ni x < 2 ^ 32 then (ni x : Int) else (ni x : Int) - (2 ^ 32 : Nat)) = _
  split <;> split <;> omega
theorem nj_and (x y : Int64) : nj (x &&& y) = nj x &&& nj y := by show (x.toBitVec &&& y.toBitVec).toNat = _; rw [BitVec.toNat_and]; rfl
theorem nj_or (x y : Int64) : nj (x ||| y) = nj x ||| nj y := by show (x.toBitVec ||| y.toBitVec).toNat = _; rw [BitVec.toNat_or]; rfl
theorem nj_xor (x y : Int64) : nj (x ^^^ y) = nj x ^^^ nj y := by show (x.toBitVec ^^^ y.toBitVec).toNat = _; rw [BitVec.toNat_xor]; rfl
theorem nj_add (x y : Int64) : nj (x + y) = (nj x + nj y) % 18446744073709551616 := by show (x.toBitVec + y.toBitVec).toNat = _; rw [BitVec.toNat_add]; rfl
theorem nj_sub (x y : Int64) : nj (x - y) = (18446744073709551616 - nj y + nj x) % 18446744073709551616 := by show (x.toBitVec - y.toBitVec).toNat = _; rw [BitVec.toNat_sub]; rfl
theorem ni_and (x y : Int32) : ni (x &&& y) = ni x &&& ni y := by show (x.toBitVec &&& y.toBitVec).toNat = _; rw [BitVec.toNat_and]; rfl
theorem nj_lushr (x : Int64) (q : Int32) (k : Nat) (hk : ni q % 64 = k) : nj (lushr x q) = nj x / 2 ^ k := by
  show (x.toBitVec >>> ((q &&& 0x3f).toInt64.toBitVec % 64)).toNat = x.toBitVec.toNat / 2 ^ k
  have h5 := (sm64 q k hk).2
  rw [BitVec.ushiftRight_eq', BitVec.toNat_ushiftRight, Nat.shiftRight_eq_div_pow, BitVec.toNat_umod, (sm64 q k hk).1, BitVec.toNat_ofNat]; congr 2; show k % 2 ^ 64 % 64 = k; omega
theorem nj_lshl (x : Int64) (q : Int32) (k : Nat) (hk : ni q % 64 = k) : nj (lshl x q) = nj x * 2 ^ k % 18446744073709551616 := by
  show (x.toBitVec <<< ((q &&& 0x3f).toInt64.toBitVec.smod 64)).toNat = _
  rw [BitVec.shiftLeft_eq', (sm64 q k hk).1, smod64 k (sm64 q k hk).2, BitVec.toNat_shiftLeft, Nat.shiftLeft_eq]; rfl
theorem ni_l2i (x : Int64) : ni x.toInt32 = nj x % 4294967296 := by
  show (x.toBitVec.signExtend 32).toNat = _
  rw [BitVec.signExtend_eq_setWidth_of_le _ (by decide), BitVec.toNat_setWidth]; rfl
theorem nj_i2l (x : Int32) (h : ni x < 2147483648) : nj x.toInt64 = ni x := by
  have e := nj_int x.toInt64
  rw [Int32.toInt_toInt64, ni_int, if_pos h] at e
  have := nj_lt x.toInt64
  split at e <;> omega
theorem mask_n (x k : Nat) : x &&& (2 ^ k - 1) = x % 2 ^ k := Nat.and_two_pow_sub_one_eq_mod x k
theorem lt64 {x y : Int64} : x < y ↔ x.toInt < y.toInt := Int64.lt_iff_toInt_lt
theorem lt32 {x y : Int32} : x < y ↔ x.toInt < y.toInt := Int32.lt_iff_toInt_lt
/-- the byte at place k of a long, as javac reads it into an int -/
theorem byteI (w : Int64) (q : Int32) (k : Nat) (hk : ni q % 64 = k) : ((lushr w q).toInt32 &&& (255 : Int32)) = Int32.ofNat (nj w / 2 ^ k % 256) := by
  apply ni_inj
  rw [ni_and, ni_l2i, nj_lushr w q k hk, show ni (255 : Int32) = 2 ^ 8 - 1 from rfl, mask_n]
  show _ = (BitVec.ofNat 32 _).toNat
  rw [BitVec.toNat_ofNat]
  omega
theorem byteJ (w : Int64) (q : Int32) (k : Nat) (hk : ni q % 64 = k) : ((lushr w q) &&& (255 : Int64)) = Int64.ofNat (nj w / 2 ^ k % 256) := by
  apply nj_inj
  rw [nj_and, nj_lushr w q k hk, show nj (255 : Int64) = 2 ^ 8 - 1 from rfl, mask_n]
  show _ = (BitVec.ofNat 64 _).toNat
  rw [BitVec.toNat_ofNat]
  omega
theorem all8 {P : Int8 → Prop} (h : ∀ n : Fin 256, P (Int8.ofNat n.1)) (y : Int8) : P y := by
  have q := h ⟨y.toBitVec.toNat, y.toBitVec.isLt⟩
  have e : Int8.ofNat y.toBitVec.toNat = y := by
    apply Int8.toBitVec_inj.mp
    show BitVec.ofNat 8 y.toBitVec.toNat = y.toBitVec
    rw [BitVec.ofNat_toNat]; simp
  rw [e] at q; exact q
/-- an int told by its natural number -/
theorem ofni (x : Int32) : Int32.ofNat (ni x) = x := by
  apply ni_inj
  show (BitVec.ofNat 32 x.toBitVec.toNat).toNat = x.toBitVec.toNat
  rw [BitVec.toNat_ofNat, Nat.mod_eq_of_lt x.toBitVec.isLt]
/-- (x & 0x7fffffff) % m for a small m -/
theorem remN (x : Int32) (m : Int32) (k : Nat) (hm : ni m = k) (h0 : 0 < k) (h1 : k < 2147483648) : ∃ n : Nat, n < k ∧ ((x &&& (2147483647 : Int32)) % m) = Int32.ofNat n := by
  have e1 : ni (x &&& (2147483647 : Int32)) = ni x % 2147483648 := by rw [ni_and, show ni (2147483647 : Int32) = 2 ^ 31 - 1 from rfl, mask_n]
  have m1 : m.toInt = k := by rw [ni_int, if_pos (by omega), hm]
  have a1 : (x &&& (2147483647 : Int32)).toInt = (ni x % 2147483648 : Nat) := by rw [ni_int, if_pos (by omega), e1]
  obtain ⟨p, -⟩ := c_irem (x &&& (2147483647 : Int32)) m k m1
  have r := p (by omega)
  refine ⟨ni x % 2147483648 % k, Nat.mod_lt _ h0, ?_⟩
  have q : ni x % 2147483648 % k < k := Nat.mod_lt _ h0
  apply Int32.toInt_inj.mp
  rw [r, a1, Int32.toInt_ofNat_of_lt (by omega)]; rfl
end Jvm.Own
namespace Jvm.Pilot.@@N@@
open Jvm Jvm.ClassFile Sem Op Lib Jvm.Free Jvm.Stand Jvm.LawKit Jvm.RoadKit Bundle Jvm.Own Jvm.Pilot.@@N@@.Jvm.D
theorem d2_0 : decode jdk_30_method_1_code 0 = .ok (.aload_n 0, 1) := by decide +kernel
theorem d2_1 : decode jdk_30_method_1_code 1 = .ok (.invokespecial 1, 3) := by decide +kernel
theorem d2_4 : decode jdk_30_method_1_code 4 = .ok (.return_, 1) := by decide +kernel
theorem pn_java_lang_Record : plainName "java/lang/Record" = true := by first | (simp [plainName, overriddenIn]; done) | decide +kernel
theorem ef_2 (m : MethodId) (x0 : Addr) : entryFrame m #[(.ref x0)] 1 = mkF m 0 #[.val (.ref x0)] [] := by first | (simp [entryFrame, mkF, argsToLocals, Value.category]; done) | rfl
def Q2 (Z : State) (ax : Addr) (n0 : Nat) (Rst : RL) (v : Option Value) (h : Heap) (L : List Loc) : Prop := v = none ∧ Fr n0 L ∧ Rep Z n0 h (Rst)
set_option maxRecDepth 65536 in
set_option maxHeartbeats 40000000 in
theorem rm2 (l : Launch) (Z : State) (a0 : Array Value) (hw : ∀ d ∈ tables_1, d.before a0 Z = true) (ws : List Jvm.Cond) (ax : Addr) (h0 : Heap) (n0 : Nat) (Rst : RL) (R0 : Rep Z n0 h0 (Rst)) :
    MetFree l (⟨"java/lang/Record", "<init>", "()V"⟩ : MethodName) (head1 (Jvm.Cond.code (⟨"java/lang/Record", "<init>", "()V"⟩ : MethodName) jdk_30_method_1_code 1 none :: ws) ({ frames := 1, cells := 0, slots := 0, locals := 12 } : Room)) (fun a U => a = #[(.ref ax)] ∧ Z.Warmed39 U.vm ∧ U.heap = h0) (fun _ _ _ _ _ => True) (fun _ U o U' => ∃ v L, o = .returned v ∧ Q2 Z ax n0 Rst v U'.heap L ∧ FrameEnd U o U' L ({ frames := 1, cells := 0, slots := 0, locals := 12 } : Room).cells ({ frames := 1, cells := 0, slots := 0, locals := 12 } : Room).slots) := by
  refine MetFree.of_bodySF (plainFor_of_name pn_java_lang_Record) hisR ?_
  intro p e s m args below meth c s₁ Bd hml0 hP hK
  obtain ⟨rfl, hZ, hh⟩ := hP
  have hx := Bd.exec
  have hby := Bd.bytes
  have hml : c.maxLocals = 1 := hml0
  have hown : s.vm.findClass "java/lang/Record" = some m.cls := findClass_of_methodNamed Bd.named
  have hnm := (name_of_methodNamed Bd.named Bd.method).1
  have X0 : Stand p l e ({ frames := 1, cells := 0, slots := 0, locals := 12 } : Room) s m #[(.ref ax)] below meth c s₁ [] 0 0 := Stand.of_body Bd
  have e0 : s₁.heap = h0 := by rw [← hh, Bd.state]; rfl
  have N0 := Fr.nil n0
  have pre0 : ∀ t, Steps p.tables e below (s₁.setTop (mkF m 0 #[.val (.ref ax)] [])) t → Steps p.tables e below (s₁.setTop (entryFrame m #[(.ref ax)] 1)) t := fun t k => castTop (ef_2 m ax) k
  have pre1 : ∀ t, Steps p.tables e below (s₁.setTop (mkF m 1 #[.val (.ref ax)] [(.ref ax)])) t → Steps p.tables e below (s₁.setTop (entryFrame m #[(.ref ax)] 1)) t := fun t k => pre0 t (by
    show Steps p.tables e below (s₁.setTop (mkF m 0 #[.val (.ref ax)] [])) _
    refine XS.aloadN X0.here hx rfl (hb hby d2_0) rfl rfl ?_
    exact k)
  obtain ⟨T2, X2, e2, st2⟩ := initO X0 hx hZ hown (hw _ (List.mem_of_getElem? (i := 16) rfl)) (hw _ (List.mem_of_getElem? (i := 17) rfl)) (hw _ (List.mem_of_getElem? (i := 18) rfl)) e0 (g := (mkF m 1 #[.val (.ref ax)] [(.ref ax)])) rfl (by rw [hml]; rfl) rfl (hb hby d2_1) (by decide) (W := 0) (by show 2 * 0 + _ ≤ _; exact Nat.le_of_eq rfl) (by decide)
  have pre3 : ∀ t, Steps p.tables e below (T2.setTop (mkF m 4 #[.val (.ref ax)] [])) t → Steps p.tables e below (s₁.setTop (entryFrame m #[(.ref ax)] 1)) t := fun t k => pre1 t (st2 t k)
  obtain ⟨fs, hr, hrun, hended, hW, hsame⟩ := X2.leave (v := none) (fun _ => rfl)
  refine ⟨_, _, pre3 _ ?_, hrun, hended, _, _, rfl, ?_, ⟨_, rfl⟩, hW, hsame.mono (by decide) (by decide)⟩
  · show Steps p.tables e below (T2.setTop (mkF m 4 #[.val (.ref ax)] [])) _
    exact X2.returnOut hx Bd.returns (hb hby d2_4) hr
  · show Q2 Z ax n0 Rst _ T2.heap _
    rw [e2]
    exact ⟨rfl, N0, R0⟩
theorem d1_0 : decode prog_38_method_1_code 0 = .ok (.aload_n 0, 1) := by decide +kernel
theorem d1_1 : decode prog_38_method_1_code 1 = .ok (.invokespecial 1, 3) := by decide +kernel
theorem pd__28_29V : parseMethodDescriptor "()V" = some ⟨[], none⟩ := by decide +kernel
theorem d1_4 : decode prog_38_method_1_code 4 = .ok (.lload_n 1, 1) := by decide +kernel
theorem d1_5 : decode prog_38_method_1_code 5 = .ok (.lconst 0, 1) := by decide +kernel
theorem d1_6 : decode prog_38_method_1_code 6 = .ok (.lcmp, 1) := by decide +kernel
theorem d1_7 : decode prog_38_method_1_code 7 = .ok (.ifCond .lt 9, 3) := by decide +kernel
theorem d1_10 : decode prog_38_method_1_code 10 = .ok (.lload_n 1, 1) := by decide +kernel
theorem d1_11 : decode prog_38_method_1_code 11 = .ok (.lload_n 3, 1) := by decide +kernel
theorem d1_12 : decode prog_38_method_1_code 12 = .ok (.lcmp, 1) := by decide +kernel
theorem d1_13 : decode prog_38_method_1_code 13 = .ok (.ifCond .lt 18, 3) := by decide +kernel
theorem d1_31 : decode prog_38_method_1_code 31 = .ok (.aload_n 0, 1) := by decide +kernel
theorem d1_32 : decode prog_38_method_1_code 32 = .ok (.lload_n 1, 1) := by decide +kernel
theorem d1_33 : decode prog_38_method_1_code 33 = .ok (.putfield 16, 3) := by decide +kernel
theorem d1_36 : decode prog_38_method_1_code 36 = .ok (.aload_n 0, 1) := by decide +kernel
theorem d1_37 : decode prog_38_method_1_code 37 = .ok (.lload_n 3, 1) := by decide +kernel
theorem d1_38 : decode prog_38_method_1_code 38 = .ok (.putfield 22, 3) := by decide +kernel
theorem d1_41 : decode prog_38_method_1_code 41 = .ok (.return_, 1) := by decide +kernel
theorem pn_com_example_gapless_log_gaplesslog_tree_Subtree : plainName "com/example/gapless_log/gaplesslog/tree/Subtree" = true := by first | (simp [plainName, overriddenIn]; done) | decide +kernel
theorem ef_1 (m : MethodId) (x0 : Addr) (x1 : Int64) (x2 : Int64) : entryFrame m #[(.ref x0), (.long x1), (.long x2)] 5 = mkF m 0 #[.val (.ref x0), .val (.long x1), .second, .val (.long x2), .second] [] := by first | (simp [entryFrame, mkF, argsToLocals, Value.category]; done) | rfl
def Q1 (Z : State) (ax : Addr) (sx : Int64) (ex : Int64) (u1 : Value) (u2 : Value) (n0 : Nat) (Rst : RL) (v : Option Value) (h : Heap) (L : List Loc) : Prop := v = none ∧ Fr n0 L ∧ Rep Z n0 h ((ax, Obj "com/example/gapless_log/gaplesslog/tree/Subtree" [("start", "J", (.long sx)), ("end", "J", (.long ex))]) :: Rst)
set_option maxRecDepth 65536 in
set_option maxHeartbeats 40000000 in
theorem rm1 (l : Launch) (Z : State) (a0 : Array Value) (hw : ∀ d ∈ tables_1, d.before a0 Z = true) (ws : List Jvm.Cond) (ax : Addr) (sx : Int64) (ex : Int64) (u1 : Value) (u2 : Value) (h0 : Heap) (n0 : Nat) (Rst : RL) (R0 : Rep Z n0 h0 ((ax, Obj "com/example/gapless_log/gaplesslog/tree/Subtree" [("start", "J", u1), ("end", "J", u2)]) :: Rst)) (hg1 : ¬ (sx < (0 : Int64))) (hg2 : sx < ex) :
    MetFree l (⟨"com/example/gapless_log/gaplesslog/tree/Subtree", "<init>", "(JJ)V"⟩ : MethodName) (head1 (Jvm.Cond.code (⟨"com/example/gapless_log/gaplesslog/tree/Subtree", "<init>", "(JJ)V"⟩ : MethodName) prog_38_method_1_code 5 none :: ws) ({ frames := 2, cells := 0, slots := 0, locals := 24 } : Room)) (fun a U => a = #[(.ref ax), (.long sx), (.long ex)] ∧ Z.Warmed39 U.vm ∧ U.heap = h0) (fun _ _ _ _ _ => True) (fun _ U o U' => ∃ v L, o = .returned v ∧ Q1 Z ax sx ex u1 u2 n0 Rst v U'.heap L ∧ FrameEnd U o U' L ({ frames := 2, cells := 0, slots := 0, locals := 24 } : Room).cells ({ frames := 2, cells := 0, slots := 0, locals := 24 } : Room).slots) := by
  refine MetFree.of_bodySF (plainFor_of_name pn_com_example_gapless_log_gaplesslog_tree_Subtree) hisR ?_
  intro p e s m args below meth c s₁ Bd hml0 hP hK
  obtain ⟨rfl, hZ, hh⟩ := hP
  have hx := Bd.exec
  have hby := Bd.bytes
  have hml : c.maxLocals = 5 := hml0
  have hown : s.vm.findClass "com/example/gapless_log/gaplesslog/tree/Subtree" = some m.cls := findClass_of_methodNamed Bd.named
  have hnm := (name_of_methodNamed Bd.named Bd.method).1
  have X0 : Stand p l e ({ frames := 2, cells := 0, slots := 0, locals := 24 } : Room) s m #[(.ref ax), (.long sx), (.long ex)] below meth c s₁ [] 0 0 := Stand.of_body Bd
  have e0 : s₁.heap = h0 := by rw [← hh, Bd.state]; rfl
  have N0 := Fr.nil n0
  have pre0 : ∀ t, Steps p.tables e below (s₁.setTop (mkF m 0 #[.val (.ref ax), .val (.long sx), .second, .val (.long ex), .second] [])) t → Steps p.tables e below (s₁.setTop (entryFrame m #[(.ref ax), (.long sx), (.long ex)] 5)) t := fun t k => castTop (ef_1 m ax sx ex) k
  have pre1 : ∀ t, Steps p.tables e below (s₁.setTop (mkF m 1 #[.val (.ref ax), .val (.long sx), .second, .val (.long ex), .second] [(.ref ax)])) t → Steps p.tables e below (s₁.setTop (entryFrame m #[(.ref ax), (.long sx), (.long ex)] 5)) t := fun t k => pre0 t (by
    show Steps p.tables e below (s₁.setTop (mkF m 0 #[.val (.ref ax), .val (.long sx), .second, .val (.long ex), .second] [])) _
    refine XS.aloadN X0.here hx rfl (hb hby d1_0) rfl rfl ?_
    exact k)
  obtain ⟨_, _, ⟨T2, L2, k2, n2⟩, -, X2, ⟨Lc2, hQ2, l2, y2, z2⟩, st2⟩ := X0.specialBack hx (y := (⟨"java/lang/Record", "<init>", "()V"⟩ : MethodName)) rfl hown (mvT hZ (hw _ (List.mem_of_getElem? (i := 11) rfl))) (mvT hZ (hw _ (List.mem_of_getElem? (i := 12) rfl))) (mvT hZ (hw _ (List.mem_of_getElem? (i := 15) rfl))) (by decide) (backOf (W := 0) (rm2 l Z a0 hw [] ax  h0 n0 _ R0 ) hZ (hw _ (List.mem_of_getElem? (i := 15) rfl)) (hw _ (List.mem_of_getElem? (i := 14) rfl)) (by decide) (by decide)) (g := (mkF m 1 #[.val (.ref ax), .val (.long sx), .second, .val (.long ex), .second] [(.ref ax)])) rfl (by rw [hml]; rfl) (Steps.refl _) (a := ax) (argsL := []) (rest := []) (lenOf pd__28_29V rfl) rfl (by show 2 * 0 + _ ≤ _; exact Nat.le_of_eq rfl) (hb hby d1_1) (fun _ _ => ⟨rfl, e0, (by decide : 0 + 0 ≤ _), (by decide : 0 + 0 ≤ _)⟩)
  dsimp only [Pt.U, Pt.locs, Pt.cells, Pt.slots] at X2 l2 y2 z2 st2 hQ2
  subst l2 y2 z2
  obtain ⟨rfl, N2q, R2⟩ := hQ2
  have N2 := Fr.app N0 N2q
  replace R2 : Rep Z n0 T2.heap ((ax, Obj "com/example/gapless_log/gaplesslog/tree/Subtree" [("start", "J", u1), ("end", "J", u2)]) :: Rst) := R2
  have pre3 : ∀ t, Steps p.tables e below (T2.setTop (mkF m 4 #[.val (.ref ax), .val (.long sx), .second, .val (.long ex), .second] [])) t → Steps p.tables e below (s₁.setTop (entryFrame m #[(.ref ax), (.long sx), (.long ex)] 5)) t := fun t k => pre1 t (st2.trans k)
  have pre5 : ∀ t, Steps p.tables e below (T2.setTop (mkF m 7 #[.val (.ref ax), .val (.long sx), .second, .val (.long ex), .second] [(.int (XT.cmpL sx (0 : Int64)))])) t → Steps p.tables e below (s₁.setTop (entryFrame m #[(.ref ax), (.long sx), (.long ex)] 5)) t := fun t k => pre3 t (by
    show Steps p.tables e below (T2.setTop (mkF m 4 #[.val (.ref ax), .val (.long sx), .second, .val (.long ex), .second] [])) _
    refine XS.lloadN X2.here hx rfl (hb hby d1_4) rfl ?_
    refine XS.lconst X2.here hx rfl (hb hby d1_5) ?_
    refine XS.lcmp X2.here hx rfl (hb hby d1_6) rfl ?_
    exact k)
  have hb4 : ¬ (sx < (0 : Int64)) := hg1
  have pre7 : ∀ t, Steps p.tables e below (T2.setTop (mkF m 13 #[.val (.ref ax), .val (.long sx), .second, .val (.long ex), .second] [(.int (XT.cmpL sx ex))])) t → Steps p.tables e below (s₁.setTop (entryFrame m #[(.ref ax), (.long sx), (.long ex)] 5)) t := fun t k => pre5 t (by
    show Steps p.tables e below (T2.setTop (mkF m 7 #[.val (.ref ax), .val (.long sx), .second, .val (.long ex), .second] [(.int (XT.cmpL sx (0 : Int64)))])) _
    refine XS.ifNo X2.here hx rfl (hb hby d1_7) rfl (XT.ll_lt_f hb4) ?_
    refine XS.lloadN X2.here hx rfl (hb hby d1_10) rfl ?_
    refine XS.lloadN X2.here hx rfl (hb hby d1_11) rfl ?_
    refine XS.lcmp X2.here hx rfl (hb hby d1_12) rfl ?_
    exact k)
  have hb6 : sx < ex := hg2
  have pre8 : ∀ t, Steps p.tables e below (T2.setTop (mkF m 33 #[.val (.ref ax), .val (.long sx), .second, .val (.long ex), .second] [(.long sx), (.ref ax)])) t → Steps p.tables e below (s₁.setTop (entryFrame m #[(.ref ax), (.long sx), (.long ex)] 5)) t := fun t k => pre7 t (by
    show Steps p.tables e below (T2.setTop (mkF m 13 #[.val (.ref ax), .val (.long sx), .second, .val (.long ex), .second] [(.int (XT.cmpL sx ex))])) _
    refine XS.ifYes X2.here hx rfl (pc0 := 13) (pc' := 31) rfl (hb hby d1_13) rfl (XT.ll_lt_t hb6) (by decide) (by decide) ?_
    refine XS.aloadN X2.here hx rfl (hb hby d1_31) rfl rfl ?_
    refine XS.lloadN X2.here hx rfl (hb hby d1_32) rfl ?_
    exact k)
  obtain ⟨T9, h9, ls9, X9, e9, N9, R9, st9⟩ := gPut X2 hx hZ hown (host := "") (Or.inl (hw _ (List.mem_of_getElem? (i := 19) rfl))) rfl N2 R2 0 0 rfl rfl (Or.inr ⟨(hw _ (List.mem_of_getElem? (i := 20) rfl)), rfl, hnm⟩) (hw _ (List.mem_of_getElem? (i := 6) rfl)) (ty := .long) (by decide) rfl rfl (g := (mkF m 33 #[.val (.ref ax), .val (.long sx), .second, .val (.long ex), .second] [(.long sx), (.ref ax)])) rfl rfl (hb hby d1_33)
  replace R9 : Rep Z n0 h9 ((ax, Obj "com/example/gapless_log/gaplesslog/tree/Subtree" [("start", "J", (.long sx)), ("end", "J", u2)]) :: Rst) := R9
  have pre10 : ∀ t, Steps p.tables e below (T9.setTop (mkF m 36 #[.val (.ref ax), .val (.long sx), .second, .val (.long ex), .second] [])) t → Steps p.tables e below (s₁.setTop (entryFrame m #[(.ref ax), (.long sx), (.long ex)] 5)) t := fun t k => pre8 t (st9 t k)
  have pre11 : ∀ t, Steps p.tables e below (T9.setTop (mkF m 38 #[.val (.ref ax), .val (.long sx), .second, .val (.long ex), .second] [(.long ex), (.ref ax)])) t → Steps p.tables e below (s₁.setTop (entryFrame m #[(.ref ax), (.long sx), (.long ex)] 5)) t := fun t k => pre10 t (by
    show Steps p.tables e below (T9.setTop (mkF m 36 #[.val (.ref ax), .val (.long sx), .second, .val (.long ex), .second] [])) _
    refine XS.aloadN X9.here hx rfl (hb hby d1_36) rfl rfl ?_
    refine XS.lloadN X9.here hx rfl (hb hby d1_37) rfl ?_
    exact k)
  obtain ⟨T12, h12, ls12, X12, e12, N12, R12, st12⟩ := gPut X9 hx hZ hown (host := "") (Or.inl (hw _ (List.mem_of_getElem? (i := 21) rfl))) e9 N9 R9 0 1 rfl rfl (Or.inr ⟨(hw _ (List.mem_of_getElem? (i := 22) rfl)), rfl, hnm⟩) (hw _ (List.mem_of_getElem? (i := 6) rfl)) (ty := .long) (by decide) rfl rfl (g := (mkF m 38 #[.val (.ref ax), .val (.long sx), .second, .val (.long ex), .second] [(.long ex), (.ref ax)])) rfl rfl (hb hby d1_38)
  replace R12 : Rep Z n0 h12 ((ax, Obj "com/example/gapless_log/gaplesslog/tree/Subtree" [("start", "J", (.long sx)), ("end", "J", (.long ex))]) :: Rst) := R12
  have pre13 : ∀ t, Steps p.tables e below (T12.setTop (mkF m 41 #[.val (.ref ax), .val (.long sx), .second, .val (.long ex), .second] [])) t → Steps p.tables e below (s₁.setTop (entryFrame m #[(.ref ax), (.long sx), (.long ex)] 5)) t := fun t k => pre11 t (st12 t k)
  obtain ⟨fs, hr, hrun, hended, hW, hsame⟩ := X12.leave (v := none) (fun _ => rfl)
  refine ⟨_, _, pre13 _ ?_, hrun, hended, _, _, rfl, ?_, ⟨_, rfl⟩, hW, hsame.mono (by decide) (by decide)⟩
  · show Steps p.tables e below (T12.setTop (mkF m 41 #[.val (.ref ax), .val (.long sx), .second, .val (.long ex), .second] [])) _
    exact X12.returnOut hx Bd.returns (hb hby d1_41) hr
  · show Q1 Z ax sx ex u1 u2 n0 Rst _ T12.heap _
    rw [e12]
    exact ⟨rfl, N12, R12⟩
theorem d5_0 : decode prog_38_method_8_code 0 = .ok (.aload_n 0, 1) := by decide +kernel
theorem d5_1 : decode prog_38_method_8_code 1 = .ok (.getfield 22, 3) := by decide +kernel
theorem d5_4 : decode prog_38_method_8_code 4 = .ok (.lreturn, 1) := by decide +kernel
theorem ef_5 (m : MethodId) (x0 : Addr) : entryFrame m #[(.ref x0)] 1 = mkF m 0 #[.val (.ref x0)] [] := by first | (simp [entryFrame, mkF, argsToLocals, Value.category]; done) | rfl
def Q5 (Z : State) (ax : Addr) (sv : Int64) (ev : Int64) (n0 : Nat) (Rst : RL) (v : Option Value) (h : Heap) (L : List Loc) : Prop := v = some (.long ev) ∧ Fr n0 L ∧ Rep Z n0 h ((ax, Obj "com/example/gapless_log/gaplesslog/tree/Subtree" [("start", "J", (.long sv)), ("end", "J", (.long ev))]) :: Rst)
set_option maxRecDepth 65536 in
set_option maxHeartbeats 40000000 in
theorem rm5 (l : Launch) (Z : State) (a0 : Array Value) (hw : ∀ d ∈ tables_1, d.before a0 Z = true) (ws : List Jvm.Cond) (ax : Addr) (sv : Int64) (ev : Int64) (h0 : Heap) (n0 : Nat) (Rst : RL) (R0 : Rep Z n0 h0 ((ax, Obj "com/example/gapless_log/gaplesslog/tree/Subtree" [("start", "J", (.long sv)), ("end", "J", (.long ev))]) :: Rst)) :
    MetFree l (⟨"com/example/gapless_log/gaplesslog/tree/Subtree", "end", "()J"⟩ : MethodName) (head1 (Jvm.Cond.code (⟨"com/example/gapless_log/gaplesslog/tree/Subtree", "end", "()J"⟩ : MethodName) prog_38_method_8_code 1 (some .long) :: ws) ({ frames := 0, cells := 0, slots := 0, locals := 0 } : Room)) (fun a U => a = #[(.ref ax)] ∧ Z.Warmed39 U.vm ∧ U.heap = h0) (fun _ _ _ _ _ => True) (fun _ U o U' => ∃ v L, o = .returned v ∧ Q5 Z ax sv ev n0 Rst v U'.heap L ∧ FrameEnd U o U' L ({ frames := 0, cells := 0, slots := 0, locals := 0 } : Room).cells ({ frames := 0, cells := 0, slots := 0, locals := 0 } : Room).slots) := by
  refine MetFree.of_bodySF (plainFor_of_name pn_com_example_gapless_log_gaplesslog_tree_Subtree) hisR ?_
  intro p e s m args below meth c s₁ Bd hml0 hP hK
  obtain ⟨rfl, hZ, hh⟩ := hP
  have hx := Bd.exec
  have hby := Bd.bytes
  have hml : c.maxLocals = 1 := hml0
  have hown : s.vm.findClass "com/example/gapless_log/gaplesslog/tree/Subtree" = some m.cls := findClass_of_methodNamed Bd.named
  have hnm := (name_of_methodNamed Bd.named Bd.method).1
  have X0 : Stand p l e ({ frames := 0, cells := 0, slots := 0, locals := 0 } : Room) s m #[(.ref ax)] below meth c s₁ [] 0 0 := Stand.of_body Bd
  have e0 : s₁.heap = h0 := by rw [← hh, Bd.state]; rfl
  have N0 := Fr.nil n0
  have pre0 : ∀ t, Steps p.tables e below (s₁.setTop (mkF m 0 #[.val (.ref ax)] [])) t → Steps p.tables e below (s₁.setTop (entryFrame m #[(.ref ax)] 1)) t := fun t k => castTop (ef_5 m ax) k
  have pre1 : ∀ t, Steps p.tables e below (s₁.setTop (mkF m 1 #[.val (.ref ax)] [(.ref ax)])) t → Steps p.tables e below (s₁.setTop (entryFrame m #[(.ref ax)] 1)) t := fun t k => pre0 t (by
    show Steps p.tables e below (s₁.setTop (mkF m 0 #[.val (.ref ax)] [])) _
    refine XS.aloadN X0.here hx rfl (hb hby d5_0) rfl rfl ?_
    exact k)
  obtain ⟨T2, X2, e2, st2⟩ := gGet X0 hx hZ hown (host := "") (Or.inl (hw _ (List.mem_of_getElem? (i := 21) rfl))) e0 R0 0 1 rfl rfl (g := (mkF m 1 #[.val (.ref ax)] [(.ref ax)])) rfl rfl (hb hby d5_1)
  have pre3 : ∀ t, Steps p.tables e below (T2.setTop (mkF m 4 #[.val (.ref ax)] [(.long ev)])) t → Steps p.tables e below (s₁.setTop (entryFrame m #[(.ref ax)] 1)) t := fun t k => pre1 t (st2 t k)
  obtain ⟨fs, hr, hrun, hended, hW, hsame⟩ := X2.leave (v := some (.long ev)) (fun h => by rw [Bd.returns] at h; cases h)
  refine ⟨_, _, pre3 _ ?_, hrun, hended, _, _, rfl, ?_, ⟨_, rfl⟩, hW, hsame.mono (by decide) (by decide)⟩
  · show Steps p.tables e below (T2.setTop (mkF m 4 #[.val (.ref ax)] [(.long ev)])) _
    exact Jvm.Own.retL X2 hx Bd.returns (hb hby d5_4) hr
  · show Q5 Z ax sv ev n0 Rst _ T2.heap _
    rw [e2]
    exact ⟨rfl, N0, R0⟩
theorem d6_0 : decode prog_38_method_7_code 0 = .ok (.aload_n 0, 1) := by decide +kernel
theorem d6_1 : decode prog_38_method_7_code 1 = .ok (.getfield 16, 3) := by decide +kernel
theorem d6_4 : decode prog_38_method_7_code 4 = .ok (.lreturn, 1) := by decide +kernel
theorem ef_6 (m : MethodId) (x0 : Addr) : entryFrame m #[(.ref x0)] 1 = mkF m 0 #[.val (.ref x0)] [] := by first | (simp [entryFrame, mkF, argsToLocals, Value.category]; done) | rfl
def Q6 (Z : State) (ax : Addr) (sv : Int64) (ev : Int64) (n0 : Nat) (Rst : RL) (v : Option Value) (h : Heap) (L : List Loc) : Prop := v = some (.long sv) ∧ Fr n0 L ∧ Rep Z n0 h ((ax, Obj "com/example/gapless_log/gaplesslog/tree/Subtree" [("start", "J", (.long sv)), ("end", "J", (.long ev))]) :: Rst)
set_option maxRecDepth 65536 in
set_option maxHeartbeats 40000000 in
theorem rm6 (l : Launch) (Z : State) (a0 : Array Value) (hw : ∀ d ∈ tables_1, d.before a0 Z = true) (ws : List Jvm.Cond) (ax : Addr) (sv : Int64) (ev : Int64) (h0 : Heap) (n0 : Nat) (Rst : RL) (R0 : Rep Z n0 h0 ((ax, Obj "com/example/gapless_log/gaplesslog/tree/Subtree" [("start", "J", (.long sv)), ("end", "J", (.long ev))]) :: Rst)) :
    MetFree l (⟨"com/example/gapless_log/gaplesslog/tree/Subtree", "start", "()J"⟩ : MethodName) (head1 (Jvm.Cond.code (⟨"com/example/gapless_log/gaplesslog/tree/Subtree", "start", "()J"⟩ : MethodName) prog_38_method_7_code 1 (some .long) :: ws) ({ frames := 0, cells := 0, slots := 0, locals := 0 } : Room)) (fun a U => a = #[(.ref ax)] ∧ Z.Warmed39 U.vm ∧ U.heap = h0) (fun _ _ _ _ _ => True) (fun _ U o U' => ∃ v L, o = .returned v ∧ Q6 Z ax sv ev n0 Rst v U'.heap L ∧ FrameEnd U o U' L ({ frames := 0, cells := 0, slots := 0, locals := 0 } : Room).cells ({ frames := 0, cells := 0, slots := 0, locals := 0 } : Room).slots) := by
  refine MetFree.of_bodySF (plainFor_of_name pn_com_example_gapless_log_gaplesslog_tree_Subtree) hisR ?_
  intro p e s m args below meth c s₁ Bd hml0 hP hK
  obtain ⟨rfl, hZ, hh⟩ := hP
  have hx := Bd.exec
  have hby := Bd.bytes
  have hml : c.maxLocals = 1 := hml0
  have hown : s.vm.findClass "com/example/gapless_log/gaplesslog/tree/Subtree" = some m.cls := findClass_of_methodNamed Bd.named
  have hnm := (name_of_methodNamed Bd.named Bd.method).1
  have X0 : Stand p l e ({ frames := 0, cells := 0, slots := 0, locals := 0 } : Room) s m #[(.ref ax)] below meth c s₁ [] 0 0 := Stand.of_body Bd
  have e0 : s₁.heap = h0 := by rw [← hh, Bd.state]; rfl
  have N0 := Fr.nil n0
  have pre0 : ∀ t, Steps p.tables e below (s₁.setTop (mkF m 0 #[.val (.ref ax)] [])) t → Steps p.tables e below (s₁.setTop (entryFrame m #[(.ref ax)] 1)) t := fun t k => castTop (ef_6 m ax) k
  have pre1 : ∀ t, Steps p.tables e below (s₁.setTop (mkF m 1 #[.val (.ref ax)] [(.ref ax)])) t → Steps p.tables e below (s₁.setTop (entryFrame m #[(.ref ax)] 1)) t := fun t k => pre0 t (by
    show Steps p.tables e below (s₁.setTop (mkF m 0 #[.val (.ref ax)] [])) _
    refine XS.aloadN X0.here hx rfl (hb hby d6_0) rfl rfl ?_
    exact k)
  obtain ⟨T2, X2, e2, st2⟩ := gGet X0 hx hZ hown (host := "") (Or.inl (hw _ (List.mem_of_getElem? (i := 19) rfl))) e0 R0 0 0 rfl rfl (g := (mkF m 1 #[.val (.ref ax)] [(.ref ax)])) rfl rfl (hb hby d6_1)
  have pre3 : ∀ t, Steps p.tables e below (T2.setTop (mkF m 4 #[.val (.ref ax)] [(.long sv)])) t → Steps p.tables e below (s₁.setTop (entryFrame m #[(.ref ax)] 1)) t := fun t k => pre1 t (st2 t k)
  obtain ⟨fs, hr, hrun, hended, hW, hsame⟩ := X2.leave (v := some (.long sv)) (fun h => by rw [Bd.returns] at h; cases h)
  refine ⟨_, _, pre3 _ ?_, hrun, hended, _, _, rfl, ?_, ⟨_, rfl⟩, hW, hsame.mono (by decide) (by decide)⟩
  · show Steps p.tables e below (T2.setTop (mkF m 4 #[.val (.ref ax)] [(.long sv)])) _
    exact Jvm.Own.retL X2 hx Bd.returns (hb hby d6_4) hr
  · show Q6 Z ax sv ev n0 Rst _ T2.heap _
    rw [e2]
    exact ⟨rfl, N0, R0⟩
theorem d8_0 : decode jdk_33_method_48_code 0 = .ok (.iload_n 0, 1) := by decide +kernel
theorem d8_1 : decode jdk_33_method_48_code 1 = .ok (.iconst (-1), 1) := by decide +kernel
theorem d8_2 : decode jdk_33_method_48_code 2 = .ok (.ixor, 1) := by decide +kernel
theorem d8_3 : decode jdk_33_method_48_code 3 = .ok (.iload_n 0, 1) := by decide +kernel
theorem d8_4 : decode jdk_33_method_48_code 4 = .ok (.iconst 1, 1) := by decide +kernel
theorem d8_5 : decode jdk_33_method_48_code 5 = .ok (.isub, 1) := by decide +kernel
theorem d8_6 : decode jdk_33_method_48_code 6 = .ok (.iand, 1) := by decide +kernel
theorem d8_7 : decode jdk_33_method_48_code 7 = .ok (.istore_n 0, 1) := by decide +kernel
theorem d8_8 : decode jdk_33_method_48_code 8 = .ok (.iload_n 0, 1) := by decide +kernel
theorem d8_9 : decode jdk_33_method_48_code 9 = .ok (.ifCond .gt 8, 3) := by decide +kernel
theorem d8_17 : decode jdk_33_method_48_code 17 = .ok (.iconst 1, 1) := by decide +kernel
theorem d8_18 : decode jdk_33_method_48_code 18 = .ok (.istore_n 1, 1) := by decide +kernel
theorem d8_19 : decode jdk_33_method_48_code 19 = .ok (.iload_n 0, 1) := by decide +kernel
theorem d8_20 : decode jdk_33_method_48_code 20 = .ok (.ldc_w 264, 3) := by decide +kernel
theorem d8_23 : decode jdk_33_method_48_code 23 = .ok (.if_icmp .le 11, 3) := by decide +kernel
theorem d8_26 : decode jdk_33_method_48_code 26 = .ok (.iinc 1 16, 3) := by decide +kernel
theorem d8_29 : decode jdk_33_method_48_code 29 = .ok (.iload_n 0, 1) := by decide +kernel
theorem d8_30 : decode jdk_33_method_48_code 30 = .ok (.bipush 16, 2) := by decide +kernel
theorem d8_32 : decode jdk_33_method_48_code 32 = .ok (.iushr, 1) := by decide +kernel
theorem d8_33 : decode jdk_33_method_48_code 33 = .ok (.istore_n 0, 1) := by decide +kernel
theorem d8_34 : decode jdk_33_method_48_code 34 = .ok (.iload_n 0, 1) := by decide +kernel
theorem d8_35 : decode jdk_33_method_48_code 35 = .ok (.sipush 256, 3) := by decide +kernel
theorem d8_38 : decode jdk_33_method_48_code 38 = .ok (.if_icmp .le 11, 3) := by decide +kernel
theorem d8_41 : decode jdk_33_method_48_code 41 = .ok (.iinc 1 8, 3) := by decide +kernel
theorem d8_44 : decode jdk_33_method_48_code 44 = .ok (.iload_n 0, 1) := by decide +kernel
theorem d8_45 : decode jdk_33_method_48_code 45 = .ok (.bipush 8, 2) := by decide +kernel
theorem d8_47 : decode jdk_33_method_48_code 47 = .ok (.iushr, 1) := by decide +kernel
theorem d8_48 : decode jdk_33_method_48_code 48 = .ok (.istore_n 0, 1) := by decide +kernel
theorem d8_49 : decode jdk_33_method_48_code 49 = .ok (.iload_n 0, 1) := by decide +kernel
theorem d8_50 : decode jdk_33_method_48_code 50 = .ok (.bipush 16, 2) := by decide +kernel
theorem d8_52 : decode jdk_33_method_48_code 52 = .ok (.if_icmp .le 10, 3) := by decide +kernel
theorem d8_55 : decode jdk_33_method_48_code 55 = .ok (.iinc 1 4, 3) := by decide +kernel
theorem d8_58 : decode jdk_33_method_48_code 58 = .ok (.iload_n 0, 1) := by decide +kernel
theorem d8_59 : decode jdk_33_method_48_code 59 = .ok (.iconst 4, 1) := by decide +kernel
theorem d8_60 : decode jdk_33_method_48_code 60 = .ok (.iushr, 1) := by decide +kernel
theorem d8_61 : decode jdk_33_method_48_code 61 = .ok (.istore_n 0, 1) := by decide +kernel
theorem d8_62 : decode jdk_33_method_48_code 62 = .ok (.iload_n 0, 1) := by decide +kernel
theorem d8_63 : decode jdk_33_method_48_code 63 = .ok (.iconst 4, 1) := by decide +kernel
theorem d8_64 : decode jdk_33_method_48_code 64 = .ok (.if_icmp .le 10, 3) := by decide +kernel
theorem d8_67 : decode jdk_33_method_48_code 67 = .ok (.iinc 1 2, 3) := by decide +kernel
theorem d8_70 : decode jdk_33_method_48_code 70 = .ok (.iload_n 0, 1) := by decide +kernel
theorem d8_71 : decode jdk_33_method_48_code 71 = .ok (.iconst 2, 1) := by decide +kernel
theorem d8_72 : decode jdk_33_method_48_code 72 = .ok (.iushr, 1) := by decide +kernel
theorem d8_73 : decode jdk_33_method_48_code 73 = .ok (.istore_n 0, 1) := by decide +kernel
theorem d8_74 : decode jdk_33_method_48_code 74 = .ok (.iload_n 1, 1) := by decide +kernel
theorem d8_75 : decode jdk_33_method_48_code 75 = .ok (.iload_n 0, 1) := by decide +kernel
theorem d8_76 : decode jdk_33_method_48_code 76 = .ok (.iconst 1, 1) := by decide +kernel
theorem d8_77 : decode jdk_33_method_48_code 77 = .ok (.iushr, 1) := by decide +kernel
theorem d8_78 : decode jdk_33_method_48_code 78 = .ok (.iadd, 1) := by decide +kernel
theorem d8_79 : decode jdk_33_method_48_code 79 = .ok (.ireturn, 1) := by decide +kernel
theorem d8_12 : decode jdk_33_method_48_code 12 = .ok (.iload_n 0, 1) := by decide +kernel
theorem d8_13 : decode jdk_33_method_48_code 13 = .ok (.bipush 32, 2) := by decide +kernel
theorem d8_15 : decode jdk_33_method_48_code 15 = .ok (.iand, 1) := by decide +kernel
theorem d8_16 : decode jdk_33_method_48_code 16 = .ok (.ireturn, 1) := by decide +kernel
theorem pn_java_lang_Integer : plainName "java/lang/Integer" = true := by first | (simp [plainName, overriddenIn]; done) | decide +kernel
theorem ef_8 (m : MethodId) (x0 : Int32) : entryFrame m #[(.int x0)] 2 = mkF m 0 #[.val (.int x0), .unset] [] := by first | (simp [entryFrame, mkF, argsToLocals, Value.category]; done) | rfl
def F8 (ix : Int32) : Int32 :=
  let v1 : Int32 := ((ix ^^^ (-1 : Int32)) &&& (ix - (1 : Int32)))
  if (0 : Int32) < v1 then
    let v10 : Int32 := (if (65536 : Int32) < v1 then (iushr v1 (16 : Int32)) else v1)
    let v11 : Int32 := (if (65536 : Int32) < v1 then (17 : Int32) else (1 : Int32))
    let v16 : Int32 := (if (256 : Int32) < v10 then (iushr v10 (8 : Int32)) else v10)
    let v17 : Int32 := (if (256 : Int32) < v10 then (v11 + (8 : Int32)) else v11)
    let v22 : Int32 := (if (16 : Int32) < v16 then (iushr v16 (4 : Int32)) else v16)
    let v23 : Int32 := (if (16 : Int32) < v16 then (v17 + (4 : Int32)) else v17)
    let v28 : Int32 := (if (4 : Int32) < v22 then (iushr v22 (2 : Int32)) else v22)
    let v29 : Int32 := (if (4 : Int32) < v22 then (v23 + (2 : Int32)) else v23)
    (v29 + (iushr v28 (1 : Int32)))
  else
    (v1 &&& (32 : Int32))
def Q8 (Z : State) (ix : Int32) (n0 : Nat) (Rst : RL) (v : Option Value) (h : Heap) (L : List Loc) : Prop := v = some (.int (F8 ix)) ∧ Fr n0 L ∧ Rep Z n0 h (Rst)
set_option maxRecDepth 65536 in
set_option maxHeartbeats 40000000 in
theorem rm8 (l : Launch) (Z : State) (a0 : Array Value) (hw : ∀ d ∈ tables_1, d.before a0 Z = true) (ws : List Jvm.Cond) (ix : Int32) (h0 : Heap) (n0 : Nat) (Rst : RL) (R0 : Rep Z n0 h0 (Rst)) :
    MetFree l (⟨"java/lang/Integer", "numberOfTrailingZeros", "(I)I"⟩ : MethodName) (head1 (Jvm.Cond.code (⟨"java/lang/Integer", "numberOfTrailingZeros", "(I)I"⟩ : MethodName) jdk_33_method_48_code 2 (some .int) :: ws) ({ frames := 0, cells := 0, slots := 0, locals := 0 } : Room)) (fun a U => a = #[(.int ix)] ∧ Z.Warmed39 U.vm ∧ U.heap = h0) (fun _ _ _ _ _ => True) (fun _ U o U' => ∃ v L, o = .returned v ∧ Q8 Z ix n0 Rst v U'.heap L ∧ FrameEnd U o U' L ({ frames := 0, cells := 0, slots := 0, locals := 0 } : Room).cells ({ frames := 0, cells := 0, slots := 0, locals := 0 } : Room).slots) := by
  refine MetFree.of_bodySF (plainFor_of_name pn_java_lang_Integer) hisR ?_
  intro p e s m args below meth c s₁ Bd hml0 hP hK
  obtain ⟨rfl, hZ, hh⟩ := hP
  have hx := Bd.exec
  have hby := Bd.bytes
  have hml : c.maxLocals = 2 := hml0
  have hown : s.vm.findClass "java/lang/Integer" = some m.cls := findClass_of_methodNamed Bd.named
  have hnm := (name_of_methodNamed Bd.named Bd.method).1
  have X0 : Stand p l e ({ frames := 0, cells := 0, slots := 0, locals := 0 } : Room) s m #[(.int ix)] below meth c s₁ [] 0 0 := Stand.of_body Bd
  have e0 : s₁.heap = h0 := by rw [← hh, Bd.state]; rfl
  have N0 := Fr.nil n0
  have pre0 : ∀ t, Steps p.tables e below (s₁.setTop (mkF m 0 #[.val (.int ix), .unset] [])) t → Steps p.tables e below (s₁.setTop (entryFrame m #[(.int ix)] 2)) t := fun t k => castTop (ef_8 m ix) k
  have pre2 : ∀ t, Steps p.tables e below (s₁.setTop (mkF m 8 #[.val (.int ((ix ^^^ (-1 : Int32)) &&& (ix - (1 : Int32)))), .unset] [])) t → Steps p.tables e below (s₁.setTop (entryFrame m #[(.int ix)] 2)) t := fun t k => pre0 t (by
    show Steps p.tables e below (s₁.setTop (mkF m 0 #[.val (.int ix), .unset] [])) _
    refine XS.iloadN X0.here hx rfl (hb hby d8_0) rfl ?_
    refine XS.iconst X0.here hx rfl (hb hby d8_1) ?_
    refine XS.ixor X0.here hx rfl (hb hby d8_2) rfl ?_
    refine XS.iloadN X0.here hx rfl (hb hby d8_3) rfl ?_
    refine XS.iconst X0.here hx rfl (hb hby d8_4) ?_
    refine XS.isub X0.here hx rfl (hb hby d8_5) rfl ?_
    refine XS.iand X0.here hx rfl (hb hby d8_6) rfl ?_
    show Steps p.tables e below (s₁.setTop (mkF m 7 #[.val (.int ix), .unset] [(.int ((ix ^^^ (-1 : Int32)) &&& (ix - (1 : Int32))))])) _
    refine XS.istoreN X0.here hx rfl (hb hby d8_7) rfl (l' := #[.val (.int ((ix ^^^ (-1 : Int32)) &&& (ix - (1 : Int32)))), .unset]) rfl ?_
    exact k)
  obtain ⟨v1, hv1⟩ : ∃ z : Int32, z = ((ix ^^^ (-1 : Int32)) &&& (ix - (1 : Int32))) := ⟨_, rfl⟩
  rw [← hv1] at pre2
  have pre3 : ∀ t, Steps p.tables e below (s₁.setTop (mkF m 9 #[.val (.int v1), .unset] [(.int v1)])) t → Steps p.tables e below (s₁.setTop (entryFrame m #[(.int ix)] 2)) t := fun t k => pre2 t (by
    show Steps p.tables e below (s₁.setTop (mkF m 8 #[.val (.int v1), .unset] [])) _
    refine XS.iloadN X0.here hx rfl (hb hby d8_8) rfl ?_
    exact k)
  by_cases hb4 : (0 : Int32) < v1
  · have pre5 : ∀ t, Steps p.tables e below (s₁.setTop (mkF m 17 #[.val (.int v1), .unset] [])) t → Steps p.tables e below (s₁.setTop (entryFrame m #[(.int ix)] 2)) t := fun t k => pre3 t (by show Steps p.tables e below (s₁.setTop (mkF m 9 #[.val (.int v1), .unset] [(.int v1)])) _; refine XS.ifYes X0.here hx rfl (pc0 := 9) (pc' := 17) rfl (hb hby d8_9) rfl ((if0 _ _).trans (tlt hb4).2.2.1) (by decide) (by decide) ?_; exact k)
    have pre8 : ∀ t, Steps p.tables e below (s₁.setTop (mkF m 23 #[.val (.int v1), .val (.int (1 : Int32))] [(.int (65536 : Int32)), (.int v1)])) t → Steps p.tables e below (s₁.setTop (entryFrame m #[(.int ix)] 2)) t := fun t k => pre5 t (by
      show Steps p.tables e below (s₁.setTop (mkF m 17 #[.val (.int v1), .unset] [])) _
      refine XS.iconst X0.here hx rfl (hb hby d8_17) ?_
      refine XS.istoreN X0.here hx rfl (hb hby d8_18) rfl (l' := #[.val (.int v1), .val (.int (1 : Int32))]) rfl ?_
      refine XS.iloadN X0.here hx rfl (hb hby d8_19) rfl ?_
      refine X0.ldcwInt hx hown (mvT hZ (hw _ (List.mem_of_getElem? (i := 45) rfl))) (g := (mkF m 20 #[.val (.int v1), .val (.int (1 : Int32))] [(.int v1)])) rfl (hb hby d8_20) _ ?_
      exact k)
    have tl7 : ∀ t, Steps p.tables e below (s₁.setTop (mkF m 34 #[.val (.int (if (65536 : Int32) < v1 then (iushr v1 (16 : Int32)) else v1)), .val (.int (if (65536 : Int32) < v1 then (17 : Int32) else (1 : Int32)))] [])) t → Steps p.tables e below (s₁.setTop (mkF m 23 #[.val (.int v1), .val (.int (1 : Int32))] [(.int (65536 : Int32)), (.int v1)])) t := fun t k => by
      by_cases hb6 : (65536 : Int32) < v1
      · refine XS.icmpNo X0.here hx rfl (hb hby d8_23) rfl (tlt hb6).2.2.2 ?_
        rw [show (if (65536 : Int32) < v1 then (iushr v1 (16 : Int32)) else v1) = (iushr v1 (16 : Int32)) from if_pos hb6] at k
        rw [show (if (65536 : Int32) < v1 then (17 : Int32) else (1 : Int32)) = (17 : Int32) from if_pos hb6] at k
        show Steps p.tables e below (s₁.setTop (mkF m 26 #[.val (.int v1), .val (.int (1 : Int32))] [])) _
        refine XS.iinc X0.here hx rfl (hb hby d8_26) rfl (l' := #[.val (.int v1), .val (.int (17 : Int32))]) rfl ?_
        refine XS.iloadN X0.here hx rfl (hb hby d8_29) rfl ?_
        refine XS.bipush X0.here hx rfl (hb hby d8_30) ?_
        refine XS.iushr X0.here hx rfl (hb hby d8_32) rfl ?_
        refine XS.istoreN X0.here hx rfl (hb hby d8_33) rfl (l' := #[.val (.int (iushr v1 (16 : Int32))), .val (.int (17 : Int32))]) rfl ?_
        exact k
      · refine XS.icmpYes X0.here hx rfl (pc0 := 23) (pc' := 34) rfl (hb hby d8_23) rfl (flt hb6).2.2.2 (by decide) (by decide) ?_
        rw [show (if (65536 : Int32) < v1 then (iushr v1 (16 : Int32)) else v1) = v1 from if_neg hb6] at k
        rw [show (if (65536 : Int32) < v1 then (17 : Int32) else (1 : Int32)) = (1 : Int32) from if_neg hb6] at k
        exact k
    have pre9 : ∀ t, Steps p.tables e below (s₁.setTop (mkF m 34 #[.val (.int (if (65536 : Int32) < v1 then (iushr v1 (16 : Int32)) else v1)), .val (.int (if (65536 : Int32) < v1 then (17 : Int32) else (1 : Int32)))] [])) t → Steps p.tables e below (s₁.setTop (entryFrame m #[(.int ix)] 2)) t := fun t k => pre8 t (by
      exact tl7 t k)
    obtain ⟨v10, hv10⟩ : ∃ z : Int32, z = (if (65536 : Int32) < v1 then (iushr v1 (16 : Int32)) else v1) := ⟨_, rfl⟩
    rw [← hv10] at pre9
    obtain ⟨v11, hv11⟩ : ∃ z : Int32, z = (if (65536 : Int32) < v1 then (17 : Int32) else (1 : Int32)) := ⟨_, rfl⟩
    rw [← hv11] at pre9
    have pre14 : ∀ t, Steps p.tables e below (s₁.setTop (mkF m 38 #[.val (.int v10), .val (.int v11)] [(.int (256 : Int32)), (.int v10)])) t → Steps p.tables e below (s₁.setTop (entryFrame m #[(.int ix)] 2)) t := fun t k => pre9 t (by
      show Steps p.tables e below (s₁.setTop (mkF m 34 #[.val (.int v10), .val (.int v11)] [])) _
      refine XS.iloadN X0.here hx rfl (hb hby d8_34) rfl ?_
      refine XS.sipush X0.here hx rfl (hb hby d8_35) ?_
      exact k)
    have tl13 : ∀ t, Steps p.tables e below (s₁.setTop (mkF m 49 #[.val (.int (if (256 : Int32) < v10 then (iushr v10 (8 : Int32)) else v10)), .val (.int (if (256 : Int32) < v10 then (v11 + (8 : Int32)) else v11))] [])) t → Steps p.tables e below (s₁.setTop (mkF m 38 #[.val (.int v10), .val (.int v11)] [(.int (256 : Int32)), (.int v10)])) t := fun t k => by
      by_cases hb12 : (256 : Int32) < v10
      · refine XS.icmpNo X0.here hx rfl (hb hby d8_38) rfl (tlt hb12).2.2.2 ?_
        rw [show (if (256 : Int32) < v10 then (iushr v10 (8 : Int32)) else v10) = (iushr v10 (8 : Int32)) from if_pos hb12] at k
        rw [show (if (256 : Int32) < v10 then (v11 + (8 : Int32)) else v11) = (v11 + (8 : Int32)) from if_pos hb12] at k
        show Steps p.tables e below (s₁.setTop (mkF m 41 #[.val (.int v10), .val (.int v11)] [])) _
        refine XS.iinc X0.here hx rfl (hb hby d8_41) rfl (l' := #[.val (.int v10), .val (.int (v11 + (8 : Int32)))]) rfl ?_
        refine XS.iloadN X0.here hx rfl (hb hby d8_44) rfl ?_
        refine XS.bipush X0.here hx rfl (hb hby d8_45) ?_
        refine XS.iushr X0.here hx rfl (hb hby d8_47) rfl ?_
        refine XS.istoreN X0.here hx rfl (hb hby d8_48) rfl (l' := #[.val (.int (iushr v10 (8 : Int32))), .val (.int (v11 + (8 : Int32)))]) rfl ?_
        exact k
      · refine XS.icmpYes X0.here hx rfl (pc0 := 38) (pc' := 49) rfl (hb hby d8_38) rfl (flt hb12).2.2.2 (by decide) (by decide) ?_
        rw [show (if (256 : Int32) < v10 then (iushr v10 (8 : Int32)) else v10) = v10 from if_neg hb12] at k
        rw [show (if (256 : Int32) < v10 then (v11 + (8 : Int32)) else v11) = v11 from if_neg hb12] at k
        exact k
    have pre15 : ∀ t, Steps p.tables e below (s₁.setTop (mkF m 49 #[.val (.int (if (256 : Int32) < v10 then (iushr v10 (8 : Int32)) else v10)), .val (.int (if (256 : Int32) < v10 then (v11 + (8 : Int32)) else v11))] [])) t → Steps p.tables e below (s₁.setTop (entryFrame m #[(.int ix)] 2)) t := fun t k => pre14 t (by
      exact tl13 t k)
    obtain ⟨v16, hv16⟩ : ∃ z : Int32, z = (if (256 : Int32) < v10 then (iushr v10 (8 : Int32)) else v10) := ⟨_, rfl⟩
    rw [← hv16] at pre15
    obtain ⟨v17, hv17⟩ : ∃ z : Int32, z = (if (256 : Int32) < v10 then (v11 + (8 : Int32)) else v11) := ⟨_, rfl⟩
    rw [← hv17] at pre15
    have pre20 : ∀ t, Steps p.tables e below (s₁.setTop (mkF m 52 #[.val (.int v16), .val (.int v17)] [(.int (16 : Int32)), (.int v16)])) t → Steps p.tables e below (s₁.setTop (entryFrame m #[(.int ix)] 2)) t := fun t k => pre15 t (by
      show Steps p.tables e below (s₁.setTop (mkF m 49 #[.val (.int v16), .val (.int v17)] [])) _
      refine XS.iloadN X0.here hx rfl (hb hby d8_49) rfl ?_
      refine XS.bipush X0.here hx rfl (hb hby d8_50) ?_
      exact k)
    have tl19 : ∀ t, Steps p.tables e below (s₁.setTop (mkF m 62 #[.val (.int (if (16 : Int32) < v16 then (iushr v16 (4 : Int32)) else v16)), .val (.int (if (16 : Int32) < v16 then (v17 + (4 : Int32)) else v17))] [])) t → Steps p.tables e below (s₁.setTop (mkF m 52 #[.val (.int v16), .val (.int v17)] [(.int (16 : Int32)), (.int v16)])) t := fun t k => by
      by_cases hb18 : (16 : Int32) < v16
      · refine XS.icmpNo X0.here hx rfl (hb hby d8_52) rfl (tlt hb18).2.2.2 ?_
        rw [show (if (16 : Int32) < v16 then (iushr v16 (4 : Int32)) else v16) = (iushr v16 (4 : Int32)) from if_pos hb18] at k
        rw [show (if (16 : Int32) < v16 then (v17 + (4 : Int32)) else v17) = (v17 + (4 : Int32)) from if_pos hb18] at k
        show Steps p.tables e below (s₁.setTop (mkF m 55 #[.val (.int v16), .val (.int v17)] [])) _
        refine XS.iinc X0.here hx rfl (hb hby d8_55) rfl (l' := #[.val (.int v16), .val (.int (v17 + (4 : Int32)))]) rfl ?_
        refine XS.iloadN X0.here hx rfl (hb hby d8_58) rfl ?_
        refine XS.iconst X0.here hx rfl (hb hby d8_59) ?_
        refine XS.iushr X0.here hx rfl (hb hby d8_60) rfl ?_
        refine XS.istoreN X0.here hx rfl (hb hby d8_61) rfl (l' := #[.val (.int (iushr v16 (4 : Int32))), .val (.int (v17 + (4 : Int32)))]) rfl ?_
        exact k
      · refine XS.icmpYes X0.here hx rfl (pc0 := 52) (pc' := 62) rfl (hb hby d8_52) rfl (flt hb18).2.2.2 (by decide) (by decide) ?_
        rw [show (if (16 : Int32) < v16 then (iushr v16 (4 : Int32)) else v16) = v16 from if_neg hb18] at k
        rw [show (if (16 : Int32) < v16 then (v17 + (4 : Int32)) else v17) = v17 from if_neg hb18] at k
        exact k
    have pre21 : ∀ t, Steps p.tables e below (s₁.setTop (mkF m 62 #[.val (.int (if (16 : Int32) < v16 then (iushr v16 (4 : Int32)) else v16)), .val (.int (if (16 : Int32) < v16 then (v17 + (4 : Int32)) else v17))] [])) t → Steps p.tables e below (s₁.setTop (entryFrame m #[(.int ix)] 2)) t := fun t k => pre20 t (by
      exact tl19 t k)
    obtain ⟨v22, hv22⟩ : ∃ z : Int32, z = (if (16 : Int32) < v16 then (iushr v16 (4 : Int32)) else v16) := ⟨_, rfl⟩
    rw [← hv22] at pre21
    obtain ⟨v23, hv23⟩ : ∃ z : Int32, z = (if (16 : Int32) < v16 then (v17 + (4 : Int32)) else v17) := ⟨_, rfl⟩
    rw [← hv23] at pre21
    have pre26 : ∀ t, Steps p.tables e below (s₁.setTop (mkF m 64 #[.val (.int v22), .val (.int v23)] [(.int (4 : Int32)), (.int v22)])) t → Steps p.tables e below (s₁.setTop (entryFrame m #[(.int ix)] 2)) t := fun t k => pre21 t (by
      show Steps p.tables e below (s₁.setTop (mkF m 62 #[.val (.int v22), .val (.int v23)] [])) _
      refine XS.iloadN X0.here hx rfl (hb hby d8_62) rfl ?_
      refine XS.iconst X0.here hx rfl (hb hby d8_63) ?_
      exact k)
    have tl25 : ∀ t, Steps p.tables e below (s₁.setTop (mkF m 74 #[.val (.int (if (4 : Int32) < v22 then (iushr v22 (2 : Int32)) else v22)), .val (.int (if (4 : Int32) < v22 then (v23 + (2 : Int32)) else v23))] [])) t → Steps p.tables e below (s₁.setTop (mkF m 64 #[.val (.int v22), .val (.int v23)] [(.int (4 : Int32)), (.int v22)])) t := fun t k => by
      by_cases hb24 : (4 : Int32) < v22
      · refine XS.icmpNo X0.here hx rfl (hb hby d8_64) rfl (tlt hb24).2.2.2 ?_
        rw [show (if (4 : Int32) < v22 then (iushr v22 (2 : Int32)) else v22) = (iushr v22 (2 : Int32)) from if_pos hb24] at k
        rw [show (if (4 : Int32) < v22 then (v23 + (2 : Int32)) else v23) = (v23 + (2 : Int32)) from if_pos hb24] at k
        show Steps p.tables e below (s₁.setTop (mkF m 67 #[.val (.int v22), .val (.int v23)] [])) _
        refine XS.iinc X0.here hx rfl (hb hby d8_67) rfl (l' := #[.val (.int v22), .val (.int (v23 + (2 : Int32)))]) rfl ?_
        refine XS.iloadN X0.here hx rfl (hb hby d8_70) rfl ?_
        refine XS.iconst X0.here hx rfl (hb hby d8_71) ?_
        refine XS.iushr X0.here hx rfl (hb hby d8_72) rfl ?_
        refine XS.istoreN X0.here hx rfl (hb hby d8_73) rfl (l' := #[.val (.int (iushr v22 (2 : Int32))), .val (.int (v23 + (2 : Int32)))]) rfl ?_
        exact k
      · refine XS.icmpYes X0.here hx rfl (pc0 := 64) (pc' := 74) rfl (hb hby d8_64) rfl (flt hb24).2.2.2 (by decide) (by decide) ?_
        rw [show (if (4 : Int32) < v22 then (iushr v22 (2 : Int32)) else v22) = v22 from if_neg hb24] at k
        rw [show (if (4 : Int32) < v22 then (v23 + (2 : Int32)) else v23) = v23 from if_neg hb24] at k
        exact k
    have pre27 : ∀ t, Steps p.tables e below (s₁.setTop (mkF m 74 #[.val (.int (if (4 : Int32) < v22 then (iushr v22 (2 : Int32)) else v22)), .val (.int (if (4 : Int32) < v22 then (v23 + (2 : Int32)) else v23))] [])) t → Steps p.tables e below (s₁.setTop (entryFrame m #[(.int ix)] 2)) t := fun t k => pre26 t (by
      exact tl25 t k)
    obtain ⟨v28, hv28⟩ : ∃ z : Int32, z = (if (4 : Int32) < v22 then (iushr v22 (2 : Int32)) else v22) := ⟨_, rfl⟩
    rw [← hv28] at pre27
    obtain ⟨v29, hv29⟩ : ∃ z : Int32, z = (if (4 : Int32) < v22 then (v23 + (2 : Int32)) else v23) := ⟨_, rfl⟩
    rw [← hv29] at pre27
    have pre30 : ∀ t, Steps p.tables e below (s₁.setTop (mkF m 79 #[.val (.int v28), .val (.int v29)] [(.int (v29 + (iushr v28 (1 : Int32))))])) t → Steps p.tables e below (s₁.setTop (entryFrame m #[(.int ix)] 2)) t := fun t k => pre27 t (by
      show Steps p.tables e below (s₁.setTop (mkF m 74 #[.val (.int v28), .val (.int v29)] [])) _
      refine XS.iloadN X0.here hx rfl (hb hby d8_74) rfl ?_
      refine XS.iloadN X0.here hx rfl (hb hby d8_75) rfl ?_
      refine XS.iconst X0.here hx rfl (hb hby d8_76) ?_
      refine XS.iushr X0.here hx rfl (hb hby d8_77) rfl ?_
      refine XS.iadd X0.here hx rfl (hb hby d8_78) rfl ?_
      exact k)
    obtain ⟨fs, hr, hrun, hended, hW, hsame⟩ := X0.leave (v := some (.int (v29 + (iushr v28 (1 : Int32))))) (fun h => by rw [Bd.returns] at h; cases h)
    refine ⟨_, _, pre30 _ ?_, hrun, hended, _, _, rfl, ?_, ⟨_, rfl⟩, hW, hsame.mono (by decide) (by decide)⟩
    · show Steps p.tables e below (s₁.setTop (mkF m 79 #[.val (.int v28), .val (.int v29)] [(.int (v29 + (iushr v28 (1 : Int32))))])) _
      exact Jvm.Own.retI X0 hx Bd.returns (hb hby d8_79) hr
    · show Q8 Z ix n0 Rst _ s₁.heap _
      rw [e0]
      exact ⟨(by subst hv1 hv10 hv11 hv16 hv17 hv22 hv23 hv28 hv29; simp only [F8, if_pos hb4]), N0, R0⟩
  · have pre31 : ∀ t, Steps p.tables e below (s₁.setTop (mkF m 12 #[.val (.int v1), .unset] [])) t → Steps p.tables e below (s₁.setTop (entryFrame m #[(.int ix)] 2)) t := fun t k => pre3 t (by show Steps p.tables e below (s₁.setTop (mkF m 9 #[.val (.int v1), .unset] [(.int v1)])) _; refine XS.ifNo X0.here hx rfl (hb hby d8_9) rfl ((if0 _ _).trans (flt hb4).2.2.1) ?_; exact k)
    have pre32 : ∀ t, Steps p.tables e below (s₁.setTop (mkF m 16 #[.val (.int v1), .unset] [(.int (v1 &&& (32 : Int32)))])) t → Steps p.tables e below (s₁.setTop (entryFrame m #[(.int ix)] 2)) t := fun t k => pre31 t (by
      show Steps p.tables e below (s₁.setTop (mkF m 12 #[.val (.int v1), .unset] [])) _
      refine XS.iloadN X0.here hx rfl (hb hby d8_12) rfl ?_
      refine XS.bipush X0.here hx rfl (hb hby d8_13) ?_
      refine XS.iand X0.here hx rfl (hb hby d8_15) rfl ?_
      exact k)
    obtain ⟨fs, hr, hrun, hended, hW, hsame⟩ := X0.leave (v := some (.int (v1 &&& (32 : Int32)))) (fun h => by rw [Bd.returns] at h; cases h)
    refine ⟨_, _, pre32 _ ?_, hrun, hended, _, _, rfl, ?_, ⟨_, rfl⟩, hW, hsame.mono (by decide) (by decide)⟩
    · show Steps p.tables e below (s₁.setTop (mkF m 16 #[.val (.int v1), .unset] [(.int (v1 &&& (32 : Int32)))])) _
      exact Jvm.Own.retI X0 hx Bd.returns (hb hby d8_16) hr
    · show Q8 Z ix n0 Rst _ s₁.heap _
      rw [e0]
      exact ⟨(by subst hv1; simp only [F8, if_neg hb4]), N0, R0⟩
theorem d7_0 : decode jdk_35_method_49_code 0 = .ok (.lload_n 0, 1) := by decide +kernel
theorem d7_1 : decode jdk_35_method_49_code 1 = .ok (.l2i, 1) := by decide +kernel
theorem d7_2 : decode jdk_35_method_49_code 2 = .ok (.istore_n 2, 1) := by decide +kernel
theorem d7_3 : decode jdk_35_method_49_code 3 = .ok (.iload_n 2, 1) := by decide +kernel
theorem d7_4 : decode jdk_35_method_49_code 4 = .ok (.ifCond .ne 17, 3) := by decide +kernel
theorem d7_7 : decode jdk_35_method_49_code 7 = .ok (.bipush 32, 2) := by decide +kernel
theorem d7_9 : decode jdk_35_method_49_code 9 = .ok (.lload_n 0, 1) := by decide +kernel
theorem d7_10 : decode jdk_35_method_49_code 10 = .ok (.bipush 32, 2) := by decide +kernel
theorem d7_12 : decode jdk_35_method_49_code 12 = .ok (.lushr, 1) := by decide +kernel
theorem d7_13 : decode jdk_35_method_49_code 13 = .ok (.l2i, 1) := by decide +kernel
theorem d7_14 : decode jdk_35_method_49_code 14 = .ok (.invokestatic 311, 3) := by decide +kernel
theorem pd__28I_29I : parseMethodDescriptor "(I)I" = some ⟨[.int], some .int⟩ := by decide +kernel
theorem d7_17 : decode jdk_35_method_49_code 17 = .ok (.iadd, 1) := by decide +kernel
theorem d7_18 : decode jdk_35_method_49_code 18 = .ok (.goto 7, 3) := by decide +kernel
theorem d7_25 : decode jdk_35_method_49_code 25 = .ok (.ireturn, 1) := by decide +kernel
theorem d7_21 : decode jdk_35_method_49_code 21 = .ok (.iload_n 2, 1) := by decide +kernel
theorem d7_22 : decode jdk_35_method_49_code 22 = .ok (.invokestatic 311, 3) := by decide +kernel
theorem pn_java_lang_Long : plainName "java/lang/Long" = true := by first | (simp [plainName, overriddenIn]; done) | decide +kernel
theorem ef_7 (m : MethodId) (x0 : Int64) : entryFrame m #[(.long x0)] 3 = mkF m 0 #[.val (.long x0), .second, .unset] [] := by first | (simp [entryFrame, mkF, argsToLocals, Value.category]; done) | rfl
def F7 (jx : Int64) : Int32 :=
  if (jx.toInt32) = (0 : Int32) then
    ((32 : Int32) + (F8 ((lushr jx (32 : Int32)).toInt32)))
  else
    (F8 (jx.toInt32))
def Q7 (Z : State) (jx : Int64) (n0 : Nat) (Rst : RL) (v : Option Value) (h : Heap) (L : List Loc) : Prop := v = some (.int (F7 jx)) ∧ Fr n0 L ∧ Rep Z n0 h (Rst)
set_option maxRecDepth 65536 in
set_option maxHeartbeats 40000000 in
theorem rm7 (l : Launch) (Z : State) (a0 : Array Value) (hw : ∀ d ∈ tables_1, d.before a0 Z = true) (ws : List Jvm.Cond) (jx : Int64) (h0 : Heap) (n0 : Nat) (Rst : RL) (R0 : Rep Z n0 h0 (Rst)) :
    MetFree l (⟨"java/lang/Long", "numberOfTrailingZeros", "(J)I"⟩ : MethodName) (head1 (Jvm.Cond.code (⟨"java/lang/Long", "numberOfTrailingZeros", "(J)I"⟩ : MethodName) jdk_35_method_49_code 3 (some .int) :: ws) ({ frames := 1, cells := 0, slots := 0, locals := 14 } : Room)) (fun a U => a = #[(.long jx)] ∧ Z.Warmed39 U.vm ∧ U.heap = h0) (fun _ _ _ _ _ => True) (fun _ U o U' => ∃ v L, o = .returned v ∧ Q7 Z jx n0 Rst v U'.heap L ∧ FrameEnd U o U' L ({ frames := 1, cells := 0, slots := 0, locals := 14 } : Room).cells ({ frames := 1, cells := 0, slots := 0, locals := 14 } : Room).slots) := by
  refine MetFree.of_bodySF (plainFor_of_name pn_java_lang_Long) hisR ?_
  intro p e s m args below meth c s₁ Bd hml0 hP hK
  obtain ⟨rfl, hZ, hh⟩ := hP
  have hx := Bd.exec
  have hby := Bd.bytes
  have hml : c.maxLocals = 3 := hml0
  have hown : s.vm.findClass "java/lang/Long" = some m.cls := findClass_of_methodNamed Bd.named
  have hnm := (name_of_methodNamed Bd.named Bd.method).1
  have X0 : Stand p l e ({ frames := 1, cells := 0, slots := 0, locals := 14 } : Room) s m #[(.long jx)] below meth c s₁ [] 0 0 := Stand.of_body Bd
  have e0 : s₁.heap = h0 := by rw [← hh, Bd.state]; rfl
  have N0 := Fr.nil n0
  have pre0 : ∀ t, Steps p.tables e below (s₁.setTop (mkF m 0 #[.val (.long jx), .second, .unset] [])) t → Steps p.tables e below (s₁.setTop (entryFrame m #[(.long jx)] 3)) t := fun t k => castTop (ef_7 m jx) k
  have pre2 : ∀ t, Steps p.tables e below (s₁.setTop (mkF m 4 #[.val (.long jx), .second, .val (.int (jx.toInt32))] [(.int (jx.toInt32))])) t → Steps p.tables e below (s₁.setTop (entryFrame m #[(.long jx)] 3)) t := fun t k => pre0 t (by
    show Steps p.tables e below (s₁.setTop (mkF m 0 #[.val (.long jx), .second, .unset] [])) _
    refine XS.lloadN X0.here hx rfl (hb hby d7_0) rfl ?_
    refine XS.l2i X0.here hx rfl (hb hby d7_1) rfl ?_
    refine XS.istoreN X0.here hx rfl (hb hby d7_2) rfl (l' := #[.val (.long jx), .second, .val (.int (jx.toInt32))]) rfl ?_
    refine XS.iloadN X0.here hx rfl (hb hby d7_3) rfl ?_
    exact k)
  by_cases hb4 : (jx.toInt32) = (0 : Int32)
  · have pre5 : ∀ t, Steps p.tables e below (s₁.setTop (mkF m 7 #[.val (.long jx), .second, .val (.int (jx.toInt32))] [])) t → Steps p.tables e below (s₁.setTop (entryFrame m #[(.long jx)] 3)) t := fun t k => pre2 t (by show Steps p.tables e below (s₁.setTop (mkF m 4 #[.val (.long jx), .second, .val (.int (jx.toInt32))] [(.int (jx.toInt32))])) _; refine XS.ifNo X0.here hx rfl (hb hby d7_4) rfl ((if0 _ _).trans (teq hb4).2) ?_; exact k)
    have pre6 : ∀ t, Steps p.tables e below (s₁.setTop (mkF m 14 #[.val (.long jx), .second, .val (.int (jx.toInt32))] [(.int ((lushr jx (32 : Int32)).toInt32)), (.int (32 : Int32))])) t → Steps p.tables e below (s₁.setTop (entryFrame m #[(.long jx)] 3)) t := fun t k => pre5 t (by
      show Steps p.tables e below (s₁.setTop (mkF m 7 #[.val (.long jx), .second, .val (.int (jx.toInt32))] [])) _
      refine XS.bipush X0.here hx rfl (hb hby d7_7) ?_
      refine XS.lloadN X0.here hx rfl (hb hby d7_9) rfl ?_
      refine XS.bipush X0.here hx rfl (hb hby d7_10) ?_
      refine XS.lushr X0.here hx rfl (hb hby d7_12) rfl ?_
      refine XS.l2i X0.here hx rfl (hb hby d7_13) rfl ?_
      exact k)
    obtain ⟨_, _, ⟨T7, L7, k7, n7⟩, -, X7, ⟨Lc7, hQ7, l7, y7, z7⟩, st7⟩ := Jvm.LawKit.callS X0 hx (y := (⟨"java/lang/Integer", "numberOfTrailingZeros", "(I)I"⟩ : MethodName)) hown (mvT hZ (hw _ (List.mem_of_getElem? (i := 41) rfl))) (mvT hZ (hw _ (List.mem_of_getElem? (i := 42) rfl))) (mvT hZ (hw _ (List.mem_of_getElem? (i := 43) rfl))) (mvT hZ (hw _ (List.mem_of_getElem? (i := 44) rfl))) (by decide) (backOf (W := 1) (rm8 l Z a0 hw [] ((lushr jx (32 : Int32)).toInt32)  h0 n0 _ R0 ) hZ (hw _ (List.mem_of_getElem? (i := 44) rfl)) (hw _ (List.mem_of_getElem? (i := 43) rfl)) (by decide) (by decide)) (g := (mkF m 14 #[.val (.long jx), .second, .val (.int (jx.toInt32))] [(.int ((lushr jx (32 : Int32)).toInt32)), (.int (32 : Int32))])) rfl (by rw [hml]; rfl) (argsL := [(.int ((lushr jx (32 : Int32)).toInt32))]) (rest := [(.int (32 : Int32))]) (lenOf pd__28I_29I rfl) rfl (by show 2 * 0 + _ ≤ _; exact Nat.le_of_eq rfl) (hb hby d7_14) (fun _ _ => ⟨rfl, e0, (by decide : 0 + 0 ≤ _), (by decide : 0 + 0 ≤ _)⟩)
    dsimp only [Pt.U, Pt.locs, Pt.cells, Pt.slots] at X7 l7 y7 z7 st7 hQ7
    subst l7 y7 z7
    obtain ⟨rfl, N7q, R7⟩ := hQ7
    have N7 := Fr.app N0 N7q
    replace R7 : Rep Z n0 T7.heap (Rst) := R7
    have pre8 : ∀ t, Steps p.tables e below (T7.setTop (mkF m 17 #[.val (.long jx), .second, .val (.int (jx.toInt32))] [(.int (F8 ((lushr jx (32 : Int32)).toInt32))), (.int (32 : Int32))])) t → Steps p.tables e below (s₁.setTop (entryFrame m #[(.long jx)] 3)) t := fun t k => pre6 t (st7 t k)
    have pre9 : ∀ t, Steps p.tables e below (T7.setTop (mkF m 25 #[.val (.long jx), .second, .val (.int (jx.toInt32))] [(.int ((32 : Int32) + (F8 ((lushr jx (32 : Int32)).toInt32))))])) t → Steps p.tables e below (s₁.setTop (entryFrame m #[(.long jx)] 3)) t := fun t k => pre8 t (by
      show Steps p.tables e below (T7.setTop (mkF m 17 #[.val (.long jx), .second, .val (.int (jx.toInt32))] [(.int (F8 ((lushr jx (32 : Int32)).toInt32))), (.int (32 : Int32))])) _
      refine XS.iadd X7.here hx rfl (hb hby d7_17) rfl ?_
      refine XS.goto X7.here hx rfl (pc0 := 18) (pc' := 25) rfl (hb hby d7_18) (by decide) (by decide) ?_
      exact k)
    obtain ⟨fs, hr, hrun, hended, hW, hsame⟩ := X7.leave (v := some (.int ((32 : Int32) + (F8 ((lushr jx (32 : Int32)).toInt32))))) (fun h => by rw [Bd.returns] at h; cases h)
    refine ⟨_, _, pre9 _ ?_, hrun, hended, _, _, rfl, ?_, ⟨_, rfl⟩, hW, hsame.mono (by decide) (by decide)⟩
    · show Steps p.tables e below (T7.setTop (mkF m 25 #[.val (.long jx), .second, .val (.int (jx.toInt32))] [(.int ((32 : Int32) + (F8 ((lushr jx (32 : Int32)).toInt32))))])) _
      exact Jvm.Own.retI X7 hx Bd.returns (hb hby d7_25) hr
    · show Q7 Z jx n0 Rst _ T7.heap _
      exact ⟨(by simp only [F7, if_pos hb4]), N7, R7⟩
  · have pre10 : ∀ t, Steps p.tables e below (s₁.setTop (mkF m 21 #[.val (.long jx), .second, .val (.int (jx.toInt32))] [])) t → Steps p.tables e below (s₁.setTop (entryFrame m #[(.long jx)] 3)) t := fun t k => pre2 t (by show Steps p.tables e below (s₁.setTop (mkF m 4 #[.val (.long jx), .second, .val (.int (jx.toInt32))] [(.int (jx.toInt32))])) _; refine XS.ifYes X0.here hx rfl (pc0 := 4) (pc' := 21) rfl (hb hby d7_4) rfl ((if0 _ _).trans (feq hb4).2) (by decide) (by decide) ?_; exact k)
    have pre11 : ∀ t, Steps p.tables e below (s₁.setTop (mkF m 22 #[.val (.long jx), .second, .val (.int (jx.toInt32))] [(.int (jx.toInt32))])) t → Steps p.tables e below (s₁.setTop (entryFrame m #[(.long jx)] 3)) t := fun t k => pre10 t (by
      show Steps p.tables e below (s₁.setTop (mkF m 21 #[.val (.long jx), .second, .val (.int (jx.toInt32))] [])) _
      refine XS.iloadN X0.here hx rfl (hb hby d7_21) rfl ?_
      exact k)
    obtain ⟨_, _, ⟨T12, L12, k12, n12⟩, -, X12, ⟨Lc12, hQ12, l12, y12, z12⟩, st12⟩ := Jvm.LawKit.callS X0 hx (y := (⟨"java/lang/Integer", "numberOfTrailingZeros", "(I)I"⟩ : MethodName)) hown (mvT hZ (hw _ (List.mem_of_getElem? (i := 41) rfl))) (mvT hZ (hw _ (List.mem_of_getElem? (i := 42) rfl))) (mvT hZ (hw _ (List.mem_of_getElem? (i := 43) rfl))) (mvT hZ (hw _ (List.mem_of_getElem? (i := 44) rfl))) (by decide) (backOf (W := 0) (rm8 l Z a0 hw [] (jx.toInt32)  h0 n0 _ R0 ) hZ (hw _ (List.mem_of_getElem? (i := 44) rfl)) (hw _ (List.mem_of_getElem? (i := 43) rfl)) (by decide) (by decide)) (g := (mkF m 22 #[.val (.long jx), .second, .val (.int (jx.toInt32))] [(.int (jx.toInt32))])) rfl (by rw [hml]; rfl) (argsL := [(.int (jx.toInt32))]) (rest := []) (lenOf pd__28I_29I rfl) rfl (by show 2 * 0 + _ ≤ _; exact Nat.le_of_eq rfl) (hb hby d7_22) (fun _ _ => ⟨rfl, e0, (by decide : 0 + 0 ≤ _), (by decide : 0 + 0 ≤ _)⟩)
    dsimp only [Pt.U, Pt.locs, Pt.cells, Pt.slots] at X12 l12 y12 z12 st12 hQ12
    subst l12 y12 z12
    obtain ⟨rfl, N12q, R12⟩ := hQ12
    have N12 := Fr.app N0 N12q
    replace R12 : Rep Z n0 T12.heap (Rst) := R12
    have pre13 : ∀ t, Steps p.tables e below (T12.setTop (mkF m 25 #[.val (.long jx), .second, .val (.int (jx.toInt32))] [(.int (F8 (jx.toInt32)))])) t → Steps p.tables e below (s₁.setTop (entryFrame m #[(.long jx)] 3)) t := fun t k => pre11 t (st12 t k)
    obtain ⟨fs, hr, hrun, hended, hW, hsame⟩ := X12.leave (v := some (.int (F8 (jx.toInt32)))) (fun h => by rw [Bd.returns] at h; cases h)
    refine ⟨_, _, pre13 _ ?_, hrun, hended, _, _, rfl, ?_, ⟨_, rfl⟩, hW, hsame.mono (by decide) (by decide)⟩
    · show Steps p.tables e below (T12.setTop (mkF m 25 #[.val (.long jx), .second, .val (.int (jx.toInt32))] [(.int (F8 (jx.toInt32)))])) _
      exact Jvm.Own.retI X12 hx Bd.returns (hb hby d7_25) hr
    · show Q7 Z jx n0 Rst _ T12.heap _
      exact ⟨(by simp only [F7, if_neg hb4]), N12, R12⟩
theorem d4_0 : decode prog_33_method_1_code 0 = .ok (.aload_n 0, 1) := by decide +kernel
theorem d4_1 : decode prog_33_method_1_code 1 = .ok (.invokespecial 1, 3) := by decide +kernel
theorem d4_4 : decode prog_33_method_1_code 4 = .ok (.aload_n 1, 1) := by decide +kernel
theorem d4_5 : decode prog_33_method_1_code 5 = .ok (.invokevirtual 7, 3) := by decide +kernel
theorem pd__28_29J : parseMethodDescriptor "()J" = some ⟨[], some .long⟩ := by decide +kernel
theorem d4_8 : decode prog_33_method_1_code 8 = .ok (.aload_n 1, 1) := by decide +kernel
theorem d4_9 : decode prog_33_method_1_code 9 = .ok (.invokevirtual 13, 3) := by decide +kernel
theorem d4_12 : decode prog_33_method_1_code 12 = .ok (.lsub, 1) := by decide +kernel
theorem d4_13 : decode prog_33_method_1_code 13 = .ok (.invokestatic 16, 3) := by decide +kernel
theorem pd__28J_29I : parseMethodDescriptor "(J)I" = some ⟨[.long], some .int⟩ := by decide +kernel
theorem d4_16 : decode prog_33_method_1_code 16 = .ok (.istore 4, 2) := by decide +kernel
theorem d4_18 : decode prog_33_method_1_code 18 = .ok (.aload_n 0, 1) := by decide +kernel
theorem d4_19 : decode prog_33_method_1_code 19 = .ok (.aload_n 1, 1) := by decide +kernel
theorem d4_20 : decode prog_33_method_1_code 20 = .ok (.invokevirtual 13, 3) := by decide +kernel
theorem d4_23 : decode prog_33_method_1_code 23 = .ok (.iload 4, 2) := by decide +kernel
theorem d4_25 : decode prog_33_method_1_code 25 = .ok (.lushr, 1) := by decide +kernel
theorem d4_26 : decode prog_33_method_1_code 26 = .ok (.putfield 22, 3) := by decide +kernel
theorem d4_29 : decode prog_33_method_1_code 29 = .ok (.aload_n 0, 1) := by decide +kernel
theorem d4_30 : decode prog_33_method_1_code 30 = .ok (.lload_n 2, 1) := by decide +kernel
theorem d4_31 : decode prog_33_method_1_code 31 = .ok (.lconst 1, 1) := by decide +kernel
theorem d4_32 : decode prog_33_method_1_code 32 = .ok (.lsub, 1) := by decide +kernel
theorem d4_33 : decode prog_33_method_1_code 33 = .ok (.iload 4, 2) := by decide +kernel
theorem d4_35 : decode prog_33_method_1_code 35 = .ok (.lushr, 1) := by decide +kernel
theorem d4_36 : decode prog_33_method_1_code 36 = .ok (.putfield 28, 3) := by decide +kernel
theorem d4_39 : decode prog_33_method_1_code 39 = .ok (.return_, 1) := by decide +kernel
theorem pn_com_example_gapless_log_gaplesslog_tree_Ascent : plainName "com/example/gapless_log/gaplesslog/tree/Ascent" = true := by first | (simp [plainName, overriddenIn]; done) | decide +kernel
theorem ef_4 (m : MethodId) (x0 : Addr) (x1 : Addr) (x2 : Int64) : entryFrame m #[(.ref x0), (.ref x1), (.long x2)] 5 = mkF m 0 #[.val (.ref x0), .val (.ref x1), .val (.long x2), .second, .unset] [] := by first | (simp [entryFrame, mkF, argsToLocals, Value.category]; done) | rfl
def Q4 (Z : State) (ax : Addr) (bx : Addr) (nx : Int64) (u1 : Value) (u2 : Value) (sv : Int64) (ev : Int64) (n0 : Nat) (Rst : RL) (v : Option Value) (h : Heap) (L : List Loc) : Prop := v = none ∧ Fr n0 L ∧ Rep Z n0 h ((ax, Obj "com/example/gapless_log/gaplesslog/tree/Ascent" [("node", "J", (.long (lushr sv (F7 (ev - sv))))), ("last", "J", (.long (lushr (nx - (1 : Int64)) (F7 (ev - sv)))))]) :: (bx, Obj "com/example/gapless_log/gaplesslog/tree/Subtree" [("start", "J", (.long sv)), ("end", "J", (.long ev))]) :: Rst)
set_option maxRecDepth 65536 in
set_option maxHeartbeats 40000000 in
theorem rm4 (l : Launch) (Z : State) (a0 : Array Value) (hw : ∀ d ∈ tables_1, d.before a0 Z = true) (ws : List Jvm.Cond) (ax : Addr) (bx : Addr) (nx : Int64) (u1 : Value) (u2 : Value) (sv : Int64) (ev : Int64) (h0 : Heap) (n0 : Nat) (Rst : RL) (R0 : Rep Z n0 h0 ((ax, Obj "com/example/gapless_log/gaplesslog/tree/Ascent" [("node", "J", u1), ("last", "J", u2)]) :: (bx, Obj "com/example/gapless_log/gaplesslog/tree/Subtree" [("start", "J", (.long sv)), ("end", "J", (.long ev))]) :: Rst)) :
    MetFree l (⟨"com/example/gapless_log/gaplesslog/tree/Ascent", "<init>", "(Lcom/example/gapless_log/gaplesslog/tree/Subtree;J)V"⟩ : MethodName) (head1 (Jvm.Cond.code (⟨"com/example/gapless_log/gaplesslog/tree/Ascent", "<init>", "(Lcom/example/gapless_log/gaplesslog/tree/Subtree;J)V"⟩ : MethodName) prog_33_method_1_code 5 none :: ws) ({ frames := 2, cells := 0, slots := 0, locals := 28 } : Room)) (fun a U => a = #[(.ref ax), (.ref bx), (.long nx)] ∧ Z.Warmed39 U.vm ∧ U.heap = h0) (fun _ _ _ _ _ => True) (fun _ U o U' => ∃ v L, o = .returned v ∧ Q4 Z ax bx nx u1 u2 sv ev n0 Rst v U'.heap L ∧ FrameEnd U o U' L ({ frames := 2, cells := 0, slots := 0, locals := 28 } : Room).cells ({ frames := 2, cells := 0, slots := 0, locals := 28 } : Room).slots) := by
  refine MetFree.of_bodySF (plainFor_of_name pn_com_example_gapless_log_gaplesslog_tree_Ascent) hisR ?_
  intro p e s m args below meth c s₁ Bd hml0 hP hK
  obtain ⟨rfl, hZ, hh⟩ := hP
  have hx := Bd.exec
  have hby := Bd.bytes
  have hml : c.maxLocals = 5 := hml0
  have hown : s.vm.findClass "com/example/gapless_log/gaplesslog/tree/Ascent" = some m.cls := findClass_of_methodNamed Bd.named
  have hnm := (name_of_methodNamed Bd.named Bd.method).1
  have X0 : Stand p l e ({ frames := 2, cells := 0, slots := 0, locals := 28 } : Room) s m #[(.ref ax), (.ref bx), (.long nx)] below meth c s₁ [] 0 0 := Stand.of_body Bd
  have e0 : s₁.heap = h0 := by rw [← hh, Bd.state]; rfl
  have N0 := Fr.nil n0
  have pre0 : ∀ t, Steps p.tables e below (s₁.setTop (mkF m 0 #[.val (.ref ax), .val (.ref bx), .val (.long nx), .second, .unset] [])) t → Steps p.tables e below (s₁.setTop (entryFrame m #[(.ref ax), (.ref bx), (.long nx)] 5)) t := fun t k => castTop (ef_4 m ax bx nx) k
  have pre1 : ∀ t, Steps p.tables e below (s₁.setTop (mkF m 1 #[.val (.ref ax), .val (.ref bx), .val (.long nx), .second, .unset] [(.ref ax)])) t → Steps p.tables e below (s₁.setTop (entryFrame m #[(.ref ax), (.ref bx), (.long nx)] 5)) t := fun t k => pre0 t (by
    show Steps p.tables e below (s₁.setTop (mkF m 0 #[.val (.ref ax), .val (.ref bx), .val (.long nx), .second, .unset] [])) _
    refine XS.aloadN X0.here hx rfl (hb hby d4_0) rfl rfl ?_
    exact k)
  obtain ⟨T2, X2, e2, st2⟩ := initO X0 hx hZ hown (hw _ (List.mem_of_getElem? (i := 26) rfl)) (hw _ (List.mem_of_getElem? (i := 17) rfl)) (hw _ (List.mem_of_getElem? (i := 18) rfl)) e0 (g := (mkF m 1 #[.val (.ref ax), .val (.ref bx), .val (.long nx), .second, .unset] [(.ref ax)])) rfl (by rw [hml]; rfl) rfl (hb hby d4_1) (by decide) (W := 0) (by show 2 * 0 + _ ≤ _; exact Nat.le_of_eq rfl) (by decide)
  have pre3 : ∀ t, Steps p.tables e below (T2.setTop (mkF m 4 #[.val (.ref ax), .val (.ref bx), .val (.long nx), .second, .unset] [])) t → Steps p.tables e below (s₁.setTop (entryFrame m #[(.ref ax), (.ref bx), (.long nx)] 5)) t := fun t k => pre1 t (st2 t k)
  have pre4 : ∀ t, Steps p.tables e below (T2.setTop (mkF m 5 #[.val (.ref ax), .val (.ref bx), .val (.long nx), .second, .unset] [(.ref bx)])) t → Steps p.tables e below (s₁.setTop (entryFrame m #[(.ref ax), (.ref bx), (.long nx)] 5)) t := fun t k => pre3 t (by
    show Steps p.tables e below (T2.setTop (mkF m 4 #[.val (.ref ax), .val (.ref bx), .val (.long nx), .second, .unset] [])) _
    refine XS.aloadN X2.here hx rfl (hb hby d4_4) rfl rfl ?_
    exact k)
  have R6 : Rep Z n0 h0 ((bx, Obj "com/example/gapless_log/gaplesslog/tree/Subtree" [("start", "J", (.long sv)), ("end", "J", (.long ev))]) :: (ax, Obj "com/example/gapless_log/gaplesslog/tree/Ascent" [("node", "J", u1), ("last", "J", u2)]) :: Rst) := R0.front 1 rfl rfl
  obtain ⟨cq5, kq5, q5a, q5b, q5c⟩ := isOf hZ e2 (R6.exa (i := 0) rfl)
  obtain ⟨_, _, ⟨T5, L5, k5, n5⟩, -, X5, ⟨Lc5, hQ5, l5, y5, z5⟩, st5⟩ := X2.virtualBack hx (y := (⟨"com/example/gapless_log/gaplesslog/tree/Subtree", "end", "()J"⟩ : MethodName)) (z := (⟨"com/example/gapless_log/gaplesslog/tree/Subtree", "end", "()J"⟩ : MethodName)) hown (mvT hZ (hw _ (List.mem_of_getElem? (i := 27) rfl))) (mvT hZ (hw _ (List.mem_of_getElem? (i := 28) rfl))) (notFace_of_selects (args := #[]) (mvT hZ (hw _ (List.mem_of_getElem? (i := 30) rfl)))) (mvT hZ (hw _ (List.mem_of_getElem? (i := 30) rfl))) (mvT hZ (hw _ (List.mem_of_getElem? (i := 29) rfl))) (by decide) (backOf (W := 0) (rm5 l Z a0 hw [] bx _ _ h0 n0 _ R6 ) hZ (hw _ (List.mem_of_getElem? (i := 31) rfl)) (hw _ (List.mem_of_getElem? (i := 7) rfl)) (by decide) (by decide)) q5a q5c (g := (mkF m 5 #[.val (.ref ax), .val (.ref bx), .val (.long nx), .second, .unset] [(.ref bx)])) rfl (by rw [hml]; rfl) (Steps.refl _) (argsL := []) (rest := []) (lenOf pd__28_29J rfl) rfl (by show 2 * 0 + _ ≤ _; exact Nat.le_of_eq rfl) (hb hby d4_5) (fun _ _ => ⟨rfl, e2, (by decide : 0 + 0 ≤ _), (by decide : 0 + 0 ≤ _)⟩)
  dsimp only [Pt.U, Pt.locs, Pt.cells, Pt.slots] at X5 l5 y5 z5 st5 hQ5
  subst l5 y5 z5
  obtain ⟨rfl, N5q, R5⟩ := hQ5
  have N5 := Fr.app N0 N5q
  replace R5 : Rep Z n0 T5.heap ((bx, Obj "com/example/gapless_log/gaplesslog/tree/Subtree" [("start", "J", (.long sv)), ("end", "J", (.long ev))]) :: (ax, Obj "com/example/gapless_log/gaplesslog/tree/Ascent" [("node", "J", u1), ("last", "J", u2)]) :: Rst) := R5
  have pre7 : ∀ t, Steps p.tables e below (T5.setTop (mkF m 8 #[.val (.ref ax), .val (.ref bx), .val (.long nx), .second, .unset] [(.long ev)])) t → Steps p.tables e below (s₁.setTop (entryFrame m #[(.ref ax), (.ref bx), (.long nx)] 5)) t := fun t k => pre4 t (st5.trans k)
  have pre8 : ∀ t, Steps p.tables e below (T5.setTop (mkF m 9 #[.val (.ref ax), .val (.ref bx), .val (.long nx), .second, .unset] [(.ref bx), (.long ev)])) t → Steps p.tables e below (s₁.setTop (entryFrame m #[(.ref ax), (.ref bx), (.long nx)] 5)) t := fun t k => pre7 t (by
    show Steps p.tables e below (T5.setTop (mkF m 8 #[.val (.ref ax), .val (.ref bx), .val (.long nx), .second, .unset] [(.long ev)])) _
    refine XS.aloadN X5.here hx rfl (hb hby d4_8) rfl rfl ?_
    exact k)
  obtain ⟨cq9, kq9, q9a, q9b, q9c⟩ := isOf hZ rfl (R5.exa (i := 0) rfl)
  obtain ⟨_, _, ⟨T9, L9, k9, n9⟩, -, X9, ⟨Lc9, hQ9, l9, y9, z9⟩, st9⟩ := X5.virtualBack hx (y := (⟨"com/example/gapless_log/gaplesslog/tree/Subtree", "start", "()J"⟩ : MethodName)) (z := (⟨"com/example/gapless_log/gaplesslog/tree/Subtree", "start", "()J"⟩ : MethodName)) hown (mvT hZ (hw _ (List.mem_of_getElem? (i := 32) rfl))) (mvT hZ (hw _ (List.mem_of_getElem? (i := 33) rfl))) (notFace_of_selects (args := #[]) (mvT hZ (hw _ (List.mem_of_getElem? (i := 35) rfl)))) (mvT hZ (hw _ (List.mem_of_getElem? (i := 35) rfl))) (mvT hZ (hw _ (List.mem_of_getElem? (i := 34) rfl))) (by decide) (backOf (W := 2) (rm6 l Z a0 hw [] bx _ _ T5.heap n0 _ R5 ) hZ (hw _ (List.mem_of_getElem? (i := 36) rfl)) (hw _ (List.mem_of_getElem? (i := 7) rfl)) (by decide) (by decide)) q9a q9c (g := (mkF m 9 #[.val (.ref ax), .val (.ref bx), .val (.long nx), .second, .unset] [(.ref bx), (.long ev)])) rfl (by rw [hml]; rfl) (Steps.refl _) (argsL := []) (rest := [(.long ev)]) (lenOf pd__28_29J rfl) rfl (by show 2 * 0 + _ ≤ _; exact Nat.le_of_eq rfl) (hb hby d4_9) (fun _ _ => ⟨rfl, rfl, (by decide : 0 + 0 ≤ _), (by decide : 0 + 0 ≤ _)⟩)
  dsimp only [Pt.U, Pt.locs, Pt.cells, Pt.slots] at X9 l9 y9 z9 st9 hQ9
  subst l9 y9 z9
  obtain ⟨rfl, N9q, R9⟩ := hQ9
  have N9 := Fr.app N5 N9q
  replace R9 : Rep Z n0 T9.heap ((bx, Obj "com/example/gapless_log/gaplesslog/tree/Subtree" [("start", "J", (.long sv)), ("end", "J", (.long ev))]) :: (ax, Obj "com/example/gapless_log/gaplesslog/tree/Ascent" [("node", "J", u1), ("last", "J", u2)]) :: Rst) := R9
  have pre10 : ∀ t, Steps p.tables e below (T9.setTop (mkF m 12 #[.val (.ref ax), .val (.ref bx), .val (.long nx), .second, .unset] [(.long sv), (.long ev)])) t → Steps p.tables e below (s₁.setTop (entryFrame m #[(.ref ax), (.ref bx), (.long nx)] 5)) t := fun t k => pre8 t (st9.trans k)
  have pre11 : ∀ t, Steps p.tables e below (T9.setTop (mkF m 13 #[.val (.ref ax), .val (.ref bx), .val (.long nx), .second, .unset] [(.long (ev - sv))])) t → Steps p.tables e below (s₁.setTop (entryFrame m #[(.ref ax), (.ref bx), (.long nx)] 5)) t := fun t k => pre10 t (by
    show Steps p.tables e below (T9.setTop (mkF m 12 #[.val (.ref ax), .val (.ref bx), .val (.long nx), .second, .unset] [(.long sv), (.long ev)])) _
    refine XS.lsub X9.here hx rfl (hb hby d4_12) rfl ?_
    exact k)
  obtain ⟨_, _, ⟨T12, L12, k12, n12⟩, -, X12, ⟨Lc12, hQ12, l12, y12, z12⟩, st12⟩ := Jvm.LawKit.callS X9 hx (y := (⟨"java/lang/Long", "numberOfTrailingZeros", "(J)I"⟩ : MethodName)) hown (mvT hZ (hw _ (List.mem_of_getElem? (i := 37) rfl))) (mvT hZ (hw _ (List.mem_of_getElem? (i := 38) rfl))) (mvT hZ (hw _ (List.mem_of_getElem? (i := 39) rfl))) (mvT hZ (hw _ (List.mem_of_getElem? (i := 40) rfl))) (by decide) (backOf (W := 0) (rm7 l Z a0 hw [] (ev - sv)  T9.heap n0 _ R9 ) hZ (hw _ (List.mem_of_getElem? (i := 40) rfl)) (hw _ (List.mem_of_getElem? (i := 39) rfl)) (by decide) (by decide)) (g := (mkF m 13 #[.val (.ref ax), .val (.ref bx), .val (.long nx), .second, .unset] [(.long (ev - sv))])) rfl (by rw [hml]; rfl) (argsL := [(.long (ev - sv))]) (rest := []) (lenOf pd__28J_29I rfl) rfl (by show 2 * 0 + _ ≤ _; exact Nat.le_of_eq rfl) (hb hby d4_13) (fun _ _ => ⟨rfl, rfl, (by decide : 0 + 0 ≤ _), (by decide : 0 + 0 ≤ _)⟩)
  dsimp only [Pt.U, Pt.locs, Pt.cells, Pt.slots] at X12 l12 y12 z12 st12 hQ12
  subst l12 y12 z12
  obtain ⟨rfl, N12q, R12⟩ := hQ12
  have N12 := Fr.app N9 N12q
  replace R12 : Rep Z n0 T12.heap ((bx, Obj "com/example/gapless_log/gaplesslog/tree/Subtree" [("start", "J", (.long sv)), ("end", "J", (.long ev))]) :: (ax, Obj "com/example/gapless_log/gaplesslog/tree/Ascent" [("node", "J", u1), ("last", "J", u2)]) :: Rst) := R12
  have pre13 : ∀ t, Steps p.tables e below (T12.setTop (mkF m 16 #[.val (.ref ax), .val (.ref bx), .val (.long nx), .second, .unset] [(.int (F7 (ev - sv)))])) t → Steps p.tables e below (s₁.setTop (entryFrame m #[(.ref ax), (.ref bx), (.long nx)] 5)) t := fun t k => pre11 t (st12 t k)
  have pre14 : ∀ t, Steps p.tables e below (T12.setTop (mkF m 20 #[.val (.ref ax), .val (.ref bx), .val (.long nx), .second, .val (.int (F7 (ev - sv)))] [(.ref bx), (.ref ax)])) t → Steps p.tables e below (s₁.setTop (entryFrame m #[(.ref ax), (.ref bx), (.long nx)] 5)) t := fun t k => pre13 t (by
    show Steps p.tables e below (T12.setTop (mkF m 16 #[.val (.ref ax), .val (.ref bx), .val (.long nx), .second, .unset] [(.int (F7 (ev - sv)))])) _
    refine XS.istore X12.here hx rfl (hb hby d4_16) rfl (l' := #[.val (.ref ax), .val (.ref bx), .val (.long nx), .second, .val (.int (F7 (ev - sv)))]) rfl ?_
    refine XS.aloadN X12.here hx rfl (hb hby d4_18) rfl rfl ?_
    refine XS.aloadN X12.here hx rfl (hb hby d4_19) rfl rfl ?_
    exact k)
  obtain ⟨cq15, kq15, q15a, q15b, q15c⟩ := isOf hZ rfl (R12.exa (i := 0) rfl)
  obtain ⟨_, _, ⟨T15, L15, k15, n15⟩, -, X15, ⟨Lc15, hQ15, l15, y15, z15⟩, st15⟩ := X12.virtualBack hx (y := (⟨"com/example/gapless_log/gaplesslog/tree/Subtree", "start", "()J"⟩ : MethodName)) (z := (⟨"com/example/gapless_log/gaplesslog/tree/Subtree", "start", "()J"⟩ : MethodName)) hown (mvT hZ (hw _ (List.mem_of_getElem? (i := 32) rfl))) (mvT hZ (hw _ (List.mem_of_getElem? (i := 33) rfl))) (notFace_of_selects (args := #[]) (mvT hZ (hw _ (List.mem_of_getElem? (i := 35) rfl)))) (mvT hZ (hw _ (List.mem_of_getElem? (i := 35) rfl))) (mvT hZ (hw _ (List.mem_of_getElem? (i := 34) rfl))) (by decide) (backOf (W := 1) (rm6 l Z a0 hw [] bx _ _ T12.heap n0 _ R12 ) hZ (hw _ (List.mem_of_getElem? (i := 36) rfl)) (hw _ (List.mem_of_getElem? (i := 7) rfl)) (by decide) (by decide)) q15a q15c (g := (mkF m 20 #[.val (.ref ax), .val (.ref bx), .val (.long nx), .second, .val (.int (F7 (ev - sv)))] [(.ref bx), (.ref ax)])) rfl (by rw [hml]; rfl) (Steps.refl _) (argsL := []) (rest := [(.ref ax)]) (lenOf pd__28_29J rfl) rfl (by show 2 * 0 + _ ≤ _; exact Nat.le_of_eq rfl) (hb hby d4_20) (fun _ _ => ⟨rfl, rfl, (by decide : 0 + 0 ≤ _), (by decide : 0 + 0 ≤ _)⟩)
  dsimp only [Pt.U, Pt.locs, Pt.cells, Pt.slots] at X15 l15 y15 z15 st15 hQ15
  subst l15 y15 z15
  obtain ⟨rfl, N15q, R15⟩ := hQ15
  have N15 := Fr.app N12 N15q
  replace R15 : Rep Z n0 T15.heap ((bx, Obj "com/example/gapless_log/gaplesslog/tree/Subtree" [("start", "J", (.long sv)), ("end", "J", (.long ev))]) :: (ax, Obj "com/example/gapless_log/gaplesslog/tree/Ascent" [("node", "J", u1), ("last", "J", u2)]) :: Rst) := R15
  have pre16 : ∀ t, Steps p.tables e below (T15.setTop (mkF m 23 #[.val (.ref ax), .val (.ref bx), .val (.long nx), .second, .val (.int (F7 (ev - sv)))] [(.long sv), (.ref ax)])) t → Steps p.tables e below (s₁.setTop (entryFrame m #[(.ref ax), (.ref bx), (.long nx)] 5)) t := fun t k => pre14 t (st15.trans k)
  have pre17 : ∀ t, Steps p.tables e below (T15.setTop (mkF m 26 #[.val (.ref ax), .val (.ref bx), .val (.long nx), .second, .val (.int (F7 (ev - sv)))] [(.long (lushr sv (F7 (ev - sv)))), (.ref ax)])) t → Steps p.tables e below (s₁.setTop (entryFrame m #[(.ref ax), (.ref bx), (.long nx)] 5)) t := fun t k => pre16 t (by
    show Steps p.tables e below (T15.setTop (mkF m 23 #[.val (.ref ax), .val (.ref bx), .val (.long nx), .second, .val (.int (F7 (ev - sv)))] [(.long sv), (.ref ax)])) _
    refine XS.iload X15.here hx rfl (hb hby d4_23) rfl ?_
    refine XS.lushr X15.here hx rfl (hb hby d4_25) rfl ?_
    exact k)
  obtain ⟨T18, h18, ls18, X18, e18, N18, R18, st18⟩ := gPut X15 hx hZ hown (host := "") (Or.inl (hw _ (List.mem_of_getElem? (i := 46) rfl))) rfl N15 R15 1 0 rfl rfl (Or.inl (hw _ (List.mem_of_getElem? (i := 47) rfl))) (hw _ (List.mem_of_getElem? (i := 3) rfl)) (ty := .long) (by decide) rfl rfl (g := (mkF m 26 #[.val (.ref ax), .val (.ref bx), .val (.long nx), .second, .val (.int (F7 (ev - sv)))] [(.long (lushr sv (F7 (ev - sv)))), (.ref ax)])) rfl rfl (hb hby d4_26)
  replace R18 : Rep Z n0 h18 ((bx, Obj "com/example/gapless_log/gaplesslog/tree/Subtree" [("start", "J", (.long sv)), ("end", "J", (.long ev))]) :: (ax, Obj "com/example/gapless_log/gaplesslog/tree/Ascent" [("node", "J", (.long (lushr sv (F7 (ev - sv))))), ("last", "J", u2)]) :: Rst) := R18
  have pre19 : ∀ t, Steps p.tables e below (T18.setTop (mkF m 29 #[.val (.ref ax), .val (.ref bx), .val (.long nx), .second, .val (.int (F7 (ev - sv)))] [])) t → Steps p.tables e below (s₁.setTop (entryFrame m #[(.ref ax), (.ref bx), (.long nx)] 5)) t := fun t k => pre17 t (st18 t k)
  have pre20 : ∀ t, Steps p.tables e below (T18.setTop (mkF m 36 #[.val (.ref ax), .val (.ref bx), .val (.long nx), .second, .val (.int (F7 (ev - sv)))] [(.long (lushr (nx - (1 : Int64)) (F7 (ev - sv)))), (.ref ax)])) t → Steps p.tables e below (s₁.setTop (entryFrame m #[(.ref ax), (.ref bx), (.long nx)] 5)) t := fun t k => pre19 t (by
    show Steps p.tables e below (T18.setTop (mkF m 29 #[.val (.ref ax), .val (.ref bx), .val (.long nx), .second, .val (.int (F7 (ev - sv)))] [])) _
    refine XS.aloadN X18.here hx rfl (hb hby d4_29) rfl rfl ?_
    refine XS.lloadN X18.here hx rfl (hb hby d4_30) rfl ?_
    refine XS.lconst X18.here hx rfl (hb hby d4_31) ?_
    refine XS.lsub X18.here hx rfl (hb hby d4_32) rfl ?_
    refine XS.iload X18.here hx rfl (hb hby d4_33) rfl ?_
    refine XS.lushr X18.here hx rfl (hb hby d4_35) rfl ?_
    exact k)
  obtain ⟨T21, h21, ls21, X21, e21, N21, R21, st21⟩ := gPut X18 hx hZ hown (host := "") (Or.inl (hw _ (List.mem_of_getElem? (i := 48) rfl))) e18 N18 R18 1 1 rfl rfl (Or.inl (hw _ (List.mem_of_getElem? (i := 49) rfl))) (hw _ (List.mem_of_getElem? (i := 3) rfl)) (ty := .long) (by decide) rfl rfl (g := (mkF m 36 #[.val (.ref ax), .val (.ref bx), .val (.long nx), .second, .val (.int (F7 (ev - sv)))] [(.long (lushr (nx - (1 : Int64)) (F7 (ev - sv)))), (.ref ax)])) rfl rfl (hb hby d4_36)
  replace R21 : Rep Z n0 h21 ((bx, Obj "com/example/gapless_log/gaplesslog/tree/Subtree" [("start", "J", (.long sv)), ("end", "J", (.long ev))]) :: (ax, Obj "com/example/gapless_log/gaplesslog/tree/Ascent" [("node", "J", (.long (lushr sv (F7 (ev - sv))))), ("last", "J", (.long (lushr (nx - (1 : Int64)) (F7 (ev - sv)))))]) :: Rst) := R21
  have pre22 : ∀ t, Steps p.tables e below (T21.setTop (mkF m 39 #[.val (.ref ax), .val (.ref bx), .val (.long nx), .second, .val (.int (F7 (ev - sv)))] [])) t → Steps p.tables e below (s₁.setTop (entryFrame m #[(.ref ax), (.ref bx), (.long nx)] 5)) t := fun t k => pre20 t (st21 t k)
  obtain ⟨fs, hr, hrun, hended, hW, hsame⟩ := X21.leave (v := none) (fun _ => rfl)
  refine ⟨_, _, pre22 _ ?_, hrun, hended, _, _, rfl, ?_, ⟨_, rfl⟩, hW, hsame.mono (by decide) (by decide)⟩
  · show Steps p.tables e below (T21.setTop (mkF m 39 #[.val (.ref ax), .val (.ref bx), .val (.long nx), .second, .val (.int (F7 (ev - sv)))] [])) _
    exact X21.returnOut hx Bd.returns (hb hby d4_39) hr
  · show Q4 Z ax bx nx u1 u2 sv ev n0 Rst _ T21.heap _
    rw [e21]
    have R23 : Rep Z n0 h21 ((bx, Obj "com/example/gapless_log/gaplesslog/tree/Subtree" [("start", "J", (.long sv)), ("end", "J", (.long ev))]) :: (ax, Obj "com/example/gapless_log/gaplesslog/tree/Ascent" [("node", "J", (.long (lushr sv (F7 (ev - sv))))), ("last", "J", (.long (lushr (nx - (1 : Int64)) (F7 (ev - sv)))))]) :: Rst) := R21.front 0 rfl rfl
    have R24 : Rep Z n0 h21 ((ax, Obj "com/example/gapless_log/gaplesslog/tree/Ascent" [("node", "J", (.long (lushr sv (F7 (ev - sv))))), ("last", "J", (.long (lushr (nx - (1 : Int64)) (F7 (ev - sv)))))]) :: (bx, Obj "com/example/gapless_log/gaplesslog/tree/Subtree" [("start", "J", (.long sv)), ("end", "J", (.long ev))]) :: Rst) := R23.front 1 rfl rfl
    exact ⟨rfl, N21, R24⟩
theorem d11_0 : decode prog_33_method_3_code 0 = .ok (.aload_n 0, 1) := by decide +kernel
theorem d11_1 : decode prog_33_method_3_code 1 = .ok (.getfield 22, 3) := by decide +kernel
theorem d11_4 : decode prog_33_method_3_code 4 = .ok (.lconst 1, 1) := by decide +kernel
theorem d11_5 : decode prog_33_method_3_code 5 = .ok (.land, 1) := by decide +kernel
theorem d11_6 : decode prog_33_method_3_code 6 = .ok (.lconst 1, 1) := by decide +kernel
theorem d11_7 : decode prog_33_method_3_code 7 = .ok (.lcmp, 1) := by decide +kernel
theorem d11_8 : decode prog_33_method_3_code 8 = .ok (.ifCond .eq 15, 3) := by decide +kernel
theorem d11_23 : decode prog_33_method_3_code 23 = .ok (.iconst 1, 1) := by decide +kernel
theorem d11_24 : decode prog_33_method_3_code 24 = .ok (.goto 4, 3) := by decide +kernel
theorem d11_11 : decode prog_33_method_3_code 11 = .ok (.aload_n 0, 1) := by decide +kernel
theorem d11_12 : decode prog_33_method_3_code 12 = .ok (.getfield 22, 3) := by decide +kernel
theorem d11_28 : decode prog_33_method_3_code 28 = .ok (.ireturn, 1) := by decide +kernel
theorem d11_15 : decode prog_33_method_3_code 15 = .ok (.aload_n 0, 1) := by decide +kernel
theorem d11_16 : decode prog_33_method_3_code 16 = .ok (.getfield 28, 3) := by decide +kernel
theorem d11_19 : decode prog_33_method_3_code 19 = .ok (.lcmp, 1) := by decide +kernel
theorem d11_20 : decode prog_33_method_3_code 20 = .ok (.ifCond .ne 7, 3) := by decide +kernel
theorem d11_27 : decode prog_33_method_3_code 27 = .ok (.iconst 0, 1) := by decide +kernel
theorem ef_11 (m : MethodId) (x0 : Addr) : entryFrame m #[(.ref x0)] 1 = mkF m 0 #[.val (.ref x0)] [] := by first | (simp [entryFrame, mkF, argsToLocals, Value.category]; done) | rfl
def F11 (nv : Int64) (lv : Int64) : Int32 :=
  if (nv &&& (1 : Int64)) = (1 : Int64) then
    (1 : Int32)
  else
    (bz (nv = lv))
def Q11 (Z : State) (ax : Addr) (nv : Int64) (lv : Int64) (n0 : Nat) (Rst : RL) (v : Option Value) (h : Heap) (L : List Loc) : Prop := v = some (.int (F11 nv lv)) ∧ Fr n0 L ∧ Rep Z n0 h ((ax, Obj "com/example/gapless_log/gaplesslog/tree/Ascent" [("node", "J", (.long nv)), ("last", "J", (.long lv))]) :: Rst)
set_option maxRecDepth 65536 in
set_option maxHeartbeats 40000000 in
theorem rm11 (l : Launch) (Z : State) (a0 : Array Value) (hw : ∀ d ∈ tables_1, d.before a0 Z = true) (ws : List Jvm.Cond) (ax : Addr) (nv : Int64) (lv : Int64) (h0 : Heap) (n0 : Nat) (Rst : RL) (R0 : Rep Z n0 h0 ((ax, Obj "com/example/gapless_log/gaplesslog/tree/Ascent" [("node", "J", (.long nv)), ("last", "J", (.long lv))]) :: Rst)) :
    MetFree l (⟨"com/example/gapless_log/gaplesslog/tree/Ascent", "siblingOnLeft", "()Z"⟩ : MethodName) (head1 (Jvm.Cond.code (⟨"com/example/gapless_log/gaplesslog/tree/Ascent", "siblingOnLeft", "()Z"⟩ : MethodName) prog_33_method_3_code 1 (some .boolean) :: ws) ({ frames := 0, cells := 0, slots := 0, locals := 0 } : Room)) (fun a U => a = #[(.ref ax)] ∧ Z.Warmed39 U.vm ∧ U.heap = h0) (fun _ _ _ _ _ => True) (fun _ U o U' => ∃ v L, o = .returned v ∧ Q11 Z ax nv lv n0 Rst v U'.heap L ∧ FrameEnd U o U' L ({ frames := 0, cells := 0, slots := 0, locals := 0 } : Room).cells ({ frames := 0, cells := 0, slots := 0, locals := 0 } : Room).slots) := by
  refine MetFree.of_bodySF (plainFor_of_name pn_com_example_gapless_log_gaplesslog_tree_Ascent) hisR ?_
  intro p e s m args below meth c s₁ Bd hml0 hP hK
  obtain ⟨rfl, hZ, hh⟩ := hP
  have hx := Bd.exec
  have hby := Bd.bytes
  have hml : c.maxLocals = 1 := hml0
  have hown : s.vm.findClass "com/example/gapless_log/gaplesslog/tree/Ascent" = some m.cls := findClass_of_methodNamed Bd.named
  have hnm := (name_of_methodNamed Bd.named Bd.method).1
  have X0 : Stand p l e ({ frames := 0, cells := 0, slots := 0, locals := 0 } : Room) s m #[(.ref ax)] below meth c s₁ [] 0 0 := Stand.of_body Bd
  have e0 : s₁.heap = h0 := by rw [← hh, Bd.state]; rfl
  have N0 := Fr.nil n0
  have pre0 : ∀ t, Steps p.tables e below (s₁.setTop (mkF m 0 #[.val (.ref ax)] [])) t → Steps p.tables e below (s₁.setTop (entryFrame m #[(.ref ax)] 1)) t := fun t k => castTop (ef_11 m ax) k
  have pre1 : ∀ t, Steps p.tables e below (s₁.setTop (mkF m 1 #[.val (.ref ax)] [(.ref ax)])) t → Steps p.tables e below (s₁.setTop (entryFrame m #[(.ref ax)] 1)) t := fun t k => pre0 t (by
    show Steps p.tables e below (s₁.setTop (mkF m 0 #[.val (.ref ax)] [])) _
    refine XS.aloadN X0.here hx rfl (hb hby d11_0) rfl rfl ?_
    exact k)
  obtain ⟨T2, X2, e2, st2⟩ := gGet X0 hx hZ hown (host := "") (Or.inl (hw _ (List.mem_of_getElem? (i := 46) rfl))) e0 R0 0 0 rfl rfl (g := (mkF m 1 #[.val (.ref ax)] [(.ref ax)])) rfl rfl (hb hby d11_1)
  have pre3 : ∀ t, Steps p.tables e below (T2.setTop (mkF m 4 #[.val (.ref ax)] [(.long nv)])) t → Steps p.tables e below (s₁.setTop (entryFrame m #[(.ref ax)] 1)) t := fun t k => pre1 t (st2 t k)
  have pre5 : ∀ t, Steps p.tables e below (T2.setTop (mkF m 8 #[.val (.ref ax)] [(.int (XT.cmpL (nv &&& (1 : Int64)) (1 : Int64)))])) t → Steps p.tables e below (s₁.setTop (entryFrame m #[(.ref ax)] 1)) t := fun t k => pre3 t (by
    show Steps p.tables e below (T2.setTop (mkF m 4 #[.val (.ref ax)] [(.long nv)])) _
    refine XS.lconst X2.here hx rfl (hb hby d11_4) ?_
    refine XS.land X2.here hx rfl (hb hby d11_5) rfl ?_
    refine XS.lconst X2.here hx rfl (hb hby d11_6) ?_
    refine XS.lcmp X2.here hx rfl (hb hby d11_7) rfl ?_
    exact k)
  by_cases hb7 : (nv &&& (1 : Int64)) = (1 : Int64)
  · have pre8 : ∀ t, Steps p.tables e below (T2.setTop (mkF m 23 #[.val (.ref ax)] [])) t → Steps p.tables e below (s₁.setTop (entryFrame m #[(.ref ax)] 1)) t := fun t k => pre5 t (by show Steps p.tables e below (T2.setTop (mkF m 8 #[.val (.ref ax)] [(.int (XT.cmpL (nv &&& (1 : Int64)) (1 : Int64)))])) _; refine XS.ifYes X2.here hx rfl (pc0 := 8) (pc' := 23) rfl (hb hby d11_8) rfl (XT.ll_eq_t hb7) (by decide) (by decide) ?_; exact k)
    have pre9 : ∀ t, Steps p.tables e below (T2.setTop (mkF m 28 #[.val (.ref ax)] [(.int (1 : Int32))])) t → Steps p.tables e below (s₁.setTop (entryFrame m #[(.ref ax)] 1)) t := fun t k => pre8 t (by
      show Steps p.tables e below (T2.setTop (mkF m 23 #[.val (.ref ax)] [])) _
      refine XS.iconst X2.here hx rfl (hb hby d11_23) ?_
      refine XS.goto X2.here hx rfl (pc0 := 24) (pc' := 28) rfl (hb hby d11_24) (by decide) (by decide) ?_
      exact k)
    obtain ⟨fs, hr, hrun, hended, hW, hsame⟩ := X2.leave (v := some (.int (nar .boolean (1 : Int32)))) (fun h => by rw [Bd.returns] at h; cases h)
    refine ⟨_, _, pre9 _ ?_, hrun, hended, _, _, rfl, ?_, ⟨_, rfl⟩, hW, hsame.mono (by decide) (by decide)⟩
    · show Steps p.tables e below (T2.setTop (mkF m 28 #[.val (.ref ax)] [(.int (1 : Int32))])) _
      exact retN X2 hx (t := .boolean) Bd.returns (by simp) (hb hby d11_28) hr
    · show Q11 Z ax nv lv n0 Rst _ T2.heap _
      rw [e2]
      exact ⟨(by exact congrArg (fun z => some (Value.int z)) (by simp only [F11, if_pos hb7] <;> first | rfl | exact nar_b _ | decide)), N0, R0⟩
  · have pre10 : ∀ t, Steps p.tables e below (T2.setTop (mkF m 11 #[.val (.ref ax)] [])) t → Steps p.tables e below (s₁.setTop (entryFrame m #[(.ref ax)] 1)) t := fun t k => pre5 t (by show Steps p.tables e below (T2.setTop (mkF m 8 #[.val (.ref ax)] [(.int (XT.cmpL (nv &&& (1 : Int64)) (1 : Int64)))])) _; refine XS.ifNo X2.here hx rfl (hb hby d11_8) rfl (XT.ll_eq_f hb7) ?_; exact k)
    have pre11 : ∀ t, Steps p.tables e below (T2.setTop (mkF m 12 #[.val (.ref ax)] [(.ref ax)])) t → Steps p.tables e below (s₁.setTop (entryFrame m #[(.ref ax)] 1)) t := fun t k => pre10 t (by
      show Steps p.tables e below (T2.setTop (mkF m 11 #[.val (.ref ax)] [])) _
      refine XS.aloadN X2.here hx rfl (hb hby d11_11) rfl rfl ?_
      exact k)
    obtain ⟨T12, X12, e12, st12⟩ := gGet X2 hx hZ hown (host := "") (Or.inl (hw _ (List.mem_of_getElem? (i := 46) rfl))) e2 R0 0 0 rfl rfl (g := (mkF m 12 #[.val (.ref ax)] [(.ref ax)])) rfl rfl (hb hby d11_12)
    have pre13 : ∀ t, Steps p.tables e below (T12.setTop (mkF m 15 #[.val (.ref ax)] [(.long nv)])) t → Steps p.tables e below (s₁.setTop (entryFrame m #[(.ref ax)] 1)) t := fun t k => pre11 t (st12 t k)
    have pre14 : ∀ t, Steps p.tables e below (T12.setTop (mkF m 16 #[.val (.ref ax)] [(.ref ax), (.long nv)])) t → Steps p.tables e below (s₁.setTop (entryFrame m #[(.ref ax)] 1)) t := fun t k => pre13 t (by
      show Steps p.tables e below (T12.setTop (mkF m 15 #[.val (.ref ax)] [(.long nv)])) _
      refine XS.aloadN X12.here hx rfl (hb hby d11_15) rfl rfl ?_
      exact k)
    obtain ⟨T15, X15, e15, st15⟩ := gGet X12 hx hZ hown (host := "") (Or.inl (hw _ (List.mem_of_getElem? (i := 48) rfl))) e12 R0 0 1 rfl rfl (g := (mkF m 16 #[.val (.ref ax)] [(.ref ax), (.long nv)])) rfl rfl (hb hby d11_16)
    have pre16 : ∀ t, Steps p.tables e below (T15.setTop (mkF m 19 #[.val (.ref ax)] [(.long lv), (.long nv)])) t → Steps p.tables e below (s₁.setTop (entryFrame m #[(.ref ax)] 1)) t := fun t k => pre14 t (st15 t k)
    have pre19 : ∀ t, Steps p.tables e below (T15.setTop (mkF m 20 #[.val (.ref ax)] [(.int (XT.cmpL nv lv))])) t → Steps p.tables e below (s₁.setTop (entryFrame m #[(.ref ax)] 1)) t := fun t k => pre16 t (by
      show Steps p.tables e below (T15.setTop (mkF m 19 #[.val (.ref ax)] [(.long lv), (.long nv)])) _
      refine XS.lcmp X15.here hx rfl (hb hby d11_19) rfl ?_
      exact k)
    have tl18 : ∀ t, Steps p.tables e below (T15.setTop (mkF m 28 #[.val (.ref ax)] [(.int (bz (nv = lv)))])) t → Steps p.tables e below (T15.setTop (mkF m 20 #[.val (.ref ax)] [(.int (XT.cmpL nv lv))])) t := fun t k => by
      by_cases hb17 : nv = lv
      · refine XS.ifNo X15.here hx rfl (hb hby d11_20) rfl (XT.ll_ne_f hb17) ?_
        rw [bz_one (P := (nv = lv)) (iff_true_intro hb17)] at k
        show Steps p.tables e below (T15.setTop (mkF m 23 #[.val (.ref ax)] [])) _
        refine XS.iconst X15.here hx rfl (hb hby d11_23) ?_
        refine XS.goto X15.here hx rfl (pc0 := 24) (pc' := 28) rfl (hb hby d11_24) (by decide) (by decide) ?_
        exact k
      · refine XS.ifYes X15.here hx rfl (pc0 := 20) (pc' := 27) rfl (hb hby d11_20) rfl (XT.ll_ne_t hb17) (by decide) (by decide) ?_
        rw [bz_zero (P := (nv = lv)) (iff_false_intro hb17)] at k
        show Steps p.tables e below (T15.setTop (mkF m 27 #[.val (.ref ax)] [])) _
        refine XS.iconst X15.here hx rfl (hb hby d11_27) ?_
        exact k
    have pre20 : ∀ t, Steps p.tables e below (T15.setTop (mkF m 28 #[.val (.ref ax)] [(.int (bz (nv = lv)))])) t → Steps p.tables e below (s₁.setTop (entryFrame m #[(.ref ax)] 1)) t := fun t k => pre19 t (by
      exact tl18 t k)
    obtain ⟨fs, hr, hrun, hended, hW, hsame⟩ := X15.leave (v := some (.int (nar .boolean (bz (nv = lv))))) (fun h => by rw [Bd.returns] at h; cases h)
    refine ⟨_, _, pre20 _ ?_, hrun, hended, _, _, rfl, ?_, ⟨_, rfl⟩, hW, hsame.mono (by decide) (by decide)⟩
    · show Steps p.tables e below (T15.setTop (mkF m 28 #[.val (.ref ax)] [(.int (bz (nv = lv)))])) _
      exact retN X15 hx (t := .boolean) Bd.returns (by simp) (hb hby d11_28) hr
    · show Q11 Z ax nv lv n0 Rst _ T15.heap _
      rw [e15]
      exact ⟨(by exact congrArg (fun z => some (Value.int z)) (by simp only [F11, if_neg hb7] <;> first | rfl | exact nar_b _ | decide)), N0, R0⟩
theorem d9_0 : decode prog_33_method_2_code 0 = .ok (.aload_n 0, 1) := by decide +kernel
theorem d9_1 : decode prog_33_method_2_code 1 = .ok (.getfield 28, 3) := by decide +kernel
theorem d9_4 : decode prog_33_method_2_code 4 = .ok (.lconst 0, 1) := by decide +kernel
theorem d9_5 : decode prog_33_method_2_code 5 = .ok (.lcmp, 1) := by decide +kernel
theorem d9_6 : decode prog_33_method_2_code 6 = .ok (.ifCond .ne 7, 3) := by decide +kernel
theorem d9_9 : decode prog_33_method_2_code 9 = .ok (.iconst 1, 1) := by decide +kernel
theorem d9_10 : decode prog_33_method_2_code 10 = .ok (.goto 4, 3) := by decide +kernel
theorem d9_13 : decode prog_33_method_2_code 13 = .ok (.iconst 0, 1) := by decide +kernel
theorem d9_14 : decode prog_33_method_2_code 14 = .ok (.ireturn, 1) := by decide +kernel
theorem ef_9 (m : MethodId) (x0 : Addr) : entryFrame m #[(.ref x0)] 1 = mkF m 0 #[.val (.ref x0)] [] := by first | (simp [entryFrame, mkF, argsToLocals, Value.category]; done) | rfl
def F9 (lv : Int64) : Int32 :=
  (bz (lv = (0 : Int64)))
def Q9 (Z : State) (ax : Addr) (nv : Int64) (lv : Int64) (n0 : Nat) (Rst : RL) (v : Option Value) (h : Heap) (L : List Loc) : Prop := v = some (.int (F9 lv)) ∧ Fr n0 L ∧ Rep Z n0 h ((ax, Obj "com/example/gapless_log/gaplesslog/tree/Ascent" [("node", "J", (.long nv)), ("last", "J", (.long lv))]) :: Rst)
set_option maxRecDepth 65536 in
set_option maxHeartbeats 40000000 in
theorem rm9 (l : Launch) (Z : State) (a0 : Array Value) (hw : ∀ d ∈ tables_1, d.before a0 Z = true) (ws : List Jvm.Cond) (ax : Addr) (nv : Int64) (lv : Int64) (h0 : Heap) (n0 : Nat) (Rst : RL) (R0 : Rep Z n0 h0 ((ax, Obj "com/example/gapless_log/gaplesslog/tree/Ascent" [("node", "J", (.long nv)), ("last", "J", (.long lv))]) :: Rst)) :
    MetFree l (⟨"com/example/gapless_log/gaplesslog/tree/Ascent", "atRoot", "()Z"⟩ : MethodName) (head1 (Jvm.Cond.code (⟨"com/example/gapless_log/gaplesslog/tree/Ascent", "atRoot", "()Z"⟩ : MethodName) prog_33_method_2_code 1 (some .boolean) :: ws) ({ frames := 0, cells := 0, slots := 0, locals := 0 } : Room)) (fun a U => a = #[(.ref ax)] ∧ Z.Warmed39 U.vm ∧ U.heap = h0) (fun _ _ _ _ _ => True) (fun _ U o U' => ∃ v L, o = .returned v ∧ Q9 Z ax nv lv n0 Rst v U'.heap L ∧ FrameEnd U o U' L ({ frames := 0, cells := 0, slots := 0, locals := 0 } : Room).cells ({ frames := 0, cells := 0, slots := 0, locals := 0 } : Room).slots) := by
  refine MetFree.of_bodySF (plainFor_of_name pn_com_example_gapless_log_gaplesslog_tree_Ascent) hisR ?_
  intro p e s m args below meth c s₁ Bd hml0 hP hK
  obtain ⟨rfl, hZ, hh⟩ := hP
  have hx := Bd.exec
  have hby := Bd.bytes
  have hml : c.maxLocals = 1 := hml0
  have hown : s.vm.findClass "com/example/gapless_log/gaplesslog/tree/Ascent" = some m.cls := findClass_of_methodNamed Bd.named
  have hnm := (name_of_methodNamed Bd.named Bd.method).1
  have X0 : Stand p l e ({ frames := 0, cells := 0, slots := 0, locals := 0 } : Room) s m #[(.ref ax)] below meth c s₁ [] 0 0 := Stand.of_body Bd
  have e0 : s₁.heap = h0 := by rw [← hh, Bd.state]; rfl
  have N0 := Fr.nil n0
  have pre0 : ∀ t, Steps p.tables e below (s₁.setTop (mkF m 0 #[.val (.ref ax)] [])) t → Steps p.tables e below (s₁.setTop (entryFrame m #[(.ref ax)] 1)) t := fun t k => castTop (ef_9 m ax) k
  have pre1 : ∀ t, Steps p.tables e below (s₁.setTop (mkF m 1 #[.val (.ref ax)] [(.ref ax)])) t → Steps p.tables e below (s₁.setTop (entryFrame m #[(.ref ax)] 1)) t := fun t k => pre0 t (by
    show Steps p.tables e below (s₁.setTop (mkF m 0 #[.val (.ref ax)] [])) _
    refine XS.aloadN X0.here hx rfl (hb hby d9_0) rfl rfl ?_
    exact k)
  obtain ⟨T2, X2, e2, st2⟩ := gGet X0 hx hZ hown (host := "") (Or.inl (hw _ (List.mem_of_getElem? (i := 48) rfl))) e0 R0 0 1 rfl rfl (g := (mkF m 1 #[.val (.ref ax)] [(.ref ax)])) rfl rfl (hb hby d9_1)
  have pre3 : ∀ t, Steps p.tables e below (T2.setTop (mkF m 4 #[.val (.ref ax)] [(.long lv)])) t → Steps p.tables e below (s₁.setTop (entryFrame m #[(.ref ax)] 1)) t := fun t k => pre1 t (st2 t k)
  have pre6 : ∀ t, Steps p.tables e below (T2.setTop (mkF m 6 #[.val (.ref ax)] [(.int (XT.cmpL lv (0 : Int64)))])) t → Steps p.tables e below (s₁.setTop (entryFrame m #[(.ref ax)] 1)) t := fun t k => pre3 t (by
    show Steps p.tables e below (T2.setTop (mkF m 4 #[.val (.ref ax)] [(.long lv)])) _
    refine XS.lconst X2.here hx rfl (hb hby d9_4) ?_
    refine XS.lcmp X2.here hx rfl (hb hby d9_5) rfl ?_
    exact k)
  have tl5 : ∀ t, Steps p.tables e below (T2.setTop (mkF m 14 #[.val (.ref ax)] [(.int (bz (lv = (0 : Int64))))])) t → Steps p.tables e below (T2.setTop (mkF m 6 #[.val (.ref ax)] [(.int (XT.cmpL lv (0 : Int64)))])) t := fun t k => by
    by_cases hb4 : lv = (0 : Int64)
    · refine XS.ifNo X2.here hx rfl (hb hby d9_6) rfl (XT.ll_ne_f hb4) ?_
      rw [bz_one (P := (lv = (0 : Int64))) (iff_true_intro hb4)] at k
      show Steps p.tables e below (T2.setTop (mkF m 9 #[.val (.ref ax)] [])) _
      refine XS.iconst X2.here hx rfl (hb hby d9_9) ?_
      refine XS.goto X2.here hx rfl (pc0 := 10) (pc' := 14) rfl (hb hby d9_10) (by decide) (by decide) ?_
      exact k
    · refine XS.ifYes X2.here hx rfl (pc0 := 6) (pc' := 13) rfl (hb hby d9_6) rfl (XT.ll_ne_t hb4) (by decide) (by decide) ?_
      rw [bz_zero (P := (lv = (0 : Int64))) (iff_false_intro hb4)] at k
      show Steps p.tables e below (T2.setTop (mkF m 13 #[.val (.ref ax)] [])) _
      refine XS.iconst X2.here hx rfl (hb hby d9_13) ?_
      exact k
  have pre7 : ∀ t, Steps p.tables e below (T2.setTop (mkF m 14 #[.val (.ref ax)] [(.int (bz (lv = (0 : Int64))))])) t → Steps p.tables e below (s₁.setTop (entryFrame m #[(.ref ax)] 1)) t := fun t k => pre6 t (by
    exact tl5 t k)
  obtain ⟨fs, hr, hrun, hended, hW, hsame⟩ := X2.leave (v := some (.int (nar .boolean (bz (lv = (0 : Int64)))))) (fun h => by rw [Bd.returns] at h; cases h)
  refine ⟨_, _, pre7 _ ?_, hrun, hended, _, _, rfl, ?_, ⟨_, rfl⟩, hW, hsame.mono (by decide) (by decide)⟩
  · show Steps p.tables e below (T2.setTop (mkF m 14 #[.val (.ref ax)] [(.int (bz (lv = (0 : Int64))))])) _
    exact retN X2 hx (t := .boolean) Bd.returns (by simp) (hb hby d9_14) hr
  · show Q9 Z ax nv lv n0 Rst _ T2.heap _
    rw [e2]
    exact ⟨(by exact congrArg (fun z => some (Value.int z)) (by simp only [F9] <;> first | rfl | exact nar_b _ | decide)), N0, R0⟩
theorem d10_7 : decode prog_33_method_4_code 7 = .ok (.aload_n 0, 1) := by decide +kernel
theorem d10_8 : decode prog_33_method_4_code 8 = .ok (.getfield 22, 3) := by decide +kernel
theorem d10_11 : decode prog_33_method_4_code 11 = .ok (.lconst 1, 1) := by decide +kernel
theorem d10_12 : decode prog_33_method_4_code 12 = .ok (.land, 1) := by decide +kernel
theorem d10_13 : decode prog_33_method_4_code 13 = .ok (.lconst 0, 1) := by decide +kernel
theorem d10_14 : decode prog_33_method_4_code 14 = .ok (.lcmp, 1) := by decide +kernel
theorem d10_15 : decode prog_33_method_4_code 15 = .ok (.ifCond .ne 35, 3) := by decide +kernel
theorem d10_18 : decode prog_33_method_4_code 18 = .ok (.aload_n 0, 1) := by decide +kernel
theorem d10_19 : decode prog_33_method_4_code 19 = .ok (.getfield 22, 3) := by decide +kernel
theorem d10_22 : decode prog_33_method_4_code 22 = .ok (.lconst 0, 1) := by decide +kernel
theorem d10_23 : decode prog_33_method_4_code 23 = .ok (.lcmp, 1) := by decide +kernel
theorem d10_24 : decode prog_33_method_4_code 24 = .ok (.ifCond .eq 26, 3) := by decide +kernel
theorem d10_27 : decode prog_33_method_4_code 27 = .ok (.aload_n 0, 1) := by decide +kernel
theorem d10_28 : decode prog_33_method_4_code 28 = .ok (.dup, 1) := by decide +kernel
theorem d10_29 : decode prog_33_method_4_code 29 = .ok (.getfield 22, 3) := by decide +kernel
theorem d10_32 : decode prog_33_method_4_code 32 = .ok (.iconst 1, 1) := by decide +kernel
theorem d10_33 : decode prog_33_method_4_code 33 = .ok (.lushr, 1) := by decide +kernel
theorem d10_34 : decode prog_33_method_4_code 34 = .ok (.putfield 22, 3) := by decide +kernel
theorem d10_37 : decode prog_33_method_4_code 37 = .ok (.aload_n 0, 1) := by decide +kernel
theorem d10_38 : decode prog_33_method_4_code 38 = .ok (.dup, 1) := by decide +kernel
theorem d10_39 : decode prog_33_method_4_code 39 = .ok (.getfield 28, 3) := by decide +kernel
theorem d10_42 : decode prog_33_method_4_code 42 = .ok (.iconst 1, 1) := by decide +kernel
theorem d10_43 : decode prog_33_method_4_code 43 = .ok (.lushr, 1) := by decide +kernel
theorem d10_44 : decode prog_33_method_4_code 44 = .ok (.putfield 28, 3) := by decide +kernel
theorem d10_47 : decode prog_33_method_4_code 47 = .ok (.goto (-40), 3) := by decide +kernel
set_option maxRecDepth 65536 in
set_option maxHeartbeats 40000000 in
theorem cl_turn {p : Program} {l : Launch} {e : Env} {R : Room} {s : State} {m : MethodId} {args : Array Value} {below : List Frame} {meth : Method} {c : Code} {T0 : State} {locs : List Loc} {cells slots : Nat} {Z : State} {a0 : Array Value} {h0 : Heap} {n0 : Nat} {Rst : RL} (ax : Addr) (nv : Int64) (lv : Int64)
    (X0 : Stand p l e R s m args below meth c T0 locs cells slots) (hx : p.tables.exec = Jvm.exec) (hZ : Z.Warmed39 s.vm) (hw : ∀ d ∈ tables_1, d.before a0 Z = true) (hby : c.code = prog_33_method_4_code) (hml : c.maxLocals = 1) (hown : s.vm.findClass "com/example/gapless_log/gaplesslog/tree/Ascent" = some m.cls) (e0 : T0.heap = h0) (N0 : Fr n0 locs) (R0 : Rep Z n0 h0 ((ax, Obj "com/example/gapless_log/gaplesslog/tree/Ascent" [("node", "J", (.long nv)), ("last", "J", (.long lv))]) :: Rst)) (hc1 : (nv &&& (1 : Int64)) = (0 : Int64)) (hc2 : ¬ (nv = (0 : Int64))) :
    ∃ (T' : State) (h' : Heap) (locs' : List Loc), Stand p l e R s m args below meth c T' locs' cells slots ∧ T'.heap = h' ∧ Fr n0 locs' ∧ Rep Z n0 h' ((ax, Obj "com/example/gapless_log/gaplesslog/tree/Ascent" [("node", "J", (.long (lushr nv (1 : Int32)))), ("last", "J", (.long (lushr lv (1 : Int32))))]) :: Rst) ∧ ∀ t, Steps p.tables e below (T'.setTop (mkF m 7 #[.val (.ref ax)] [])) t → Steps p.tables e below (T0.setTop (mkF m 7 #[.val (.ref ax)] [])) t := by
  have pre0 : ∀ t, Steps p.tables e below (T0.setTop (mkF m 7 #[.val (.ref ax)] [])) t → Steps p.tables e below (T0.setTop (mkF m 7 #[.val (.ref ax)] [])) t := fun t k => k
  have pre1 : ∀ t, Steps p.tables e below (T0.setTop (mkF m 8 #[.val (.ref ax)] [(.ref ax)])) t → Steps p.tables e below (T0.setTop (mkF m 7 #[.val (.ref ax)] [])) t := fun t k => pre0 t (by
    show Steps p.tables e below (T0.setTop (mkF m 7 #[.val (.ref ax)] [])) _
    refine XS.aloadN X0.here hx rfl (hb hby d10_7) rfl rfl ?_
    exact k)
  obtain ⟨T2, X2, e2, st2⟩ := gGet X0 hx hZ hown (host := "") (Or.inl (hw _ (List.mem_of_getElem? (i := 46) rfl))) e0 R0 0 0 rfl rfl (g := (mkF m 8 #[.val (.ref ax)] [(.ref ax)])) rfl rfl (hb hby d10_8)
  have pre3 : ∀ t, Steps p.tables e below (T2.setTop (mkF m 11 #[.val (.ref ax)] [(.long nv)])) t → Steps p.tables e below (T0.setTop (mkF m 7 #[.val (.ref ax)] [])) t := fun t k => pre1 t (st2 t k)
  have pre5 : ∀ t, Steps p.tables e below (T2.setTop (mkF m 15 #[.val (.ref ax)] [(.int (XT.cmpL (nv &&& (1 : Int64)) (0 : Int64)))])) t → Steps p.tables e below (T0.setTop (mkF m 7 #[.val (.ref ax)] [])) t := fun t k => pre3 t (by
    show Steps p.tables e below (T2.setTop (mkF m 11 #[.val (.ref ax)] [(.long nv)])) _
    refine XS.lconst X2.here hx rfl (hb hby d10_11) ?_
    refine XS.land X2.here hx rfl (hb hby d10_12) rfl ?_
    refine XS.lconst X2.here hx rfl (hb hby d10_13) ?_
    refine XS.lcmp X2.here hx rfl (hb hby d10_14) rfl ?_
    exact k)
  have hb4 : (nv &&& (1 : Int64)) = (0 : Int64) := hc1
  have pre6 : ∀ t, Steps p.tables e below (T2.setTop (mkF m 19 #[.val (.ref ax)] [(.ref ax)])) t → Steps p.tables e below (T0.setTop (mkF m 7 #[.val (.ref ax)] [])) t := fun t k => pre5 t (by
    show Steps p.tables e below (T2.setTop (mkF m 15 #[.val (.ref ax)] [(.int (XT.cmpL (nv &&& (1 : Int64)) (0 : Int64)))])) _
    refine XS.ifNo X2.here hx rfl (hb hby d10_15) rfl (XT.ll_ne_f hb4) ?_
    refine XS.aloadN X2.here hx rfl (hb hby d10_18) rfl rfl ?_
    exact k)
  obtain ⟨T7, X7, e7, st7⟩ := gGet X2 hx hZ hown (host := "") (Or.inl (hw _ (List.mem_of_getElem? (i := 46) rfl))) e2 R0 0 0 rfl rfl (g := (mkF m 19 #[.val (.ref ax)] [(.ref ax)])) rfl rfl (hb hby d10_19)
  have pre8 : ∀ t, Steps p.tables e below (T7.setTop (mkF m 22 #[.val (.ref ax)] [(.long nv)])) t → Steps p.tables e below (T0.setTop (mkF m 7 #[.val (.ref ax)] [])) t := fun t k => pre6 t (st7 t k)
  have pre10 : ∀ t, Steps p.tables e below (T7.setTop (mkF m 24 #[.val (.ref ax)] [(.int (XT.cmpL nv (0 : Int64)))])) t → Steps p.tables e below (T0.setTop (mkF m 7 #[.val (.ref ax)] [])) t := fun t k => pre8 t (by
    show Steps p.tables e below (T7.setTop (mkF m 22 #[.val (.ref ax)] [(.long nv)])) _
    refine XS.lconst X7.here hx rfl (hb hby d10_22) ?_
    refine XS.lcmp X7.here hx rfl (hb hby d10_23) rfl ?_
    exact k)
  have hb9 : ¬ (nv = (0 : Int64)) := hc2
  have pre11 : ∀ t, Steps p.tables e below (T7.setTop (mkF m 29 #[.val (.ref ax)] [(.ref ax), (.ref ax)])) t → Steps p.tables e below (T0.setTop (mkF m 7 #[.val (.ref ax)] [])) t := fun t k => pre10 t (by
    show Steps p.tables e below (T7.setTop (mkF m 24 #[.val (.ref ax)] [(.int (XT.cmpL nv (0 : Int64)))])) _
    refine XS.ifNo X7.here hx rfl (hb hby d10_24) rfl (XT.ll_eq_f hb9) ?_
    refine XS.aloadN X7.here hx rfl (hb hby d10_27) rfl rfl ?_
    refine XS.dup X7.here hx rfl (hb hby d10_28) rfl rfl ?_
    exact k)
  obtain ⟨T12, X12, e12, st12⟩ := gGet X7 hx hZ hown (host := "") (Or.inl (hw _ (List.mem_of_getElem? (i := 46) rfl))) e7 R0 0 0 rfl rfl (g := (mkF m 29 #[.val (.ref ax)] [(.ref ax), (.ref ax)])) rfl rfl (hb hby d10_29)
  have pre13 : ∀ t, Steps p.tables e below (T12.setTop (mkF m 32 #[.val (.ref ax)] [(.long nv), (.ref ax)])) t → Steps p.tables e below (T0.setTop (mkF m 7 #[.val (.ref ax)] [])) t := fun t k => pre11 t (st12 t k)
  have pre14 : ∀ t, Steps p.tables e below (T12.setTop (mkF m 34 #[.val (.ref ax)] [(.long (lushr nv (1 : Int32))), (.ref ax)])) t → Steps p.tables e below (T0.setTop (mkF m 7 #[.val (.ref ax)] [])) t := fun t k => pre13 t (by
    show Steps p.tables e below (T12.setTop (mkF m 32 #[.val (.ref ax)] [(.long nv), (.ref ax)])) _
    refine XS.iconst X12.here hx rfl (hb hby d10_32) ?_
    refine XS.lushr X12.here hx rfl (hb hby d10_33) rfl ?_
    exact k)
  obtain ⟨T15, h15, ls15, X15, e15, N15, R15, st15⟩ := gPut X12 hx hZ hown (host := "") (Or.inl (hw _ (List.mem_of_getElem? (i := 46) rfl))) e12 N0 R0 0 0 rfl rfl (Or.inl (hw _ (List.mem_of_getElem? (i := 47) rfl))) (hw _ (List.mem_of_getElem? (i := 3) rfl)) (ty := .long) (by decide) rfl rfl (g := (mkF m 34 #[.val (.ref ax)] [(.long (lushr nv (1 : Int32))), (.ref ax)])) rfl rfl (hb hby d10_34)
  replace R15 : Rep Z n0 h15 ((ax, Obj "com/example/gapless_log/gaplesslog/tree/Ascent" [("node", "J", (.long (lushr nv (1 : Int32)))), ("last", "J", (.long lv))]) :: Rst) := R15
  have pre16 : ∀ t, Steps p.tables e below (T15.setTop (mkF m 37 #[.val (.ref ax)] [])) t → Steps p.tables e below (T0.setTop (mkF m 7 #[.val (.ref ax)] [])) t := fun t k => pre14 t (st15 t k)
  have pre17 : ∀ t, Steps p.tables e below (T15.setTop (mkF m 39 #[.val (.ref ax)] [(.ref ax), (.ref ax)])) t → Steps p.tables e below (T0.setTop (mkF m 7 #[.val (.ref ax)] [])) t := fun t k => pre16 t (by
    show Steps p.tables e below (T15.setTop (mkF m 37 #[.val (.ref ax)] [])) _
    refine XS.aloadN X15.here hx rfl (hb hby d10_37) rfl rfl ?_
    refine XS.dup X15.here hx rfl (hb hby d10_38) rfl rfl ?_
    exact k)
  obtain ⟨T18, X18, e18, st18⟩ := gGet X15 hx hZ hown (host := "") (Or.inl (hw _ (List.mem_of_getElem? (i := 48) rfl))) e15 R15 0 1 rfl rfl (g := (mkF m 39 #[.val (.ref ax)] [(.ref ax), (.ref ax)])) rfl rfl (hb hby d10_39)
  have pre19 : ∀ t, Steps p.tables e below (T18.setTop (mkF m 42 #[.val (.ref ax)] [(.long lv), (.ref ax)])) t → Steps p.tables e below (T0.setTop (mkF m 7 #[.val (.ref ax)] [])) t := fun t k => pre17 t (st18 t k)
  have pre20 : ∀ t, Steps p.tables e below (T18.setTop (mkF m 44 #[.val (.ref ax)] [(.long (lushr lv (1 : Int32))), (.ref ax)])) t → Steps p.tables e below (T0.setTop (mkF m 7 #[.val (.ref ax)] [])) t := fun t k => pre19 t (by
    show Steps p.tables e below (T18.setTop (mkF m 42 #[.val (.ref ax)] [(.long lv), (.ref ax)])) _
    refine XS.iconst X18.here hx rfl (hb hby d10_42) ?_
    refine XS.lushr X18.here hx rfl (hb hby d10_43) rfl ?_
    exact k)
  obtain ⟨T21, h21, ls21, X21, e21, N21, R21, st21⟩ := gPut X18 hx hZ hown (host := "") (Or.inl (hw _ (List.mem_of_getElem? (i := 48) rfl))) e18 N15 R15 0 1 rfl rfl (Or.inl (hw _ (List.mem_of_getElem? (i := 49) rfl))) (hw _ (List.mem_of_getElem? (i := 3) rfl)) (ty := .long) (by decide) rfl rfl (g := (mkF m 44 #[.val (.ref ax)] [(.long (lushr lv (1 : Int32))), (.ref ax)])) rfl rfl (hb hby d10_44)
  replace R21 : Rep Z n0 h21 ((ax, Obj "com/example/gapless_log/gaplesslog/tree/Ascent" [("node", "J", (.long (lushr nv (1 : Int32)))), ("last", "J", (.long (lushr lv (1 : Int32))))]) :: Rst) := R21
  have pre22 : ∀ t, Steps p.tables e below (T21.setTop (mkF m 47 #[.val (.ref ax)] [])) t → Steps p.tables e below (T0.setTop (mkF m 7 #[.val (.ref ax)] [])) t := fun t k => pre20 t (st21 t k)
  have pre23 : ∀ t, Steps p.tables e below (T21.setTop (mkF m 7 #[.val (.ref ax)] [])) t → Steps p.tables e below (T0.setTop (mkF m 7 #[.val (.ref ax)] [])) t := fun t k => pre22 t (by
    show Steps p.tables e below (T21.setTop (mkF m 47 #[.val (.ref ax)] [])) _
    refine XS.goto X21.here hx rfl (pc0 := 47) (pc' := 7) rfl (hb hby d10_47) (by decide) (by decide) ?_
    exact k)
  exact ⟨T21, h21, _, X21, e21, N21, R21, pre23⟩
set_option maxRecDepth 65536 in
set_option maxHeartbeats 40000000 in
theorem cl_odd {p : Program} {l : Launch} {e : Env} {R : Room} {s : State} {m : MethodId} {args : Array Value} {below : List Frame} {meth : Method} {c : Code} {T0 : State} {locs : List Loc} {cells slots : Nat} {Z : State} {a0 : Array Value} {h0 : Heap} {n0 : Nat} {Rst : RL} (ax : Addr) (nv : Int64) (lv : Int64)
    (X0 : Stand p l e R s m args below meth c T0 locs cells slots) (hx : p.tables.exec = Jvm.exec) (hZ : Z.Warmed39 s.vm) (hw : ∀ d ∈ tables_1, d.before a0 Z = true) (hby : c.code = prog_33_method_4_code) (hml : c.maxLocals = 1) (hown : s.vm.findClass "com/example/gapless_log/gaplesslog/tree/Ascent" = some m.cls) (e0 : T0.heap = h0) (N0 : Fr n0 locs) (R0 : Rep Z n0 h0 ((ax, Obj "com/example/gapless_log/gaplesslog/tree/Ascent" [("node", "J", (.long nv)), ("last", "J", (.long lv))]) :: Rst)) (hc1 : ¬ ((nv &&& (1 : Int64)) = (0 : Int64))) :
    ∃ (T' : State) (h' : Heap) (locs' : List Loc), Stand p l e R s m args below meth c T' locs' cells slots ∧ T'.heap = h' ∧ Fr n0 locs' ∧ Rep Z n0 h' ((ax, Obj "com/example/gapless_log/gaplesslog/tree/Ascent" [("node", "J", (.long nv)), ("last", "J", (.long lv))]) :: Rst) ∧ ∀ t, Steps p.tables e below (T'.setTop (mkF m 50 #[.val (.ref ax)] [])) t → Steps p.tables e below (T0.setTop (mkF m 7 #[.val (.ref ax)] [])) t := by
  have pre0 : ∀ t, Steps p.tables e below (T0.setTop (mkF m 7 #[.val (.ref ax)] [])) t → Steps p.tables e below (T0.setTop (mkF m 7 #[.val (.ref ax)] [])) t := fun t k => k
  have pre1 : ∀ t, Steps p.tables e below (T0.setTop (mkF m 8 #[.val (.ref ax)] [(.ref ax)])) t → Steps p.tables e below (T0.setTop (mkF m 7 #[.val (.ref ax)] [])) t := fun t k => pre0 t (by
    show Steps p.tables e below (T0.setTop (mkF m 7 #[.val (.ref ax)] [])) _
    refine XS.aloadN X0.here hx rfl (hb hby d10_7) rfl rfl ?_
    exact k)
  obtain ⟨T2, X2, e2, st2⟩ := gGet X0 hx hZ hown (host := "") (Or.inl (hw _ (List.mem_of_getElem? (i := 46) rfl))) e0 R0 0 0 rfl rfl (g := (mkF m 8 #[.val (.ref ax)] [(.ref ax)])) rfl rfl (hb hby d10_8)
  have pre3 : ∀ t, Steps p.tables e below (T2.setTop (mkF m 11 #[.val (.ref ax)] [(.long nv)])) t → Steps p.tables e below (T0.setTop (mkF m 7 #[.val (.ref ax)] [])) t := fun t k => pre1 t (st2 t k)
  have pre5 : ∀ t, Steps p.tables e below (T2.setTop (mkF m 15 #[.val (.ref ax)] [(.int (XT.cmpL (nv &&& (1 : Int64)) (0 : Int64)))])) t → Steps p.tables e below (T0.setTop (mkF m 7 #[.val (.ref ax)] [])) t := fun t k => pre3 t (by
    show Steps p.tables e below (T2.setTop (mkF m 11 #[.val (.ref ax)] [(.long nv)])) _
    refine XS.lconst X2.here hx rfl (hb hby d10_11) ?_
    refine XS.land X2.here hx rfl (hb hby d10_12) rfl ?_
    refine XS.lconst X2.here hx rfl (hb hby d10_13) ?_
    refine XS.lcmp X2.here hx rfl (hb hby d10_14) rfl ?_
    exact k)
  have hb4 : ¬ ((nv &&& (1 : Int64)) = (0 : Int64)) := hc1
  have pre6 : ∀ t, Steps p.tables e below (T2.setTop (mkF m 50 #[.val (.ref ax)] [])) t → Steps p.tables e below (T0.setTop (mkF m 7 #[.val (.ref ax)] [])) t := fun t k => pre5 t (by
    show Steps p.tables e below (T2.setTop (mkF m 15 #[.val (.ref ax)] [(.int (XT.cmpL (nv &&& (1 : Int64)) (0 : Int64)))])) _
    refine XS.ifYes X2.here hx rfl (pc0 := 15) (pc' := 50) rfl (hb hby d10_15) rfl (XT.ll_ne_t hb4) (by decide) (by decide) ?_
    exact k)
  exact ⟨T2, h0, _, X2, e2, N0, R0, pre6⟩
set_option maxRecDepth 65536 in
set_option maxHeartbeats 40000000 in
theorem cl_zero {p : Program} {l : Launch} {e : Env} {R : Room} {s : State} {m : MethodId} {args : Array Value} {below : List Frame} {meth : Method} {c : Code} {T0 : State} {locs : List Loc} {cells slots : Nat} {Z : State} {a0 : Array Value} {h0 : Heap} {n0 : Nat} {Rst : RL} (ax : Addr) (nv : Int64) (lv : Int64)
    (X0 : Stand p l e R s m args below meth c T0 locs cells slots) (hx : p.tables.exec = Jvm.exec) (hZ : Z.Warmed39 s.vm) (hw : ∀ d ∈ tables_1, d.before a0 Z = true) (hby : c.code = prog_33_method_4_code) (hml : c.maxLocals = 1) (hown : s.vm.findClass "com/example/gapless_log/gaplesslog/tree/Ascent" = some m.cls) (e0 : T0.heap = h0) (N0 : Fr n0 locs) (R0 : Rep Z n0 h0 ((ax, Obj "com/example/gapless_log/gaplesslog/tree/Ascent" [("node", "J", (.long nv)), ("last", "J", (.long lv))]) :: Rst)) (hc1 : (nv &&& (1 : Int64)) = (0 : Int64)) (hc2 : nv = (0 : Int64)) :
    ∃ (T' : State) (h' : Heap) (locs' : List Loc), Stand p l e R s m args below meth c T' locs' cells slots ∧ T'.heap = h' ∧ Fr n0 locs' ∧ Rep Z n0 h' ((ax, Obj "com/example/gapless_log/gaplesslog/tree/Ascent" [("node", "J", (.long nv)), ("last", "J", (.long lv))]) :: Rst) ∧ ∀ t, Steps p.tables e below (T'.setTop (mkF m 50 #[.val (.ref ax)] [])) t → Steps p.tables e below (T0.setTop (mkF m 7 #[.val (.ref ax)] [])) t := by
  have pre0 : ∀ t, Steps p.tables e below (T0.setTop (mkF m 7 #[.val (.ref ax)] [])) t → Steps p.tables e below (T0.setTop (mkF m 7 #[.val (.ref ax)] [])) t := fun t k => k
  have pre1 : ∀ t, Steps p.tables e below (T0.setTop (mkF m 8 #[.val (.ref ax)] [(.ref ax)])) t → Steps p.tables e below (T0.setTop (mkF m 7 #[.val (.ref ax)] [])) t := fun t k => pre0 t (by
    show Steps p.tables e below (T0.setTop (mkF m 7 #[.val (.ref ax)] [])) _
    refine XS.aloadN X0.here hx rfl (hb hby d10_7) rfl rfl ?_
    exact k)
  obtain ⟨T2, X2, e2, st2⟩ := gGet X0 hx hZ hown (host := "") (Or.inl (hw _ (List.mem_of_getElem? (i := 46) rfl))) e0 R0 0 0 rfl rfl (g := (mkF m 8 #[.val (.ref ax)] [(.ref ax)])) rfl rfl (hb hby d10_8)
  have pre3 : ∀ t, Steps p.tables e below (T2.setTop (mkF m 11 #[.val (.ref ax)] [(.long nv)])) t → Steps p.tables e below (T0.setTop (mkF m 7 #[.val (.ref ax)] [])) t := fun t k => pre1 t (st2 t k)
  have pre5 : ∀ t, Steps p.tables e below (T2.setTop (mkF m 15 #[.val (.ref ax)] [(.int (XT.cmpL (nv &&& (1 : Int64)) (0 : Int64)))])) t → Steps p.tables e below (T0.setTop (mkF m 7 #[.val (.ref ax)] [])) t := fun t k => pre3 t (by
    show Steps p.tables e below (T2.setTop (mkF m 11 #[.val (.ref ax)] [(.long nv)])) _
    refine XS.lconst X2.here hx rfl (hb hby d10_11) ?_
    refine XS.land X2.here hx rfl (hb hby d10_12) rfl ?_
    refine XS.lconst X2.here hx rfl (hb hby d10_13) ?_
    refine XS.lcmp X2.here hx rfl (hb hby d10_14) rfl ?_
    exact k)
  have hb4 : (nv &&& (1 : Int64)) = (0 : Int64) := hc1
  have pre6 : ∀ t, Steps p.tables e below (T2.setTop (mkF m 19 #[.val (.ref ax)] [(.ref ax)])) t → Steps p.tables e below (T0.setTop (mkF m 7 #[.val (.ref ax)] [])) t := fun t k => pre5 t (by
    show Steps p.tables e below (T2.setTop (mkF m 15 #[.val (.ref ax)] [(.int (XT.cmpL (nv &&& (1 : Int64)) (0 : Int64)))])) _
    refine XS.ifNo X2.here hx rfl (hb hby d10_15) rfl (XT.ll_ne_f hb4) ?_
    refine XS.aloadN X2.here hx rfl (hb hby d10_18) rfl rfl ?_
    exact k)
  obtain ⟨T7, X7, e7, st7⟩ := gGet X2 hx hZ hown (host := "") (Or.inl (hw _ (List.mem_of_getElem? (i := 46) rfl))) e2 R0 0 0 rfl rfl (g := (mkF m 19 #[.val (.ref ax)] [(.ref ax)])) rfl rfl (hb hby d10_19)
  have pre8 : ∀ t, Steps p.tables e below (T7.setTop (mkF m 22 #[.val (.ref ax)] [(.long nv)])) t → Steps p.tables e below (T0.setTop (mkF m 7 #[.val (.ref ax)] [])) t := fun t k => pre6 t (st7 t k)
  have pre10 : ∀ t, Steps p.tables e below (T7.setTop (mkF m 24 #[.val (.ref ax)] [(.int (XT.cmpL nv (0 : Int64)))])) t → Steps p.tables e below (T0.setTop (mkF m 7 #[.val (.ref ax)] [])) t := fun t k => pre8 t (by
    show Steps p.tables e below (T7.setTop (mkF m 22 #[.val (.ref ax)] [(.long nv)])) _
    refine XS.lconst X7.here hx rfl (hb hby d10_22) ?_
    refine XS.lcmp X7.here hx rfl (hb hby d10_23) rfl ?_
    exact k)
  have hb9 : nv = (0 : Int64) := hc2
  have pre11 : ∀ t, Steps p.tables e below (T7.setTop (mkF m 50 #[.val (.ref ax)] [])) t → Steps p.tables e below (T0.setTop (mkF m 7 #[.val (.ref ax)] [])) t := fun t k => pre10 t (by
    show Steps p.tables e below (T7.setTop (mkF m 24 #[.val (.ref ax)] [(.int (XT.cmpL nv (0 : Int64)))])) _
    refine XS.ifYes X7.here hx rfl (pc0 := 24) (pc' := 50) rfl (hb hby d10_24) rfl (XT.ll_eq_t hb9) (by decide) (by decide) ?_
    exact k)
  exact ⟨T7, h0, _, X7, e7, N0, R0, pre11⟩
/-- climb's loop: the pair (node, last), halved while node is even and not 0 -/
def cl : Nat → Int64 → Int64 → Int64 × Int64
  | 0, n, l => (n, l)
  | k + 1, n, l => if (n &&& (1 : Int64)) = (0 : Int64) ∧ ¬ (n = (0 : Int64)) then cl k (lushr n (1 : Int32)) (lushr l (1 : Int32)) else (n, l)
theorem own_half {nv : Int64} {k : Nat} (h : nv.toBitVec.toNat < 2 ^ (k + 1)) : (lushr nv (1 : Int32)).toBitVec.toNat < 2 ^ k := by
  have e : (lushr nv (1 : Int32)).toBitVec = nv.toBitVec >>> 1 := rfl
  rw [e, BitVec.toNat_ushiftRight, Nat.shiftRight_eq_div_pow]
  omega
theorem cl_loop {p : Program} {l : Launch} {e : Env} {R : Room} {s : State} {m : MethodId} {args : Array Value} {below : List Frame} {meth : Method} {c : Code} {cells slots : Nat} {Z : State} {a0 : Array Value} {n0 : Nat} {Rst : RL} (ax : Addr) (hx : p.tables.exec = Jvm.exec) (hZ : Z.Warmed39 s.vm) (hw : ∀ d ∈ tables_1, d.before a0 Z = true) (hby : c.code = prog_33_method_4_code) (hml : c.maxLocals = 1) (hown : s.vm.findClass "com/example/gapless_log/gaplesslog/tree/Ascent" = some m.cls) :
    ∀ (k : Nat) (nv lv : Int64) (T0 : State) (locs : List Loc) (h0 : Heap), nv.toBitVec.toNat < 2 ^ k → Stand p l e R s m args below meth c T0 locs cells slots → T0.heap = h0 → Fr n0 locs → Rep Z n0 h0 ((ax, Obj "com/example/gapless_log/gaplesslog/tree/Ascent" [("node", "J", .long nv), ("last", "J", .long lv)]) :: Rst) →
      ∃ (T' : State) (h' : Heap) (locs' : List Loc), Stand p l e R s m args below meth c T' locs' cells slots ∧ T'.heap = h' ∧ Fr n0 locs' ∧ Rep Z n0 h' ((ax, Obj "com/example/gapless_log/gaplesslog/tree/Ascent" [("node", "J", .long (cl k nv lv).1), ("last", "J", .long (cl k nv lv).2)]) :: Rst) ∧ ∀ t, Steps p.tables e below (T'.setTop (mkF m 50 #[.val (.ref ax)] [])) t → Steps p.tables e below (T0.setTop (mkF m 7 #[.val (.ref ax)] [])) t := by
  intro k
  induction k with
  | zero =>
    intro nv lv T0 locs h0 hk X0 e0 N0 R0
    have z : nv = (0 : Int64) := by
      apply Int64.toBitVec_inj.mp
      apply BitVec.eq_of_toNat_eq
      have : nv.toBitVec.toNat = 0 := by omega
      rw [this]; rfl
    subst z
    exact cl_zero ax _ lv X0 hx hZ hw hby hml hown e0 N0 R0 (show ((0 : Int64) &&& (1 : Int64)) = (0 : Int64) by decide) rfl
  | succ k ih =>
    intro nv lv T0 locs h0 hk X0 e0 N0 R0
    by_cases hc1 : (nv &&& (1 : Int64)) = (0 : Int64)
    · by_cases hc2 : nv = (0 : Int64)
      · have q : cl (k + 1) nv lv = (nv, lv) := if_neg fun z => z.2 hc2
        rw [q]
        exact cl_zero ax nv lv X0 hx hZ hw hby hml hown e0 N0 R0 hc1 hc2
      · have q : cl (k + 1) nv lv = cl k (lushr nv (1 : Int32)) (lushr lv (1 : Int32)) := if_pos ⟨hc1, hc2⟩
        rw [q]
        obtain ⟨T1, h1, ls1, X1, e1, N1, R1, st1⟩ := cl_turn ax nv lv X0 hx hZ hw hby hml hown e0 N0 R0 hc1 hc2
        obtain ⟨T2, h2, ls2, X2, e2, N2, R2, st2⟩ := ih _ _ T1 ls1 h1 (own_half hk) X1 e1 N1 R1
        exact ⟨T2, h2, ls2, X2, e2, N2, R2, fun t q => st1 t (st2 t q)⟩
    · have q : cl (k + 1) nv lv = (nv, lv) := if_neg fun z => hc1 z.1
      rw [q]
      exact cl_odd ax nv lv X0 hx hZ hw hby hml hown e0 N0 R0 hc1
def cN (n l : Int64) : Int64 := if (F11 n l) = (0 : Int32) then (lushr n (1 : Int32)) else (lushr (cl 64 n l).1 (1 : Int32))
def cL (n l : Int64) : Int64 := if (F11 n l) = (0 : Int32) then (lushr l (1 : Int32)) else (lushr (cl 64 n l).2 (1 : Int32))
theorem d10_0 : decode prog_33_method_4_code 0 = .ok (.aload_n 0, 1) := by decide +kernel
theorem d10_1 : decode prog_33_method_4_code 1 = .ok (.invokevirtual 31, 3) := by decide +kernel
theorem pd__28_29Z : parseMethodDescriptor "()Z" = some ⟨[], some .boolean⟩ := by decide +kernel
theorem d10_4 : decode prog_33_method_4_code 4 = .ok (.ifCond .eq 46, 3) := by decide +kernel
theorem d10_50 : decode prog_33_method_4_code 50 = .ok (.aload_n 0, 1) := by decide +kernel
theorem d10_51 : decode prog_33_method_4_code 51 = .ok (.dup, 1) := by decide +kernel
theorem d10_52 : decode prog_33_method_4_code 52 = .ok (.getfield 22, 3) := by decide +kernel
theorem d10_55 : decode prog_33_method_4_code 55 = .ok (.iconst 1, 1) := by decide +kernel
theorem d10_56 : decode prog_33_method_4_code 56 = .ok (.lushr, 1) := by decide +kernel
theorem d10_57 : decode prog_33_method_4_code 57 = .ok (.putfield 22, 3) := by decide +kernel
theorem d10_60 : decode prog_33_method_4_code 60 = .ok (.aload_n 0, 1) := by decide +kernel
theorem d10_61 : decode prog_33_method_4_code 61 = .ok (.dup, 1) := by decide +kernel
theorem d10_62 : decode prog_33_method_4_code 62 = .ok (.getfield 28, 3) := by decide +kernel
theorem d10_65 : decode prog_33_method_4_code 65 = .ok (.iconst 1, 1) := by decide +kernel
theorem d10_66 : decode prog_33_method_4_code 66 = .ok (.lushr, 1) := by decide +kernel
theorem d10_67 : decode prog_33_method_4_code 67 = .ok (.putfield 28, 3) := by decide +kernel
theorem d10_70 : decode prog_33_method_4_code 70 = .ok (.return_, 1) := by decide +kernel
theorem ef_10 (m : MethodId) (x0 : Addr) : entryFrame m #[(.ref x0)] 1 = mkF m 0 #[.val (.ref x0)] [] := by first | (simp [entryFrame, mkF, argsToLocals, Value.category]; done) | rfl
def Q10 (Z : State) (ax : Addr) (nv : Int64) (lv : Int64) (n0 : Nat) (Rst : RL) (v : Option Value) (h : Heap) (L : List Loc) : Prop := v = none ∧ Fr n0 L ∧ Rep Z n0 h ((ax, Obj "com/example/gapless_log/gaplesslog/tree/Ascent" [("node", "J", (.long (cN nv lv))), ("last", "J", (.long (cL nv lv)))]) :: Rst)
set_option maxRecDepth 65536 in
set_option maxHeartbeats 40000000 in
theorem rm10 (l : Launch) (Z : State) (a0 : Array Value) (hw : ∀ d ∈ tables_1, d.before a0 Z = true) (ws : List Jvm.Cond) (ax : Addr) (nv : Int64) (lv : Int64) (h0 : Heap) (n0 : Nat) (Rst : RL) (R0 : Rep Z n0 h0 ((ax, Obj "com/example/gapless_log/gaplesslog/tree/Ascent" [("node", "J", (.long nv)), ("last", "J", (.long lv))]) :: Rst)) :
    MetFree l (⟨"com/example/gapless_log/gaplesslog/tree/Ascent", "climb", "()V"⟩ : MethodName) (head1 (Jvm.Cond.code (⟨"com/example/gapless_log/gaplesslog/tree/Ascent", "climb", "()V"⟩ : MethodName) prog_33_method_4_code 1 none :: ws) ({ frames := 1, cells := 0, slots := 0, locals := 12 } : Room)) (fun a U => a = #[(.ref ax)] ∧ Z.Warmed39 U.vm ∧ U.heap = h0) (fun _ _ _ _ _ => True) (fun _ U o U' => ∃ v L, o = .returned v ∧ Q10 Z ax nv lv n0 Rst v U'.heap L ∧ FrameEnd U o U' L ({ frames := 1, cells := 0, slots := 0, locals := 12 } : Room).cells ({ frames := 1, cells := 0, slots := 0, locals := 12 } : Room).slots) := by
  refine MetFree.of_bodySF (plainFor_of_name pn_com_example_gapless_log_gaplesslog_tree_Ascent) hisR ?_
  intro p e s m args below meth c s₁ Bd hml0 hP hK
  obtain ⟨rfl, hZ, hh⟩ := hP
  have hx := Bd.exec
  have hby := Bd.bytes
  have hml : c.maxLocals = 1 := hml0
  have hown : s.vm.findClass "com/example/gapless_log/gaplesslog/tree/Ascent" = some m.cls := findClass_of_methodNamed Bd.named
  have hnm := (name_of_methodNamed Bd.named Bd.method).1
  have X0 : Stand p l e ({ frames := 1, cells := 0, slots := 0, locals := 12 } : Room) s m #[(.ref ax)] below meth c s₁ [] 0 0 := Stand.of_body Bd
  have e0 : s₁.heap = h0 := by rw [← hh, Bd.state]; rfl
  have N0 := Fr.nil n0
  have pre0 : ∀ t, Steps p.tables e below (s₁.setTop (mkF m 0 #[.val (.ref ax)] [])) t → Steps p.tables e below (s₁.setTop (entryFrame m #[(.ref ax)] 1)) t := fun t k => castTop (ef_10 m ax) k
  have pre1 : ∀ t, Steps p.tables e below (s₁.setTop (mkF m 1 #[.val (.ref ax)] [(.ref ax)])) t → Steps p.tables e below (s₁.setTop (entryFrame m #[(.ref ax)] 1)) t := fun t k => pre0 t (by
    show Steps p.tables e below (s₁.setTop (mkF m 0 #[.val (.ref ax)] [])) _
    refine XS.aloadN X0.here hx rfl (hb hby d10_0) rfl rfl ?_
    exact k)
  obtain ⟨cq2, kq2, q2a, q2b, q2c⟩ := isOf hZ e0 (R0.exa (i := 0) rfl)
  obtain ⟨_, _, ⟨T2, L2, k2, n2⟩, -, X2, ⟨Lc2, hQ2, l2, y2, z2⟩, st2⟩ := X0.virtualBack hx (y := (⟨"com/example/gapless_log/gaplesslog/tree/Ascent", "siblingOnLeft", "()Z"⟩ : MethodName)) (z := (⟨"com/example/gapless_log/gaplesslog/tree/Ascent", "siblingOnLeft", "()Z"⟩ : MethodName)) hown (mvT hZ (hw _ (List.mem_of_getElem? (i := 60) rfl))) (mvT hZ (hw _ (List.mem_of_getElem? (i := 61) rfl))) (notFace_of_selects (args := #[]) (mvT hZ (hw _ (List.mem_of_getElem? (i := 63) rfl)))) (mvT hZ (hw _ (List.mem_of_getElem? (i := 63) rfl))) (mvT hZ (hw _ (List.mem_of_getElem? (i := 62) rfl))) (by decide) (backOf (W := 0) (rm11 l Z a0 hw [] ax _ _ h0 n0 _ R0 ) hZ (hw _ (List.mem_of_getElem? (i := 64) rfl)) (hw _ (List.mem_of_getElem? (i := 4) rfl)) (by decide) (by decide)) q2a q2c (g := (mkF m 1 #[.val (.ref ax)] [(.ref ax)])) rfl (by rw [hml]; rfl) (Steps.refl _) (argsL := []) (rest := []) (lenOf pd__28_29Z rfl) rfl (by show 2 * 0 + _ ≤ _; exact Nat.le_of_eq rfl) (hb hby d10_1) (fun _ _ => ⟨rfl, e0, (by decide : 0 + 0 ≤ _), (by decide : 0 + 0 ≤ _)⟩)
  dsimp only [Pt.U, Pt.locs, Pt.cells, Pt.slots] at X2 l2 y2 z2 st2 hQ2
  subst l2 y2 z2
  obtain ⟨rfl, N2q, R2⟩ := hQ2
  have N2 := Fr.app N0 N2q
  replace R2 : Rep Z n0 T2.heap ((ax, Obj "com/example/gapless_log/gaplesslog/tree/Ascent" [("node", "J", (.long nv)), ("last", "J", (.long lv))]) :: Rst) := R2
  have pre3 : ∀ t, Steps p.tables e below (T2.setTop (mkF m 4 #[.val (.ref ax)] [(.int (F11 nv lv))])) t → Steps p.tables e below (s₁.setTop (entryFrame m #[(.ref ax)] 1)) t := fun t k => pre1 t (st2.trans k)
  by_cases hb4 : (F11 nv lv) = (0 : Int32)
  · have pre5 : ∀ t, Steps p.tables e below (T2.setTop (mkF m 50 #[.val (.ref ax)] [])) t → Steps p.tables e below (s₁.setTop (entryFrame m #[(.ref ax)] 1)) t := fun t k => pre3 t (by show Steps p.tables e below (T2.setTop (mkF m 4 #[.val (.ref ax)] [(.int (F11 nv lv))])) _; refine XS.ifYes X2.here hx rfl (pc0 := 4) (pc' := 50) rfl (hb hby d10_4) rfl ((if0 _ _).trans (teq hb4).1) (by decide) (by decide) ?_; exact k)
    have pre6 : ∀ t, Steps p.tables e below (T2.setTop (mkF m 52 #[.val (.ref ax)] [(.ref ax), (.ref ax)])) t → Steps p.tables e below (s₁.setTop (entryFrame m #[(.ref ax)] 1)) t := fun t k => pre5 t (by
      show Steps p.tables e below (T2.setTop (mkF m 50 #[.val (.ref ax)] [])) _
      refine XS.aloadN X2.here hx rfl (hb hby d10_50) rfl rfl ?_
      refine XS.dup X2.here hx rfl (hb hby d10_51) rfl rfl ?_
      exact k)
    obtain ⟨T7, X7, e7, st7⟩ := gGet X2 hx hZ hown (host := "") (Or.inl (hw _ (List.mem_of_getElem? (i := 46) rfl))) rfl R2 0 0 rfl rfl (g := (mkF m 52 #[.val (.ref ax)] [(.ref ax), (.ref ax)])) rfl rfl (hb hby d10_52)
    have pre8 : ∀ t, Steps p.tables e below (T7.setTop (mkF m 55 #[.val (.ref ax)] [(.long nv), (.ref ax)])) t → Steps p.tables e below (s₁.setTop (entryFrame m #[(.ref ax)] 1)) t := fun t k => pre6 t (st7 t k)
    have pre9 : ∀ t, Steps p.tables e below (T7.setTop (mkF m 57 #[.val (.ref ax)] [(.long (lushr nv (1 : Int32))), (.ref ax)])) t → Steps p.tables e below (s₁.setTop (entryFrame m #[(.ref ax)] 1)) t := fun t k => pre8 t (by
      show Steps p.tables e below (T7.setTop (mkF m 55 #[.val (.ref ax)] [(.long nv), (.ref ax)])) _
      refine XS.iconst X7.here hx rfl (hb hby d10_55) ?_
      refine XS.lushr X7.here hx rfl (hb hby d10_56) rfl ?_
      exact k)
    obtain ⟨T10, h10, ls10, X10, e10, N10, R10, st10⟩ := gPut X7 hx hZ hown (host := "") (Or.inl (hw _ (List.mem_of_getElem? (i := 46) rfl))) e7 N2 R2 0 0 rfl rfl (Or.inl (hw _ (List.mem_of_getElem? (i := 47) rfl))) (hw _ (List.mem_of_getElem? (i := 3) rfl)) (ty := .long) (by decide) rfl rfl (g := (mkF m 57 #[.val (.ref ax)] [(.long (lushr nv (1 : Int32))), (.ref ax)])) rfl rfl (hb hby d10_57)
    replace R10 : Rep Z n0 h10 ((ax, Obj "com/example/gapless_log/gaplesslog/tree/Ascent" [("node", "J", (.long (lushr nv (1 : Int32)))), ("last", "J", (.long lv))]) :: Rst) := R10
    have pre11 : ∀ t, Steps p.tables e below (T10.setTop (mkF m 60 #[.val (.ref ax)] [])) t → Steps p.tables e below (s₁.setTop (entryFrame m #[(.ref ax)] 1)) t := fun t k => pre9 t (st10 t k)
    have pre12 : ∀ t, Steps p.tables e below (T10.setTop (mkF m 62 #[.val (.ref ax)] [(.ref ax), (.ref ax)])) t → Steps p.tables e below (s₁.setTop (entryFrame m #[(.ref ax)] 1)) t := fun t k => pre11 t (by
      show Steps p.tables e below (T10.setTop (mkF m 60 #[.val (.ref ax)] [])) _
      refine XS.aloadN X10.here hx rfl (hb hby d10_60) rfl rfl ?_
      refine XS.dup X10.here hx rfl (hb hby d10_61) rfl rfl ?_
      exact k)
    obtain ⟨T13, X13, e13, st13⟩ := gGet X10 hx hZ hown (host := "") (Or.inl (hw _ (List.mem_of_getElem? (i := 48) rfl))) e10 R10 0 1 rfl rfl (g := (mkF m 62 #[.val (.ref ax)] [(.ref ax), (.ref ax)])) rfl rfl (hb hby d10_62)
    have pre14 : ∀ t, Steps p.tables e below (T13.setTop (mkF m 65 #[.val (.ref ax)] [(.long lv), (.ref ax)])) t → Steps p.tables e below (s₁.setTop (entryFrame m #[(.ref ax)] 1)) t := fun t k => pre12 t (st13 t k)
    have pre15 : ∀ t, Steps p.tables e below (T13.setTop (mkF m 67 #[.val (.ref ax)] [(.long (lushr lv (1 : Int32))), (.ref ax)])) t → Steps p.tables e below (s₁.setTop (entryFrame m #[(.ref ax)] 1)) t := fun t k => pre14 t (by
      show Steps p.tables e below (T13.setTop (mkF m 65 #[.val (.ref ax)] [(.long lv), (.ref ax)])) _
      refine XS.iconst X13.here hx rfl (hb hby d10_65) ?_
      refine XS.lushr X13.here hx rfl (hb hby d10_66) rfl ?_
      exact k)
    obtain ⟨T16, h16, ls16, X16, e16, N16, R16, st16⟩ := gPut X13 hx hZ hown (host := "") (Or.inl (hw _ (List.mem_of_getElem? (i := 48) rfl))) e13 N10 R10 0 1 rfl rfl (Or.inl (hw _ (List.mem_of_getElem? (i := 49) rfl))) (hw _ (List.mem_of_getElem? (i := 3) rfl)) (ty := .long) (by decide) rfl rfl (g := (mkF m 67 #[.val (.ref ax)] [(.long (lushr lv (1 : Int32))), (.ref ax)])) rfl rfl (hb hby d10_67)
    replace R16 : Rep Z n0 h16 ((ax, Obj "com/example/gapless_log/gaplesslog/tree/Ascent" [("node", "J", (.long (lushr nv (1 : Int32)))), ("last", "J", (.long (lushr lv (1 : Int32))))]) :: Rst) := R16
    have pre17 : ∀ t, Steps p.tables e below (T16.setTop (mkF m 70 #[.val (.ref ax)] [])) t → Steps p.tables e below (s₁.setTop (entryFrame m #[(.ref ax)] 1)) t := fun t k => pre15 t (st16 t k)
    obtain ⟨fs, hr, hrun, hended, hW, hsame⟩ := X16.leave (v := none) (fun _ => rfl)
    refine ⟨_, _, pre17 _ ?_, hrun, hended, _, _, rfl, ?_, ⟨_, rfl⟩, hW, hsame.mono (by decide) (by decide)⟩
    · show Steps p.tables e below (T16.setTop (mkF m 70 #[.val (.ref ax)] [])) _
      exact X16.returnOut hx Bd.returns (hb hby d10_70) hr
    · show Q10 Z ax nv lv n0 Rst _ T16.heap _
      rw [e16]
      exact ⟨rfl, N16, (by rw [cN, cL, if_pos hb4, if_pos hb4]; exact R16)⟩
  · have pre18 : ∀ t, Steps p.tables e below (T2.setTop (mkF m 7 #[.val (.ref ax)] [])) t → Steps p.tables e below (s₁.setTop (entryFrame m #[(.ref ax)] 1)) t := fun t k => pre3 t (by show Steps p.tables e below (T2.setTop (mkF m 4 #[.val (.ref ax)] [(.int (F11 nv lv))])) _; refine XS.ifNo X2.here hx rfl (hb hby d10_4) rfl ((if0 _ _).trans (feq hb4).1) ?_; exact k)
    obtain ⟨T19, h19, ls19, X19, e19, N19, R19, st19⟩ := cl_loop ax hx hZ hw hby hml hown 64 nv lv T2 _ T2.heap nv.toBitVec.isLt X2 rfl N2 R2
    have pre20 : ∀ t, Steps p.tables e below (T19.setTop (mkF m 50 #[.val (.ref ax)] [])) t → Steps p.tables e below (s₁.setTop (entryFrame m #[(.ref ax)] 1)) t := fun t k => pre18 t (st19 t k)
    have pre21 : ∀ t, Steps p.tables e below (T19.setTop (mkF m 52 #[.val (.ref ax)] [(.ref ax), (.ref ax)])) t → Steps p.tables e below (s₁.setTop (entryFrame m #[(.ref ax)] 1)) t := fun t k => pre20 t (by
      show Steps p.tables e below (T19.setTop (mkF m 50 #[.val (.ref ax)] [])) _
      refine XS.aloadN X19.here hx rfl (hb hby d10_50) rfl rfl ?_
      refine XS.dup X19.here hx rfl (hb hby d10_51) rfl rfl ?_
      exact k)
    obtain ⟨T22, X22, e22, st22⟩ := gGet X19 hx hZ hown (host := "") (Or.inl (hw _ (List.mem_of_getElem? (i := 46) rfl))) e19 R19 0 0 rfl rfl (g := (mkF m 52 #[.val (.ref ax)] [(.ref ax), (.ref ax)])) rfl rfl (hb hby d10_52)
    have pre23 : ∀ t, Steps p.tables e below (T22.setTop (mkF m 55 #[.val (.ref ax)] [(.long (cl 64 nv lv).1), (.ref ax)])) t → Steps p.tables e below (s₁.setTop (entryFrame m #[(.ref ax)] 1)) t := fun t k => pre21 t (st22 t k)
    have pre24 : ∀ t, Steps p.tables e below (T22.setTop (mkF m 57 #[.val (.ref ax)] [(.long (lushr (cl 64 nv lv).1 (1 : Int32))), (.ref ax)])) t → Steps p.tables e below (s₁.setTop (entryFrame m #[(.ref ax)] 1)) t := fun t k => pre23 t (by
      show Steps p.tables e below (T22.setTop (mkF m 55 #[.val (.ref ax)] [(.long (cl 64 nv lv).1), (.ref ax)])) _
      refine XS.iconst X22.here hx rfl (hb hby d10_55) ?_
      refine XS.lushr X22.here hx rfl (hb hby d10_56) rfl ?_
      exact k)
    obtain ⟨T25, h25, ls25, X25, e25, N25, R25, st25⟩ := gPut X22 hx hZ hown (host := "") (Or.inl (hw _ (List.mem_of_getElem? (i := 46) rfl))) e22 N19 R19 0 0 rfl rfl (Or.inl (hw _ (List.mem_of_getElem? (i := 47) rfl))) (hw _ (List.mem_of_getElem? (i := 3) rfl)) (ty := .long) (by decide) rfl rfl (g := (mkF m 57 #[.val (.ref ax)] [(.long (lushr (cl 64 nv lv).1 (1 : Int32))), (.ref ax)])) rfl rfl (hb hby d10_57)
    replace R25 : Rep Z n0 h25 ((ax, Obj "com/example/gapless_log/gaplesslog/tree/Ascent" [("node", "J", (.long (lushr (cl 64 nv lv).1 (1 : Int32)))), ("last", "J", (.long (cl 64 nv lv).2))]) :: Rst) := R25
    have pre26 : ∀ t, Steps p.tables e below (T25.setTop (mkF m 60 #[.val (.ref ax)] [])) t → Steps p.tables e below (s₁.setTop (entryFrame m #[(.ref ax)] 1)) t := fun t k => pre24 t (st25 t k)
    have pre27 : ∀ t, Steps p.tables e below (T25.setTop (mkF m 62 #[.val (.ref ax)] [(.ref ax), (.ref ax)])) t → Steps p.tables e below (s₁.setTop (entryFrame m #[(.ref ax)] 1)) t := fun t k => pre26 t (by
      show Steps p.tables e below (T25.setTop (mkF m 60 #[.val (.ref ax)] [])) _
      refine XS.aloadN X25.here hx rfl (hb hby d10_60) rfl rfl ?_
      refine XS.dup X25.here hx rfl (hb hby d10_61) rfl rfl ?_
      exact k)
    obtain ⟨T28, X28, e28, st28⟩ := gGet X25 hx hZ hown (host := "") (Or.inl (hw _ (List.mem_of_getElem? (i := 48) rfl))) e25 R25 0 1 rfl rfl (g := (mkF m 62 #[.val (.ref ax)] [(.ref ax), (.ref ax)])) rfl rfl (hb hby d10_62)
    have pre29 : ∀ t, Steps p.tables e below (T28.setTop (mkF m 65 #[.val (.ref ax)] [(.long (cl 64 nv lv).2), (.ref ax)])) t → Steps p.tables e below (s₁.setTop (entryFrame m #[(.ref ax)] 1)) t := fun t k => pre27 t (st28 t k)
    have pre30 : ∀ t, Steps p.tables e below (T28.setTop (mkF m 67 #[.val (.ref ax)] [(.long (lushr (cl 64 nv lv).2 (1 : Int32))), (.ref ax)])) t → Steps p.tables e below (s₁.setTop (entryFrame m #[(.ref ax)] 1)) t := fun t k => pre29 t (by
      show Steps p.tables e below (T28.setTop (mkF m 65 #[.val (.ref ax)] [(.long (cl 64 nv lv).2), (.ref ax)])) _
      refine XS.iconst X28.here hx rfl (hb hby d10_65) ?_
      refine XS.lushr X28.here hx rfl (hb hby d10_66) rfl ?_
      exact k)
    obtain ⟨T31, h31, ls31, X31, e31, N31, R31, st31⟩ := gPut X28 hx hZ hown (host := "") (Or.inl (hw _ (List.mem_of_getElem? (i := 48) rfl))) e28 N25 R25 0 1 rfl rfl (Or.inl (hw _ (List.mem_of_getElem? (i := 49) rfl))) (hw _ (List.mem_of_getElem? (i := 3) rfl)) (ty := .long) (by decide) rfl rfl (g := (mkF m 67 #[.val (.ref ax)] [(.long (lushr (cl 64 nv lv).2 (1 : Int32))), (.ref ax)])) rfl rfl (hb hby d10_67)
    replace R31 : Rep Z n0 h31 ((ax, Obj "com/example/gapless_log/gaplesslog/tree/Ascent" [("node", "J", (.long (lushr (cl 64 nv lv).1 (1 : Int32)))), ("last", "J", (.long (lushr (cl 64 nv lv).2 (1 : Int32))))]) :: Rst) := R31
    have pre32 : ∀ t, Steps p.tables e below (T31.setTop (mkF m 70 #[.val (.ref ax)] [])) t → Steps p.tables e below (s₁.setTop (entryFrame m #[(.ref ax)] 1)) t := fun t k => pre30 t (st31 t k)
    obtain ⟨fs, hr, hrun, hended, hW, hsame⟩ := X31.leave (v := none) (fun _ => rfl)
    refine ⟨_, _, pre32 _ ?_, hrun, hended, _, _, rfl, ?_, ⟨_, rfl⟩, hW, hsame.mono (by decide) (by decide)⟩
    · show Steps p.tables e below (T31.setTop (mkF m 70 #[.val (.ref ax)] [])) _
      exact X31.returnOut hx Bd.returns (hb hby d10_70) hr
    · show Q10 Z ax nv lv n0 Rst _ T31.heap _
      rw [e31]
      exact ⟨rfl, N31, (by rw [cN, cL, if_neg hb4, if_neg hb4]; exact R31)⟩
theorem d15_0 : decode jdk_33_method_47_code 0 = .ok (.iload_n 0, 1) := by decide +kernel
theorem d15_1 : decode jdk_33_method_47_code 1 = .ok (.ifCond .gt 14, 3) := by decide +kernel
theorem d15_15 : decode jdk_33_method_47_code 15 = .ok (.bipush 31, 2) := by decide +kernel
theorem d15_17 : decode jdk_33_method_47_code 17 = .ok (.istore_n 1, 1) := by decide +kernel
theorem d15_18 : decode jdk_33_method_47_code 18 = .ok (.iload_n 0, 1) := by decide +kernel
theorem d15_19 : decode jdk_33_method_47_code 19 = .ok (.ldc_w 264, 3) := by decide +kernel
theorem d15_22 : decode jdk_33_method_47_code 22 = .ok (.if_icmp .lt 11, 3) := by decide +kernel
theorem d15_25 : decode jdk_33_method_47_code 25 = .ok (.iinc 1 (-16), 3) := by decide +kernel
theorem d15_28 : decode jdk_33_method_47_code 28 = .ok (.iload_n 0, 1) := by decide +kernel
theorem d15_29 : decode jdk_33_method_47_code 29 = .ok (.bipush 16, 2) := by decide +kernel
theorem d15_31 : decode jdk_33_method_47_code 31 = .ok (.iushr, 1) := by decide +kernel
theorem d15_32 : decode jdk_33_method_47_code 32 = .ok (.istore_n 0, 1) := by decide +kernel
theorem d15_33 : decode jdk_33_method_47_code 33 = .ok (.iload_n 0, 1) := by decide +kernel
theorem d15_34 : decode jdk_33_method_47_code 34 = .ok (.sipush 256, 3) := by decide +kernel
theorem d15_37 : decode jdk_33_method_47_code 37 = .ok (.if_icmp .lt 11, 3) := by decide +kernel
theorem d15_40 : decode jdk_33_method_47_code 40 = .ok (.iinc 1 (-8), 3) := by decide +kernel
theorem d15_43 : decode jdk_33_method_47_code 43 = .ok (.iload_n 0, 1) := by decide +kernel
theorem d15_44 : decode jdk_33_method_47_code 44 = .ok (.bipush 8, 2) := by decide +kernel
theorem d15_46 : decode jdk_33_method_47_code 46 = .ok (.iushr, 1) := by decide +kernel
theorem d15_47 : decode jdk_33_method_47_code 47 = .ok (.istore_n 0, 1) := by decide +kernel
theorem d15_48 : decode jdk_33_method_47_code 48 = .ok (.iload_n 0, 1) := by decide +kernel
theorem d15_49 : decode jdk_33_method_47_code 49 = .ok (.bipush 16, 2) := by decide +kernel
theorem d15_51 : decode jdk_33_method_47_code 51 = .ok (.if_icmp .lt 10, 3) := by decide +kernel
theorem d15_54 : decode jdk_33_method_47_code 54 = .ok (.iinc 1 (-4), 3) := by decide +kernel
theorem d15_57 : decode jdk_33_method_47_code 57 = .ok (.iload_n 0, 1) := by decide +kernel
theorem d15_58 : decode jdk_33_method_47_code 58 = .ok (.iconst 4, 1) := by decide +kernel
theorem d15_59 : decode jdk_33_method_47_code 59 = .ok (.iushr, 1) := by decide +kernel
theorem d15_60 : decode jdk_33_method_47_code 60 = .ok (.istore_n 0, 1) := by decide +kernel
theorem d15_61 : decode jdk_33_method_47_code 61 = .ok (.iload_n 0, 1) := by decide +kernel
theorem d15_62 : decode jdk_33_method_47_code 62 = .ok (.iconst 4, 1) := by decide +kernel
theorem d15_63 : decode jdk_33_method_47_code 63 = .ok (.if_icmp .lt 10, 3) := by decide +kernel
theorem d15_66 : decode jdk_33_method_47_code 66 = .ok (.iinc 1 (-2), 3) := by decide +kernel
theorem d15_69 : decode jdk_33_method_47_code 69 = .ok (.iload_n 0, 1) := by decide +kernel
theorem d15_70 : decode jdk_33_method_47_code 70 = .ok (.iconst 2, 1) := by decide +kernel
theorem d15_71 : decode jdk_33_method_47_code 71 = .ok (.iushr, 1) := by decide +kernel
theorem d15_72 : decode jdk_33_method_47_code 72 = .ok (.istore_n 0, 1) := by decide +kernel
theorem d15_73 : decode jdk_33_method_47_code 73 = .ok (.iload_n 1, 1) := by decide +kernel
theorem d15_74 : decode jdk_33_method_47_code 74 = .ok (.iload_n 0, 1) := by decide +kernel
theorem d15_75 : decode jdk_33_method_47_code 75 = .ok (.iconst 1, 1) := by decide +kernel
theorem d15_76 : decode jdk_33_method_47_code 76 = .ok (.iushr, 1) := by decide +kernel
theorem d15_77 : decode jdk_33_method_47_code 77 = .ok (.isub, 1) := by decide +kernel
theorem d15_78 : decode jdk_33_method_47_code 78 = .ok (.ireturn, 1) := by decide +kernel
theorem d15_4 : decode jdk_33_method_47_code 4 = .ok (.iload_n 0, 1) := by decide +kernel
theorem d15_5 : decode jdk_33_method_47_code 5 = .ok (.ifCond .ne 8, 3) := by decide +kernel
theorem d15_8 : decode jdk_33_method_47_code 8 = .ok (.bipush 32, 2) := by decide +kernel
theorem d15_10 : decode jdk_33_method_47_code 10 = .ok (.goto 4, 3) := by decide +kernel
theorem d15_13 : decode jdk_33_method_47_code 13 = .ok (.iconst 0, 1) := by decide +kernel
theorem d15_14 : decode jdk_33_method_47_code 14 = .ok (.ireturn, 1) := by decide +kernel
theorem ef_15 (m : MethodId) (x0 : Int32) : entryFrame m #[(.int x0)] 2 = mkF m 0 #[.val (.int x0), .unset] [] := by first | (simp [entryFrame, mkF, argsToLocals, Value.category]; done) | rfl
def F15 (ix : Int32) : Int32 :=
  if (0 : Int32) < ix then
    let v8 : Int32 := (if ix < (65536 : Int32) then ix else (iushr ix (16 : Int32)))
    let v9 : Int32 := (if ix < (65536 : Int32) then (31 : Int32) else (15 : Int32))
    let v14 : Int32 := (if v8 < (256 : Int32) then v8 else (iushr v8 (8 : Int32)))
    let v15 : Int32 := (if v8 < (256 : Int32) then v9 else (v9 + (-8 : Int32)))
    let v20 : Int32 := (if v14 < (16 : Int32) then v14 else (iushr v14 (4 : Int32)))
    let v21 : Int32 := (if v14 < (16 : Int32) then v15 else (v15 + (-4 : Int32)))
    let v26 : Int32 := (if v20 < (4 : Int32) then v20 else (iushr v20 (2 : Int32)))
    let v27 : Int32 := (if v20 < (4 : Int32) then v21 else (v21 + (-2 : Int32)))
    (v27 - (iushr v26 (1 : Int32)))
  else
    let v34 : Int32 := (if ix = (0 : Int32) then (32 : Int32) else (0 : Int32))
    v34
def Q15 (Z : State) (ix : Int32) (n0 : Nat) (Rst : RL) (v : Option Value) (h : Heap) (L : List Loc) : Prop := v = some (.int (F15 ix)) ∧ Fr n0 L ∧ Rep Z n0 h (Rst)
set_option maxRecDepth 65536 in
set_option maxHeartbeats 40000000 in
theorem rm15 (l : Launch) (Z : State) (a0 : Array Value) (hw : ∀ d ∈ tables_1, d.before a0 Z = true) (ws : List Jvm.Cond) (ix : Int32) (h0 : Heap) (n0 : Nat) (Rst : RL) (R0 : Rep Z n0 h0 (Rst)) :
    MetFree l (⟨"java/lang/Integer", "numberOfLeadingZeros", "(I)I"⟩ : MethodName) (head1 (Jvm.Cond.code (⟨"java/lang/Integer", "numberOfLeadingZeros", "(I)I"⟩ : MethodName) jdk_33_method_47_code 2 (some .int) :: ws) ({ frames := 0, cells := 0, slots := 0, locals := 0 } : Room)) (fun a U => a = #[(.int ix)] ∧ Z.Warmed39 U.vm ∧ U.heap = h0) (fun _ _ _ _ _ => True) (fun _ U o U' => ∃ v L, o = .returned v ∧ Q15 Z ix n0 Rst v U'.heap L ∧ FrameEnd U o U' L ({ frames := 0, cells := 0, slots := 0, locals := 0 } : Room).cells ({ frames := 0, cells := 0, slots := 0, locals := 0 } : Room).slots) := by
  refine MetFree.of_bodySF (plainFor_of_name pn_java_lang_Integer) hisR ?_
  intro p e s m args below meth c s₁ Bd hml0 hP hK
  obtain ⟨rfl, hZ, hh⟩ := hP
  have hx := Bd.exec
  have hby := Bd.bytes
  have hml : c.maxLocals = 2 := hml0
  have hown : s.vm.findClass "java/lang/Integer" = some m.cls := findClass_of_methodNamed Bd.named
  have hnm := (name_of_methodNamed Bd.named Bd.method).1
  have X0 : Stand p l e ({ frames := 0, cells := 0, slots := 0, locals := 0 } : Room) s m #[(.int ix)] below meth c s₁ [] 0 0 := Stand.of_body Bd
  have e0 : s₁.heap = h0 := by rw [← hh, Bd.state]; rfl
  have N0 := Fr.nil n0
  have pre0 : ∀ t, Steps p.tables e below (s₁.setTop (mkF m 0 #[.val (.int ix), .unset] [])) t → Steps p.tables e below (s₁.setTop (entryFrame m #[(.int ix)] 2)) t := fun t k => castTop (ef_15 m ix) k
  have pre1 : ∀ t, Steps p.tables e below (s₁.setTop (mkF m 1 #[.val (.int ix), .unset] [(.int ix)])) t → Steps p.tables e below (s₁.setTop (entryFrame m #[(.int ix)] 2)) t := fun t k => pre0 t (by
    show Steps p.tables e below (s₁.setTop (mkF m 0 #[.val (.int ix), .unset] [])) _
    refine XS.iloadN X0.here hx rfl (hb hby d15_0) rfl ?_
    exact k)
  by_cases hb2 : (0 : Int32) < ix
  · have pre3 : ∀ t, Steps p.tables e below (s₁.setTop (mkF m 15 #[.val (.int ix), .unset] [])) t → Steps p.tables e below (s₁.setTop (entryFrame m #[(.int ix)] 2)) t := fun t k => pre1 t (by show Steps p.tables e below (s₁.setTop (mkF m 1 #[.val (.int ix), .unset] [(.int ix)])) _; refine XS.ifYes X0.here hx rfl (pc0 := 1) (pc' := 15) rfl (hb hby d15_1) rfl ((if0 _ _).trans (tlt hb2).2.2.1) (by decide) (by decide) ?_; exact k)
    have pre6 : ∀ t, Steps p.tables e below (s₁.setTop (mkF m 22 #[.val (.int ix), .val (.int (31 : Int32))] [(.int (65536 : Int32)), (.int ix)])) t → Steps p.tables e below (s₁.setTop (entryFrame m #[(.int ix)] 2)) t := fun t k => pre3 t (by
      show Steps p.tables e below (s₁.setTop (mkF m 15 #[.val (.int ix), .unset] [])) _
      refine XS.bipush X0.here hx rfl (hb hby d15_15) ?_
      refine XS.istoreN X0.here hx rfl (hb hby d15_17) rfl (l' := #[.val (.int ix), .val (.int (31 : Int32))]) rfl ?_
      refine XS.iloadN X0.here hx rfl (hb hby d15_18) rfl ?_
      refine X0.ldcwInt hx hown (mvT hZ (hw _ (List.mem_of_getElem? (i := 45) rfl))) (g := (mkF m 19 #[.val (.int ix), .val (.int (31 : Int32))] [(.int ix)])) rfl (hb hby d15_19) _ ?_
      exact k)
    have tl5 : ∀ t, Steps p.tables e below (s₁.setTop (mkF m 33 #[.val (.int (if ix < (65536 : Int32) then ix else (iushr ix (16 : Int32)))), .val (.int (if ix < (65536 : Int32) then (31 : Int32) else (15 : Int32)))] [])) t → Steps p.tables e below (s₁.setTop (mkF m 22 #[.val (.int ix), .val (.int (31 : Int32))] [(.int (65536 : Int32)), (.int ix)])) t := fun t k => by
      by_cases hb4 : ix < (65536 : Int32)
      · refine XS.icmpYes X0.here hx rfl (pc0 := 22) (pc' := 33) rfl (hb hby d15_22) rfl (tlt hb4).1 (by decide) (by decide) ?_
        rw [show (if ix < (65536 : Int32) then ix else (iushr ix (16 : Int32))) = ix from if_pos hb4] at k
        rw [show (if ix < (65536 : Int32) then (31 : Int32) else (15 : Int32)) = (31 : Int32) from if_pos hb4] at k
        exact k
      · refine XS.icmpNo X0.here hx rfl (hb hby d15_22) rfl (flt hb4).1 ?_
        rw [show (if ix < (65536 : Int32) then ix else (iushr ix (16 : Int32))) = (iushr ix (16 : Int32)) from if_neg hb4] at k
        rw [show (if ix < (65536 : Int32) then (31 : Int32) else (15 : Int32)) = (15 : Int32) from if_neg hb4] at k
        show Steps p.tables e below (s₁.setTop (mkF m 25 #[.val (.int ix), .val (.int (31 : Int32))] [])) _
        refine XS.iinc X0.here hx rfl (hb hby d15_25) rfl (l' := #[.val (.int ix), .val (.int (15 : Int32))]) rfl ?_
        refine XS.iloadN X0.here hx rfl (hb hby d15_28) rfl ?_
        refine XS.bipush X0.here hx rfl (hb hby d15_29) ?_
        refine XS.iushr X0.here hx rfl (hb hby d15_31) rfl ?_
        refine XS.istoreN X0.here hx rfl (hb hby d15_32) rfl (l' := #[.val (.int (iushr ix (16 : Int32))), .val (.int (15 : Int32))]) rfl ?_
        exact k
    have pre7 : ∀ t, Steps p.tables e below (s₁.setTop (mkF m 33 #[.val (.int (if ix < (65536 : Int32) then ix else (iushr ix (16 : Int32)))), .val (.int (if ix < (65536 : Int32) then (31 : Int32) else (15 : Int32)))] [])) t → Steps p.tables e below (s₁.setTop (entryFrame m #[(.int ix)] 2)) t := fun t k => pre6 t (by
      exact tl5 t k)
    obtain ⟨v8, hv8⟩ : ∃ z : Int32, z = (if ix < (65536 : Int32) then ix else (iushr ix (16 : Int32))) := ⟨_, rfl⟩
    rw [← hv8] at pre7
    obtain ⟨v9, hv9⟩ : ∃ z : Int32, z = (if ix < (65536 : Int32) then (31 : Int32) else (15 : Int32)) := ⟨_, rfl⟩
    rw [← hv9] at pre7
    have pre12 : ∀ t, Steps p.tables e below (s₁.setTop (mkF m 37 #[.val (.int v8), .val (.int v9)] [(.int (256 : Int32)), (.int v8)])) t → Steps p.tables e below (s₁.setTop (entryFrame m #[(.int ix)] 2)) t := fun t k => pre7 t (by
      show Steps p.tables e below (s₁.setTop (mkF m 33 #[.val (.int v8), .val (.int v9)] [])) _
      refine XS.iloadN X0.here hx rfl (hb hby d15_33) rfl ?_
      refine XS.sipush X0.here hx rfl (hb hby d15_34) ?_
      exact k)
    have tl11 : ∀ t, Steps p.tables e below (s₁.setTop (mkF m 48 #[.val (.int (if v8 < (256 : Int32) then v8 else (iushr v8 (8 : Int32)))), .val (.int (if v8 < (256 : Int32) then v9 else (v9 + (-8 : Int32))))] [])) t → Steps p.tables e below (s₁.setTop (mkF m 37 #[.val (.int v8), .val (.int v9)] [(.int (256 : Int32)), (.int v8)])) t := fun t k => by
      by_cases hb10 : v8 < (256 : Int32)
      · refine XS.icmpYes X0.here hx rfl (pc0 := 37) (pc' := 48) rfl (hb hby d15_37) rfl (tlt hb10).1 (by decide) (by decide) ?_
        rw [show (if v8 < (256 : Int32) then v8 else (iushr v8 (8 : Int32))) = v8 from if_pos hb10] at k
        rw [show (if v8 < (256 : Int32) then v9 else (v9 + (-8 : Int32))) = v9 from if_pos hb10] at k
        exact k
      · refine XS.icmpNo X0.here hx rfl (hb hby d15_37) rfl (flt hb10).1 ?_
        rw [show (if v8 < (256 : Int32) then v8 else (iushr v8 (8 : Int32))) = (iushr v8 (8 : Int32)) from if_neg hb10] at k
        rw [show (if v8 < (256 : Int32) then v9 else (v9 + (-8 : Int32))) = (v9 + (-8 : Int32)) from if_neg hb10] at k
        show Steps p.tables e below (s₁.setTop (mkF m 40 #[.val (.int v8), .val (.int v9)] [])) _
        refine XS.iinc X0.here hx rfl (hb hby d15_40) rfl (l' := #[.val (.int v8), .val (.int (v9 + (-8 : Int32)))]) rfl ?_
        refine XS.iloadN X0.here hx rfl (hb hby d15_43) rfl ?_
        refine XS.bipush X0.here hx rfl (hb hby d15_44) ?_
        refine XS.iushr X0.here hx rfl (hb hby d15_46) rfl ?_
        refine XS.istoreN X0.here hx rfl (hb hby d15_47) rfl (l' := #[.val (.int (iushr v8 (8 : Int32))), .val (.int (v9 + (-8 : Int32)))]) rfl ?_
        exact k
    have pre13 : ∀ t, Steps p.tables e below (s₁.setTop (mkF m 48 #[.val (.int (if v8 < (256 : Int32) then v8 else (iushr v8 (8 : Int32)))), .val (.int (if v8 < (256 : Int32) then v9 else (v9 + (-8 : Int32))))] [])) t → Steps p.tables e below (s₁.setTop (entryFrame m #[(.int ix)] 2)) t := fun t k => pre12 t (by
      exact tl11 t k)
    obtain ⟨v14, hv14⟩ : ∃ z : Int32, z = (if v8 < (256 : Int32) then v8 else (iushr v8 (8 : Int32))) := ⟨_, rfl⟩
    rw [← hv14] at pre13
    obtain ⟨v15, hv15⟩ : ∃ z : Int32, z = (if v8 < (256 : Int32) then v9 else (v9 + (-8 : Int32))) := ⟨_, rfl⟩
    rw [← hv15] at pre13
    have pre18 : ∀ t, Steps p.tables e below (s₁.setTop (mkF m 51 #[.val (.int v14), .val (.int v15)] [(.int (16 : Int32)), (.int v14)])) t → Steps p.tables e below (s₁.setTop (entryFrame m #[(.int ix)] 2)) t := fun t k => pre13 t (by
      show Steps p.tables e below (s₁.setTop (mkF m 48 #[.val (.int v14), .val (.int v15)] [])) _
      refine XS.iloadN X0.here hx rfl (hb hby d15_48) rfl ?_
      refine XS.bipush X0.here hx rfl (hb hby d15_49) ?_
      exact k)
    have tl17 : ∀ t, Steps p.tables e below (s₁.setTop (mkF m 61 #[.val (.int (if v14 < (16 : Int32) then v14 else (iushr v14 (4 : Int32)))), .val (.int (if v14 < (16 : Int32) then v15 else (v15 + (-4 : Int32))))] [])) t → Steps p.tables e below (s₁.setTop (mkF m 51 #[.val (.int v14), .val (.int v15)] [(.int (16 : Int32)), (.int v14)])) t := fun t k => by
      by_cases hb16 : v14 < (16 : Int32)
      · refine XS.icmpYes X0.here hx rfl (pc0 := 51) (pc' := 61) rfl (hb hby d15_51) rfl (tlt hb16).1 (by decide) (by decide) ?_
        rw [show (if v14 < (16 : Int32) then v14 else (iushr v14 (4 : Int32))) = v14 from if_pos hb16] at k
        rw [show (if v14 < (16 : Int32) then v15 else (v15 + (-4 : Int32))) = v15 from if_pos hb16] at k
        exact k
      · refine XS.icmpNo X0.here hx rfl (hb hby d15_51) rfl (flt hb16).1 ?_
        rw [show (if v14 < (16 : Int32) then v14 else (iushr v14 (4 : Int32))) = (iushr v14 (4 : Int32)) from if_neg hb16] at k
        rw [show (if v14 < (16 : Int32) then v15 else (v15 + (-4 : Int32))) = (v15 + (-4 : Int32)) from if_neg hb16] at k
        show Steps p.tables e below (s₁.setTop (mkF m 54 #[.val (.int v14), .val (.int v15)] [])) _
        refine XS.iinc X0.here hx rfl (hb hby d15_54) rfl (l' := #[.val (.int v14), .val (.int (v15 + (-4 : Int32)))]) rfl ?_
        refine XS.iloadN X0.here hx rfl (hb hby d15_57) rfl ?_
        refine XS.iconst X0.here hx rfl (hb hby d15_58) ?_
        refine XS.iushr X0.here hx rfl (hb hby d15_59) rfl ?_
        refine XS.istoreN X0.here hx rfl (hb hby d15_60) rfl (l' := #[.val (.int (iushr v14 (4 : Int32))), .val (.int (v15 + (-4 : Int32)))]) rfl ?_
        exact k
    have pre19 : ∀ t, Steps p.tables e below (s₁.setTop (mkF m 61 #[.val (.int (if v14 < (16 : Int32) then v14 else (iushr v14 (4 : Int32)))), .val (.int (if v14 < (16 : Int32) then v15 else (v15 + (-4 : Int32))))] [])) t → Steps p.tables e below (s₁.setTop (entryFrame m #[(.int ix)] 2)) t := fun t k => pre18 t (by
      exact tl17 t k)
    obtain ⟨v20, hv20⟩ : ∃ z : Int32, z = (if v14 < (16 : Int32) then v14 else (iushr v14 (4 : Int32))) := ⟨_, rfl⟩
    rw [← hv20] at pre19
    obtain ⟨v21, hv21⟩ : ∃ z : Int32, z = (if v14 < (16 : Int32) then v15 else (v15 + (-4 : Int32))) := ⟨_, rfl⟩
    rw [← hv21] at pre19
    have pre24 : ∀ t, Steps p.tables e below (s₁.setTop (mkF m 63 #[.val (.int v20), .val (.int v21)] [(.int (4 : Int32)), (.int v20)])) t → Steps p.tables e below (s₁.setTop (entryFrame m #[(.int ix)] 2)) t := fun t k => pre19 t (by
      show Steps p.tables e below (s₁.setTop (mkF m 61 #[.val (.int v20), .val (.int v21)] [])) _
      refine XS.iloadN X0.here hx rfl (hb hby d15_61) rfl ?_
      refine XS.iconst X0.here hx rfl (hb hby d15_62) ?_
      exact k)
    have tl23 : ∀ t, Steps p.tables e below (s₁.setTop (mkF m 73 #[.val (.int (if v20 < (4 : Int32) then v20 else (iushr v20 (2 : Int32)))), .val (.int (if v20 < (4 : Int32) then v21 else (v21 + (-2 : Int32))))] [])) t → Steps p.tables e below (s₁.setTop (mkF m 63 #[.val (.int v20), .val (.int v21)] [(.int (4 : Int32)), (.int v20)])) t := fun t k => by
      by_cases hb22 : v20 < (4 : Int32)
      · refine XS.icmpYes X0.here hx rfl (pc0 := 63) (pc' := 73) rfl (hb hby d15_63) rfl (tlt hb22).1 (by decide) (by decide) ?_
        rw [show (if v20 < (4 : Int32) then v20 else (iushr v20 (2 : Int32))) = v20 from if_pos hb22] at k
        rw [show (if v20 < (4 : Int32) then v21 else (v21 + (-2 : Int32))) = v21 from if_pos hb22] at k
        exact k
      · refine XS.icmpNo X0.here hx rfl (hb hby d15_63) rfl (flt hb22).1 ?_
        rw [show (if v20 < (4 : Int32) then v20 else (iushr v20 (2 : Int32))) = (iushr v20 (2 : Int32)) from if_neg hb22] at k
        rw [show (if v20 < (4 : Int32) then v21 else (v21 + (-2 : Int32))) = (v21 + (-2 : Int32)) from if_neg hb22] at k
        show Steps p.tables e below (s₁.setTop (mkF m 66 #[.val (.int v20), .val (.int v21)] [])) _
        refine XS.iinc X0.here hx rfl (hb hby d15_66) rfl (l' := #[.val (.int v20), .val (.int (v21 + (-2 : Int32)))]) rfl ?_
        refine XS.iloadN X0.here hx rfl (hb hby d15_69) rfl ?_
        refine XS.iconst X0.here hx rfl (hb hby d15_70) ?_
        refine XS.iushr X0.here hx rfl (hb hby d15_71) rfl ?_
        refine XS.istoreN X0.here hx rfl (hb hby d15_72) rfl (l' := #[.val (.int (iushr v20 (2 : Int32))), .val (.int (v21 + (-2 : Int32)))]) rfl ?_
        exact k
    have pre25 : ∀ t, Steps p.tables e below (s₁.setTop (mkF m 73 #[.val (.int (if v20 < (4 : Int32) then v20 else (iushr v20 (2 : Int32)))), .val (.int (if v20 < (4 : Int32) then v21 else (v21 + (-2 : Int32))))] [])) t → Steps p.tables e below (s₁.setTop (entryFrame m #[(.int ix)] 2)) t := fun t k => pre24 t (by
      exact tl23 t k)
    obtain ⟨v26, hv26⟩ : ∃ z : Int32, z = (if v20 < (4 : Int32) then v20 else (iushr v20 (2 : Int32))) := ⟨_, rfl⟩
    rw [← hv26] at pre25
    obtain ⟨v27, hv27⟩ : ∃ z : Int32, z = (if v20 < (4 : Int32) then v21 else (v21 + (-2 : Int32))) := ⟨_, rfl⟩
    rw [← hv27] at pre25
    have pre28 : ∀ t, Steps p.tables e below (s₁.setTop (mkF m 78 #[.val (.int v26), .val (.int v27)] [(.int (v27 - (iushr v26 (1 : Int32))))])) t → Steps p.tables e below (s₁.setTop (entryFrame m #[(.int ix)] 2)) t := fun t k => pre25 t (by
      show Steps p.tables e below (s₁.setTop (mkF m 73 #[.val (.int v26), .val (.int v27)] [])) _
      refine XS.iloadN X0.here hx rfl (hb hby d15_73) rfl ?_
      refine XS.iloadN X0.here hx rfl (hb hby d15_74) rfl ?_
      refine XS.iconst X0.here hx rfl (hb hby d15_75) ?_
      refine XS.iushr X0.here hx rfl (hb hby d15_76) rfl ?_
      refine XS.isub X0.here hx rfl (hb hby d15_77) rfl ?_
      exact k)
    obtain ⟨fs, hr, hrun, hended, hW, hsame⟩ := X0.leave (v := some (.int (v27 - (iushr v26 (1 : Int32))))) (fun h => by rw [Bd.returns] at h; cases h)
    refine ⟨_, _, pre28 _ ?_, hrun, hended, _, _, rfl, ?_, ⟨_, rfl⟩, hW, hsame.mono (by decide) (by decide)⟩
    · show Steps p.tables e below (s₁.setTop (mkF m 78 #[.val (.int v26), .val (.int v27)] [(.int (v27 - (iushr v26 (1 : Int32))))])) _
      exact Jvm.Own.retI X0 hx Bd.returns (hb hby d15_78) hr
    · show Q15 Z ix n0 Rst _ s₁.heap _
      rw [e0]
      exact ⟨(by subst hv8 hv9 hv14 hv15 hv20 hv21 hv26 hv27; simp only [F15, if_pos hb2]), N0, R0⟩
  · have pre29 : ∀ t, Steps p.tables e below (s₁.setTop (mkF m 4 #[.val (.int ix), .unset] [])) t → Steps p.tables e below (s₁.setTop (entryFrame m #[(.int ix)] 2)) t := fun t k => pre1 t (by show Steps p.tables e below (s₁.setTop (mkF m 1 #[.val (.int ix), .unset] [(.int ix)])) _; refine XS.ifNo X0.here hx rfl (hb hby d15_1) rfl ((if0 _ _).trans (flt hb2).2.2.1) ?_; exact k)
    have pre32 : ∀ t, Steps p.tables e below (s₁.setTop (mkF m 5 #[.val (.int ix), .unset] [(.int ix)])) t → Steps p.tables e below (s₁.setTop (entryFrame m #[(.int ix)] 2)) t := fun t k => pre29 t (by
      show Steps p.tables e below (s₁.setTop (mkF m 4 #[.val (.int ix), .unset] [])) _
      refine XS.iloadN X0.here hx rfl (hb hby d15_4) rfl ?_
      exact k)
    have tl31 : ∀ t, Steps p.tables e below (s₁.setTop (mkF m 14 #[.val (.int ix), .unset] [(.int (if ix = (0 : Int32) then (32 : Int32) else (0 : Int32)))])) t → Steps p.tables e below (s₁.setTop (mkF m 5 #[.val (.int ix), .unset] [(.int ix)])) t := fun t k => by
      by_cases hb30 : ix = (0 : Int32)
      · refine XS.ifNo X0.here hx rfl (hb hby d15_5) rfl ((if0 _ _).trans (teq hb30).2) ?_
        rw [show (if ix = (0 : Int32) then (32 : Int32) else (0 : Int32)) = (32 : Int32) from if_pos hb30] at k
        show Steps p.tables e below (s₁.setTop (mkF m 8 #[.val (.int ix), .unset] [])) _
        refine XS.bipush X0.here hx rfl (hb hby d15_8) ?_
        refine XS.goto X0.here hx rfl (pc0 := 10) (pc' := 14) rfl (hb hby d15_10) (by decide) (by decide) ?_
        exact k
      · refine XS.ifYes X0.here hx rfl (pc0 := 5) (pc' := 13) rfl (hb hby d15_5) rfl ((if0 _ _).trans (feq hb30).2) (by decide) (by decide) ?_
        rw [show (if ix = (0 : Int32) then (32 : Int32) else (0 : Int32)) = (0 : Int32) from if_neg hb30] at k
        show Steps p.tables e below (s₁.setTop (mkF m 13 #[.val (.int ix), .unset] [])) _
        refine XS.iconst X0.here hx rfl (hb hby d15_13) ?_
        exact k
    have pre33 : ∀ t, Steps p.tables e below (s₁.setTop (mkF m 14 #[.val (.int ix), .unset] [(.int (if ix = (0 : Int32) then (32 : Int32) else (0 : Int32)))])) t → Steps p.tables e below (s₁.setTop (entryFrame m #[(.int ix)] 2)) t := fun t k => pre32 t (by
      exact tl31 t k)
    obtain ⟨v34, hv34⟩ : ∃ z : Int32, z = (if ix = (0 : Int32) then (32 : Int32) else (0 : Int32)) := ⟨_, rfl⟩
    rw [← hv34] at pre33
    obtain ⟨fs, hr, hrun, hended, hW, hsame⟩ := X0.leave (v := some (.int v34)) (fun h => by rw [Bd.returns] at h; cases h)
    refine ⟨_, _, pre33 _ ?_, hrun, hended, _, _, rfl, ?_, ⟨_, rfl⟩, hW, hsame.mono (by decide) (by decide)⟩
    · show Steps p.tables e below (s₁.setTop (mkF m 14 #[.val (.int ix), .unset] [(.int v34)])) _
      exact Jvm.Own.retI X0 hx Bd.returns (hb hby d15_14) hr
    · show Q15 Z ix n0 Rst _ s₁.heap _
      rw [e0]
      exact ⟨(by subst hv34; simp only [F15, if_neg hb2]), N0, R0⟩
theorem d14_0 : decode jdk_35_method_48_code 0 = .ok (.lload_n 0, 1) := by decide +kernel
theorem d14_1 : decode jdk_35_method_48_code 1 = .ok (.bipush 32, 2) := by decide +kernel
theorem d14_3 : decode jdk_35_method_48_code 3 = .ok (.lushr, 1) := by decide +kernel
theorem d14_4 : decode jdk_35_method_48_code 4 = .ok (.l2i, 1) := by decide +kernel
theorem d14_5 : decode jdk_35_method_48_code 5 = .ok (.istore_n 2, 1) := by decide +kernel
theorem d14_6 : decode jdk_35_method_48_code 6 = .ok (.iload_n 2, 1) := by decide +kernel
theorem d14_7 : decode jdk_35_method_48_code 7 = .ok (.ifCond .ne 14, 3) := by decide +kernel
theorem d14_10 : decode jdk_35_method_48_code 10 = .ok (.bipush 32, 2) := by decide +kernel
theorem d14_12 : decode jdk_35_method_48_code 12 = .ok (.lload_n 0, 1) := by decide +kernel
theorem d14_13 : decode jdk_35_method_48_code 13 = .ok (.l2i, 1) := by decide +kernel
theorem d14_14 : decode jdk_35_method_48_code 14 = .ok (.invokestatic 308, 3) := by decide +kernel
theorem d14_17 : decode jdk_35_method_48_code 17 = .ok (.iadd, 1) := by decide +kernel
theorem d14_18 : decode jdk_35_method_48_code 18 = .ok (.goto 7, 3) := by decide +kernel
theorem d14_25 : decode jdk_35_method_48_code 25 = .ok (.ireturn, 1) := by decide +kernel
theorem d14_21 : decode jdk_35_method_48_code 21 = .ok (.iload_n 2, 1) := by decide +kernel
theorem d14_22 : decode jdk_35_method_48_code 22 = .ok (.invokestatic 308, 3) := by decide +kernel
theorem ef_14 (m : MethodId) (x0 : Int64) : entryFrame m #[(.long x0)] 3 = mkF m 0 #[.val (.long x0), .second, .unset] [] := by first | (simp [entryFrame, mkF, argsToLocals, Value.category]; done) | rfl
def F14 (jx : Int64) : Int32 :=
  if ((lushr jx (32 : Int32)).toInt32) = (0 : Int32) then
    ((32 : Int32) + (F15 (jx.toInt32)))
  else
    (F15 ((lushr jx (32 : Int32)).toInt32))
def Q14 (Z : State) (jx : Int64) (n0 : Nat) (Rst : RL) (v : Option Value) (h : Heap) (L : List Loc) : Prop := v = some (.int (F14 jx)) ∧ Fr n0 L ∧ Rep Z n0 h (Rst)
set_option maxRecDepth 65536 in
set_option maxHeartbeats 40000000 in
theorem rm14 (l : Launch) (Z : State) (a0 : Array Value) (hw : ∀ d ∈ tables_1, d.before a0 Z = true) (ws : List Jvm.Cond) (jx : Int64) (h0 : Heap) (n0 : Nat) (Rst : RL) (R0 : Rep Z n0 h0 (Rst)) :
    MetFree l (⟨"java/lang/Long", "numberOfLeadingZeros", "(J)I"⟩ : MethodName) (head1 (Jvm.Cond.code (⟨"java/lang/Long", "numberOfLeadingZeros", "(J)I"⟩ : MethodName) jdk_35_method_48_code 3 (some .int) :: ws) ({ frames := 1, cells := 0, slots := 0, locals := 14 } : Room)) (fun a U => a = #[(.long jx)] ∧ Z.Warmed39 U.vm ∧ U.heap = h0) (fun _ _ _ _ _ => True) (fun _ U o U' => ∃ v L, o = .returned v ∧ Q14 Z jx n0 Rst v U'.heap L ∧ FrameEnd U o U' L ({ frames := 1, cells := 0, slots := 0, locals := 14 } : Room).cells ({ frames := 1, cells := 0, slots := 0, locals := 14 } : Room).slots) := by
  refine MetFree.of_bodySF (plainFor_of_name pn_java_lang_Long) hisR ?_
  intro p e s m args below meth c s₁ Bd hml0 hP hK
  obtain ⟨rfl, hZ, hh⟩ := hP
  have hx := Bd.exec
  have hby := Bd.bytes
  have hml : c.maxLocals = 3 := hml0
  have hown : s.vm.findClass "java/lang/Long" = some m.cls := findClass_of_methodNamed Bd.named
  have hnm := (name_of_methodNamed Bd.named Bd.method).1
  have X0 : Stand p l e ({ frames := 1, cells := 0, slots := 0, locals := 14 } : Room) s m #[(.long jx)] below meth c s₁ [] 0 0 := Stand.of_body Bd
  have e0 : s₁.heap = h0 := by rw [← hh, Bd.state]; rfl
  have N0 := Fr.nil n0
  have pre0 : ∀ t, Steps p.tables e below (s₁.setTop (mkF m 0 #[.val (.long jx), .second, .unset] [])) t → Steps p.tables e below (s₁.setTop (entryFrame m #[(.long jx)] 3)) t := fun t k => castTop (ef_14 m jx) k
  have pre2 : ∀ t, Steps p.tables e below (s₁.setTop (mkF m 7 #[.val (.long jx), .second, .val (.int ((lushr jx (32 : Int32)).toInt32))] [(.int ((lushr jx (32 : Int32)).toInt32))])) t → Steps p.tables e below (s₁.setTop (entryFrame m #[(.long jx)] 3)) t := fun t k => pre0 t (by
    show Steps p.tables e below (s₁.setTop (mkF m 0 #[.val (.long jx), .second, .unset] [])) _
    refine XS.lloadN X0.here hx rfl (hb hby d14_0) rfl ?_
    refine XS.bipush X0.here hx rfl (hb hby d14_1) ?_
    refine XS.lushr X0.here hx rfl (hb hby d14_3) rfl ?_
    refine XS.l2i X0.here hx rfl (hb hby d14_4) rfl ?_
    refine XS.istoreN X0.here hx rfl (hb hby d14_5) rfl (l' := #[.val (.long jx), .second, .val (.int ((lushr jx (32 : Int32)).toInt32))]) rfl ?_
    refine XS.iloadN X0.here hx rfl (hb hby d14_6) rfl ?_
    exact k)
  by_cases hb4 : ((lushr jx (32 : Int32)).toInt32) = (0 : Int32)
  · have pre5 : ∀ t, Steps p.tables e below (s₁.setTop (mkF m 10 #[.val (.long jx), .second, .val (.int ((lushr jx (32 : Int32)).toInt32))] [])) t → Steps p.tables e below (s₁.setTop (entryFrame m #[(.long jx)] 3)) t := fun t k => pre2 t (by show Steps p.tables e below (s₁.setTop (mkF m 7 #[.val (.long jx), .second, .val (.int ((lushr jx (32 : Int32)).toInt32))] [(.int ((lushr jx (32 : Int32)).toInt32))])) _; refine XS.ifNo X0.here hx rfl (hb hby d14_7) rfl ((if0 _ _).trans (teq hb4).2) ?_; exact k)
    have pre6 : ∀ t, Steps p.tables e below (s₁.setTop (mkF m 14 #[.val (.long jx), .second, .val (.int ((lushr jx (32 : Int32)).toInt32))] [(.int (jx.toInt32)), (.int (32 : Int32))])) t → Steps p.tables e below (s₁.setTop (entryFrame m #[(.long jx)] 3)) t := fun t k => pre5 t (by
      show Steps p.tables e below (s₁.setTop (mkF m 10 #[.val (.long jx), .second, .val (.int ((lushr jx (32 : Int32)).toInt32))] [])) _
      refine XS.bipush X0.here hx rfl (hb hby d14_10) ?_
      refine XS.lloadN X0.here hx rfl (hb hby d14_12) rfl ?_
      refine XS.l2i X0.here hx rfl (hb hby d14_13) rfl ?_
      exact k)
    obtain ⟨_, _, ⟨T7, L7, k7, n7⟩, -, X7, ⟨Lc7, hQ7, l7, y7, z7⟩, st7⟩ := Jvm.LawKit.callS X0 hx (y := (⟨"java/lang/Integer", "numberOfLeadingZeros", "(I)I"⟩ : MethodName)) hown (mvT hZ (hw _ (List.mem_of_getElem? (i := 76) rfl))) (mvT hZ (hw _ (List.mem_of_getElem? (i := 77) rfl))) (mvT hZ (hw _ (List.mem_of_getElem? (i := 43) rfl))) (mvT hZ (hw _ (List.mem_of_getElem? (i := 78) rfl))) (by decide) (backOf (W := 1) (rm15 l Z a0 hw [] (jx.toInt32)  h0 n0 _ R0 ) hZ (hw _ (List.mem_of_getElem? (i := 78) rfl)) (hw _ (List.mem_of_getElem? (i := 43) rfl)) (by decide) (by decide)) (g := (mkF m 14 #[.val (.long jx), .second, .val (.int ((lushr jx (32 : Int32)).toInt32))] [(.int (jx.toInt32)), (.int (32 : Int32))])) rfl (by rw [hml]; rfl) (argsL := [(.int (jx.toInt32))]) (rest := [(.int (32 : Int32))]) (lenOf pd__28I_29I rfl) rfl (by show 2 * 0 + _ ≤ _; exact Nat.le_of_eq rfl) (hb hby d14_14) (fun _ _ => ⟨rfl, e0, (by decide : 0 + 0 ≤ _), (by decide : 0 + 0 ≤ _)⟩)
    dsimp only [Pt.U, Pt.locs, Pt.cells, Pt.slots] at X7 l7 y7 z7 st7 hQ7
    subst l7 y7 z7
    obtain ⟨rfl, N7q, R7⟩ := hQ7
    have N7 := Fr.app N0 N7q
    replace R7 : Rep Z n0 T7.heap (Rst) := R7
    have pre8 : ∀ t, Steps p.tables e below (T7.setTop (mkF m 17 #[.val (.long jx), .second, .val (.int ((lushr jx (32 : Int32)).toInt32))] [(.int (F15 (jx.toInt32))), (.int (32 : Int32))])) t → Steps p.tables e below (s₁.setTop (entryFrame m #[(.long jx)] 3)) t := fun t k => pre6 t (st7 t k)
    have pre9 : ∀ t, Steps p.tables e below (T7.setTop (mkF m 25 #[.val (.long jx), .second, .val (.int ((lushr jx (32 : Int32)).toInt32))] [(.int ((32 : Int32) + (F15 (jx.toInt32))))])) t → Steps p.tables e below (s₁.setTop (entryFrame m #[(.long jx)] 3)) t := fun t k => pre8 t (by
      show Steps p.tables e below (T7.setTop (mkF m 17 #[.val (.long jx), .second, .val (.int ((lushr jx (32 : Int32)).toInt32))] [(.int (F15 (jx.toInt32))), (.int (32 : Int32))])) _
      refine XS.iadd X7.here hx rfl (hb hby d14_17) rfl ?_
      refine XS.goto X7.here hx rfl (pc0 := 18) (pc' := 25) rfl (hb hby d14_18) (by decide) (by decide) ?_
      exact k)
    obtain ⟨fs, hr, hrun, hended, hW, hsame⟩ := X7.leave (v := some (.int ((32 : Int32) + (F15 (jx.toInt32))))) (fun h => by rw [Bd.returns] at h; cases h)
    refine ⟨_, _, pre9 _ ?_, hrun, hended, _, _, rfl, ?_, ⟨_, rfl⟩, hW, hsame.mono (by decide) (by decide)⟩
    · show Steps p.tables e below (T7.setTop (mkF m 25 #[.val (.long jx), .second, .val (.int ((lushr jx (32 : Int32)).toInt32))] [(.int ((32 : Int32) + (F15 (jx.toInt32))))])) _
      exact Jvm.Own.retI X7 hx Bd.returns (hb hby d14_25) hr
    · show Q14 Z jx n0 Rst _ T7.heap _
      exact ⟨(by simp only [F14, if_pos hb4]), N7, R7⟩
  · have pre10 : ∀ t, Steps p.tables e below (s₁.setTop (mkF m 21 #[.val (.long jx), .second, .val (.int ((lushr jx (32 : Int32)).toInt32))] [])) t → Steps p.tables e below (s₁.setTop (entryFrame m #[(.long jx)] 3)) t := fun t k => pre2 t (by show Steps p.tables e below (s₁.setTop (mkF m 7 #[.val (.long jx), .second, .val (.int ((lushr jx (32 : Int32)).toInt32))] [(.int ((lushr jx (32 : Int32)).toInt32))])) _; refine XS.ifYes X0.here hx rfl (pc0 := 7) (pc' := 21) rfl (hb hby d14_7) rfl ((if0 _ _).trans (feq hb4).2) (by decide) (by decide) ?_; exact k)
    have pre11 : ∀ t, Steps p.tables e below (s₁.setTop (mkF m 22 #[.val (.long jx), .second, .val (.int ((lushr jx (32 : Int32)).toInt32))] [(.int ((lushr jx (32 : Int32)).toInt32))])) t → Steps p.tables e below (s₁.setTop (entryFrame m #[(.long jx)] 3)) t := fun t k => pre10 t (by
      show Steps p.tables e below (s₁.setTop (mkF m 21 #[.val (.long jx), .second, .val (.int ((lushr jx (32 : Int32)).toInt32))] [])) _
      refine XS.iloadN X0.here hx rfl (hb hby d14_21) rfl ?_
      exact k)
    obtain ⟨_, _, ⟨T12, L12, k12, n12⟩, -, X12, ⟨Lc12, hQ12, l12, y12, z12⟩, st12⟩ := Jvm.LawKit.callS X0 hx (y := (⟨"java/lang/Integer", "numberOfLeadingZeros", "(I)I"⟩ : MethodName)) hown (mvT hZ (hw _ (List.mem_of_getElem? (i := 76) rfl))) (mvT hZ (hw _ (List.mem_of_getElem? (i := 77) rfl))) (mvT hZ (hw _ (List.mem_of_getElem? (i := 43) rfl))) (mvT hZ (hw _ (List.mem_of_getElem? (i := 78) rfl))) (by decide) (backOf (W := 0) (rm15 l Z a0 hw [] ((lushr jx (32 : Int32)).toInt32)  h0 n0 _ R0 ) hZ (hw _ (List.mem_of_getElem? (i := 78) rfl)) (hw _ (List.mem_of_getElem? (i := 43) rfl)) (by decide) (by decide)) (g := (mkF m 22 #[.val (.long jx), .second, .val (.int ((lushr jx (32 : Int32)).toInt32))] [(.int ((lushr jx (32 : Int32)).toInt32))])) rfl (by rw [hml]; rfl) (argsL := [(.int ((lushr jx (32 : Int32)).toInt32))]) (rest := []) (lenOf pd__28I_29I rfl) rfl (by show 2 * 0 + _ ≤ _; exact Nat.le_of_eq rfl) (hb hby d14_22) (fun _ _ => ⟨rfl, e0, (by decide : 0 + 0 ≤ _), (by decide : 0 + 0 ≤ _)⟩)
    dsimp only [Pt.U, Pt.locs, Pt.cells, Pt.slots] at X12 l12 y12 z12 st12 hQ12
    subst l12 y12 z12
    obtain ⟨rfl, N12q, R12⟩ := hQ12
    have N12 := Fr.app N0 N12q
    replace R12 : Rep Z n0 T12.heap (Rst) := R12
    have pre13 : ∀ t, Steps p.tables e below (T12.setTop (mkF m 25 #[.val (.long jx), .second, .val (.int ((lushr jx (32 : Int32)).toInt32))] [(.int (F15 ((lushr jx (32 : Int32)).toInt32)))])) t → Steps p.tables e below (s₁.setTop (entryFrame m #[(.long jx)] 3)) t := fun t k => pre11 t (st12 t k)
    obtain ⟨fs, hr, hrun, hended, hW, hsame⟩ := X12.leave (v := some (.int (F15 ((lushr jx (32 : Int32)).toInt32)))) (fun h => by rw [Bd.returns] at h; cases h)
    refine ⟨_, _, pre13 _ ?_, hrun, hended, _, _, rfl, ?_, ⟨_, rfl⟩, hW, hsame.mono (by decide) (by decide)⟩
    · show Steps p.tables e below (T12.setTop (mkF m 25 #[.val (.long jx), .second, .val (.int ((lushr jx (32 : Int32)).toInt32))] [(.int (F15 ((lushr jx (32 : Int32)).toInt32)))])) _
      exact Jvm.Own.retI X12 hx Bd.returns (hb hby d14_25) hr
    · show Q14 Z jx n0 Rst _ T12.heap _
      exact ⟨(by simp only [F14, if_neg hb4]), N12, R12⟩
theorem d13_0 : decode jdk_35_method_46_code 0 = .ok (.lload_n 0, 1) := by decide +kernel
theorem d13_1 : decode jdk_35_method_46_code 1 = .ok (.ldc2_w 168, 3) := by decide +kernel
theorem d13_4 : decode jdk_35_method_46_code 4 = .ok (.lload_n 0, 1) := by decide +kernel
theorem d13_5 : decode jdk_35_method_46_code 5 = .ok (.invokestatic 98, 3) := by decide +kernel
theorem d13_8 : decode jdk_35_method_46_code 8 = .ok (.lushr, 1) := by decide +kernel
theorem d13_9 : decode jdk_35_method_46_code 9 = .ok (.land, 1) := by decide +kernel
theorem d13_10 : decode jdk_35_method_46_code 10 = .ok (.lreturn, 1) := by decide +kernel
theorem ef_13 (m : MethodId) (x0 : Int64) : entryFrame m #[(.long x0)] 2 = mkF m 0 #[.val (.long x0), .second] [] := by first | (simp [entryFrame, mkF, argsToLocals, Value.category]; done) | rfl
def F13 (jx : Int64) : Int64 :=
  (jx &&& (lushr (-9223372036854775808 : Int64) (F14 jx)))
def Q13 (Z : State) (jx : Int64) (n0 : Nat) (Rst : RL) (v : Option Value) (h : Heap) (L : List Loc) : Prop := v = some (.long (F13 jx)) ∧ Fr n0 L ∧ Rep Z n0 h (Rst)
set_option maxRecDepth 65536 in
set_option maxHeartbeats 40000000 in
theorem rm13 (l : Launch) (Z : State) (a0 : Array Value) (hw : ∀ d ∈ tables_1, d.before a0 Z = true) (ws : List Jvm.Cond) (jx : Int64) (h0 : Heap) (n0 : Nat) (Rst : RL) (R0 : Rep Z n0 h0 (Rst)) :
    MetFree l (⟨"java/lang/Long", "highestOneBit", "(J)J"⟩ : MethodName) (head1 (Jvm.Cond.code (⟨"java/lang/Long", "highestOneBit", "(J)J"⟩ : MethodName) jdk_35_method_46_code 2 (some .long) :: ws) ({ frames := 2, cells := 0, slots := 0, locals := 32 } : Room)) (fun a U => a = #[(.long jx)] ∧ Z.Warmed39 U.vm ∧ U.heap = h0) (fun _ _ _ _ _ => True) (fun _ U o U' => ∃ v L, o = .returned v ∧ Q13 Z jx n0 Rst v U'.heap L ∧ FrameEnd U o U' L ({ frames := 2, cells := 0, slots := 0, locals := 32 } : Room).cells ({ frames := 2, cells := 0, slots := 0, locals := 32 } : Room).slots) := by
  refine MetFree.of_bodySF (plainFor_of_name pn_java_lang_Long) hisR ?_
  intro p e s m args below meth c s₁ Bd hml0 hP hK
  obtain ⟨rfl, hZ, hh⟩ := hP
  have hx := Bd.exec
  have hby := Bd.bytes
  have hml : c.maxLocals = 2 := hml0
  have hown : s.vm.findClass "java/lang/Long" = some m.cls := findClass_of_methodNamed Bd.named
  have hnm := (name_of_methodNamed Bd.named Bd.method).1
  have X0 : Stand p l e ({ frames := 2, cells := 0, slots := 0, locals := 32 } : Room) s m #[(.long jx)] below meth c s₁ [] 0 0 := Stand.of_body Bd
  have e0 : s₁.heap = h0 := by rw [← hh, Bd.state]; rfl
  have N0 := Fr.nil n0
  have pre0 : ∀ t, Steps p.tables e below (s₁.setTop (mkF m 0 #[.val (.long jx), .second] [])) t → Steps p.tables e below (s₁.setTop (entryFrame m #[(.long jx)] 2)) t := fun t k => castTop (ef_13 m jx) k
  have pre1 : ∀ t, Steps p.tables e below (s₁.setTop (mkF m 5 #[.val (.long jx), .second] [(.long jx), (.long (-9223372036854775808 : Int64)), (.long jx)])) t → Steps p.tables e below (s₁.setTop (entryFrame m #[(.long jx)] 2)) t := fun t k => pre0 t (by
    show Steps p.tables e below (s₁.setTop (mkF m 0 #[.val (.long jx), .second] [])) _
    refine XS.lloadN X0.here hx rfl (hb hby d13_0) rfl ?_
    refine X0.ldc2Long hx hown (mvT hZ (hw _ (List.mem_of_getElem? (i := 72) rfl))) (g := (mkF m 1 #[.val (.long jx), .second] [(.long jx)])) rfl (hb hby d13_1) _ ?_
    refine XS.lloadN X0.here hx rfl (hb hby d13_4) rfl ?_
    exact k)
  obtain ⟨_, _, ⟨T2, L2, k2, n2⟩, -, X2, ⟨Lc2, hQ2, l2, y2, z2⟩, st2⟩ := Jvm.LawKit.callS X0 hx (y := (⟨"java/lang/Long", "numberOfLeadingZeros", "(J)I"⟩ : MethodName)) hown (mvT hZ (hw _ (List.mem_of_getElem? (i := 73) rfl))) (mvT hZ (hw _ (List.mem_of_getElem? (i := 74) rfl))) (mvT hZ (hw _ (List.mem_of_getElem? (i := 39) rfl))) (mvT hZ (hw _ (List.mem_of_getElem? (i := 75) rfl))) (by decide) (backOf (W := 4) (rm14 l Z a0 hw [] jx  h0 n0 _ R0 ) hZ (hw _ (List.mem_of_getElem? (i := 75) rfl)) (hw _ (List.mem_of_getElem? (i := 39) rfl)) (by decide) (by decide)) (g := (mkF m 5 #[.val (.long jx), .second] [(.long jx), (.long (-9223372036854775808 : Int64)), (.long jx)])) rfl (by rw [hml]; rfl) (argsL := [(.long jx)]) (rest := [(.long (-9223372036854775808 : Int64)), (.long jx)]) (lenOf pd__28J_29I rfl) rfl (by show 2 * 0 + _ ≤ _; exact Nat.le_of_eq rfl) (hb hby d13_5) (fun _ _ => ⟨rfl, e0, (by decide : 0 + 0 ≤ _), (by decide : 0 + 0 ≤ _)⟩)
  dsimp only [Pt.U, Pt.locs, Pt.cells, Pt.slots] at X2 l2 y2 z2 st2 hQ2
  subst l2 y2 z2
  obtain ⟨rfl, N2q, R2⟩ := hQ2
  have N2 := Fr.app N0 N2q
  replace R2 : Rep Z n0 T2.heap (Rst) := R2
  have pre3 : ∀ t, Steps p.tables e below (T2.setTop (mkF m 8 #[.val (.long jx), .second] [(.int (F14 jx)), (.long (-9223372036854775808 : Int64)), (.long jx)])) t → Steps p.tables e below (s₁.setTop (entryFrame m #[(.long jx)] 2)) t := fun t k => pre1 t (st2 t k)
  have pre4 : ∀ t, Steps p.tables e below (T2.setTop (mkF m 10 #[.val (.long jx), .second] [(.long (jx &&& (lushr (-9223372036854775808 : Int64) (F14 jx))))])) t → Steps p.tables e below (s₁.setTop (entryFrame m #[(.long jx)] 2)) t := fun t k => pre3 t (by
    show Steps p.tables e below (T2.setTop (mkF m 8 #[.val (.long jx), .second] [(.int (F14 jx)), (.long (-9223372036854775808 : Int64)), (.long jx)])) _
    refine XS.lushr X2.here hx rfl (hb hby d13_8) rfl ?_
    refine XS.land X2.here hx rfl (hb hby d13_9) rfl ?_
    exact k)
  obtain ⟨fs, hr, hrun, hended, hW, hsame⟩ := X2.leave (v := some (.long (jx &&& (lushr (-9223372036854775808 : Int64) (F14 jx))))) (fun h => by rw [Bd.returns] at h; cases h)
  refine ⟨_, _, pre4 _ ?_, hrun, hended, _, _, rfl, ?_, ⟨_, rfl⟩, hW, hsame.mono (by decide) (by decide)⟩
  · show Steps p.tables e below (T2.setTop (mkF m 10 #[.val (.long jx), .second] [(.long (jx &&& (lushr (-9223372036854775808 : Int64) (F14 jx))))])) _
    exact Jvm.Own.retL X2 hx Bd.returns (hb hby d13_10) hr
  · show Q13 Z jx n0 Rst _ T2.heap _
    exact ⟨(by rfl), N2, R2⟩
theorem d12_0 : decode prog_39_method_6_code 0 = .ok (.lload_n 0, 1) := by decide +kernel
theorem d12_1 : decode prog_39_method_6_code 1 = .ok (.lconst 1, 1) := by decide +kernel
theorem d12_2 : decode prog_39_method_6_code 2 = .ok (.lsub, 1) := by decide +kernel
theorem d12_3 : decode prog_39_method_6_code 3 = .ok (.invokestatic 58, 3) := by decide +kernel
theorem pd__28J_29J : parseMethodDescriptor "(J)J" = some ⟨[.long], some .long⟩ := by decide +kernel
theorem d12_6 : decode prog_39_method_6_code 6 = .ok (.lreturn, 1) := by decide +kernel
theorem pn_com_example_gapless_log_gaplesslog_tree_TreeHash : plainName "com/example/gapless_log/gaplesslog/tree/TreeHash" = true := by first | (simp [plainName, overriddenIn]; done) | decide +kernel
theorem ef_12 (m : MethodId) (x0 : Int64) : entryFrame m #[(.long x0)] 2 = mkF m 0 #[.val (.long x0), .second] [] := by first | (simp [entryFrame, mkF, argsToLocals, Value.category]; done) | rfl
def F12 (jx : Int64) : Int64 :=
  (F13 (jx - (1 : Int64)))
def Q12 (Z : State) (jx : Int64) (n0 : Nat) (Rst : RL) (v : Option Value) (h : Heap) (L : List Loc) : Prop := v = some (.long (F12 jx)) ∧ Fr n0 L ∧ Rep Z n0 h (Rst)
set_option maxRecDepth 65536 in
set_option maxHeartbeats 40000000 in
theorem rm12 (l : Launch) (Z : State) (a0 : Array Value) (hw : ∀ d ∈ tables_1, d.before a0 Z = true) (ws : List Jvm.Cond) (jx : Int64) (h0 : Heap) (n0 : Nat) (Rst : RL) (R0 : Rep Z n0 h0 (Rst)) :
    MetFree l (⟨"com/example/gapless_log/gaplesslog/tree/TreeHash", "split", "(J)J"⟩ : MethodName) (head1 (Jvm.Cond.code (⟨"com/example/gapless_log/gaplesslog/tree/TreeHash", "split", "(J)J"⟩ : MethodName) prog_39_method_6_code 2 (some .long) :: ws) ({ frames := 3, cells := 0, slots := 0, locals := 45 } : Room)) (fun a U => a = #[(.long jx)] ∧ Z.Warmed39 U.vm ∧ U.heap = h0) (fun _ _ _ _ _ => True) (fun _ U o U' => ∃ v L, o = .returned v ∧ Q12 Z jx n0 Rst v U'.heap L ∧ FrameEnd U o U' L ({ frames := 3, cells := 0, slots := 0, locals := 45 } : Room).cells ({ frames := 3, cells := 0, slots := 0, locals := 45 } : Room).slots) := by
  refine MetFree.of_bodySF (plainFor_of_name pn_com_example_gapless_log_gaplesslog_tree_TreeHash) hisR ?_
  intro p e s m args below meth c s₁ Bd hml0 hP hK
  obtain ⟨rfl, hZ, hh⟩ := hP
  have hx := Bd.exec
  have hby := Bd.bytes
  have hml : c.maxLocals = 2 := hml0
  have hown : s.vm.findClass "com/example/gapless_log/gaplesslog/tree/TreeHash" = some m.cls := findClass_of_methodNamed Bd.named
  have hnm := (name_of_methodNamed Bd.named Bd.method).1
  have X0 : Stand p l e ({ frames := 3, cells := 0, slots := 0, locals := 45 } : Room) s m #[(.long jx)] below meth c s₁ [] 0 0 := Stand.of_body Bd
  have e0 : s₁.heap = h0 := by rw [← hh, Bd.state]; rfl
  have N0 := Fr.nil n0
  have pre0 : ∀ t, Steps p.tables e below (s₁.setTop (mkF m 0 #[.val (.long jx), .second] [])) t → Steps p.tables e below (s₁.setTop (entryFrame m #[(.long jx)] 2)) t := fun t k => castTop (ef_12 m jx) k
  have pre1 : ∀ t, Steps p.tables e below (s₁.setTop (mkF m 3 #[.val (.long jx), .second] [(.long (jx - (1 : Int64)))])) t → Steps p.tables e below (s₁.setTop (entryFrame m #[(.long jx)] 2)) t := fun t k => pre0 t (by
    show Steps p.tables e below (s₁.setTop (mkF m 0 #[.val (.long jx), .second] [])) _
    refine XS.lloadN X0.here hx rfl (hb hby d12_0) rfl ?_
    refine XS.lconst X0.here hx rfl (hb hby d12_1) ?_
    refine XS.lsub X0.here hx rfl (hb hby d12_2) rfl ?_
    exact k)
  obtain ⟨_, _, ⟨T2, L2, k2, n2⟩, -, X2, ⟨Lc2, hQ2, l2, y2, z2⟩, st2⟩ := Jvm.LawKit.callS X0 hx (y := (⟨"java/lang/Long", "highestOneBit", "(J)J"⟩ : MethodName)) hown (mvT hZ (hw _ (List.mem_of_getElem? (i := 69) rfl))) (mvT hZ (hw _ (List.mem_of_getElem? (i := 70) rfl))) (mvT hZ (hw _ (List.mem_of_getElem? (i := 39) rfl))) (mvT hZ (hw _ (List.mem_of_getElem? (i := 71) rfl))) (by decide) (backOf (W := 0) (rm13 l Z a0 hw [] (jx - (1 : Int64))  h0 n0 _ R0 ) hZ (hw _ (List.mem_of_getElem? (i := 71) rfl)) (hw _ (List.mem_of_getElem? (i := 39) rfl)) (by decide) (by decide)) (g := (mkF m 3 #[.val (.long jx), .second] [(.long (jx - (1 : Int64)))])) rfl (by rw [hml]; rfl) (argsL := [(.long (jx - (1 : Int64)))]) (rest := []) (lenOf pd__28J_29J rfl) rfl (by show 2 * 0 + _ ≤ _; exact Nat.le_of_eq rfl) (hb hby d12_3) (fun _ _ => ⟨rfl, e0, (by decide : 0 + 0 ≤ _), (by decide : 0 + 0 ≤ _)⟩)
  dsimp only [Pt.U, Pt.locs, Pt.cells, Pt.slots] at X2 l2 y2 z2 st2 hQ2
  subst l2 y2 z2
  obtain ⟨rfl, N2q, R2⟩ := hQ2
  have N2 := Fr.app N0 N2q
  replace R2 : Rep Z n0 T2.heap (Rst) := R2
  have pre3 : ∀ t, Steps p.tables e below (T2.setTop (mkF m 6 #[.val (.long jx), .second] [(.long (F13 (jx - (1 : Int64))))])) t → Steps p.tables e below (s₁.setTop (entryFrame m #[(.long jx)] 2)) t := fun t k => pre1 t (st2 t k)
  obtain ⟨fs, hr, hrun, hended, hW, hsame⟩ := X2.leave (v := some (.long (F13 (jx - (1 : Int64))))) (fun h => by rw [Bd.returns] at h; cases h)
  refine ⟨_, _, pre3 _ ?_, hrun, hended, _, _, rfl, ?_, ⟨_, rfl⟩, hW, hsame.mono (by decide) (by decide)⟩
  · show Steps p.tables e below (T2.setTop (mkF m 6 #[.val (.long jx), .second] [(.long (F13 (jx - (1 : Int64))))])) _
    exact Jvm.Own.retL X2 hx Bd.returns (hb hby d12_6) hr
  · show Q12 Z jx n0 Rst _ T2.heap _
    exact ⟨(by rfl), N2, R2⟩
theorem own_pw : ∀ a : Fin 63, nj (lshl (1 : Int64) (Int32.ofNat a.1)) = 2 ^ a.1 ∧ F7 (lshl (1 : Int64) (Int32.ofNat a.1)) = Int32.ofNat a.1 ∧ ni (Int32.ofNat a.1) % 64 = a.1 ∧ 2 ^ a.1 ≤ 4611686018427387904 := by decide +kernel
theorem own_cancel (s w : Int64) : (s + w) - s = w := by rw [Int64.add_comm]; exact Int64.add_sub_cancel w s
theorem own_int {x : Int64} (h : nj x < 9223372036854775808) : x.toInt = (nj x : Int) := by rw [nj_int, if_pos h]
theorem own_nat {x : Int64} {k : Nat} (h : x.toInt = (k : Int)) : nj x = k := by
  rw [nj_int] at h
  have := nj_lt x
  split at h <;> omega
theorem own_max (x : Int64) : nj (x &&& (9223372036854775807 : Int64)) < 9223372036854775808 := by
  rw [nj_and, show nj (9223372036854775807 : Int64) = 2 ^ 63 - 1 from rfl, mask_n]
  exact Nat.mod_lt _ (by decide)
theorem own_pos {x : Int32} {v : Nat} (h : ni x < 2147483648) : x.toInt = (ni x : Int) := by rw [ni_int, if_pos h]
theorem ni_iushr (x q : Int32) (k : Nat) (hk : ni q % 32 = k) : ni (iushr x q) = ni x / 2 ^ k := by
  have h1 : (q &&& 31).toBitVec.toNat = k := by
    show (q.toBitVec &&& (31 : Int32).toBitVec).toNat = _
    rw [BitVec.toNat_and, show (31 : Int32).toBitVec.toNat = 2 ^ 5 - 1 from by decide, Nat.and_two_pow_sub_one_eq_mod]; exact hk
  show (x.toBitVec >>> ((q &&& 31).toBitVec % 32)).toNat = x.toBitVec.toNat / 2 ^ k
  rw [BitVec.ushiftRight_eq', BitVec.toNat_ushiftRight, Nat.shiftRight_eq_div_pow, BitVec.toNat_umod, h1]; congr 2; exact Nat.mod_eq_of_lt (by show k < 32; omega)
/-- one halving of Integer.numberOfLeadingZeros -/
theorem own_stage {x n x' n' b s : Int32} {t k : Nat} (hs : ni s % 32 = k) (hb : b.toInt = (2 ^ k : Nat)) (hk : k ≤ 16) (h1 : 2 ^ t ≤ ni x) (h2 : ni x < 2 ^ (t + 1)) (ht : t < 2 * k) (ht2 : t < 31) (hx : x' = if x < b then x else iushr x s) (hn : n' = if x < b then n else n + (Int32.ofInt (-(k : Int)))) (r1 : 0 ≤ n.toInt) (r2 : n.toInt ≤ 31) (r3 : (t : Int) ≤ n.toInt) (hki : (Int32.ofInt (-(k : Int))).toInt = -(k : Int)) :
    ∃ t', t' < k ∧ t' ≤ t ∧ 2 ^ t' ≤ ni x' ∧ ni x' < 2 ^ (t' + 1) ∧ n'.toInt = n.toInt - (t - t' : Nat) := by
  have lx : ni x < 2147483648 := Nat.lt_of_lt_of_le h2 (Nat.pow_le_pow_right (n := 2) (j := 31) (by decide) (by omega))
  have ix : x.toInt = (ni x : Int) := by rw [ni_int, if_pos lx]
  have c : x < b ↔ ni x < 2 ^ k := by rw [lt32, ix, hb]; omega
  by_cases q : t < k
  · have : ni x < 2 ^ k := Nat.lt_of_lt_of_le h2 (Nat.pow_le_pow_right (by decide) (by omega))
    rw [if_pos (c.mpr this)] at hx hn
    subst hx hn
    exact ⟨t, q, Nat.le_refl _, h1, h2, by omega⟩
  · have : ¬ ni x < 2 ^ k := Nat.not_lt.mpr (Nat.le_trans (Nat.pow_le_pow_right (by decide) (by omega)) h1)
    rw [if_neg (fun z => this (c.mp z))] at hx hn
    subst hx hn
    have e : 2 ^ t = 2 ^ (t - k) * 2 ^ k := by rw [← Nat.pow_add]; congr 1; omega
    have e' : 2 ^ (t + 1) = 2 ^ (t - k + 1) * 2 ^ k := by rw [← Nat.pow_add]; congr 1; omega
    refine ⟨t - k, by omega, by omega, ?_, ?_, ?_⟩
    · rw [ni_iushr x s k hs, Nat.le_div_iff_mul_le (Nat.two_pow_pos k), ← e]; exact h1
    · rw [ni_iushr x s k hs, Nat.div_lt_iff_lt_mul (Nat.two_pow_pos k), ← e']; exact h2
    · have a := c_iadd n (Int32.ofInt (-(k : Int)))
      have b := rng32 (n + Int32.ofInt (-(k : Int)))
      rw [hki] at a
      omega
theorem own_nlz (i : Int32) (t : Nat) (h1 : 2 ^ t ≤ ni i) (h2 : ni i < 2 ^ (t + 1)) (ht : t < 32) : F15 i = Int32.ofNat (31 - t) := by
  by_cases q : t = 31
  · subst q
    have : ¬ (0 : Int32) < i := by
      rw [lt32, show (0 : Int32).toInt = 0 from rfl, ni_int]
      have := ni_lt i
      split <;> omega
    have nz : ¬ i = (0 : Int32) := fun z => by rw [z] at h1; exact absurd h1 (by decide)
    simp only [F15]
    rw [if_neg this, if_neg nz]
    rfl
  · have lx : ni i < 2147483648 := Nat.lt_of_lt_of_le h2 (Nat.pow_le_pow_right (n := 2) (j := 31) (by decide) (by omega))
    have p : (0 : Int32) < i := by
      rw [lt32, show (0 : Int32).toInt = 0 from rfl, ni_int, if_pos lx]
      have := Nat.two_pow_pos t
      omega
    simp only [F15]
    rw [if_pos p]
    obtain ⟨x1, e1⟩ : ∃ z, z = (if i < (65536 : Int32) then i else iushr i (16 : Int32)) := ⟨_, rfl⟩
    obtain ⟨n1, f1⟩ : ∃ z, z = (if i < (65536 : Int32) then (31 : Int32) else (15 : Int32)) := ⟨_, rfl⟩
    rw [← e1, ← f1]
    obtain ⟨x2, e2⟩ : ∃ z, z = (if x1 < (256 : Int32) then x1 else iushr x1 (8 : Int32)) := ⟨_, rfl⟩
    obtain ⟨n2, f2⟩ : ∃ z, z = (if x1 < (256 : Int32) then n1 else n1 + (-8 : Int32)) := ⟨_, rfl⟩
    rw [← e2, ← f2]
    obtain ⟨x3, e3⟩ : ∃ z, z = (if x2 < (16 : Int32) then x2 else iushr x2 (4 : Int32)) := ⟨_, rfl⟩
    obtain ⟨n3, f3⟩ : ∃ z, z = (if x2 < (16 : Int32) then n2 else n2 + (-4 : Int32)) := ⟨_, rfl⟩
    rw [← e3, ← f3]
    obtain ⟨x4, e4⟩ : ∃ z, z = (if x3 < (4 : Int32) then x3 else iushr x3 (2 : Int32)) := ⟨_, rfl⟩
    obtain ⟨n4, f4⟩ : ∃ z, z = (if x3 < (4 : Int32) then n3 else n3 + (-2 : Int32)) := ⟨_, rfl⟩
    rw [← e4, ← f4]
    obtain ⟨t1, a1, b1, c1, d1, g1⟩ := own_stage (s := (16 : Int32)) (k := 16) (n := (31 : Int32)) rfl rfl (by decide) h1 h2 (by omega) (by omega) e1 (f1.trans rfl) (by decide) (by decide) (by rw [show (31 : Int32).toInt = 31 from rfl]; omega) rfl
    rw [show (31 : Int32).toInt = 31 from rfl] at g1
    obtain ⟨t2, a2, b2, c2, d2, g2⟩ := own_stage (s := (8 : Int32)) (k := 8) rfl rfl (by decide) c1 d1 (by omega) (by omega) e2 (f2.trans rfl) (by omega) (by omega) (by omega) rfl
    obtain ⟨t3, a3, b3, c3, d3, g3⟩ := own_stage (s := (4 : Int32)) (k := 4) rfl rfl (by decide) c2 d2 (by omega) (by omega) e3 (f3.trans rfl) (by omega) (by omega) (by omega) rfl
    obtain ⟨t4, a4, b4, c4, d4, g4⟩ := own_stage (s := (2 : Int32)) (k := 2) rfl rfl (by decide) c3 d3 (by omega) (by omega) e4 (f4.trans rfl) (by omega) (by omega) (by omega) rfl
    have lst : ni (iushr x4 (1 : Int32)) = t4 := by
      rw [ni_iushr x4 (1 : Int32) 1 rfl]
      have : t4 = 0 ∨ t4 = 1 := by omega
      rcases this with rfl | rfl <;> omega
    have li : (iushr x4 (1 : Int32)).toInt = (t4 : Int) := by rw [ni_int, lst, if_pos (by omega)]
    apply Int32.toInt_inj.mp
    have a := c_isub n4 (iushr x4 (1 : Int32))
    have b := rng32 (n4 - iushr x4 (1 : Int32))
    rw [li] at a
    rw [Int32.toInt_ofNat_of_lt (by omega)]
    omega
theorem own_nlzL (x : Int64) (t : Nat) (h1 : 2 ^ t ≤ nj x) (h2 : nj x < 2 ^ (t + 1)) (ht : t < 64) : F14 x = Int32.ofNat (63 - t) := by
  have hi : ni ((lushr x (32 : Int32)).toInt32) = nj x / 4294967296 := by
    rw [ni_l2i, nj_lushr x (32 : Int32) 32 rfl]
    have := nj_lt x
    omega
  have lo : ni x.toInt32 = nj x % 4294967296 := ni_l2i x
  rw [F14]
  by_cases q : t < 32
  · have l : nj x < 4294967296 := Nat.lt_of_lt_of_le h2 (Nat.pow_le_pow_right (n := 2) (j := 32) (by decide) (by omega))
    have z : ((lushr x (32 : Int32)).toInt32) = (0 : Int32) := ni_inj (by rw [hi]; show _ = 0; omega)
    rw [if_pos z, own_nlz x.toInt32 t (by rw [lo]; omega) (by rw [lo]; omega) q]
    have : ∀ t : Fin 32, (32 : Int32) + Int32.ofNat (31 - t.1) = Int32.ofNat (63 - t.1) := by decide +kernel
    exact this ⟨t, q⟩
  · have e : 2 ^ t = 2 ^ (t - 32) * 4294967296 := by rw [show (4294967296 : Nat) = 2 ^ 32 from rfl, ← Nat.pow_add]; congr 1; omega
    have e' : 2 ^ (t + 1) = 2 ^ (t - 32 + 1) * 4294967296 := by rw [show (4294967296 : Nat) = 2 ^ 32 from rfl, ← Nat.pow_add]; congr 1; omega
    have p := Nat.two_pow_pos (t - 32)
    have z : ¬ ((lushr x (32 : Int32)).toInt32) = (0 : Int32) := fun z => by
      rw [z, show ni (0 : Int32) = 0 from rfl] at hi
      omega
    rw [if_neg z, own_nlz _ (t - 32) (by rw [hi]; omega) (by rw [hi]; omega) (by omega)]
    congr 1
    omega
theorem own_hob (x : Int64) (t : Nat) (h1 : 2 ^ t ≤ nj x) (h2 : nj x < 2 ^ (t + 1)) (ht : t < 63) : nj (F13 x) = 2 ^ t := by
  rw [F13, own_nlzL x t h1 h2 (by omega), nj_and]
  have m : ∀ t : Fin 63, nj (lushr (-9223372036854775808 : Int64) (Int32.ofNat (63 - t.1))) = 2 ^ t.1 := by decide +kernel
  rw [m ⟨t, ht⟩]
  apply Nat.eq_of_testBit_eq
  intro i
  rw [Nat.testBit_and, Nat.testBit_two_pow]
  by_cases q : t = i
  · subst q
    have b : (nj x).testBit t = decide (nj x / 2 ^ t % 2 = 1) := Nat.testBit_eq_decide_div_mod_eq
    have d : nj x / 2 ^ t = 1 := by
      refine Nat.div_eq_of_lt_le (by omega) ?_
      rw [Nat.pow_succ] at h2
      omega
    rw [b, d]
    simp
  · simp [q]
theorem own_top {x : Nat} (h : 0 < x) (h63 : x < 9223372036854775808) : ∃ t, t < 63 ∧ 2 ^ t ≤ x ∧ x < 2 ^ (t + 1) := by
  refine ⟨Nat.log2 x, ?_, Nat.log2_self_le (by omega), Nat.lt_log2_self⟩
  exact (Nat.log2_lt (by omega)).mpr (by simpa using h63)
theorem own_uniq {x t a : Nat} (h1 : 2 ^ t ≤ x) (h2 : x < 2 ^ (t + 1)) (k1 : 2 ^ a ≤ x) (k2 : x < 2 ^ (a + 1)) : t = a := by
  have p : t < a + 1 := (Nat.pow_lt_pow_iff_right (a := 2) (by decide)).mp (Nat.lt_of_le_of_lt h1 k2)
  have q : a < t + 1 := (Nat.pow_lt_pow_iff_right (a := 2) (by decide)).mp (Nat.lt_of_le_of_lt k1 h2)
  omega
theorem own_pow2 {J a t : Nat} (hJ : 0 < J) (h : J * 2 ^ a = 2 ^ t) : ∃ r, J = 2 ^ r ∧ t = r + a := by
  have l : 2 ^ a ≤ 2 ^ t := by rw [← h]; exact Nat.le_mul_of_pos_left _ hJ
  have q : a ≤ t := (Nat.pow_le_pow_iff_right (a := 2) (by decide)).mp l
  refine ⟨t - a, ?_, by omega⟩
  have e : 2 ^ t = 2 ^ (t - a) * 2 ^ a := by rw [← Nat.pow_add]; congr 1; omega
  rw [e] at h
  exact Nat.eq_of_mul_eq_mul_right (Nat.two_pow_pos a) h
theorem own_odd1 {r : Nat} (h : 2 ^ r % 2 = 1) : r = 0 := by
  cases r with
  | zero => rfl
  | succ r => rw [Nat.pow_succ] at h; omega
theorem own_even (n : Int64) : (n &&& (1 : Int64)) = (0 : Int64) ↔ nj n % 2 = 0 := by
  have e : nj (n &&& (1 : Int64)) = nj n % 2 := by rw [nj_and, show nj (1 : Int64) = 2 ^ 1 - 1 from rfl, mask_n]
  constructor
  · intro h; rw [← e, h]; rfl
  · intro h; apply nj_inj; rw [e, h]; rfl
theorem own_oddI (n : Int64) : (n &&& (1 : Int64)) = (1 : Int64) ↔ nj n % 2 = 1 := by
  have e : nj (n &&& (1 : Int64)) = nj n % 2 := by rw [nj_and, show nj (1 : Int64) = 2 ^ 1 - 1 from rfl, mask_n]
  constructor
  · intro h; rw [← e, h]; rfl
  · intro h; apply nj_inj; rw [e, h]; rfl
theorem own_zero (n : Int64) : n = (0 : Int64) ↔ nj n = 0 := ⟨fun h => by rw [h]; rfl, fun h => nj_inj h⟩
theorem own_clp : ∀ (k : Nat) (n : Int64), 0 < nj n → nj n < 2 ^ k → (nj (cl k n n).2 / 2 = 0 ↔ ∃ r, nj n = 2 ^ r)
  | 0, n, h0, h1 => absurd h1 (by omega)
  | k + 1, n, h0, h1 => by
    by_cases q : (n &&& (1 : Int64)) = (0 : Int64) ∧ ¬ (n = (0 : Int64))
    · have e : cl (k + 1) n n = cl k (lushr n (1 : Int32)) (lushr n (1 : Int32)) := if_pos q
      have s : nj (lushr n (1 : Int32)) = nj n / 2 := nj_lushr n (1 : Int32) 1 rfl
      rw [own_even] at q
      have ih := own_clp k (lushr n (1 : Int32)) (by omega) (by rw [s]; rw [Nat.pow_succ] at h1; omega)
      rw [e, ih, s]
      constructor
      · rintro ⟨r, hr⟩
        exact ⟨r + 1, by rw [Nat.pow_succ]; omega⟩
      · rintro ⟨r, hr⟩
        cases r with
        | zero => omega
        | succ r => exact ⟨r, by rw [Nat.pow_succ] at hr; omega⟩
    · have e : cl (k + 1) n n = (n, n) := if_neg q
      rw [own_even, own_zero] at q
      rw [e]
      constructor
      · intro h; exact ⟨0, by simp only at h; omega⟩
      · rintro ⟨r, hr⟩
        have := own_odd1 (r := r) (by omega)
        subst this
        simp only
        omega
theorem own_cl1 (n l : Int64) (h : nj n % 2 = 1) : cl 64 n l = (n, l) := by
  show (if _ then _ else _) = _
  rw [if_neg]
  rw [own_even]
  omega
theorem own_child {nd ls : Int64} {J La W N K t a : Nat} (hW : W = 2 ^ a) (hN1 : 1 ≤ N) (hJ : J * W + W ≤ N) (hLa : La = (N - 1) / W) (hroot : La ≠ 0) (hK : K = 2 ^ t) (k1 : K ≤ N - 1) (k2 : N - 1 < 2 ^ (t + 1)) (hn : nj nd = J) (hl : nj ls = La) :
    nj (cL nd ls) = 0 ↔ ((J * W = 0 ∧ W = K) ∨ (J * W = K ∧ N - K = W)) := by
  have pW : 0 < W := by rw [hW]; exact Nat.two_pow_pos a
  have d1 : La * W ≤ N - 1 := by rw [hLa]; exact Nat.div_mul_le_self _ _
  have d2 : N - 1 < (La + 1) * W := by rw [hLa]; exact (Nat.div_lt_iff_lt_mul pW).mp (Nat.lt_succ_self _)
  have JL : J ≤ La := by rw [hLa, Nat.le_div_iff_mul_le pW]; omega
  have s1 : nj (lushr ls (1 : Int32)) = La / 2 := by rw [nj_lushr ls (1 : Int32) 1 rfl, hl]
  have one : La = 1 → W = K := fun h => by
    rw [h] at d1 d2
    have := own_uniq (x := N - 1) (t := t) (a := a) (by omega) k2 (by omega) (by rw [Nat.pow_succ]; omega)
    rw [hW, hK, this]
  rw [cL, F11]
  by_cases q : (nd &&& (1 : Int64)) = (1 : Int64)
  · rw [if_pos q, if_neg (by decide)]
    rw [own_oddI, hn] at q
    rw [own_cl1 nd ls (by omega), s1]
    constructor
    · intro h
      have l1 : La = 1 := by omega
      have j1 : J = 1 := by omega
      have w := one l1
      right
      have e1 : J * W = W := by rw [j1, Nat.one_mul]
      have e2 : (La + 1) * W = 2 * W := by rw [l1]
      omega
    · rintro (⟨h, -⟩ | ⟨h, h'⟩)
      · have : J = 0 := by
          rcases Nat.mul_eq_zero.mp h with z | z
          · exact z
          · omega
        omega
      · rw [hW, hK] at h
        obtain ⟨r, e, -⟩ := own_pow2 (by omega) h
        have := own_odd1 (r := r) (by omega)
        rw [this] at e
        have j1 : J = 1 := e
        rw [hW] at h'
        rw [j1] at h
        have : La < 2 := by
          rw [hLa, Nat.div_lt_iff_lt_mul pW]
          omega
        omega
  · rw [if_neg q]
    rw [own_oddI, hn] at q
    by_cases z : nd = ls
    · rw [bz_t z, if_neg (by decide)]
      have jl : J = La := by rw [← hn, ← hl, z]
      have nN : N = J * W + W := by
        rw [← jl, Nat.add_mul, Nat.one_mul] at d2
        omega
      have s2 : nj (lushr (cl 64 nd ls).2 (1 : Int32)) = nj (cl 64 nd ls).2 / 2 := nj_lushr _ (1 : Int32) 1 rfl
      have p := own_clp 64 nd (by omega) (nj_lt nd)
      rw [s2, ← z, p, hn]
      constructor
      · rintro ⟨r, hr⟩
        right
        have e : J * W = 2 ^ (r + a) := by rw [hr, hW, Nat.pow_add]
        have two : W ≤ J * W := Nat.le_mul_of_pos_left _ (by omega)
        have u := own_uniq (x := N - 1) (t := t) (a := r + a) (by omega) k2 (by omega) (by rw [Nat.pow_succ]; omega)
        rw [← u, ← hK] at e
        omega
      · rintro (⟨h, -⟩ | ⟨h, -⟩)
        · have : J = 0 := by
            rcases Nat.mul_eq_zero.mp h with z | z
            · exact z
            · omega
          omega
        · rw [hW, hK] at h
          obtain ⟨r, e, -⟩ := own_pow2 (by omega) h
          exact ⟨r, e⟩
    · rw [bz_f z, if_pos rfl, s1]
      have jl : J ≠ La := fun h => z (nj_inj (by rw [hn, hl, h]))
      constructor
      · intro h
        have l1 : La = 1 := by omega
        have j0 : J = 0 := by omega
        left
        exact ⟨by rw [j0, Nat.zero_mul], one l1⟩
      · rintro (⟨h, h'⟩ | ⟨h, h'⟩)
        · rw [Nat.pow_succ, ← hK, ← h'] at k2
          have : La < 2 := by
            rw [hLa, Nat.div_lt_iff_lt_mul pW]
            omega
          omega
        · exfalso
          apply jl
          have nN : N = J * W + W := by omega
          rw [hLa]
          refine (Nat.div_eq_of_lt_le ?_ ?_).symm
          · omega
          · rw [Nat.add_mul, Nat.one_mul]; omega
/-- the law's numbers -/
theorem own_facts {nx jx v3 v5 v11 v12 : Int64} {a : Nat} (ha : a < 63) (h3 : v3 = (lshl (1 : Int64) (Int32.ofNat a))) (h5 : v5 = (nx &&& (9223372036854775807 : Int64))) (h11 : v11 = (if v5 < v3 then (v5 + v3) else v5)) (h12 : v12 = ((jx &&& (9223372036854775807 : Int64)) % (v11 / v3))) :
    nj v3 = 2 ^ a ∧ 2 ^ a ≤ nj v11 ∧ nj v11 < 9223372036854775808 ∧ nj (v12 * v3) = nj v12 * 2 ^ a ∧ nj v12 * 2 ^ a + 2 ^ a ≤ nj v11 ∧ nj ((v12 * v3) + v3) = nj v12 * 2 ^ a + 2 ^ a := by
  obtain ⟨k1, -, -, k4⟩ := own_pw ⟨a, ha⟩
  simp only at k1 k4
  have p := Nat.two_pow_pos a
  have e3 : nj v3 = 2 ^ a := by rw [h3]; exact k1
  have l5 : nj v5 < 9223372036854775808 := by rw [h5]; exact own_max nx
  have i3 := own_int (x := v3) (by omega)
  have i5 := own_int l5
  have n11 : 2 ^ a ≤ nj v11 ∧ nj v11 < 9223372036854775808 := by
    by_cases q : v5 < v3
    · rw [if_pos q] at h11
      rw [lt64, i3, i5] at q
      rw [h11, nj_add, e3]
      omega
    · rw [if_neg q] at h11
      rw [lt64, i3, i5] at q
      rw [h11]
      omega
  have i11 := own_int n11.2
  have dv : nj (v11 / v3) = nj v11 / 2 ^ a := by
    apply own_nat
    rw [Int64.toInt_div_of_ne_right _ _ (fun z => by rw [z, show nj (-1 : Int64) = 18446744073709551615 from rfl] at e3; omega), i3, i11, e3]
    rfl
  have c1 : 1 ≤ nj v11 / 2 ^ a := by rw [Nat.le_div_iff_mul_le p]; omega
  have c2 : nj v11 / 2 ^ a ≤ nj v11 := Nat.div_le_self _ _
  have im := own_int (own_max jx)
  have rm : nj v12 = nj (jx &&& (9223372036854775807 : Int64)) % (nj v11 / 2 ^ a) := by
    apply own_nat
    rw [h12, Int64.toInt_mod, im, own_int (x := v11 / v3) (by omega), dv]
    rfl
  have jl : nj v12 < nj v11 / 2 ^ a := by rw [rm]; exact Nat.mod_lt _ c1
  have jw : nj v12 * 2 ^ a + 2 ^ a ≤ nj v11 := by
    have := (Nat.le_div_iff_mul_le p).mp (show nj v12 + 1 ≤ nj v11 / 2 ^ a from jl)
    rw [Nat.add_mul, Nat.one_mul] at this
    exact this
  have ml : nj (v12 * v3) = nj v12 * 2 ^ a := by
    show (v12.toBitVec * v3.toBitVec).toNat = _
    rw [BitVec.toNat_mul]
    show nj v12 * nj v3 % _ = _
    rw [e3]
    exact Nat.mod_eq_of_lt (by omega)
  refine ⟨e3, n11.1, n11.2, ml, jw, ?_⟩
  rw [nj_add, ml, e3]
  exact Nat.mod_eq_of_lt (by omega)
theorem own_g {s w : Int64} {S W N : Nat} (h1 : nj s = S) (h2 : nj (s + w) = S + W) (h3 : S + W ≤ N) (h4 : N < 9223372036854775808) (h5 : 0 < W) : ¬ (s < (0 : Int64)) ∧ s < s + w := by
  constructor
  · rw [lt64, own_int (by omega), show (0 : Int64).toInt = 0 from rfl]; omega
  · rw [lt64, own_int (by omega), own_int (by omega)]; omega
theorem own_nd {v3 s n : Int64} {a : Nat} (ha : a < 63) (h3 : v3 = (lshl (1 : Int64) (Int32.ofNat a))) {J : Nat} (hs : nj s = J * 2 ^ a) (hn : 1 ≤ nj n) : nj (lushr s (F7 ((s + v3) - s))) = J ∧ nj (lushr (n - (1 : Int64)) (F7 ((s + v3) - s))) = (nj n - 1) / 2 ^ a := by
  obtain ⟨-, k2, k3, -⟩ := own_pw ⟨a, ha⟩
  simp only at k2 k3
  rw [own_cancel, h3, k2, nj_lushr _ _ _ k3, nj_lushr _ _ _ k3, hs, nj_sub, show nj (1 : Int64) = 1 from rfl]
  refine ⟨Nat.mul_div_cancel _ (Nat.two_pow_pos a), ?_⟩
  congr 1
  have := nj_lt n
  omega
theorem own_first {v3 v11 ls : Int64} {a : Nat} (e3 : nj v3 = 2 ^ a) (h : 2 ^ a ≤ nj v11) (hl : nj ls = (nj v11 - 1) / 2 ^ a) : F9 ls = bz (v11 = v3) := by
  rw [F9]
  apply bz_congr
  have p := Nat.two_pow_pos a
  rw [own_zero, hl]
  constructor
  · intro z
    have : nj v11 - 1 < 2 ^ a := by
      rcases Nat.lt_or_ge (nj v11 - 1) (2 ^ a) with q | q
      · exact q
      · have := Nat.div_pos q p
        omega
    exact nj_inj (by omega)
  · intro z
    rw [z, e3]
    exact Nat.div_eq_of_lt (by omega)
theorem own_last {v3 s n nd ls : Int64} {a J : Nat} (ha : a < 63) (e3 : nj v3 = 2 ^ a) (hn2 : nj n < 9223372036854775808) (hs : nj s = J * 2 ^ a) (hJ : J * 2 ^ a + 2 ^ a ≤ nj n) (hnd : nj nd = J) (hls : nj ls = (nj n - 1) / 2 ^ a) (hr : ¬ ls = (0 : Int64)) :
    F9 (cL nd ls) = (bz (((s = (0 : Int64)) ∧ (v3 = (F12 n))) ∨ ((s = (F12 n)) ∧ ((n - (F12 n)) = v3)))) := by
  have p := Nat.two_pow_pos a
  have n1 : nj (n - (1 : Int64)) = nj n - 1 := by
    rw [nj_sub, show nj (1 : Int64) = 1 from rfl]
    have := nj_lt n
    omega
  have r : (nj n - 1) / 2 ^ a ≠ 0 := fun z => hr ((own_zero ls).mpr (by rw [hls, z]))
  have x0 : 0 < nj n - 1 := by
    rcases Nat.eq_zero_or_pos (nj n - 1) with z | z
    · rw [z, Nat.zero_div] at r; exact absurd rfl r
    · exact z
  obtain ⟨t, t0, t1, t2⟩ := own_top x0 (by omega)
  have hk : nj (F12 n) = 2 ^ t := by rw [F12]; exact own_hob _ t (by rw [n1]; exact t1) (by rw [n1]; exact t2) t0
  have key := own_child (nd := nd) (ls := ls) (J := J) (W := 2 ^ a) (N := nj n) (K := 2 ^ t) (t := t) (a := a) rfl (by omega) hJ hls (by rw [hls]; exact r) rfl t1 t2 hnd rfl
  rw [F9]
  apply bz_congr
  rw [own_zero, key]
  have q1 : s = (0 : Int64) ↔ J * 2 ^ a = 0 := by rw [own_zero, hs]
  have q2 : v3 = (F12 n) ↔ 2 ^ a = 2 ^ t := ⟨fun h => by rw [← e3, ← hk, h], fun h => nj_inj (by rw [e3, hk, h])⟩
  have q3 : s = (F12 n) ↔ J * 2 ^ a = 2 ^ t := ⟨fun h => by rw [← hs, ← hk, h], fun h => nj_inj (by rw [hs, hk, h])⟩
  have n2 : nj (n - (F12 n)) = nj n - 2 ^ t := by
    rw [nj_sub, hk]
    have := nj_lt n
    omega
  have q4 : (n - (F12 n)) = v3 ↔ nj n - 2 ^ t = 2 ^ a := ⟨fun h => by rw [← n2, ← e3, h], fun h => nj_inj (by rw [n2, e3, h])⟩
  rw [q1, q2, q3, q4]
theorem own_d0 (lx : Int32) {v1 : Int32} {v3 : Int64} (h1 : v1 = ((lx &&& (2147483647 : Int32)) % (63 : Int32))) (h3 : v3 = (lshl (1 : Int64) v1)) (z : v3 = 0) : False := by
  obtain ⟨an, han, ean⟩ := remN lx (63 : Int32) 63 rfl (by decide) (by decide)
  rw [h1, ean] at h3
  obtain ⟨k1, -, -, -⟩ := own_pw ⟨an, han⟩
  simp only at k1
  rw [← h3, z, show nj (0 : Int64) = 0 from rfl] at k1
  have := Nat.two_pow_pos an
  omega
theorem own_r0 (lx : Int32) (nx : Int64) {v1 : Int32} {v3 v5 v11 : Int64} (h1 : v1 = ((lx &&& (2147483647 : Int32)) % (63 : Int32))) (h3 : v3 = (lshl (1 : Int64) v1)) (h5 : v5 = (nx &&& (9223372036854775807 : Int64))) (h11 : v11 = (if v5 < v3 then (v5 + v3) else v5)) (z : v11 / v3 = 0) : False := by
  obtain ⟨an, han, ean⟩ := remN lx (63 : Int32) 63 rfl (by decide) (by decide)
  rw [h1, ean] at h3
  obtain ⟨g1, g2, g3, -⟩ := own_facts (jx := 0) han h3 h5 h11 rfl
  obtain ⟨-, -, -, k4⟩ := own_pw ⟨an, han⟩
  simp only at k4
  have p := Nat.two_pow_pos an
  have d := congrArg Int64.toInt z
  rw [Int64.toInt_div_of_ne_right _ _ (fun z => by rw [z, show nj (-1 : Int64) = 18446744073709551615 from rfl] at g1; omega), own_int (x := v3) (by omega), own_int g3, g1, show (0 : Int64).toInt = 0 from rfl] at d
  have c1 : 1 ≤ nj v11 / 2 ^ an := by rw [Nat.le_div_iff_mul_le p]; omega
  have e : ((nj v11 : Int)).tdiv ((2 ^ an : Nat) : Int) = ((nj v11 / 2 ^ an : Nat) : Int) := rfl
  rw [e] at d
  omega
theorem pd__28JJ_29V : parseMethodDescriptor "(JJ)V" = some ⟨[.long, .long], none⟩ := by decide +kernel
theorem pd__28Lcom_2fexample_2fgapless_5flog_2fgaplesslog_2ftree_2fSubtree_3bJ_29V : parseMethodDescriptor "(Lcom/example/gapless_log/gaplesslog/tree/Subtree;J)V" = some ⟨[(.object "com/example/gapless_log/gaplesslog/tree/Subtree"), .long], none⟩ := by decide +kernel
theorem pn_com_example_gapless_log_gaplesslog_tree_AscentAtRootPinLaw : plainName "com/example/gapless_log/gaplesslog/tree/AscentAtRootPinLaw" = true := by first | (simp [plainName, overriddenIn]; done) | decide +kernel
theorem ef_0 (m : MethodId) (x0 : Int64) (x1 : Int32) (x2 : Int64) : entryFrame m #[(.long x0), (.int x1), (.long x2)] maxLocals = mkF m 0 #[.val (.long x0), .second, .val (.int x1), .val (.long x2), .second, .unset, .unset, .unset, .unset, .unset, .unset, .unset, .unset, .unset, .unset, .unset, .unset, .unset, .unset, .unset, .unset] [] := by first | (simp [entryFrame, mkF, argsToLocals, Value.category, maxLocals]; done) | rfl
def Q0 (Z : State) (nx : Int64) (lx : Int32) (jx : Int64) (n0 : Nat) (Rst : RL) (v : Option Value) (h : Heap) (L : List Loc) : Prop := v = some (.int (1 : Int32)) ∧ Fr n0 L ∧ Rep Z n0 h (Rst)
set_option maxRecDepth 65536 in
set_option maxHeartbeats 40000000 in
theorem rm0 (l : Launch) (Z : State) (a0 : Array Value) (hw : ∀ d ∈ tables_1, d.before a0 Z = true) (ws : List Jvm.Cond) (nx : Int64) (lx : Int32) (jx : Int64) (h0 : Heap) (n0 : Nat) (R0 : Rep Z n0 h0 ([])) :
    MetFree l x (head1 (Jvm.Cond.code x code maxLocals ret :: ws) room_1) (fun a U => a = #[(.long nx), (.int lx), (.long jx)] ∧ Z.Warmed39 U.vm ∧ U.heap = h0) (fun _ _ _ _ _ => True) (fun _ U o U' => ∃ v L, o = .returned v ∧ Q0 Z nx lx jx n0 [] v U'.heap L ∧ FrameEnd U o U' L 16 128) := by
  refine MetFree.of_bodySF (plainFor_of_name pn_com_example_gapless_log_gaplesslog_tree_AscentAtRootPinLaw) hisR ?_
  intro p e s m args below meth c s₁ Bd hml0 hP hK
  obtain ⟨rfl, hZ, hh⟩ := hP
  have hx := Bd.exec
  have hby := Bd.bytes
  have hml : c.maxLocals = 21 := hml0
  have hown : s.vm.findClass "com/example/gapless_log/gaplesslog/tree/AscentAtRootPinLaw" = some m.cls := findClass_of_methodNamed Bd.named
  have hnm := (name_of_methodNamed Bd.named Bd.method).1
  have X0 : Stand p l e room_1 s m #[(.long nx), (.int lx), (.long jx)] below meth c s₁ [] 0 0 := Stand.of_body Bd
  have e0 : s₁.heap = h0 := by rw [← hh, Bd.state]; rfl
  have N0 := Fr.nil n0
  have pre0 : ∀ t, Steps p.tables e below (s₁.setTop (mkF m 0 #[.val (.long nx), .second, .val (.int lx), .val (.long jx), .second, .unset, .unset, .unset, .unset, .unset, .unset, .unset, .unset, .unset, .unset, .unset, .unset, .unset, .unset, .unset, .unset] [])) t → Steps p.tables e below (s₁.setTop (entryFrame m #[(.long nx), (.int lx), (.long jx)] maxLocals)) t := fun t k => castTop (ef_0 m nx lx jx) k
  have pre2 : ∀ t, Steps p.tables e below (s₁.setTop (mkF m 9 #[.val (.long nx), .second, .val (.int lx), .val (.long jx), .second, .val (.int ((lx &&& (2147483647 : Int32)) % (63 : Int32))), .unset, .unset, .unset, .unset, .unset, .unset, .unset, .unset, .unset, .unset, .unset, .unset, .unset, .unset, .unset] [])) t → Steps p.tables e below (s₁.setTop (entryFrame m #[(.long nx), (.int lx), (.long jx)] maxLocals)) t := fun t k => pre0 t (by
    show Steps p.tables e below (s₁.setTop (mkF m 0 #[.val (.long nx), .second, .val (.int lx), .val (.long jx), .second, .unset, .unset, .unset, .unset, .unset, .unset, .unset, .unset, .unset, .unset, .unset, .unset, .unset, .unset, .unset, .unset] [])) _
    refine XS.iloadN X0.here hx rfl (hb hby at_0) rfl ?_
    refine X0.ldcInt hx hown (mvT hZ (hw _ (List.mem_of_getElem? (i := 0) rfl))) (g := (mkF m 1 #[.val (.long nx), .second, .val (.int lx), .val (.long jx), .second, .unset, .unset, .unset, .unset, .unset, .unset, .unset, .unset, .unset, .unset, .unset, .unset, .unset, .unset, .unset, .unset] [(.int lx)])) rfl (hb hby at_1) _ ?_
    refine XS.iand X0.here hx rfl (hb hby at_3) rfl ?_
    refine XS.bipush X0.here hx rfl (hb hby at_4) ?_
    refine iremM X0 hx rfl (hb hby at_6) rfl (by decide) ?_
    refine XS.istore X0.here hx rfl (hb hby at_7) rfl (l' := #[.val (.long nx), .second, .val (.int lx), .val (.long jx), .second, .val (.int ((lx &&& (2147483647 : Int32)) % (63 : Int32))), .unset, .unset, .unset, .unset, .unset, .unset, .unset, .unset, .unset, .unset, .unset, .unset, .unset, .unset, .unset]) rfl ?_
    exact k)
  obtain ⟨v1, hv1⟩ : ∃ z : Int32, z = ((lx &&& (2147483647 : Int32)) % (63 : Int32)) := ⟨_, rfl⟩
  rw [← hv1] at pre2
  have pre4 : ∀ t, Steps p.tables e below (s₁.setTop (mkF m 15 #[.val (.long nx), .second, .val (.int lx), .val (.long jx), .second, .val (.int v1), .val (.long (lshl (1 : Int64) v1)), .second, .unset, .unset, .unset, .unset, .unset, .unset, .unset, .unset, .unset, .unset, .unset, .unset, .unset] [])) t → Steps p.tables e below (s₁.setTop (entryFrame m #[(.long nx), (.int lx), (.long jx)] maxLocals)) t := fun t k => pre2 t (by
    show Steps p.tables e below (s₁.setTop (mkF m 9 #[.val (.long nx), .second, .val (.int lx), .val (.long jx), .second, .val (.int v1), .unset, .unset, .unset, .unset, .unset, .unset, .unset, .unset, .unset, .unset, .unset, .unset, .unset, .unset, .unset] [])) _
    refine XS.lconst X0.here hx rfl (hb hby at_9) ?_
    refine XS.iload X0.here hx rfl (hb hby at_10) rfl ?_
    refine XS.lshl X0.here hx rfl (hb hby at_12) rfl ?_
    refine XS.lstore X0.here hx rfl (hb hby at_13) rfl (l' := #[.val (.long nx), .second, .val (.int lx), .val (.long jx), .second, .val (.int v1), .val (.long (lshl (1 : Int64) v1)), .second, .unset, .unset, .unset, .unset, .unset, .unset, .unset, .unset, .unset, .unset, .unset, .unset, .unset]) rfl ?_
    exact k)
  obtain ⟨v3, hv3⟩ : ∃ z : Int64, z = (lshl (1 : Int64) v1) := ⟨_, rfl⟩
  rw [← hv3] at pre4
  have pre6 : ∀ t, Steps p.tables e below (s₁.setTop (mkF m 22 #[.val (.long nx), .second, .val (.int lx), .val (.long jx), .second, .val (.int v1), .val (.long v3), .second, .val (.long (nx &&& (9223372036854775807 : Int64))), .second, .unset, .unset, .unset, .unset, .unset, .unset, .unset, .unset, .unset, .unset, .unset] [])) t → Steps p.tables e below (s₁.setTop (entryFrame m #[(.long nx), (.int lx), (.long jx)] maxLocals)) t := fun t k => pre4 t (by
    show Steps p.tables e below (s₁.setTop (mkF m 15 #[.val (.long nx), .second, .val (.int lx), .val (.long jx), .second, .val (.int v1), .val (.long v3), .second, .unset, .unset, .unset, .unset, .unset, .unset, .unset, .unset, .unset, .unset, .unset, .unset, .unset] [])) _
    refine XS.lloadN X0.here hx rfl (hb hby at_15) rfl ?_
    refine X0.ldc2Long hx hown (mvT hZ (hw _ (List.mem_of_getElem? (i := 1) rfl))) (g := (mkF m 16 #[.val (.long nx), .second, .val (.int lx), .val (.long jx), .second, .val (.int v1), .val (.long v3), .second, .unset, .unset, .unset, .unset, .unset, .unset, .unset, .unset, .unset, .unset, .unset, .unset, .unset] [(.long nx)])) rfl (hb hby at_16) _ ?_
    refine XS.land X0.here hx rfl (hb hby at_19) rfl ?_
    refine XS.lstore X0.here hx rfl (hb hby at_20) rfl (l' := #[.val (.long nx), .second, .val (.int lx), .val (.long jx), .second, .val (.int v1), .val (.long v3), .second, .val (.long (nx &&& (9223372036854775807 : Int64))), .second, .unset, .unset, .unset, .unset, .unset, .unset, .unset, .unset, .unset, .unset, .unset]) rfl ?_
    exact k)
  obtain ⟨v5, hv5⟩ : ∃ z : Int64, z = (nx &&& (9223372036854775807 : Int64)) := ⟨_, rfl⟩
  rw [← hv5] at pre6
  have pre9 : ∀ t, Steps p.tables e below (s₁.setTop (mkF m 27 #[.val (.long nx), .second, .val (.int lx), .val (.long jx), .second, .val (.int v1), .val (.long v3), .second, .val (.long v5), .second, .unset, .unset, .unset, .unset, .unset, .unset, .unset, .unset, .unset, .unset, .unset] [(.int (XT.cmpL v5 v3))])) t → Steps p.tables e below (s₁.setTop (entryFrame m #[(.long nx), (.int lx), (.long jx)] maxLocals)) t := fun t k => pre6 t (by
    show Steps p.tables e below (s₁.setTop (mkF m 22 #[.val (.long nx), .second, .val (.int lx), .val (.long jx), .second, .val (.int v1), .val (.long v3), .second, .val (.long v5), .second, .unset, .unset, .unset, .unset, .unset, .unset, .unset, .unset, .unset, .unset, .unset] [])) _
    refine XS.lload X0.here hx rfl (hb hby at_22) rfl ?_
    refine XS.lload X0.here hx rfl (hb hby at_24) rfl ?_
    refine XS.lcmp X0.here hx rfl (hb hby at_26) rfl ?_
    exact k)
  have tl8 : ∀ t, Steps p.tables e below (s₁.setTop (mkF m 37 #[.val (.long nx), .second, .val (.int lx), .val (.long jx), .second, .val (.int v1), .val (.long v3), .second, .val (.long (if v5 < v3 then (v5 + v3) else v5)), .second, .unset, .unset, .unset, .unset, .unset, .unset, .unset, .unset, .unset, .unset, .unset] [])) t → Steps p.tables e below (s₁.setTop (mkF m 27 #[.val (.long nx), .second, .val (.int lx), .val (.long jx), .second, .val (.int v1), .val (.long v3), .second, .val (.long v5), .second, .unset, .unset, .unset, .unset, .unset, .unset, .unset, .unset, .unset, .unset, .unset] [(.int (XT.cmpL v5 v3))])) t := fun t k => by
    by_cases hb7 : v5 < v3
    · refine XS.ifNo X0.here hx rfl (hb hby at_27) rfl (XT.ll_ge_f hb7) ?_
      rw [show (if v5 < v3 then (v5 + v3) else v5) = (v5 + v3) from if_pos hb7] at k
      show Steps p.tables e below (s₁.setTop (mkF m 30 #[.val (.long nx), .second, .val (.int lx), .val (.long jx), .second, .val (.int v1), .val (.long v3), .second, .val (.long v5), .second, .unset, .unset, .unset, .unset, .unset, .unset, .unset, .unset, .unset, .unset, .unset] [])) _
      refine XS.lload X0.here hx rfl (hb hby at_30) rfl ?_
      refine XS.lload X0.here hx rfl (hb hby at_32) rfl ?_
      refine XS.ladd X0.here hx rfl (hb hby at_34) rfl ?_
      refine XS.lstore X0.here hx rfl (hb hby at_35) rfl (l' := #[.val (.long nx), .second, .val (.int lx), .val (.long jx), .second, .val (.int v1), .val (.long v3), .second, .val (.long (v5 + v3)), .second, .unset, .unset, .unset, .unset, .unset, .unset, .unset, .unset, .unset, .unset, .unset]) rfl ?_
      exact k
    · refine XS.ifYes X0.here hx rfl (pc0 := 27) (pc' := 37) rfl (hb hby at_27) rfl (XT.ll_ge_t hb7) (by decide) (by decide) ?_
      rw [show (if v5 < v3 then (v5 + v3) else v5) = v5 from if_neg hb7] at k
      exact k
  have pre10 : ∀ t, Steps p.tables e below (s₁.setTop (mkF m 37 #[.val (.long nx), .second, .val (.int lx), .val (.long jx), .second, .val (.int v1), .val (.long v3), .second, .val (.long (if v5 < v3 then (v5 + v3) else v5)), .second, .unset, .unset, .unset, .unset, .unset, .unset, .unset, .unset, .unset, .unset, .unset] [])) t → Steps p.tables e below (s₁.setTop (entryFrame m #[(.long nx), (.int lx), (.long jx)] maxLocals)) t := fun t k => pre9 t (by
    exact tl8 t k)
  obtain ⟨v11, hv11⟩ : ∃ z : Int64, z = (if v5 < v3 then (v5 + v3) else v5) := ⟨_, rfl⟩
  rw [← hv11] at pre10
  have pre13 : ∀ t, Steps p.tables e below (s₁.setTop (mkF m 54 #[.val (.long nx), .second, .val (.int lx), .val (.long jx), .second, .val (.int v1), .val (.long v3), .second, .val (.long v11), .second, .val (.long (v11 / v3)), .second, .val (.long ((jx &&& (9223372036854775807 : Int64)) % (v11 / v3))), .second, .unset, .unset, .unset, .unset, .unset, .unset, .unset] [])) t → Steps p.tables e below (s₁.setTop (entryFrame m #[(.long nx), (.int lx), (.long jx)] maxLocals)) t := fun t k => pre10 t (by
    show Steps p.tables e below (s₁.setTop (mkF m 37 #[.val (.long nx), .second, .val (.int lx), .val (.long jx), .second, .val (.int v1), .val (.long v3), .second, .val (.long v11), .second, .unset, .unset, .unset, .unset, .unset, .unset, .unset, .unset, .unset, .unset, .unset] [])) _
    refine XS.lload X0.here hx rfl (hb hby at_37) rfl ?_
    refine XS.lload X0.here hx rfl (hb hby at_39) rfl ?_
    refine XS.ldiv X0.here hx rfl (hb hby at_41) rfl ((fun z => own_d0 lx hv1 hv3 z) : v3 ≠ 0) ?_
    refine XS.lstore X0.here hx rfl (hb hby at_42) rfl (l' := #[.val (.long nx), .second, .val (.int lx), .val (.long jx), .second, .val (.int v1), .val (.long v3), .second, .val (.long v11), .second, .val (.long (v11 / v3)), .second, .unset, .unset, .unset, .unset, .unset, .unset, .unset, .unset, .unset]) rfl ?_
    refine XS.lloadN X0.here hx rfl (hb hby at_44) rfl ?_
    refine X0.ldc2Long hx hown (mvT hZ (hw _ (List.mem_of_getElem? (i := 1) rfl))) (g := (mkF m 45 #[.val (.long nx), .second, .val (.int lx), .val (.long jx), .second, .val (.int v1), .val (.long v3), .second, .val (.long v11), .second, .val (.long (v11 / v3)), .second, .unset, .unset, .unset, .unset, .unset, .unset, .unset, .unset, .unset] [(.long jx)])) rfl (hb hby at_45) _ ?_
    refine XS.land X0.here hx rfl (hb hby at_48) rfl ?_
    show Steps p.tables e below (s₁.setTop (mkF m 49 #[.val (.long nx), .second, .val (.int lx), .val (.long jx), .second, .val (.int v1), .val (.long v3), .second, .val (.long v11), .second, .val (.long (v11 / v3)), .second, .unset, .unset, .unset, .unset, .unset, .unset, .unset, .unset, .unset] [(.long (jx &&& (9223372036854775807 : Int64)))])) _
    refine XS.lload X0.here hx rfl (hb hby at_49) rfl ?_
    refine XS.lrem X0.here hx rfl (hb hby at_51) rfl ((fun z => own_r0 lx nx hv1 hv3 hv5 hv11 z) : (v11 / v3) ≠ 0) ?_
    rw [lrem_mod]
    show Steps p.tables e below (s₁.setTop (mkF m 52 #[.val (.long nx), .second, .val (.int lx), .val (.long jx), .second, .val (.int v1), .val (.long v3), .second, .val (.long v11), .second, .val (.long (v11 / v3)), .second, .unset, .unset, .unset, .unset, .unset, .unset, .unset, .unset, .unset] [(.long ((jx &&& (9223372036854775807 : Int64)) % (v11 / v3)))])) _
    refine XS.lstore X0.here hx rfl (hb hby at_52) rfl (l' := #[.val (.long nx), .second, .val (.int lx), .val (.long jx), .second, .val (.int v1), .val (.long v3), .second, .val (.long v11), .second, .val (.long (v11 / v3)), .second, .val (.long ((jx &&& (9223372036854775807 : Int64)) % (v11 / v3))), .second, .unset, .unset, .unset, .unset, .unset, .unset, .unset]) rfl ?_
    exact k)
  obtain ⟨v12, hv12⟩ : ∃ z : Int64, z = ((jx &&& (9223372036854775807 : Int64)) % (v11 / v3)) := ⟨_, rfl⟩
  rw [← hv12] at pre13
  obtain ⟨an, han, ean⟩ := remN lx (63 : Int32) 63 rfl (by decide) (by decide)
  have h3 : v3 = lshl (1 : Int64) (Int32.ofNat an) := hv3.trans (by rw [hv1, ean])
  obtain ⟨g1, g2, g3, g4, g5, g6⟩ := own_facts han h3 hv5 hv11 hv12
  have pw := Nat.two_pow_pos an
  have gg := own_g g4 g6 g5 g3 pw
  have nd := own_nd (n := v11) han h3 g4 (by omega)
  have pre14 : ∀ t, Steps p.tables e below (s₁.setTop (mkF m 61 #[.val (.long nx), .second, .val (.int lx), .val (.long jx), .second, .val (.int v1), .val (.long v3), .second, .val (.long v11), .second, .val (.long (v11 / v3)), .second, .val (.long v12), .second, .val (.long (v12 * v3)), .second, .unset, .unset, .unset, .unset, .unset] [])) t → Steps p.tables e below (s₁.setTop (entryFrame m #[(.long nx), (.int lx), (.long jx)] maxLocals)) t := fun t k => pre13 t (by
    show Steps p.tables e below (s₁.setTop (mkF m 54 #[.val (.long nx), .second, .val (.int lx), .val (.long jx), .second, .val (.int v1), .val (.long v3), .second, .val (.long v11), .second, .val (.long (v11 / v3)), .second, .val (.long v12), .second, .unset, .unset, .unset, .unset, .unset, .unset, .unset] [])) _
    refine XS.lload X0.here hx rfl (hb hby at_54) rfl ?_
    refine XS.lload X0.here hx rfl (hb hby at_56) rfl ?_
    refine XS.lmul X0.here hx rfl (hb hby at_58) rfl ?_
    refine XS.lstore X0.here hx rfl (hb hby at_59) rfl (l' := #[.val (.long nx), .second, .val (.int lx), .val (.long jx), .second, .val (.int v1), .val (.long v3), .second, .val (.long v11), .second, .val (.long (v11 / v3)), .second, .val (.long v12), .second, .val (.long (v12 * v3)), .second, .unset, .unset, .unset, .unset, .unset]) rfl ?_
    exact k)
  obtain ⟨T15, h15, b15, X15, e15, R15, st15⟩ := gNew X0 hx hZ hown (hw _ (List.mem_of_getElem? (i := 2) rfl)) (hw _ (List.mem_of_getElem? (i := 3) rfl)) (hw _ (List.mem_of_getElem? (i := 4) rfl)) e0 R0 (fs := [("node", "J", (.long (0 : Int64))), ("last", "J", (.long (0 : Int64)))]) ⟨⟨Or.inl (hw _ (List.mem_of_getElem? (i := 47) rfl)), .long, by decide, rfl⟩, ⟨⟨Or.inl (hw _ (List.mem_of_getElem? (i := 49) rfl)), .long, by decide, rfl⟩, trivial⟩⟩ (by decide) (g := (mkF m 61 #[.val (.long nx), .second, .val (.int lx), .val (.long jx), .second, .val (.int v1), .val (.long v3), .second, .val (.long v11), .second, .val (.long (v11 / v3)), .second, .val (.long v12), .second, .val (.long (v12 * v3)), .second, .unset, .unset, .unset, .unset, .unset] [])) rfl (hb hby at_61) (by decide) (by decide)
  have pre16 : ∀ t, Steps p.tables e below (T15.setTop (mkF m 64 #[.val (.long nx), .second, .val (.int lx), .val (.long jx), .second, .val (.int v1), .val (.long v3), .second, .val (.long v11), .second, .val (.long (v11 / v3)), .second, .val (.long v12), .second, .val (.long (v12 * v3)), .second, .unset, .unset, .unset, .unset, .unset] [(.ref b15)])) t → Steps p.tables e below (s₁.setTop (entryFrame m #[(.long nx), (.int lx), (.long jx)] maxLocals)) t := fun t k => pre14 t (st15 t k)
  have pre17 : ∀ t, Steps p.tables e below (T15.setTop (mkF m 65 #[.val (.long nx), .second, .val (.int lx), .val (.long jx), .second, .val (.int v1), .val (.long v3), .second, .val (.long v11), .second, .val (.long (v11 / v3)), .second, .val (.long v12), .second, .val (.long (v12 * v3)), .second, .unset, .unset, .unset, .unset, .unset] [(.ref b15), (.ref b15)])) t → Steps p.tables e below (s₁.setTop (entryFrame m #[(.long nx), (.int lx), (.long jx)] maxLocals)) t := fun t k => pre16 t (by
    show Steps p.tables e below (T15.setTop (mkF m 64 #[.val (.long nx), .second, .val (.int lx), .val (.long jx), .second, .val (.int v1), .val (.long v3), .second, .val (.long v11), .second, .val (.long (v11 / v3)), .second, .val (.long v12), .second, .val (.long (v12 * v3)), .second, .unset, .unset, .unset, .unset, .unset] [(.ref b15)])) _
    refine XS.dup X15.here hx rfl (hb hby at_64) rfl rfl ?_
    exact k)
  obtain ⟨T18, h18, b18, X18, e18, R18, st18⟩ := gNew X15 hx hZ hown (hw _ (List.mem_of_getElem? (i := 5) rfl)) (hw _ (List.mem_of_getElem? (i := 6) rfl)) (hw _ (List.mem_of_getElem? (i := 7) rfl)) e15 R15 (fs := [("start", "J", (.long (0 : Int64))), ("end", "J", (.long (0 : Int64)))]) ⟨⟨Or.inr (hw _ (List.mem_of_getElem? (i := 20) rfl)), .long, by decide, rfl⟩, ⟨⟨Or.inr (hw _ (List.mem_of_getElem? (i := 22) rfl)), .long, by decide, rfl⟩, trivial⟩⟩ (by decide) (g := (mkF m 65 #[.val (.long nx), .second, .val (.int lx), .val (.long jx), .second, .val (.int v1), .val (.long v3), .second, .val (.long v11), .second, .val (.long (v11 / v3)), .second, .val (.long v12), .second, .val (.long (v12 * v3)), .second, .unset, .unset, .unset, .unset, .unset] [(.ref b15), (.ref b15)])) rfl (hb hby at_65) (by decide) (by decide)
  have pre19 : ∀ t, Steps p.tables e below (T18.setTop (mkF m 68 #[.val (.long nx), .second, .val (.int lx), .val (.long jx), .second, .val (.int v1), .val (.long v3), .second, .val (.long v11), .second, .val (.long (v11 / v3)), .second, .val (.long v12), .second, .val (.long (v12 * v3)), .second, .unset, .unset, .unset, .unset, .unset] [(.ref b18), (.ref b15), (.ref b15)])) t → Steps p.tables e below (s₁.setTop (entryFrame m #[(.long nx), (.int lx), (.long jx)] maxLocals)) t := fun t k => pre17 t (st18 t k)
  have pre20 : ∀ t, Steps p.tables e below (T18.setTop (mkF m 76 #[.val (.long nx), .second, .val (.int lx), .val (.long jx), .second, .val (.int v1), .val (.long v3), .second, .val (.long v11), .second, .val (.long (v11 / v3)), .second, .val (.long v12), .second, .val (.long (v12 * v3)), .second, .unset, .unset, .unset, .unset, .unset] [(.long ((v12 * v3) + v3)), (.long (v12 * v3)), (.ref b18), (.ref b18), (.ref b15), (.ref b15)])) t → Steps p.tables e below (s₁.setTop (entryFrame m #[(.long nx), (.int lx), (.long jx)] maxLocals)) t := fun t k => pre19 t (by
    show Steps p.tables e below (T18.setTop (mkF m 68 #[.val (.long nx), .second, .val (.int lx), .val (.long jx), .second, .val (.int v1), .val (.long v3), .second, .val (.long v11), .second, .val (.long (v11 / v3)), .second, .val (.long v12), .second, .val (.long (v12 * v3)), .second, .unset, .unset, .unset, .unset, .unset] [(.ref b18), (.ref b15), (.ref b15)])) _
    refine XS.dup X18.here hx rfl (hb hby at_68) rfl rfl ?_
    refine XS.lload X18.here hx rfl (hb hby at_69) rfl ?_
    refine XS.lload X18.here hx rfl (hb hby at_71) rfl ?_
    refine XS.lload X18.here hx rfl (hb hby at_73) rfl ?_
    refine XS.ladd X18.here hx rfl (hb hby at_75) rfl ?_
    exact k)
  obtain ⟨_, _, ⟨T21, L21, k21, n21⟩, -, X21, ⟨Lc21, hQ21, l21, y21, z21⟩, st21⟩ := X18.specialBack hx (y := (⟨"com/example/gapless_log/gaplesslog/tree/Subtree", "<init>", "(JJ)V"⟩ : MethodName)) rfl hown (mvT hZ (hw _ (List.mem_of_getElem? (i := 8) rfl))) (mvT hZ (hw _ (List.mem_of_getElem? (i := 9) rfl))) (mvT hZ (hw _ (List.mem_of_getElem? (i := 10) rfl))) (by decide) (backOf (W := 3) (rm1 l Z a0 hw [] b18 (v12 * v3) ((v12 * v3) + v3) _ _ h18 n0 _ R18 (gg.1) (gg.2)) hZ (hw _ (List.mem_of_getElem? (i := 10) rfl)) (hw _ (List.mem_of_getElem? (i := 7) rfl)) (by decide) (by decide)) (g := (mkF m 76 #[.val (.long nx), .second, .val (.int lx), .val (.long jx), .second, .val (.int v1), .val (.long v3), .second, .val (.long v11), .second, .val (.long (v11 / v3)), .second, .val (.long v12), .second, .val (.long (v12 * v3)), .second, .unset, .unset, .unset, .unset, .unset] [(.long ((v12 * v3) + v3)), (.long (v12 * v3)), (.ref b18), (.ref b18), (.ref b15), (.ref b15)])) rfl (by rw [hml]; rfl) (Steps.refl _) (a := b18) (argsL := [(.long (v12 * v3)), (.long ((v12 * v3) + v3))]) (rest := [(.ref b18), (.ref b15), (.ref b15)]) (lenOf pd__28JJ_29V rfl) rfl (by show 2 * 0 + _ ≤ _; exact Nat.le_of_eq rfl) (hb hby at_76) (fun _ _ => ⟨rfl, e18, (by decide : 2 + 0 ≤ _), (by decide : 4 + 0 ≤ _)⟩)
  dsimp only [Pt.U, Pt.locs, Pt.cells, Pt.slots] at X21 l21 y21 z21 st21 hQ21
  subst l21 y21 z21
  obtain ⟨rfl, N21q, R21⟩ := hQ21
  have N21 := Fr.app N0 N21q
  replace R21 : Rep Z n0 T21.heap ((b18, Obj "com/example/gapless_log/gaplesslog/tree/Subtree" [("start", "J", (.long (v12 * v3))), ("end", "J", (.long ((v12 * v3) + v3)))]) :: (b15, Obj "com/example/gapless_log/gaplesslog/tree/Ascent" [("node", "J", (.long (0 : Int64))), ("last", "J", (.long (0 : Int64)))]) :: []) := R21
  have pre22 : ∀ t, Steps p.tables e below (T21.setTop (mkF m 79 #[.val (.long nx), .second, .val (.int lx), .val (.long jx), .second, .val (.int v1), .val (.long v3), .second, .val (.long v11), .second, .val (.long (v11 / v3)), .second, .val (.long v12), .second, .val (.long (v12 * v3)), .second, .unset, .unset, .unset, .unset, .unset] [(.ref b18), (.ref b15), (.ref b15)])) t → Steps p.tables e below (s₁.setTop (entryFrame m #[(.long nx), (.int lx), (.long jx)] maxLocals)) t := fun t k => pre20 t (st21.trans k)
  have pre23 : ∀ t, Steps p.tables e below (T21.setTop (mkF m 81 #[.val (.long nx), .second, .val (.int lx), .val (.long jx), .second, .val (.int v1), .val (.long v3), .second, .val (.long v11), .second, .val (.long (v11 / v3)), .second, .val (.long v12), .second, .val (.long (v12 * v3)), .second, .unset, .unset, .unset, .unset, .unset] [(.long v11), (.ref b18), (.ref b15), (.ref b15)])) t → Steps p.tables e below (s₁.setTop (entryFrame m #[(.long nx), (.int lx), (.long jx)] maxLocals)) t := fun t k => pre22 t (by
    show Steps p.tables e below (T21.setTop (mkF m 79 #[.val (.long nx), .second, .val (.int lx), .val (.long jx), .second, .val (.int v1), .val (.long v3), .second, .val (.long v11), .second, .val (.long (v11 / v3)), .second, .val (.long v12), .second, .val (.long (v12 * v3)), .second, .unset, .unset, .unset, .unset, .unset] [(.ref b18), (.ref b15), (.ref b15)])) _
    refine XS.lload X21.here hx rfl (hb hby at_79) rfl ?_
    exact k)
  have R25 : Rep Z n0 T21.heap ((b18, Obj "com/example/gapless_log/gaplesslog/tree/Subtree" [("start", "J", (.long (v12 * v3))), ("end", "J", (.long ((v12 * v3) + v3)))]) :: (b15, Obj "com/example/gapless_log/gaplesslog/tree/Ascent" [("node", "J", (.long (0 : Int64))), ("last", "J", (.long (0 : Int64)))]) :: []) := R21.front 0 rfl rfl
  have R26 : Rep Z n0 T21.heap ((b15, Obj "com/example/gapless_log/gaplesslog/tree/Ascent" [("node", "J", (.long (0 : Int64))), ("last", "J", (.long (0 : Int64)))]) :: (b18, Obj "com/example/gapless_log/gaplesslog/tree/Subtree" [("start", "J", (.long (v12 * v3))), ("end", "J", (.long ((v12 * v3) + v3)))]) :: []) := R25.front 1 rfl rfl
  obtain ⟨_, _, ⟨T24, L24, k24, n24⟩, -, X24, ⟨Lc24, hQ24, l24, y24, z24⟩, st24⟩ := X21.specialBack hx (y := (⟨"com/example/gapless_log/gaplesslog/tree/Ascent", "<init>", "(Lcom/example/gapless_log/gaplesslog/tree/Subtree;J)V"⟩ : MethodName)) rfl hown (mvT hZ (hw _ (List.mem_of_getElem? (i := 23) rfl))) (mvT hZ (hw _ (List.mem_of_getElem? (i := 24) rfl))) (mvT hZ (hw _ (List.mem_of_getElem? (i := 25) rfl))) (by decide) (backOf (W := 1) (rm4 l Z a0 hw [] b15 b18 v11 _ _ _ _ T21.heap n0 _ R26 ) hZ (hw _ (List.mem_of_getElem? (i := 25) rfl)) (hw _ (List.mem_of_getElem? (i := 4) rfl)) (by decide) (by decide)) (g := (mkF m 81 #[.val (.long nx), .second, .val (.int lx), .val (.long jx), .second, .val (.int v1), .val (.long v3), .second, .val (.long v11), .second, .val (.long (v11 / v3)), .second, .val (.long v12), .second, .val (.long (v12 * v3)), .second, .unset, .unset, .unset, .unset, .unset] [(.long v11), (.ref b18), (.ref b15), (.ref b15)])) rfl (by rw [hml]; rfl) (Steps.refl _) (a := b15) (argsL := [(.ref b18), (.long v11)]) (rest := [(.ref b15)]) (lenOf pd__28Lcom_2fexample_2fgapless_5flog_2fgaplesslog_2ftree_2fSubtree_3bJ_29V rfl) rfl (by show 2 * 0 + _ ≤ _; exact Nat.le_of_eq rfl) (hb hby at_81) (fun _ _ => ⟨rfl, rfl, (by decide : 2 + 0 ≤ _), (by decide : 4 + 0 ≤ _)⟩)
  dsimp only [Pt.U, Pt.locs, Pt.cells, Pt.slots] at X24 l24 y24 z24 st24 hQ24
  subst l24 y24 z24
  obtain ⟨rfl, N24q, R24⟩ := hQ24
  have N24 := Fr.app N21 N24q
  replace R24 : Rep Z n0 T24.heap ((b15, Obj "com/example/gapless_log/gaplesslog/tree/Ascent" [("node", "J", (.long (lushr (v12 * v3) (F7 (((v12 * v3) + v3) - (v12 * v3)))))), ("last", "J", (.long (lushr (v11 - (1 : Int64)) (F7 (((v12 * v3) + v3) - (v12 * v3))))))]) :: (b18, Obj "com/example/gapless_log/gaplesslog/tree/Subtree" [("start", "J", (.long (v12 * v3))), ("end", "J", (.long ((v12 * v3) + v3)))]) :: []) := R24
  have pre27 : ∀ t, Steps p.tables e below (T24.setTop (mkF m 84 #[.val (.long nx), .second, .val (.int lx), .val (.long jx), .second, .val (.int v1), .val (.long v3), .second, .val (.long v11), .second, .val (.long (v11 / v3)), .second, .val (.long v12), .second, .val (.long (v12 * v3)), .second, .unset, .unset, .unset, .unset, .unset] [(.ref b15)])) t → Steps p.tables e below (s₁.setTop (entryFrame m #[(.long nx), (.int lx), (.long jx)] maxLocals)) t := fun t k => pre23 t (st24.trans k)
  have pre28 : ∀ t, Steps p.tables e below (T24.setTop (mkF m 88 #[.val (.long nx), .second, .val (.int lx), .val (.long jx), .second, .val (.int v1), .val (.long v3), .second, .val (.long v11), .second, .val (.long (v11 / v3)), .second, .val (.long v12), .second, .val (.long (v12 * v3)), .second, .val (.ref b15), .unset, .unset, .unset, .unset] [(.ref b15)])) t → Steps p.tables e below (s₁.setTop (entryFrame m #[(.long nx), (.int lx), (.long jx)] maxLocals)) t := fun t k => pre27 t (by
    show Steps p.tables e below (T24.setTop (mkF m 84 #[.val (.long nx), .second, .val (.int lx), .val (.long jx), .second, .val (.int v1), .val (.long v3), .second, .val (.long v11), .second, .val (.long (v11 / v3)), .second, .val (.long v12), .second, .val (.long (v12 * v3)), .second, .unset, .unset, .unset, .unset, .unset] [(.ref b15)])) _
    refine XS.astore X24.here hx rfl (hb hby at_84) rfl rfl (l' := #[.val (.long nx), .second, .val (.int lx), .val (.long jx), .second, .val (.int v1), .val (.long v3), .second, .val (.long v11), .second, .val (.long (v11 / v3)), .second, .val (.long v12), .second, .val (.long (v12 * v3)), .second, .val (.ref b15), .unset, .unset, .unset, .unset]) rfl ?_
    refine XS.aload X24.here hx rfl (hb hby at_86) rfl rfl ?_
    exact k)
  obtain ⟨cq29, kq29, q29a, q29b, q29c⟩ := isOf hZ rfl (R24.exa (i := 0) rfl)
  obtain ⟨_, _, ⟨T29, L29, k29, n29⟩, -, X29, ⟨Lc29, hQ29, l29, y29, z29⟩, st29⟩ := X24.virtualBack hx (y := (⟨"com/example/gapless_log/gaplesslog/tree/Ascent", "atRoot", "()Z"⟩ : MethodName)) (z := (⟨"com/example/gapless_log/gaplesslog/tree/Ascent", "atRoot", "()Z"⟩ : MethodName)) hown (mvT hZ (hw _ (List.mem_of_getElem? (i := 50) rfl))) (mvT hZ (hw _ (List.mem_of_getElem? (i := 51) rfl))) (notFace_of_selects (args := #[]) (mvT hZ (hw _ (List.mem_of_getElem? (i := 53) rfl)))) (mvT hZ (hw _ (List.mem_of_getElem? (i := 53) rfl))) (mvT hZ (hw _ (List.mem_of_getElem? (i := 52) rfl))) (by decide) (backOf (W := 0) (rm9 l Z a0 hw [] b15 _ _ T24.heap n0 _ R24 ) hZ (hw _ (List.mem_of_getElem? (i := 54) rfl)) (hw _ (List.mem_of_getElem? (i := 4) rfl)) (by decide) (by decide)) q29a q29c (g := (mkF m 88 #[.val (.long nx), .second, .val (.int lx), .val (.long jx), .second, .val (.int v1), .val (.long v3), .second, .val (.long v11), .second, .val (.long (v11 / v3)), .second, .val (.long v12), .second, .val (.long (v12 * v3)), .second, .val (.ref b15), .unset, .unset, .unset, .unset] [(.ref b15)])) rfl (by rw [hml]; rfl) (Steps.refl _) (argsL := []) (rest := []) (lenOf pd__28_29Z rfl) rfl (by show 2 * 0 + _ ≤ _; exact Nat.le_of_eq rfl) (hb hby at_88) (fun _ _ => ⟨rfl, rfl, (by decide : 2 + 0 ≤ _), (by decide : 4 + 0 ≤ _)⟩)
  dsimp only [Pt.U, Pt.locs, Pt.cells, Pt.slots] at X29 l29 y29 z29 st29 hQ29
  subst l29 y29 z29
  obtain ⟨rfl, N29q, R29⟩ := hQ29
  have N29 := Fr.app N24 N29q
  replace R29 : Rep Z n0 T29.heap ((b15, Obj "com/example/gapless_log/gaplesslog/tree/Ascent" [("node", "J", (.long (lushr (v12 * v3) (F7 (((v12 * v3) + v3) - (v12 * v3)))))), ("last", "J", (.long (lushr (v11 - (1 : Int64)) (F7 (((v12 * v3) + v3) - (v12 * v3))))))]) :: (b18, Obj "com/example/gapless_log/gaplesslog/tree/Subtree" [("start", "J", (.long (v12 * v3))), ("end", "J", (.long ((v12 * v3) + v3)))]) :: []) := R29
  have pre30 : ∀ t, Steps p.tables e below (T29.setTop (mkF m 91 #[.val (.long nx), .second, .val (.int lx), .val (.long jx), .second, .val (.int v1), .val (.long v3), .second, .val (.long v11), .second, .val (.long (v11 / v3)), .second, .val (.long v12), .second, .val (.long (v12 * v3)), .second, .val (.ref b15), .unset, .unset, .unset, .unset] [(.int (F9 (lushr (v11 - (1 : Int64)) (F7 (((v12 * v3) + v3) - (v12 * v3))))))])) t → Steps p.tables e below (s₁.setTop (entryFrame m #[(.long nx), (.int lx), (.long jx)] maxLocals)) t := fun t k => pre28 t (st29.trans k)
  have pre32 : ∀ t, Steps p.tables e below (T29.setTop (mkF m 93 #[.val (.long nx), .second, .val (.int lx), .val (.long jx), .second, .val (.int v1), .val (.long v3), .second, .val (.long v11), .second, .val (.long (v11 / v3)), .second, .val (.long v12), .second, .val (.long (v12 * v3)), .second, .val (.ref b15), .val (.int (F9 (lushr (v11 - (1 : Int64)) (F7 (((v12 * v3) + v3) - (v12 * v3)))))), .unset, .unset, .unset] [])) t → Steps p.tables e below (s₁.setTop (entryFrame m #[(.long nx), (.int lx), (.long jx)] maxLocals)) t := fun t k => pre30 t (by
    show Steps p.tables e below (T29.setTop (mkF m 91 #[.val (.long nx), .second, .val (.int lx), .val (.long jx), .second, .val (.int v1), .val (.long v3), .second, .val (.long v11), .second, .val (.long (v11 / v3)), .second, .val (.long v12), .second, .val (.long (v12 * v3)), .second, .val (.ref b15), .unset, .unset, .unset, .unset] [(.int (F9 (lushr (v11 - (1 : Int64)) (F7 (((v12 * v3) + v3) - (v12 * v3))))))])) _
    refine XS.istore X29.here hx rfl (hb hby at_91) rfl (l' := #[.val (.long nx), .second, .val (.int lx), .val (.long jx), .second, .val (.int v1), .val (.long v3), .second, .val (.long v11), .second, .val (.long (v11 / v3)), .second, .val (.long v12), .second, .val (.long (v12 * v3)), .second, .val (.ref b15), .val (.int (F9 (lushr (v11 - (1 : Int64)) (F7 (((v12 * v3) + v3) - (v12 * v3)))))), .unset, .unset, .unset]) rfl ?_
    exact k)
  obtain ⟨v31, hv31⟩ : ∃ z : Int32, z = (F9 (lushr (v11 - (1 : Int64)) (F7 (((v12 * v3) + v3) - (v12 * v3))))) := ⟨_, rfl⟩
  rw [← hv31] at pre32
  have pre35 : ∀ t, Steps p.tables e below (T29.setTop (mkF m 100 #[.val (.long nx), .second, .val (.int lx), .val (.long jx), .second, .val (.int v1), .val (.long v3), .second, .val (.long v11), .second, .val (.long (v11 / v3)), .second, .val (.long v12), .second, .val (.long (v12 * v3)), .second, .val (.ref b15), .val (.int v31), .unset, .unset, .unset] [(.int (XT.cmpL v11 v3)), (.int v31)])) t → Steps p.tables e below (s₁.setTop (entryFrame m #[(.long nx), (.int lx), (.long jx)] maxLocals)) t := fun t k => pre32 t (by
    show Steps p.tables e below (T29.setTop (mkF m 93 #[.val (.long nx), .second, .val (.int lx), .val (.long jx), .second, .val (.int v1), .val (.long v3), .second, .val (.long v11), .second, .val (.long (v11 / v3)), .second, .val (.long v12), .second, .val (.long (v12 * v3)), .second, .val (.ref b15), .val (.int v31), .unset, .unset, .unset] [])) _
    refine XS.iload X29.here hx rfl (hb hby at_93) rfl ?_
    refine XS.lload X29.here hx rfl (hb hby at_95) rfl ?_
    refine XS.lload X29.here hx rfl (hb hby at_97) rfl ?_
    refine XS.lcmp X29.here hx rfl (hb hby at_99) rfl ?_
    exact k)
  have tl34 : ∀ t, Steps p.tables e below (T29.setTop (mkF m 108 #[.val (.long nx), .second, .val (.int lx), .val (.long jx), .second, .val (.int v1), .val (.long v3), .second, .val (.long v11), .second, .val (.long (v11 / v3)), .second, .val (.long v12), .second, .val (.long (v12 * v3)), .second, .val (.ref b15), .val (.int v31), .unset, .unset, .unset] [(.int (bz (v11 = v3))), (.int v31)])) t → Steps p.tables e below (T29.setTop (mkF m 100 #[.val (.long nx), .second, .val (.int lx), .val (.long jx), .second, .val (.int v1), .val (.long v3), .second, .val (.long v11), .second, .val (.long (v11 / v3)), .second, .val (.long v12), .second, .val (.long (v12 * v3)), .second, .val (.ref b15), .val (.int v31), .unset, .unset, .unset] [(.int (XT.cmpL v11 v3)), (.int v31)])) t := fun t k => by
    by_cases hb33 : v11 = v3
    · refine XS.ifNo X29.here hx rfl (hb hby at_100) rfl (XT.ll_ne_f hb33) ?_
      rw [bz_one (P := (v11 = v3)) (iff_true_intro hb33)] at k
      show Steps p.tables e below (T29.setTop (mkF m 103 #[.val (.long nx), .second, .val (.int lx), .val (.long jx), .second, .val (.int v1), .val (.long v3), .second, .val (.long v11), .second, .val (.long (v11 / v3)), .second, .val (.long v12), .second, .val (.long (v12 * v3)), .second, .val (.ref b15), .val (.int v31), .unset, .unset, .unset] [(.int v31)])) _
      refine XS.iconst X29.here hx rfl (hb hby at_103) ?_
      refine XS.goto X29.here hx rfl (pc0 := 104) (pc' := 108) rfl (hb hby at_104) (by decide) (by decide) ?_
      exact k
    · refine XS.ifYes X29.here hx rfl (pc0 := 100) (pc' := 107) rfl (hb hby at_100) rfl (XT.ll_ne_t hb33) (by decide) (by decide) ?_
      rw [bz_zero (P := (v11 = v3)) (iff_false_intro hb33)] at k
      show Steps p.tables e below (T29.setTop (mkF m 107 #[.val (.long nx), .second, .val (.int lx), .val (.long jx), .second, .val (.int v1), .val (.long v3), .second, .val (.long v11), .second, .val (.long (v11 / v3)), .second, .val (.long v12), .second, .val (.long (v12 * v3)), .second, .val (.ref b15), .val (.int v31), .unset, .unset, .unset] [(.int v31)])) _
      refine XS.iconst X29.here hx rfl (hb hby at_107) ?_
      exact k
  have pre36 : ∀ t, Steps p.tables e below (T29.setTop (mkF m 108 #[.val (.long nx), .second, .val (.int lx), .val (.long jx), .second, .val (.int v1), .val (.long v3), .second, .val (.long v11), .second, .val (.long (v11 / v3)), .second, .val (.long v12), .second, .val (.long (v12 * v3)), .second, .val (.ref b15), .val (.int v31), .unset, .unset, .unset] [(.int (bz (v11 = v3))), (.int v31)])) t → Steps p.tables e below (s₁.setTop (entryFrame m #[(.long nx), (.int lx), (.long jx)] maxLocals)) t := fun t k => pre35 t (by
    exact tl34 t k)
  have hb37 : v31 = (bz (v11 = v3)) := (hv31.trans (own_first g1 g2 nd.2))
  have pre38 : ∀ t, Steps p.tables e below (T29.setTop (mkF m 115 #[.val (.long nx), .second, .val (.int lx), .val (.long jx), .second, .val (.int v1), .val (.long v3), .second, .val (.long v11), .second, .val (.long (v11 / v3)), .second, .val (.long v12), .second, .val (.long (v12 * v3)), .second, .val (.ref b15), .val (.int v31), .unset, .unset, .unset] [(.int v31)])) t → Steps p.tables e below (s₁.setTop (entryFrame m #[(.long nx), (.int lx), (.long jx)] maxLocals)) t := fun t k => pre36 t (by
    show Steps p.tables e below (T29.setTop (mkF m 108 #[.val (.long nx), .second, .val (.int lx), .val (.long jx), .second, .val (.int v1), .val (.long v3), .second, .val (.long v11), .second, .val (.long (v11 / v3)), .second, .val (.long v12), .second, .val (.long (v12 * v3)), .second, .val (.ref b15), .val (.int v31), .unset, .unset, .unset] [(.int (bz (v11 = v3))), (.int v31)])) _
    refine XS.icmpYes X29.here hx rfl (pc0 := 108) (pc' := 113) rfl (hb hby at_108) rfl (teq hb37).1 (by decide) (by decide) ?_
    refine XS.iload X29.here hx rfl (hb hby at_113) rfl ?_
    exact k)
  by_cases hroot : v31 = (0 : Int32)
  · have pre39 : ∀ t, Steps p.tables e below (T29.setTop (mkF m 120 #[.val (.long nx), .second, .val (.int lx), .val (.long jx), .second, .val (.int v1), .val (.long v3), .second, .val (.long v11), .second, .val (.long (v11 / v3)), .second, .val (.long v12), .second, .val (.long (v12 * v3)), .second, .val (.ref b15), .val (.int v31), .unset, .unset, .unset] [])) t → Steps p.tables e below (s₁.setTop (entryFrame m #[(.long nx), (.int lx), (.long jx)] maxLocals)) t := fun t k => pre38 t (by show Steps p.tables e below (T29.setTop (mkF m 115 #[.val (.long nx), .second, .val (.int lx), .val (.long jx), .second, .val (.int v1), .val (.long v3), .second, .val (.long v11), .second, .val (.long (v11 / v3)), .second, .val (.long v12), .second, .val (.long (v12 * v3)), .second, .val (.ref b15), .val (.int v31), .unset, .unset, .unset] [(.int v31)])) _; refine XS.ifYes X29.here hx rfl (pc0 := 115) (pc' := 120) rfl (hb hby at_115) rfl ((if0 _ _).trans (teq hroot).1) (by decide) (by decide) ?_; exact k)
    have pre40 : ∀ t, Steps p.tables e below (T29.setTop (mkF m 122 #[.val (.long nx), .second, .val (.int lx), .val (.long jx), .second, .val (.int v1), .val (.long v3), .second, .val (.long v11), .second, .val (.long (v11 / v3)), .second, .val (.long v12), .second, .val (.long (v12 * v3)), .second, .val (.ref b15), .val (.int v31), .unset, .unset, .unset] [(.ref b15)])) t → Steps p.tables e below (s₁.setTop (entryFrame m #[(.long nx), (.int lx), (.long jx)] maxLocals)) t := fun t k => pre39 t (by
      show Steps p.tables e below (T29.setTop (mkF m 120 #[.val (.long nx), .second, .val (.int lx), .val (.long jx), .second, .val (.int v1), .val (.long v3), .second, .val (.long v11), .second, .val (.long (v11 / v3)), .second, .val (.long v12), .second, .val (.long (v12 * v3)), .second, .val (.ref b15), .val (.int v31), .unset, .unset, .unset] [])) _
      refine XS.aload X29.here hx rfl (hb hby at_120) rfl rfl ?_
      exact k)
    obtain ⟨cq41, kq41, q41a, q41b, q41c⟩ := isOf hZ rfl (R29.exa (i := 0) rfl)
    obtain ⟨_, _, ⟨T41, L41, k41, n41⟩, -, X41, ⟨Lc41, hQ41, l41, y41, z41⟩, st41⟩ := X29.virtualBack hx (y := (⟨"com/example/gapless_log/gaplesslog/tree/Ascent", "climb", "()V"⟩ : MethodName)) (z := (⟨"com/example/gapless_log/gaplesslog/tree/Ascent", "climb", "()V"⟩ : MethodName)) hown (mvT hZ (hw _ (List.mem_of_getElem? (i := 55) rfl))) (mvT hZ (hw _ (List.mem_of_getElem? (i := 56) rfl))) (notFace_of_selects (args := #[]) (mvT hZ (hw _ (List.mem_of_getElem? (i := 58) rfl)))) (mvT hZ (hw _ (List.mem_of_getElem? (i := 58) rfl))) (mvT hZ (hw _ (List.mem_of_getElem? (i := 57) rfl))) (by decide) (backOf (W := 0) (rm10 l Z a0 hw [] b15 _ _ T29.heap n0 _ R29 ) hZ (hw _ (List.mem_of_getElem? (i := 59) rfl)) (hw _ (List.mem_of_getElem? (i := 4) rfl)) (by decide) (by decide)) q41a q41c (g := (mkF m 122 #[.val (.long nx), .second, .val (.int lx), .val (.long jx), .second, .val (.int v1), .val (.long v3), .second, .val (.long v11), .second, .val (.long (v11 / v3)), .second, .val (.long v12), .second, .val (.long (v12 * v3)), .second, .val (.ref b15), .val (.int v31), .unset, .unset, .unset] [(.ref b15)])) rfl (by rw [hml]; rfl) (Steps.refl _) (argsL := []) (rest := []) (lenOf pd__28_29V rfl) rfl (by show 2 * 0 + _ ≤ _; exact Nat.le_of_eq rfl) (hb hby at_122) (fun _ _ => ⟨rfl, rfl, (by decide : 2 + 0 ≤ _), (by decide : 4 + 0 ≤ _)⟩)
    dsimp only [Pt.U, Pt.locs, Pt.cells, Pt.slots] at X41 l41 y41 z41 st41 hQ41
    subst l41 y41 z41
    obtain ⟨rfl, N41q, R41⟩ := hQ41
    have N41 := Fr.app N29 N41q
    replace R41 : Rep Z n0 T41.heap ((b15, Obj "com/example/gapless_log/gaplesslog/tree/Ascent" [("node", "J", (.long (cN (lushr (v12 * v3) (F7 (((v12 * v3) + v3) - (v12 * v3)))) (lushr (v11 - (1 : Int64)) (F7 (((v12 * v3) + v3) - (v12 * v3))))))), ("last", "J", (.long (cL (lushr (v12 * v3) (F7 (((v12 * v3) + v3) - (v12 * v3)))) (lushr (v11 - (1 : Int64)) (F7 (((v12 * v3) + v3) - (v12 * v3)))))))]) :: (b18, Obj "com/example/gapless_log/gaplesslog/tree/Subtree" [("start", "J", (.long (v12 * v3))), ("end", "J", (.long ((v12 * v3) + v3)))]) :: []) := R41
    have pre42 : ∀ t, Steps p.tables e below (T41.setTop (mkF m 125 #[.val (.long nx), .second, .val (.int lx), .val (.long jx), .second, .val (.int v1), .val (.long v3), .second, .val (.long v11), .second, .val (.long (v11 / v3)), .second, .val (.long v12), .second, .val (.long (v12 * v3)), .second, .val (.ref b15), .val (.int v31), .unset, .unset, .unset] [])) t → Steps p.tables e below (s₁.setTop (entryFrame m #[(.long nx), (.int lx), (.long jx)] maxLocals)) t := fun t k => pre40 t (st41.trans k)
    have pre43 : ∀ t, Steps p.tables e below (T41.setTop (mkF m 127 #[.val (.long nx), .second, .val (.int lx), .val (.long jx), .second, .val (.int v1), .val (.long v3), .second, .val (.long v11), .second, .val (.long (v11 / v3)), .second, .val (.long v12), .second, .val (.long (v12 * v3)), .second, .val (.ref b15), .val (.int v31), .unset, .unset, .unset] [(.long v11)])) t → Steps p.tables e below (s₁.setTop (entryFrame m #[(.long nx), (.int lx), (.long jx)] maxLocals)) t := fun t k => pre42 t (by
      show Steps p.tables e below (T41.setTop (mkF m 125 #[.val (.long nx), .second, .val (.int lx), .val (.long jx), .second, .val (.int v1), .val (.long v3), .second, .val (.long v11), .second, .val (.long (v11 / v3)), .second, .val (.long v12), .second, .val (.long (v12 * v3)), .second, .val (.ref b15), .val (.int v31), .unset, .unset, .unset] [])) _
      refine XS.lload X41.here hx rfl (hb hby at_125) rfl ?_
      exact k)
    obtain ⟨_, _, ⟨T44, L44, k44, n44⟩, -, X44, ⟨Lc44, hQ44, l44, y44, z44⟩, st44⟩ := Jvm.LawKit.callS X41 hx (y := (⟨"com/example/gapless_log/gaplesslog/tree/TreeHash", "split", "(J)J"⟩ : MethodName)) hown (mvT hZ (hw _ (List.mem_of_getElem? (i := 65) rfl))) (mvT hZ (hw _ (List.mem_of_getElem? (i := 66) rfl))) (mvT hZ (hw _ (List.mem_of_getElem? (i := 67) rfl))) (mvT hZ (hw _ (List.mem_of_getElem? (i := 68) rfl))) (by decide) (backOf (W := 0) (rm12 l Z a0 hw [] v11  T41.heap n0 _ R41 ) hZ (hw _ (List.mem_of_getElem? (i := 68) rfl)) (hw _ (List.mem_of_getElem? (i := 67) rfl)) (by decide) (by decide)) (g := (mkF m 127 #[.val (.long nx), .second, .val (.int lx), .val (.long jx), .second, .val (.int v1), .val (.long v3), .second, .val (.long v11), .second, .val (.long (v11 / v3)), .second, .val (.long v12), .second, .val (.long (v12 * v3)), .second, .val (.ref b15), .val (.int v31), .unset, .unset, .unset] [(.long v11)])) rfl (by rw [hml]; rfl) (argsL := [(.long v11)]) (rest := []) (lenOf pd__28J_29J rfl) rfl (by show 2 * 0 + _ ≤ _; exact Nat.le_of_eq rfl) (hb hby at_127) (fun _ _ => ⟨rfl, rfl, (by decide : 2 + 0 ≤ _), (by decide : 4 + 0 ≤ _)⟩)
    dsimp only [Pt.U, Pt.locs, Pt.cells, Pt.slots] at X44 l44 y44 z44 st44 hQ44
    subst l44 y44 z44
    obtain ⟨rfl, N44q, R44⟩ := hQ44
    have N44 := Fr.app N41 N44q
    replace R44 : Rep Z n0 T44.heap ((b15, Obj "com/example/gapless_log/gaplesslog/tree/Ascent" [("node", "J", (.long (cN (lushr (v12 * v3) (F7 (((v12 * v3) + v3) - (v12 * v3)))) (lushr (v11 - (1 : Int64)) (F7 (((v12 * v3) + v3) - (v12 * v3))))))), ("last", "J", (.long (cL (lushr (v12 * v3) (F7 (((v12 * v3) + v3) - (v12 * v3)))) (lushr (v11 - (1 : Int64)) (F7 (((v12 * v3) + v3) - (v12 * v3)))))))]) :: (b18, Obj "com/example/gapless_log/gaplesslog/tree/Subtree" [("start", "J", (.long (v12 * v3))), ("end", "J", (.long ((v12 * v3) + v3)))]) :: []) := R44
    have pre45 : ∀ t, Steps p.tables e below (T44.setTop (mkF m 130 #[.val (.long nx), .second, .val (.int lx), .val (.long jx), .second, .val (.int v1), .val (.long v3), .second, .val (.long v11), .second, .val (.long (v11 / v3)), .second, .val (.long v12), .second, .val (.long (v12 * v3)), .second, .val (.ref b15), .val (.int v31), .unset, .unset, .unset] [(.long (F12 v11))])) t → Steps p.tables e below (s₁.setTop (entryFrame m #[(.long nx), (.int lx), (.long jx)] maxLocals)) t := fun t k => pre43 t (st44 t k)
    have pre54 : ∀ t, Steps p.tables e below (T44.setTop (mkF m 136 #[.val (.long nx), .second, .val (.int lx), .val (.long jx), .second, .val (.int v1), .val (.long v3), .second, .val (.long v11), .second, .val (.long (v11 / v3)), .second, .val (.long v12), .second, .val (.long (v12 * v3)), .second, .val (.ref b15), .val (.int v31), .val (.long (F12 v11)), .second, .unset] [(.int (XT.cmpL (v12 * v3) (0 : Int64)))])) t → Steps p.tables e below (s₁.setTop (entryFrame m #[(.long nx), (.int lx), (.long jx)] maxLocals)) t := fun t k => pre45 t (by
      show Steps p.tables e below (T44.setTop (mkF m 130 #[.val (.long nx), .second, .val (.int lx), .val (.long jx), .second, .val (.int v1), .val (.long v3), .second, .val (.long v11), .second, .val (.long (v11 / v3)), .second, .val (.long v12), .second, .val (.long (v12 * v3)), .second, .val (.ref b15), .val (.int v31), .unset, .unset, .unset] [(.long (F12 v11))])) _
      refine XS.lstore X44.here hx rfl (hb hby at_130) rfl (l' := #[.val (.long nx), .second, .val (.int lx), .val (.long jx), .second, .val (.int v1), .val (.long v3), .second, .val (.long v11), .second, .val (.long (v11 / v3)), .second, .val (.long v12), .second, .val (.long (v12 * v3)), .second, .val (.ref b15), .val (.int v31), .val (.long (F12 v11)), .second, .unset]) rfl ?_
      refine XS.lload X44.here hx rfl (hb hby at_132) rfl ?_
      refine XS.lconst X44.here hx rfl (hb hby at_134) ?_
      refine XS.lcmp X44.here hx rfl (hb hby at_135) rfl ?_
      exact k)
    have tl50 : ∀ t, Steps p.tables e below (T44.setTop (mkF m 171 #[.val (.long nx), .second, .val (.int lx), .val (.long jx), .second, .val (.int v1), .val (.long v3), .second, .val (.long v11), .second, .val (.long (v11 / v3)), .second, .val (.long v12), .second, .val (.long (v12 * v3)), .second, .val (.ref b15), .val (.int v31), .val (.long (F12 v11)), .second, .unset] [(.int (bz ((v11 - (F12 v11)) = v3)))])) t → Steps p.tables e below (T44.setTop (mkF m 163 #[.val (.long nx), .second, .val (.int lx), .val (.long jx), .second, .val (.int v1), .val (.long v3), .second, .val (.long v11), .second, .val (.long (v11 / v3)), .second, .val (.long v12), .second, .val (.long (v12 * v3)), .second, .val (.ref b15), .val (.int v31), .val (.long (F12 v11)), .second, .unset] [(.int (XT.cmpL (v11 - (F12 v11)) v3))])) t := fun t k => by
      by_cases hb49 : (v11 - (F12 v11)) = v3
      · refine XS.ifNo X44.here hx rfl (hb hby at_163) rfl (XT.ll_ne_f hb49) ?_
        rw [bz_one (P := ((v11 - (F12 v11)) = v3)) (iff_true_intro hb49)] at k
        show Steps p.tables e below (T44.setTop (mkF m 166 #[.val (.long nx), .second, .val (.int lx), .val (.long jx), .second, .val (.int v1), .val (.long v3), .second, .val (.long v11), .second, .val (.long (v11 / v3)), .second, .val (.long v12), .second, .val (.long (v12 * v3)), .second, .val (.ref b15), .val (.int v31), .val (.long (F12 v11)), .second, .unset] [])) _
        refine XS.iconst X44.here hx rfl (hb hby at_166) ?_
        refine XS.goto X44.here hx rfl (pc0 := 167) (pc' := 171) rfl (hb hby at_167) (by decide) (by decide) ?_
        exact k
      · refine XS.ifYes X44.here hx rfl (pc0 := 163) (pc' := 170) rfl (hb hby at_163) rfl (XT.ll_ne_t hb49) (by decide) (by decide) ?_
        rw [bz_zero (P := ((v11 - (F12 v11)) = v3)) (iff_false_intro hb49)] at k
        show Steps p.tables e below (T44.setTop (mkF m 170 #[.val (.long nx), .second, .val (.int lx), .val (.long jx), .second, .val (.int v1), .val (.long v3), .second, .val (.long v11), .second, .val (.long (v11 / v3)), .second, .val (.long v12), .second, .val (.long (v12 * v3)), .second, .val (.ref b15), .val (.int v31), .val (.long (F12 v11)), .second, .unset] [])) _
        refine XS.iconst X44.here hx rfl (hb hby at_170) ?_
        exact k
    have tl51 : ∀ t, Steps p.tables e below (T44.setTop (mkF m 171 #[.val (.long nx), .second, .val (.int lx), .val (.long jx), .second, .val (.int v1), .val (.long v3), .second, .val (.long v11), .second, .val (.long (v11 / v3)), .second, .val (.long v12), .second, .val (.long (v12 * v3)), .second, .val (.ref b15), .val (.int v31), .val (.long (F12 v11)), .second, .unset] [(.int (bz (((v12 * v3) = (F12 v11)) ∧ ((v11 - (F12 v11)) = v3))))])) t → Steps p.tables e below (T44.setTop (mkF m 152 #[.val (.long nx), .second, .val (.int lx), .val (.long jx), .second, .val (.int v1), .val (.long v3), .second, .val (.long v11), .second, .val (.long (v11 / v3)), .second, .val (.long v12), .second, .val (.long (v12 * v3)), .second, .val (.ref b15), .val (.int v31), .val (.long (F12 v11)), .second, .unset] [(.int (XT.cmpL (v12 * v3) (F12 v11)))])) t := fun t k => by
      by_cases hb48 : (v12 * v3) = (F12 v11)
      · refine XS.ifNo X44.here hx rfl (hb hby at_152) rfl (XT.ll_ne_f hb48) ?_
        rw [bz_congr (P := (((v12 * v3) = (F12 v11)) ∧ ((v11 - (F12 v11)) = v3))) (Q := ((v11 - (F12 v11)) = v3)) (and_iff_right hb48)] at k
        show Steps p.tables e below (T44.setTop (mkF m 155 #[.val (.long nx), .second, .val (.int lx), .val (.long jx), .second, .val (.int v1), .val (.long v3), .second, .val (.long v11), .second, .val (.long (v11 / v3)), .second, .val (.long v12), .second, .val (.long (v12 * v3)), .second, .val (.ref b15), .val (.int v31), .val (.long (F12 v11)), .second, .unset] [])) _
        refine XS.lload X44.here hx rfl (hb hby at_155) rfl ?_
        refine XS.lload X44.here hx rfl (hb hby at_157) rfl ?_
        refine XS.lsub X44.here hx rfl (hb hby at_159) rfl ?_
        refine XS.lload X44.here hx rfl (hb hby at_160) rfl ?_
        refine XS.lcmp X44.here hx rfl (hb hby at_162) rfl ?_
        exact tl50 t k
      · refine XS.ifYes X44.here hx rfl (pc0 := 152) (pc' := 170) rfl (hb hby at_152) rfl (XT.ll_ne_t hb48) (by decide) (by decide) ?_
        rw [bz_zero (P := (((v12 * v3) = (F12 v11)) ∧ ((v11 - (F12 v11)) = v3))) (iff_false_intro (fun q => hb48 q.1))] at k
        show Steps p.tables e below (T44.setTop (mkF m 170 #[.val (.long nx), .second, .val (.int lx), .val (.long jx), .second, .val (.int v1), .val (.long v3), .second, .val (.long v11), .second, .val (.long (v11 / v3)), .second, .val (.long v12), .second, .val (.long (v12 * v3)), .second, .val (.ref b15), .val (.int v31), .val (.long (F12 v11)), .second, .unset] [])) _
        refine XS.iconst X44.here hx rfl (hb hby at_170) ?_
        exact k
    have tl52 : ∀ t, Steps p.tables e below (T44.setTop (mkF m 171 #[.val (.long nx), .second, .val (.int lx), .val (.long jx), .second, .val (.int v1), .val (.long v3), .second, .val (.long v11), .second, .val (.long (v11 / v3)), .second, .val (.long v12), .second, .val (.long (v12 * v3)), .second, .val (.ref b15), .val (.int v31), .val (.long (F12 v11)), .second, .unset] [(.int (bz ((v3 = (F12 v11)) ∨ (((v12 * v3) = (F12 v11)) ∧ ((v11 - (F12 v11)) = v3)))))])) t → Steps p.tables e below (T44.setTop (mkF m 144 #[.val (.long nx), .second, .val (.int lx), .val (.long jx), .second, .val (.int v1), .val (.long v3), .second, .val (.long v11), .second, .val (.long (v11 / v3)), .second, .val (.long v12), .second, .val (.long (v12 * v3)), .second, .val (.ref b15), .val (.int v31), .val (.long (F12 v11)), .second, .unset] [(.int (XT.cmpL v3 (F12 v11)))])) t := fun t k => by
      by_cases hb47 : v3 = (F12 v11)
      · refine XS.ifYes X44.here hx rfl (pc0 := 144) (pc' := 166) rfl (hb hby at_144) rfl (XT.ll_eq_t hb47) (by decide) (by decide) ?_
        rw [bz_one (P := ((v3 = (F12 v11)) ∨ (((v12 * v3) = (F12 v11)) ∧ ((v11 - (F12 v11)) = v3)))) (iff_true_intro (Or.inl hb47))] at k
        show Steps p.tables e below (T44.setTop (mkF m 166 #[.val (.long nx), .second, .val (.int lx), .val (.long jx), .second, .val (.int v1), .val (.long v3), .second, .val (.long v11), .second, .val (.long (v11 / v3)), .second, .val (.long v12), .second, .val (.long (v12 * v3)), .second, .val (.ref b15), .val (.int v31), .val (.long (F12 v11)), .second, .unset] [])) _
        refine XS.iconst X44.here hx rfl (hb hby at_166) ?_
        refine XS.goto X44.here hx rfl (pc0 := 167) (pc' := 171) rfl (hb hby at_167) (by decide) (by decide) ?_
        exact k
      · refine XS.ifNo X44.here hx rfl (hb hby at_144) rfl (XT.ll_eq_f hb47) ?_
        rw [bz_congr (P := ((v3 = (F12 v11)) ∨ (((v12 * v3) = (F12 v11)) ∧ ((v11 - (F12 v11)) = v3)))) (Q := (((v12 * v3) = (F12 v11)) ∧ ((v11 - (F12 v11)) = v3))) (or_iff_right hb47)] at k
        show Steps p.tables e below (T44.setTop (mkF m 147 #[.val (.long nx), .second, .val (.int lx), .val (.long jx), .second, .val (.int v1), .val (.long v3), .second, .val (.long v11), .second, .val (.long (v11 / v3)), .second, .val (.long v12), .second, .val (.long (v12 * v3)), .second, .val (.ref b15), .val (.int v31), .val (.long (F12 v11)), .second, .unset] [])) _
        refine XS.lload X44.here hx rfl (hb hby at_147) rfl ?_
        refine XS.lload X44.here hx rfl (hb hby at_149) rfl ?_
        refine XS.lcmp X44.here hx rfl (hb hby at_151) rfl ?_
        exact tl51 t k
    have tl53 : ∀ t, Steps p.tables e below (T44.setTop (mkF m 171 #[.val (.long nx), .second, .val (.int lx), .val (.long jx), .second, .val (.int v1), .val (.long v3), .second, .val (.long v11), .second, .val (.long (v11 / v3)), .second, .val (.long v12), .second, .val (.long (v12 * v3)), .second, .val (.ref b15), .val (.int v31), .val (.long (F12 v11)), .second, .unset] [(.int (bz ((((v12 * v3) = (0 : Int64)) ∧ (v3 = (F12 v11))) ∨ (((v12 * v3) = (F12 v11)) ∧ ((v11 - (F12 v11)) = v3)))))])) t → Steps p.tables e below (T44.setTop (mkF m 136 #[.val (.long nx), .second, .val (.int lx), .val (.long jx), .second, .val (.int v1), .val (.long v3), .second, .val (.long v11), .second, .val (.long (v11 / v3)), .second, .val (.long v12), .second, .val (.long (v12 * v3)), .second, .val (.ref b15), .val (.int v31), .val (.long (F12 v11)), .second, .unset] [(.int (XT.cmpL (v12 * v3) (0 : Int64)))])) t := fun t k => by
      by_cases hb46 : (v12 * v3) = (0 : Int64)
      · refine XS.ifNo X44.here hx rfl (hb hby at_136) rfl (XT.ll_ne_f hb46) ?_
        rw [bz_congr (P := ((((v12 * v3) = (0 : Int64)) ∧ (v3 = (F12 v11))) ∨ (((v12 * v3) = (F12 v11)) ∧ ((v11 - (F12 v11)) = v3)))) (Q := ((v3 = (F12 v11)) ∨ (((v12 * v3) = (F12 v11)) ∧ ((v11 - (F12 v11)) = v3)))) (or_congr (and_iff_right hb46) Iff.rfl)] at k
        show Steps p.tables e below (T44.setTop (mkF m 139 #[.val (.long nx), .second, .val (.int lx), .val (.long jx), .second, .val (.int v1), .val (.long v3), .second, .val (.long v11), .second, .val (.long (v11 / v3)), .second, .val (.long v12), .second, .val (.long (v12 * v3)), .second, .val (.ref b15), .val (.int v31), .val (.long (F12 v11)), .second, .unset] [])) _
        refine XS.lload X44.here hx rfl (hb hby at_139) rfl ?_
        refine XS.lload X44.here hx rfl (hb hby at_141) rfl ?_
        refine XS.lcmp X44.here hx rfl (hb hby at_143) rfl ?_
        exact tl52 t k
      · refine XS.ifYes X44.here hx rfl (pc0 := 136) (pc' := 147) rfl (hb hby at_136) rfl (XT.ll_ne_t hb46) (by decide) (by decide) ?_
        rw [bz_congr (P := ((((v12 * v3) = (0 : Int64)) ∧ (v3 = (F12 v11))) ∨ (((v12 * v3) = (F12 v11)) ∧ ((v11 - (F12 v11)) = v3)))) (Q := (((v12 * v3) = (F12 v11)) ∧ ((v11 - (F12 v11)) = v3))) (or_iff_right (fun q => hb46 q.1))] at k
        show Steps p.tables e below (T44.setTop (mkF m 147 #[.val (.long nx), .second, .val (.int lx), .val (.long jx), .second, .val (.int v1), .val (.long v3), .second, .val (.long v11), .second, .val (.long (v11 / v3)), .second, .val (.long v12), .second, .val (.long (v12 * v3)), .second, .val (.ref b15), .val (.int v31), .val (.long (F12 v11)), .second, .unset] [])) _
        refine XS.lload X44.here hx rfl (hb hby at_147) rfl ?_
        refine XS.lload X44.here hx rfl (hb hby at_149) rfl ?_
        refine XS.lcmp X44.here hx rfl (hb hby at_151) rfl ?_
        exact tl51 t k
    have pre55 : ∀ t, Steps p.tables e below (T44.setTop (mkF m 171 #[.val (.long nx), .second, .val (.int lx), .val (.long jx), .second, .val (.int v1), .val (.long v3), .second, .val (.long v11), .second, .val (.long (v11 / v3)), .second, .val (.long v12), .second, .val (.long (v12 * v3)), .second, .val (.ref b15), .val (.int v31), .val (.long (F12 v11)), .second, .unset] [(.int (bz ((((v12 * v3) = (0 : Int64)) ∧ (v3 = (F12 v11))) ∨ (((v12 * v3) = (F12 v11)) ∧ ((v11 - (F12 v11)) = v3)))))])) t → Steps p.tables e below (s₁.setTop (entryFrame m #[(.long nx), (.int lx), (.long jx)] maxLocals)) t := fun t k => pre54 t (by
      exact tl53 t k)
    have pre56 : ∀ t, Steps p.tables e below (T44.setTop (mkF m 175 #[.val (.long nx), .second, .val (.int lx), .val (.long jx), .second, .val (.int v1), .val (.long v3), .second, .val (.long v11), .second, .val (.long (v11 / v3)), .second, .val (.long v12), .second, .val (.long (v12 * v3)), .second, .val (.ref b15), .val (.int v31), .val (.long (F12 v11)), .second, .val (.int (bz ((((v12 * v3) = (0 : Int64)) ∧ (v3 = (F12 v11))) ∨ (((v12 * v3) = (F12 v11)) ∧ ((v11 - (F12 v11)) = v3)))))] [(.ref b15)])) t → Steps p.tables e below (s₁.setTop (entryFrame m #[(.long nx), (.int lx), (.long jx)] maxLocals)) t := fun t k => pre55 t (by
      show Steps p.tables e below (T44.setTop (mkF m 171 #[.val (.long nx), .second, .val (.int lx), .val (.long jx), .second, .val (.int v1), .val (.long v3), .second, .val (.long v11), .second, .val (.long (v11 / v3)), .second, .val (.long v12), .second, .val (.long (v12 * v3)), .second, .val (.ref b15), .val (.int v31), .val (.long (F12 v11)), .second, .unset] [(.int (bz ((((v12 * v3) = (0 : Int64)) ∧ (v3 = (F12 v11))) ∨ (((v12 * v3) = (F12 v11)) ∧ ((v11 - (F12 v11)) = v3)))))])) _
      refine XS.istore X44.here hx rfl (hb hby at_171) rfl (l' := #[.val (.long nx), .second, .val (.int lx), .val (.long jx), .second, .val (.int v1), .val (.long v3), .second, .val (.long v11), .second, .val (.long (v11 / v3)), .second, .val (.long v12), .second, .val (.long (v12 * v3)), .second, .val (.ref b15), .val (.int v31), .val (.long (F12 v11)), .second, .val (.int (bz ((((v12 * v3) = (0 : Int64)) ∧ (v3 = (F12 v11))) ∨ (((v12 * v3) = (F12 v11)) ∧ ((v11 - (F12 v11)) = v3)))))]) rfl ?_
      refine XS.aload X44.here hx rfl (hb hby at_173) rfl rfl ?_
      exact k)
    obtain ⟨cq57, kq57, q57a, q57b, q57c⟩ := isOf hZ rfl (R44.exa (i := 0) rfl)
    obtain ⟨_, _, ⟨T57, L57, k57, n57⟩, -, X57, ⟨Lc57, hQ57, l57, y57, z57⟩, st57⟩ := X44.virtualBack hx (y := (⟨"com/example/gapless_log/gaplesslog/tree/Ascent", "atRoot", "()Z"⟩ : MethodName)) (z := (⟨"com/example/gapless_log/gaplesslog/tree/Ascent", "atRoot", "()Z"⟩ : MethodName)) hown (mvT hZ (hw _ (List.mem_of_getElem? (i := 50) rfl))) (mvT hZ (hw _ (List.mem_of_getElem? (i := 51) rfl))) (notFace_of_selects (args := #[]) (mvT hZ (hw _ (List.mem_of_getElem? (i := 53) rfl)))) (mvT hZ (hw _ (List.mem_of_getElem? (i := 53) rfl))) (mvT hZ (hw _ (List.mem_of_getElem? (i := 52) rfl))) (by decide) (backOf (W := 0) (rm9 l Z a0 hw [] b15 _ _ T44.heap n0 _ R44 ) hZ (hw _ (List.mem_of_getElem? (i := 54) rfl)) (hw _ (List.mem_of_getElem? (i := 4) rfl)) (by decide) (by decide)) q57a q57c (g := (mkF m 175 #[.val (.long nx), .second, .val (.int lx), .val (.long jx), .second, .val (.int v1), .val (.long v3), .second, .val (.long v11), .second, .val (.long (v11 / v3)), .second, .val (.long v12), .second, .val (.long (v12 * v3)), .second, .val (.ref b15), .val (.int v31), .val (.long (F12 v11)), .second, .val (.int (bz ((((v12 * v3) = (0 : Int64)) ∧ (v3 = (F12 v11))) ∨ (((v12 * v3) = (F12 v11)) ∧ ((v11 - (F12 v11)) = v3)))))] [(.ref b15)])) rfl (by rw [hml]; rfl) (Steps.refl _) (argsL := []) (rest := []) (lenOf pd__28_29Z rfl) rfl (by show 2 * 0 + _ ≤ _; exact Nat.le_of_eq rfl) (hb hby at_175) (fun _ _ => ⟨rfl, rfl, (by decide : 2 + 0 ≤ _), (by decide : 4 + 0 ≤ _)⟩)
    dsimp only [Pt.U, Pt.locs, Pt.cells, Pt.slots] at X57 l57 y57 z57 st57 hQ57
    subst l57 y57 z57
    obtain ⟨rfl, N57q, R57⟩ := hQ57
    have N57 := Fr.app N44 N57q
    replace R57 : Rep Z n0 T57.heap ((b15, Obj "com/example/gapless_log/gaplesslog/tree/Ascent" [("node", "J", (.long (cN (lushr (v12 * v3) (F7 (((v12 * v3) + v3) - (v12 * v3)))) (lushr (v11 - (1 : Int64)) (F7 (((v12 * v3) + v3) - (v12 * v3))))))), ("last", "J", (.long (cL (lushr (v12 * v3) (F7 (((v12 * v3) + v3) - (v12 * v3)))) (lushr (v11 - (1 : Int64)) (F7 (((v12 * v3) + v3) - (v12 * v3)))))))]) :: (b18, Obj "com/example/gapless_log/gaplesslog/tree/Subtree" [("start", "J", (.long (v12 * v3))), ("end", "J", (.long ((v12 * v3) + v3)))]) :: []) := R57
    have pre58 : ∀ t, Steps p.tables e below (T57.setTop (mkF m 178 #[.val (.long nx), .second, .val (.int lx), .val (.long jx), .second, .val (.int v1), .val (.long v3), .second, .val (.long v11), .second, .val (.long (v11 / v3)), .second, .val (.long v12), .second, .val (.long (v12 * v3)), .second, .val (.ref b15), .val (.int v31), .val (.long (F12 v11)), .second, .val (.int (bz ((((v12 * v3) = (0 : Int64)) ∧ (v3 = (F12 v11))) ∨ (((v12 * v3) = (F12 v11)) ∧ ((v11 - (F12 v11)) = v3)))))] [(.int (F9 (cL (lushr (v12 * v3) (F7 (((v12 * v3) + v3) - (v12 * v3)))) (lushr (v11 - (1 : Int64)) (F7 (((v12 * v3) + v3) - (v12 * v3)))))))])) t → Steps p.tables e below (s₁.setTop (entryFrame m #[(.long nx), (.int lx), (.long jx)] maxLocals)) t := fun t k => pre56 t (st57.trans k)
    have pre61 : ∀ t, Steps p.tables e below (T57.setTop (mkF m 180 #[.val (.long nx), .second, .val (.int lx), .val (.long jx), .second, .val (.int v1), .val (.long v3), .second, .val (.long v11), .second, .val (.long (v11 / v3)), .second, .val (.long v12), .second, .val (.long (v12 * v3)), .second, .val (.ref b15), .val (.int v31), .val (.long (F12 v11)), .second, .val (.int (bz ((((v12 * v3) = (0 : Int64)) ∧ (v3 = (F12 v11))) ∨ (((v12 * v3) = (F12 v11)) ∧ ((v11 - (F12 v11)) = v3)))))] [(.int (bz ((((v12 * v3) = (0 : Int64)) ∧ (v3 = (F12 v11))) ∨ (((v12 * v3) = (F12 v11)) ∧ ((v11 - (F12 v11)) = v3))))), (.int (F9 (cL (lushr (v12 * v3) (F7 (((v12 * v3) + v3) - (v12 * v3)))) (lushr (v11 - (1 : Int64)) (F7 (((v12 * v3) + v3) - (v12 * v3)))))))])) t → Steps p.tables e below (s₁.setTop (entryFrame m #[(.long nx), (.int lx), (.long jx)] maxLocals)) t := fun t k => pre58 t (by
      show Steps p.tables e below (T57.setTop (mkF m 178 #[.val (.long nx), .second, .val (.int lx), .val (.long jx), .second, .val (.int v1), .val (.long v3), .second, .val (.long v11), .second, .val (.long (v11 / v3)), .second, .val (.long v12), .second, .val (.long (v12 * v3)), .second, .val (.ref b15), .val (.int v31), .val (.long (F12 v11)), .second, .val (.int (bz ((((v12 * v3) = (0 : Int64)) ∧ (v3 = (F12 v11))) ∨ (((v12 * v3) = (F12 v11)) ∧ ((v11 - (F12 v11)) = v3)))))] [(.int (F9 (cL (lushr (v12 * v3) (F7 (((v12 * v3) + v3) - (v12 * v3)))) (lushr (v11 - (1 : Int64)) (F7 (((v12 * v3) + v3) - (v12 * v3)))))))])) _
      refine XS.iload X57.here hx rfl (hb hby at_178) rfl ?_
      exact k)
    have tl60 : ∀ t, Steps p.tables e below (T57.setTop (mkF m 188 #[.val (.long nx), .second, .val (.int lx), .val (.long jx), .second, .val (.int v1), .val (.long v3), .second, .val (.long v11), .second, .val (.long (v11 / v3)), .second, .val (.long v12), .second, .val (.long (v12 * v3)), .second, .val (.ref b15), .val (.int v31), .val (.long (F12 v11)), .second, .val (.int (bz ((((v12 * v3) = (0 : Int64)) ∧ (v3 = (F12 v11))) ∨ (((v12 * v3) = (F12 v11)) ∧ ((v11 - (F12 v11)) = v3)))))] [(.int (bz ((F9 (cL (lushr (v12 * v3) (F7 (((v12 * v3) + v3) - (v12 * v3)))) (lushr (v11 - (1 : Int64)) (F7 (((v12 * v3) + v3) - (v12 * v3)))))) = (bz ((((v12 * v3) = (0 : Int64)) ∧ (v3 = (F12 v11))) ∨ (((v12 * v3) = (F12 v11)) ∧ ((v11 - (F12 v11)) = v3)))))))])) t → Steps p.tables e below (T57.setTop (mkF m 180 #[.val (.long nx), .second, .val (.int lx), .val (.long jx), .second, .val (.int v1), .val (.long v3), .second, .val (.long v11), .second, .val (.long (v11 / v3)), .second, .val (.long v12), .second, .val (.long (v12 * v3)), .second, .val (.ref b15), .val (.int v31), .val (.long (F12 v11)), .second, .val (.int (bz ((((v12 * v3) = (0 : Int64)) ∧ (v3 = (F12 v11))) ∨ (((v12 * v3) = (F12 v11)) ∧ ((v11 - (F12 v11)) = v3)))))] [(.int (bz ((((v12 * v3) = (0 : Int64)) ∧ (v3 = (F12 v11))) ∨ (((v12 * v3) = (F12 v11)) ∧ ((v11 - (F12 v11)) = v3))))), (.int (F9 (cL (lushr (v12 * v3) (F7 (((v12 * v3) + v3) - (v12 * v3)))) (lushr (v11 - (1 : Int64)) (F7 (((v12 * v3) + v3) - (v12 * v3)))))))])) t := fun t k => by
      by_cases hb59 : (F9 (cL (lushr (v12 * v3) (F7 (((v12 * v3) + v3) - (v12 * v3)))) (lushr (v11 - (1 : Int64)) (F7 (((v12 * v3) + v3) - (v12 * v3)))))) = (bz ((((v12 * v3) = (0 : Int64)) ∧ (v3 = (F12 v11))) ∨ (((v12 * v3) = (F12 v11)) ∧ ((v11 - (F12 v11)) = v3))))
      · refine XS.icmpNo X57.here hx rfl (hb hby at_180) rfl (teq hb59).2 ?_
        rw [bz_one (P := ((F9 (cL (lushr (v12 * v3) (F7 (((v12 * v3) + v3) - (v12 * v3)))) (lushr (v11 - (1 : Int64)) (F7 (((v12 * v3) + v3) - (v12 * v3)))))) = (bz ((((v12 * v3) = (0 : Int64)) ∧ (v3 = (F12 v11))) ∨ (((v12 * v3) = (F12 v11)) ∧ ((v11 - (F12 v11)) = v3)))))) (iff_true_intro hb59)] at k
        show Steps p.tables e below (T57.setTop (mkF m 183 #[.val (.long nx), .second, .val (.int lx), .val (.long jx), .second, .val (.int v1), .val (.long v3), .second, .val (.long v11), .second, .val (.long (v11 / v3)), .second, .val (.long v12), .second, .val (.long (v12 * v3)), .second, .val (.ref b15), .val (.int v31), .val (.long (F12 v11)), .second, .val (.int (bz ((((v12 * v3) = (0 : Int64)) ∧ (v3 = (F12 v11))) ∨ (((v12 * v3) = (F12 v11)) ∧ ((v11 - (F12 v11)) = v3)))))] [])) _
        refine XS.iconst X57.here hx rfl (hb hby at_183) ?_
        refine XS.goto X57.here hx rfl (pc0 := 184) (pc' := 188) rfl (hb hby at_184) (by decide) (by decide) ?_
        exact k
      · refine XS.icmpYes X57.here hx rfl (pc0 := 180) (pc' := 187) rfl (hb hby at_180) rfl (feq hb59).2 (by decide) (by decide) ?_
        rw [bz_zero (P := ((F9 (cL (lushr (v12 * v3) (F7 (((v12 * v3) + v3) - (v12 * v3)))) (lushr (v11 - (1 : Int64)) (F7 (((v12 * v3) + v3) - (v12 * v3)))))) = (bz ((((v12 * v3) = (0 : Int64)) ∧ (v3 = (F12 v11))) ∨ (((v12 * v3) = (F12 v11)) ∧ ((v11 - (F12 v11)) = v3)))))) (iff_false_intro hb59)] at k
        show Steps p.tables e below (T57.setTop (mkF m 187 #[.val (.long nx), .second, .val (.int lx), .val (.long jx), .second, .val (.int v1), .val (.long v3), .second, .val (.long v11), .second, .val (.long (v11 / v3)), .second, .val (.long v12), .second, .val (.long (v12 * v3)), .second, .val (.ref b15), .val (.int v31), .val (.long (F12 v11)), .second, .val (.int (bz ((((v12 * v3) = (0 : Int64)) ∧ (v3 = (F12 v11))) ∨ (((v12 * v3) = (F12 v11)) ∧ ((v11 - (F12 v11)) = v3)))))] [])) _
        refine XS.iconst X57.here hx rfl (hb hby at_187) ?_
        exact k
    have pre62 : ∀ t, Steps p.tables e below (T57.setTop (mkF m 188 #[.val (.long nx), .second, .val (.int lx), .val (.long jx), .second, .val (.int v1), .val (.long v3), .second, .val (.long v11), .second, .val (.long (v11 / v3)), .second, .val (.long v12), .second, .val (.long (v12 * v3)), .second, .val (.ref b15), .val (.int v31), .val (.long (F12 v11)), .second, .val (.int (bz ((((v12 * v3) = (0 : Int64)) ∧ (v3 = (F12 v11))) ∨ (((v12 * v3) = (F12 v11)) ∧ ((v11 - (F12 v11)) = v3)))))] [(.int (bz ((F9 (cL (lushr (v12 * v3) (F7 (((v12 * v3) + v3) - (v12 * v3)))) (lushr (v11 - (1 : Int64)) (F7 (((v12 * v3) + v3) - (v12 * v3)))))) = (bz ((((v12 * v3) = (0 : Int64)) ∧ (v3 = (F12 v11))) ∨ (((v12 * v3) = (F12 v11)) ∧ ((v11 - (F12 v11)) = v3)))))))])) t → Steps p.tables e below (s₁.setTop (entryFrame m #[(.long nx), (.int lx), (.long jx)] maxLocals)) t := fun t k => pre61 t (by
      exact tl60 t k)
    obtain ⟨fs, hr, hrun, hended, hW, hsame⟩ := X57.leave (v := some (.int (nar .boolean (bz ((F9 (cL (lushr (v12 * v3) (F7 (((v12 * v3) + v3) - (v12 * v3)))) (lushr (v11 - (1 : Int64)) (F7 (((v12 * v3) + v3) - (v12 * v3)))))) = (bz ((((v12 * v3) = (0 : Int64)) ∧ (v3 = (F12 v11))) ∨ (((v12 * v3) = (F12 v11)) ∧ ((v11 - (F12 v11)) = v3))))))))) (fun h => by rw [Bd.returns] at h; cases h)
    refine ⟨_, _, pre62 _ ?_, hrun, hended, _, _, rfl, ?_, ⟨_, rfl⟩, hW, hsame.mono (by decide) (by decide)⟩
    · show Steps p.tables e below (T57.setTop (mkF m 188 #[.val (.long nx), .second, .val (.int lx), .val (.long jx), .second, .val (.int v1), .val (.long v3), .second, .val (.long v11), .second, .val (.long (v11 / v3)), .second, .val (.long v12), .second, .val (.long (v12 * v3)), .second, .val (.ref b15), .val (.int v31), .val (.long (F12 v11)), .second, .val (.int (bz ((((v12 * v3) = (0 : Int64)) ∧ (v3 = (F12 v11))) ∨ (((v12 * v3) = (F12 v11)) ∧ ((v11 - (F12 v11)) = v3)))))] [(.int (bz ((F9 (cL (lushr (v12 * v3) (F7 (((v12 * v3) + v3) - (v12 * v3)))) (lushr (v11 - (1 : Int64)) (F7 (((v12 * v3) + v3) - (v12 * v3)))))) = (bz ((((v12 * v3) = (0 : Int64)) ∧ (v3 = (F12 v11))) ∨ (((v12 * v3) = (F12 v11)) ∧ ((v11 - (F12 v11)) = v3)))))))])) _
      exact retN X57 hx (t := .boolean) Bd.returns (by simp) (hb hby at_188) hr
    · show Q0 Z nx lx jx n0 [] _ T57.heap _
      have R63 : Rep Z n0 T57.heap ((b18, Obj "com/example/gapless_log/gaplesslog/tree/Subtree" [("start", "J", (.long (v12 * v3))), ("end", "J", (.long ((v12 * v3) + v3)))]) :: []) := (R57.front 0 rfl rfl : Rep Z n0 T57.heap ((b15, Obj "com/example/gapless_log/gaplesslog/tree/Ascent" [("node", "J", (.long (cN (lushr (v12 * v3) (F7 (((v12 * v3) + v3) - (v12 * v3)))) (lushr (v11 - (1 : Int64)) (F7 (((v12 * v3) + v3) - (v12 * v3))))))), ("last", "J", (.long (cL (lushr (v12 * v3) (F7 (((v12 * v3) + v3) - (v12 * v3)))) (lushr (v11 - (1 : Int64)) (F7 (((v12 * v3) + v3) - (v12 * v3)))))))]) :: (b18, Obj "com/example/gapless_log/gaplesslog/tree/Subtree" [("start", "J", (.long (v12 * v3))), ("end", "J", (.long ((v12 * v3) + v3)))]) :: [])).tail
      have R64 : Rep Z n0 T57.heap ([]) := (R63.front 0 rfl rfl : Rep Z n0 T57.heap ((b18, Obj "com/example/gapless_log/gaplesslog/tree/Subtree" [("start", "J", (.long (v12 * v3))), ("end", "J", (.long ((v12 * v3) + v3)))]) :: [])).tail
      exact ⟨(by exact ow_fin (own_last han g1 g3 g4 g5 nd.1 nd.2 (fun z => by rw [hv31, z] at hroot; exact absurd hroot (by decide)))), N57, R64⟩
  · have pre65 : ∀ t, Steps p.tables e below (T29.setTop (mkF m 118 #[.val (.long nx), .second, .val (.int lx), .val (.long jx), .second, .val (.int v1), .val (.long v3), .second, .val (.long v11), .second, .val (.long (v11 / v3)), .second, .val (.long v12), .second, .val (.long (v12 * v3)), .second, .val (.ref b15), .val (.int v31), .unset, .unset, .unset] [])) t → Steps p.tables e below (s₁.setTop (entryFrame m #[(.long nx), (.int lx), (.long jx)] maxLocals)) t := fun t k => pre38 t (by show Steps p.tables e below (T29.setTop (mkF m 115 #[.val (.long nx), .second, .val (.int lx), .val (.long jx), .second, .val (.int v1), .val (.long v3), .second, .val (.long v11), .second, .val (.long (v11 / v3)), .second, .val (.long v12), .second, .val (.long (v12 * v3)), .second, .val (.ref b15), .val (.int v31), .unset, .unset, .unset] [(.int v31)])) _; refine XS.ifNo X29.here hx rfl (hb hby at_115) rfl ((if0 _ _).trans (feq hroot).1) ?_; exact k)
    have pre66 : ∀ t, Steps p.tables e below (T29.setTop (mkF m 119 #[.val (.long nx), .second, .val (.int lx), .val (.long jx), .second, .val (.int v1), .val (.long v3), .second, .val (.long v11), .second, .val (.long (v11 / v3)), .second, .val (.long v12), .second, .val (.long (v12 * v3)), .second, .val (.ref b15), .val (.int v31), .unset, .unset, .unset] [(.int (1 : Int32))])) t → Steps p.tables e below (s₁.setTop (entryFrame m #[(.long nx), (.int lx), (.long jx)] maxLocals)) t := fun t k => pre65 t (by
      show Steps p.tables e below (T29.setTop (mkF m 118 #[.val (.long nx), .second, .val (.int lx), .val (.long jx), .second, .val (.int v1), .val (.long v3), .second, .val (.long v11), .second, .val (.long (v11 / v3)), .second, .val (.long v12), .second, .val (.long (v12 * v3)), .second, .val (.ref b15), .val (.int v31), .unset, .unset, .unset] [])) _
      refine XS.iconst X29.here hx rfl (hb hby at_118) ?_
      exact k)
    obtain ⟨fs, hr, hrun, hended, hW, hsame⟩ := X29.leave (v := some (.int (nar .boolean (1 : Int32)))) (fun h => by rw [Bd.returns] at h; cases h)
    refine ⟨_, _, pre66 _ ?_, hrun, hended, _, _, rfl, ?_, ⟨_, rfl⟩, hW, hsame.mono (by decide) (by decide)⟩
    · show Steps p.tables e below (T29.setTop (mkF m 119 #[.val (.long nx), .second, .val (.int lx), .val (.long jx), .second, .val (.int v1), .val (.long v3), .second, .val (.long v11), .second, .val (.long (v11 / v3)), .second, .val (.long v12), .second, .val (.long (v12 * v3)), .second, .val (.ref b15), .val (.int v31), .unset, .unset, .unset] [(.int (1 : Int32))])) _
      exact retN X29 hx (t := .boolean) Bd.returns (by simp) (hb hby at_119) hr
    · show Q0 Z nx lx jx n0 [] _ T29.heap _
      have R67 : Rep Z n0 T29.heap ((b18, Obj "com/example/gapless_log/gaplesslog/tree/Subtree" [("start", "J", (.long (v12 * v3))), ("end", "J", (.long ((v12 * v3) + v3)))]) :: []) := (R29.front 0 rfl rfl : Rep Z n0 T29.heap ((b15, Obj "com/example/gapless_log/gaplesslog/tree/Ascent" [("node", "J", (.long (lushr (v12 * v3) (F7 (((v12 * v3) + v3) - (v12 * v3)))))), ("last", "J", (.long (lushr (v11 - (1 : Int64)) (F7 (((v12 * v3) + v3) - (v12 * v3))))))]) :: (b18, Obj "com/example/gapless_log/gaplesslog/tree/Subtree" [("start", "J", (.long (v12 * v3))), ("end", "J", (.long ((v12 * v3) + v3)))]) :: [])).tail
      have R68 : Rep Z n0 T29.heap ([]) := (R67.front 0 rfl rfl : Rep Z n0 T29.heap ((b18, Obj "com/example/gapless_log/gaplesslog/tree/Subtree" [("start", "J", (.long (v12 * v3))), ("end", "J", (.long ((v12 * v3) + v3)))]) :: [])).tail
      exact ⟨(by rfl), N29, R68⟩
set_option maxRecDepth 65536 in
set_option maxHeartbeats 40000000 in
theorem comes_1 {Post : Tables → Env → Array Value → State → Outcome → State → Prop} (hpost : ∀ tb e args s v u, (limb_1_1.after args s (.returned v) u = true ∧ limb_1_2.after args s (.returned v) u = true ∧ True) → FrameEnd s (.returned v) u (Jvm.fieldLocs frame_1_writes args s ++ Jvm.arrayLocs frame_1_arrays args s ++ Jvm.staticLocs frame_1_statics s) 16 128 → Post tb e args s (.returned v) u) :
    ArmFor flags0 classFile x code maxLocals ret World_1 tables_1 room_1 Calls_1 rest_1 Pre_1 Post := by
  intro l hfl _ _ p e ha hc hk s m args below hf hA hF happ hP
  obtain ⟨hcalls, hrest, hpre⟩ := hP
  obtain ⟨-, -, -, hnamed, -, -, -, hat⟩ := (Spec.applies_iff hf).mp happ
  obtain ⟨hg, hn⟩ := and_e (Cond.before_iff.mp (show (Jvm.Cond.and given_1 narrow_1).before args s = true from hpre))
  obtain ⟨hct, hg⟩ := and_e hg
  obtain ⟨hg0, hg⟩ := and_e hg
  obtain ⟨hg1, hg⟩ := and_e hg
  have hg2 := hg
  obtain ⟨w0, w1, w2, rfl⟩ : ∃ w0 w1 w2 : Value, args = #[w0, w1, w2] := by
    have hs : args.size = 3 := by simpa [Cond.value, given_1] using hct
    obtain ⟨L⟩ := args
    match L, hs with
    | [w0, w1, w2], _ => exact ⟨w0, w1, w2, rfl⟩
  have hw := fun d (hd : d ∈ tables_1) => atoms_spec (ws := Jvm.Cond.code x code maxLocals ret :: tables_1) hat d (List.mem_cons_of_mem _ hd)
  obtain ⟨i0, ei0⟩ := isL_v hg0
  obtain rfl : w0 = (.long i0) := Option.some.inj ei0
  obtain ⟨i1, ei1⟩ := is_v hg1
  obtain rfl : w1 = (.int i1) := Option.some.inj ei1
  obtain ⟨i2, ei2⟩ := isL_v hg2
  obtain rfl : w2 = (.long i2) := Option.some.inj ei2
  obtain ⟨n, o, h1, h2, h3, _, L, rfl, ⟨rfl, N, -⟩, hq⟩ := rm0 l s _ hw tables_1 i0 i1 i2 s.heap s.heap.size (Rep.nil _) p e ha hc hk s m _ below hf ((Spec.applies_iff_loose hf).mp happ).1 ⟨rfl, State.Warmed39.refl s, rfl⟩ trivial
  refine ⟨n, _, h1, h2, h3, hpost _ _ _ _ _ _ ⟨Cond.after_iff.mpr rfl, Cond.after_iff.mpr (eq_i res_at (Term.int_eval (1)) rfl), trivial⟩ ⟨hq.1, hq.2.1, (hq.2.2.sift fun y hy => Or.inr (N y hy)).mono (by decide) (by decide)⟩⟩
theorem main_1_1 : Claimed_1_1 := comes_1 fun _ _ _ _ _ _ h hF => ⟨h.1, hF⟩
theorem main_1_2 : Claimed_1_2 := comes_1 fun _ _ _ _ _ _ h hF => ⟨h.2.1, hF⟩
end Jvm.Pilot.@@N@@
namespace Jvm.Pilot.@@N@@
open Jvm Jvm.ClassFile Sem Op Lib Jvm.Free Jvm.Stand Jvm.Pilot.@@N@@.Jvm.D
/-! MADE BY PROGRAM (witnessworld.py) out of the Statement's table words and the real class files: 18 classes; the members and pool entries that the words name. The judged class is class 1, her method 1. -/
namespace start1
open Jvm.ClassFile
def u (s : String) : CpInfo := .utf8 (stringToUtf16 s)
/-- a pool by its gaps: so many unusable entries, then the entry; so many at the end -/
def gap : Nat → List CpInfo → List CpInfo
  | 0, r => r
  | n + 1, r => .unusable :: gap n r
def poolList (es : List (Nat × CpInfo)) (last : Nat) : List CpInfo := es.foldr (fun e r => gap e.1 (e.2 :: r)) (gap last [])
def pool (es : List (Nat × CpInfo)) (last : Nat) : Array CpInfo := ⟨poolList es last⟩
def fileOf (pool : Array CpInfo) (this : Nat) (attrs : Array Attribute := #[]) (ms : Array MethodInfo := #[]) (fl : Nat := 33) (sup : Nat := 0) (ifs : Array Nat := #[]) (fds : Array FieldInfo := #[]) : ClassFile where
  minorVersion := 0
  majorVersion := 65
  constantPool := pool
  accessFlags := fl
  thisClass := this
  superClass := sup
  interfaces := ifs
  fields := fds
  methods := ms
  attributes := attrs
def plain (name : String) (sup : Option ClassId) : Class where
  name := name
  kind := .ordinary
  loader := none
  accessFlags := 33
  super := sup
  interfaces := #[]
  cf := none
  fields := #[]
  methods := #[]
  instanceTypes := #[]
  staticTypes := #[]
  resolved := #[]
  callSites := []
  init := .initialized
  statics := none
  mirror := none

def pool0 : Array CpInfo := pool [(5, u "<init>"), (0, u "()V"), (1, .class_ 10), (1, u "java/lang/Object")] 113

def k0c0 : Code := { maxStack := 0, maxLocals := 1, code := object_method_1_code, exceptionTable := #[], attributes := #[] }
def k0m0 : Method := { name := "<init>", desc := "()V", sig := { parameters := [], returnType := none }, accessFlags := 1, code := some k0c0 }
/-- java/lang/Object -/
def k0 : Class := { plain "java/lang/Object" none with
  accessFlags := 33
  interfaces := #[]
  cf := some (fileOf pool0 8 #[] #[{ accessFlags := 1, nameIndex := 5, descriptorIndex := 6, attributes := #[] }] 33 0 #[] #[])
  fields := #[]
  methods := #[k0m0]
  instanceTypes := #[]
  staticTypes := #[]
  resolved := Array.replicate 124 none
  statics := none }

def pool1 : Array CpInfo := pool [(2, .class_ 4), (1, u "java/lang/Object"), (0, u "<init>"), (0, u "()V"), (0, .integer 2147483647), (2, .long 9223372036854775807), (1, .class_ 13), (0, u "com/example/gapless_log/gaplesslog/tree/Ascent"), (0, .class_ 15), (0, u "com/example/gapless_log/gaplesslog/tree/Subtree"), (0, .methodref 14 17), (0, .nameAndType 5 18), (0, u "(JJ)V"), (0, .methodref 12 20), (0, .nameAndType 5 21), (0, u "(Lcom/example/gapless_log/gaplesslog/tree/Subtree;J)V"), (0, .methodref 12 23), (0, .nameAndType 24 25), (0, u "atRoot"), (0, u "()Z"), (0, .methodref 12 27), (0, .nameAndType 28 6), (0, u "climb"), (0, .methodref 30 31), (0, .class_ 32), (0, .nameAndType 33 34), (0, u "com/example/gapless_log/gaplesslog/tree/TreeHash"), (0, u "split"), (0, u "(J)J"), (0, .class_ 36), (0, u "com/example/gapless_log/gaplesslog/tree/AscentAtRootPinLaw"), (2, u "law"), (0, u "(JIJ)Z")] 3

def k1m0 : Method := { name := "<init>", desc := "()V", sig := { parameters := [], returnType := none }, accessFlags := 1, code := none }
def k1c1 : Code := { maxStack := 10, maxLocals := 21, code := code, exceptionTable := #[], attributes := #[] }
def k1m1 : Method := { name := "law", desc := "(JIJ)Z", sig := { parameters := [.long, .int, .long], returnType := some .boolean }, accessFlags := 9, code := some k1c1 }
/-- com/example/gapless_log/gaplesslog/tree/AscentAtRootPinLaw -/
def k1 : Class := { plain "com/example/gapless_log/gaplesslog/tree/AscentAtRootPinLaw" (some 0) with
  accessFlags := 49
  interfaces := #[]
  cf := some (fileOf pool1 35 #[] #[{ accessFlags := 1, nameIndex := 5, descriptorIndex := 6, attributes := #[] }, { accessFlags := 9, nameIndex := 39, descriptorIndex := 40, attributes := #[] }] 49 2 #[] #[])
  fields := #[]
  methods := #[k1m0, k1m1]
  instanceTypes := #[]
  staticTypes := #[]
  resolved := Array.replicate 44 none
  statics := none }

def pool2 : Array CpInfo := pool [(1, .methodref 2 3), (0, .class_ 4), (0, .nameAndType 5 6), (0, u "java/lang/Object"), (0, u "<init>"), (0, u "()V"), (0, .methodref 8 9), (0, .class_ 10), (0, .nameAndType 11 12), (0, u "com/example/gapless_log/gaplesslog/tree/Subtree"), (0, u "end"), (0, u "()J"), (0, .methodref 8 14), (0, .nameAndType 15 12), (0, u "start"), (0, .methodref 17 18), (0, .class_ 19), (0, .nameAndType 20 21), (0, u "java/lang/Long"), (0, u "numberOfTrailingZeros"), (0, u "(J)I"), (0, .fieldref 23 24), (0, .class_ 25), (0, .nameAndType 26 27), (0, u "com/example/gapless_log/gaplesslog/tree/Ascent"), (0, u "node"), (0, u "J"), (0, .fieldref 23 29), (0, .nameAndType 30 27), (0, u "last"), (0, .methodref 23 32), (0, .nameAndType 33 34), (0, u "siblingOnLeft"), (0, u "()Z"), (0, u "(Lcom/example/gapless_log/gaplesslog/tree/Subtree;J)V"), (2, u "atRoot"), (1, u "climb")] 2

def k2c0 : Code := { maxStack := 5, maxLocals := 5, code := prog_33_method_1_code, exceptionTable := #[], attributes := #[] }
def k2m0 : Method := { name := "<init>", desc := "(Lcom/example/gapless_log/gaplesslog/tree/Subtree;J)V", sig := { parameters := [(.object "com/example/gapless_log/gaplesslog/tree/Subtree"), .long], returnType := none }, accessFlags := 0, code := some k2c0 }
def k2c1 : Code := { maxStack := 4, maxLocals := 1, code := prog_33_method_2_code, exceptionTable := #[], attributes := #[] }
def k2m1 : Method := { name := "atRoot", desc := "()Z", sig := { parameters := [], returnType := some .boolean }, accessFlags := 0, code := some k2c1 }
def k2c2 : Code := { maxStack := 4, maxLocals := 1, code := prog_33_method_3_code, exceptionTable := #[], attributes := #[] }
def k2m2 : Method := { name := "siblingOnLeft", desc := "()Z", sig := { parameters := [], returnType := some .boolean }, accessFlags := 0, code := some k2c2 }
def k2c3 : Code := { maxStack := 4, maxLocals := 1, code := prog_33_method_4_code, exceptionTable := #[], attributes := #[] }
def k2m3 : Method := { name := "climb", desc := "()V", sig := { parameters := [], returnType := none }, accessFlags := 0, code := some k2c3 }
/-- com/example/gapless_log/gaplesslog/tree/Ascent -/
def k2 : Class := { plain "com/example/gapless_log/gaplesslog/tree/Ascent" (some 0) with
  accessFlags := 48
  interfaces := #[]
  cf := some (fileOf pool2 23 #[] #[{ accessFlags := 0, nameIndex := 5, descriptorIndex := 35, attributes := #[] }, { accessFlags := 0, nameIndex := 38, descriptorIndex := 34, attributes := #[] }, { accessFlags := 0, nameIndex := 33, descriptorIndex := 34, attributes := #[] }, { accessFlags := 0, nameIndex := 40, descriptorIndex := 6, attributes := #[] }] 48 2 #[] #[{ accessFlags := 2, nameIndex := 26, descriptorIndex := 27, attributes := #[] }, { accessFlags := 2, nameIndex := 30, descriptorIndex := 27, attributes := #[] }])
  fields := #[{ name := "node", type := .long, accessFlags := 2, slot := 0, constantValue := 0 }, { name := "last", type := .long, accessFlags := 2, slot := 1, constantValue := 0 }]
  methods := #[k2m0, k2m1, k2m2, k2m3]
  instanceTypes := #[.long, .long]
  staticTypes := #[]
  resolved := Array.replicate 43 none
  statics := none }

def pool3 : Array CpInfo := pool [(1, .methodref 2 3), (0, .class_ 4), (0, .nameAndType 5 6), (0, u "java/lang/Object"), (0, u "<init>"), (0, u "()V"), (0, .class_ 8), (0, u "java/lang/Record")] 13

def k3c0 : Code := { maxStack := 1, maxLocals := 1, code := jdk_30_method_1_code, exceptionTable := #[], attributes := #[] }
def k3m0 : Method := { name := "<init>", desc := "()V", sig := { parameters := [], returnType := none }, accessFlags := 4, code := some k3c0 }
/-- java/lang/Record -/
def k3 : Class := { plain "java/lang/Record" (some 0) with
  accessFlags := 1057
  interfaces := #[]
  cf := some (fileOf pool3 7 #[] #[{ accessFlags := 4, nameIndex := 5, descriptorIndex := 6, attributes := #[] }] 1057 2 #[] #[])
  fields := #[]
  methods := #[k3m0]
  instanceTypes := #[]
  staticTypes := #[]
  resolved := Array.replicate 22 none
  statics := none }

def pool4 : Array CpInfo := pool [(1, .methodref 2 3), (0, .class_ 4), (0, .nameAndType 5 6), (0, u "java/lang/Record"), (0, u "<init>"), (0, u "()V"), (9, .fieldref 17 18), (0, .class_ 19), (0, .nameAndType 20 21), (0, u "com/example/gapless_log/gaplesslog/tree/Subtree"), (0, u "start"), (0, u "J"), (0, .fieldref 17 23), (0, .nameAndType 24 21), (0, u "end"), (17, u "(JJ)V"), (45, u "()J")] 31

def k4c0 : Code := { maxStack := 6, maxLocals := 5, code := prog_38_method_1_code, exceptionTable := #[], attributes := #[] }
def k4m0 : Method := { name := "<init>", desc := "(JJ)V", sig := { parameters := [.long, .long], returnType := none }, accessFlags := 1, code := some k4c0 }
def k4c1 : Code := { maxStack := 2, maxLocals := 1, code := prog_38_method_7_code, exceptionTable := #[], attributes := #[] }
def k4m1 : Method := { name := "start", desc := "()J", sig := { parameters := [], returnType := some .long }, accessFlags := 1, code := some k4c1 }
def k4c2 : Code := { maxStack := 2, maxLocals := 1, code := prog_38_method_8_code, exceptionTable := #[], attributes := #[] }
def k4m2 : Method := { name := "end", desc := "()J", sig := { parameters := [], returnType := some .long }, accessFlags := 1, code := some k4c2 }
/-- com/example/gapless_log/gaplesslog/tree/Subtree -/
def k4 : Class := { plain "com/example/gapless_log/gaplesslog/tree/Subtree" (some 3) with
  accessFlags := 49
  interfaces := #[]
  cf := some (fileOf pool4 17 #[] #[{ accessFlags := 1, nameIndex := 5, descriptorIndex := 42, attributes := #[] }, { accessFlags := 1, nameIndex := 20, descriptorIndex := 88, attributes := #[] }, { accessFlags := 1, nameIndex := 24, descriptorIndex := 88, attributes := #[] }] 49 2 #[] #[{ accessFlags := 18, nameIndex := 20, descriptorIndex := 21, attributes := #[] }, { accessFlags := 18, nameIndex := 24, descriptorIndex := 21, attributes := #[] }])
  fields := #[{ name := "start", type := .long, accessFlags := 18, slot := 0, constantValue := 0 }, { name := "end", type := .long, accessFlags := 18, slot := 1, constantValue := 0 }]
  methods := #[k4m0, k4m1, k4m2]
  instanceTypes := #[.long, .long]
  staticTypes := #[]
  resolved := Array.replicate 120 none
  statics := none }

def pool5 : Array CpInfo := pool [(1, .class_ 2), (0, u "java/io/Serializable"), (0, .class_ 4), (0, u "java/lang/Object")] 2

/-- java/io/Serializable -/
def k5 : Class := { plain "java/io/Serializable" (some 0) with
  accessFlags := 1537
  interfaces := #[]
  cf := some (fileOf pool5 1 #[] #[] 1537 3 #[] #[])
  fields := #[]
  methods := #[]
  instanceTypes := #[]
  staticTypes := #[]
  resolved := Array.replicate 7 none
  statics := none }

def pool6 : Array CpInfo := pool [(2, .class_ 4), (1, u "java/lang/Object"), (0, u "<init>"), (0, u "()V"), (1, .class_ 10), (1, u "java/lang/Number"), (2, .class_ 14), (0, u "java/io/Serializable"), (0, u "serialVersionUID"), (0, u "J")] 20

def k6m0 : Method := { name := "<init>", desc := "()V", sig := { parameters := [], returnType := none }, accessFlags := 1, code := none }
/-- java/lang/Number -/
def k6 : Class := { plain "java/lang/Number" (some 0) with
  accessFlags := 1057
  interfaces := #[5]
  cf := some (fileOf pool6 8 #[] #[{ accessFlags := 1, nameIndex := 5, descriptorIndex := 6, attributes := #[] }] 1057 2 #[13] #[{ accessFlags := 26, nameIndex := 15, descriptorIndex := 16, attributes := #[] }])
  fields := #[{ name := "serialVersionUID", type := .long, accessFlags := 26, slot := 0, constantValue := 0 }]
  methods := #[k6m0]
  instanceTypes := #[]
  staticTypes := #[.long]
  resolved := Array.replicate 37 none
  statics := none }

def pool7 : Array CpInfo := pool [(1, .class_ 2), (0, u "java/lang/Comparable"), (0, .class_ 4), (0, u "java/lang/Object")] 7

/-- java/lang/Comparable -/
def k7 : Class := { plain "java/lang/Comparable" (some 0) with
  accessFlags := 1537
  interfaces := #[]
  cf := some (fileOf pool7 1 #[] #[] 1537 3 #[] #[])
  fields := #[]
  methods := #[]
  instanceTypes := #[]
  staticTypes := #[]
  resolved := Array.replicate 12 none
  statics := none }

def pool8 : Array CpInfo := pool [(1, .class_ 2), (0, u "java/lang/constant/Constable"), (0, .class_ 4), (0, u "java/lang/Object")] 6

/-- java/lang/constant/Constable -/
def k8 : Class := { plain "java/lang/constant/Constable" (some 0) with
  accessFlags := 1537
  interfaces := #[]
  cf := some (fileOf pool8 1 #[] #[] 1537 3 #[] #[])
  fields := #[]
  methods := #[]
  instanceTypes := #[]
  staticTypes := #[]
  resolved := Array.replicate 11 none
  statics := none }

def pool9 : Array CpInfo := pool [(1, .class_ 2), (0, u "java/lang/constant/ConstantDesc"), (0, .class_ 4), (0, u "java/lang/Object")] 32

/-- java/lang/constant/ConstantDesc -/
def k9 : Class := { plain "java/lang/constant/ConstantDesc" (some 0) with
  accessFlags := 1537
  interfaces := #[]
  cf := some (fileOf pool9 1 #[] #[] 1537 3 #[] #[])
  fields := #[]
  methods := #[]
  instanceTypes := #[]
  staticTypes := #[]
  resolved := Array.replicate 37 none
  statics := none }

def pool10 : Array CpInfo := pool [(1, .class_ 2), (0, u "java/lang/Long"), (15, .class_ 20), (1, u "java/lang/Integer"), (77, .methodref 1 99), (0, .nameAndType 100 101), (0, u "numberOfLeadingZeros"), (0, u "(J)I"), (66, .long 9223372036854775808), (66, .class_ 237), (1, u "java/lang/Long$LongCache"), (33, .class_ 272), (0, u "java/lang/Number"), (2, u "value"), (0, u "J"), (31, .methodref 18 309), (0, .nameAndType 100 310), (0, u "(I)I"), (0, .methodref 18 312), (0, .nameAndType 313 310), (0, u "numberOfTrailingZeros"), (9, u "(J)J"), (37, u "TYPE"), (0, u "Ljava/lang/Class;"), (0, .class_ 364), (0, u "java/lang/Comparable"), (0, .class_ 366), (0, u "java/lang/constant/Constable"), (0, .class_ 368), (0, u "java/lang/constant/ConstantDesc"), (0, u "MIN_VALUE"), (1, u "MAX_VALUE"), (4, u "SIZE"), (0, u "I"), (1, u "BYTES"), (1, u "serialVersionUID"), (92, u "highestOneBit")] 49

def k10c0 : Code := { maxStack := 6, maxLocals := 2, code := jdk_35_method_46_code, exceptionTable := #[], attributes := #[] }
def k10m0 : Method := { name := "highestOneBit", desc := "(J)J", sig := { parameters := [.long], returnType := some .long }, accessFlags := 9, code := some k10c0 }
def k10c1 : Code := { maxStack := 3, maxLocals := 3, code := jdk_35_method_48_code, exceptionTable := #[], attributes := #[] }
def k10m1 : Method := { name := "numberOfLeadingZeros", desc := "(J)I", sig := { parameters := [.long], returnType := some .int }, accessFlags := 9, code := some k10c1 }
def k10c2 : Code := { maxStack := 4, maxLocals := 3, code := jdk_35_method_49_code, exceptionTable := #[], attributes := #[] }
def k10m2 : Method := { name := "numberOfTrailingZeros", desc := "(J)I", sig := { parameters := [.long], returnType := some .int }, accessFlags := 9, code := some k10c2 }
/-- java/lang/Long -/
def k10 : Class := { plain "java/lang/Long" (some 6) with
  accessFlags := 49
  interfaces := #[7, 8, 9]
  cf := some (fileOf pool10 1 #[.nestMembers #[235]] #[{ accessFlags := 9, nameIndex := 474, descriptorIndex := 323, attributes := #[] }, { accessFlags := 9, nameIndex := 100, descriptorIndex := 101, attributes := #[] }, { accessFlags := 9, nameIndex := 313, descriptorIndex := 101, attributes := #[] }] 49 271 #[363, 365, 367] #[{ accessFlags := 25, nameIndex := 369, descriptorIndex := 276, attributes := #[] }, { accessFlags := 25, nameIndex := 371, descriptorIndex := 276, attributes := #[] }, { accessFlags := 25, nameIndex := 361, descriptorIndex := 362, attributes := #[] }, { accessFlags := 18, nameIndex := 275, descriptorIndex := 276, attributes := #[] }, { accessFlags := 25, nameIndex := 376, descriptorIndex := 377, attributes := #[] }, { accessFlags := 25, nameIndex := 379, descriptorIndex := 377, attributes := #[] }, { accessFlags := 26, nameIndex := 381, descriptorIndex := 276, attributes := #[] }])
  fields := #[{ name := "MIN_VALUE", type := .long, accessFlags := 25, slot := 0, constantValue := 0 }, { name := "MAX_VALUE", type := .long, accessFlags := 25, slot := 1, constantValue := 0 }, { name := "TYPE", type := (.object "java/lang/Class"), accessFlags := 25, slot := 2, constantValue := 0 }, { name := "value", type := .long, accessFlags := 18, slot := 0, constantValue := 0 }, { name := "SIZE", type := .int, accessFlags := 25, slot := 3, constantValue := 0 }, { name := "BYTES", type := .int, accessFlags := 25, slot := 4, constantValue := 0 }, { name := "serialVersionUID", type := .long, accessFlags := 26, slot := 5, constantValue := 0 }]
  methods := #[k10m0, k10m1, k10m2]
  instanceTypes := #[.long]
  staticTypes := #[.long, .long, (.object "java/lang/Class"), .int, .int, .long]
  resolved := Array.replicate 524 none
  statics := none }

def pool11 : Array CpInfo := pool [(1, .class_ 2), (0, u "java/lang/Integer"), (16, u "digits"), (0, u "[C"), (32, u "numberOfLeadingZeros"), (0, u "(I)I"), (30, u "DigitOnes"), (0, u "[B"), (2, u "DigitTens"), (99, .class_ 190), (0, u "java/lang/Integer$IntegerCache"), (3, u "I"), (8, .class_ 204), (0, u "java/lang/Number"), (2, u "value"), (56, .integer 65536), (37, u "TYPE"), (0, u "Ljava/lang/Class;"), (0, .class_ 305), (0, u "java/lang/Comparable"), (0, .class_ 307), (0, u "java/lang/constant/Constable"), (0, .class_ 309), (0, u "java/lang/constant/ConstantDesc"), (0, u "MIN_VALUE"), (1, u "MAX_VALUE"), (3, u "SIZE"), (1, u "BYTES"), (1, u "serialVersionUID"), (0, u "J"), (84, u "numberOfTrailingZeros")] 46

def k11c0 : Code := { maxStack := 3, maxLocals := 2, code := jdk_33_method_47_code, exceptionTable := #[], attributes := #[] }
def k11m0 : Method := { name := "numberOfLeadingZeros", desc := "(I)I", sig := { parameters := [.int], returnType := some .int }, accessFlags := 9, code := some k11c0 }
def k11c1 : Code := { maxStack := 3, maxLocals := 2, code := jdk_33_method_48_code, exceptionTable := #[], attributes := #[] }
def k11m1 : Method := { name := "numberOfTrailingZeros", desc := "(I)I", sig := { parameters := [.int], returnType := some .int }, accessFlags := 9, code := some k11c1 }
/-- java/lang/Integer -/
def k11 : Class := { plain "java/lang/Integer" (some 6) with
  accessFlags := 49
  interfaces := #[7, 8, 9]
  cf := some (fileOf pool11 1 #[.nestMembers #[189]] #[{ accessFlags := 9, nameIndex := 53, descriptorIndex := 54, attributes := #[] }, { accessFlags := 9, nameIndex := 406, descriptorIndex := 54, attributes := #[] }] 49 203 #[304, 306, 308] #[{ accessFlags := 25, nameIndex := 310, descriptorIndex := 194, attributes := #[] }, { accessFlags := 25, nameIndex := 312, descriptorIndex := 194, attributes := #[] }, { accessFlags := 25, nameIndex := 302, descriptorIndex := 303, attributes := #[] }, { accessFlags := 24, nameIndex := 19, descriptorIndex := 20, attributes := #[] }, { accessFlags := 24, nameIndex := 89, descriptorIndex := 86, attributes := #[] }, { accessFlags := 24, nameIndex := 85, descriptorIndex := 86, attributes := #[] }, { accessFlags := 18, nameIndex := 207, descriptorIndex := 194, attributes := #[] }, { accessFlags := 25, nameIndex := 316, descriptorIndex := 194, attributes := #[] }, { accessFlags := 25, nameIndex := 318, descriptorIndex := 194, attributes := #[] }, { accessFlags := 26, nameIndex := 320, descriptorIndex := 321, attributes := #[] }])
  fields := #[{ name := "MIN_VALUE", type := .int, accessFlags := 25, slot := 0, constantValue := 0 }, { name := "MAX_VALUE", type := .int, accessFlags := 25, slot := 1, constantValue := 0 }, { name := "TYPE", type := (.object "java/lang/Class"), accessFlags := 25, slot := 2, constantValue := 0 }, { name := "digits", type := (.array .char), accessFlags := 24, slot := 3, constantValue := 0 }, { name := "DigitTens", type := (.array .byte), accessFlags := 24, slot := 4, constantValue := 0 }, { name := "DigitOnes", type := (.array .byte), accessFlags := 24, slot := 5, constantValue := 0 }, { name := "value", type := .int, accessFlags := 18, slot := 0, constantValue := 0 }, { name := "SIZE", type := .int, accessFlags := 25, slot := 6, constantValue := 0 }, { name := "BYTES", type := .int, accessFlags := 25, slot := 7, constantValue := 0 }, { name := "serialVersionUID", type := .long, accessFlags := 26, slot := 8, constantValue := 0 }]
  methods := #[k11m0, k11m1]
  instanceTypes := #[.int]
  staticTypes := #[.int, .int, (.object "java/lang/Class"), (.array .char), (.array .byte), (.array .byte), .int, .int, .long]
  resolved := Array.replicate 453 none
  statics := none }

def pool12 : Array CpInfo := pool [(2, .class_ 4), (1, u "java/lang/Object"), (0, u "<init>"), (0, u "()V"), (1, .class_ 10), (1, u "com/example/gapless_log/gaplesslog/tree/TreeHash"), (47, .methodref 59 60), (0, .class_ 61), (0, .nameAndType 62 63), (0, u "java/lang/Long"), (0, u "highestOneBit"), (0, u "(J)J"), (15, u "SIZE"), (0, u "I"), (2, u "LEAF_PREFIX"), (0, u "B"), (1, u "NODE_PREFIX"), (9, u "split")] 2

def k12m0 : Method := { name := "<init>", desc := "()V", sig := { parameters := [], returnType := none }, accessFlags := 2, code := none }
def k12c1 : Code := { maxStack := 4, maxLocals := 2, code := prog_39_method_6_code, exceptionTable := #[], attributes := #[] }
def k12m1 : Method := { name := "split", desc := "(J)J", sig := { parameters := [.long], returnType := some .long }, accessFlags := 9, code := some k12c1 }
/-- com/example/gapless_log/gaplesslog/tree/TreeHash -/
def k12 : Class := { plain "com/example/gapless_log/gaplesslog/tree/TreeHash" (some 0) with
  accessFlags := 49
  interfaces := #[]
  cf := some (fileOf pool12 8 #[] #[{ accessFlags := 2, nameIndex := 5, descriptorIndex := 6, attributes := #[] }, { accessFlags := 9, nameIndex := 96, descriptorIndex := 63, attributes := #[] }] 49 2 #[] #[{ accessFlags := 25, nameIndex := 79, descriptorIndex := 80, attributes := #[] }, { accessFlags := 26, nameIndex := 83, descriptorIndex := 84, attributes := #[] }, { accessFlags := 26, nameIndex := 86, descriptorIndex := 84, attributes := #[] }])
  fields := #[{ name := "SIZE", type := .int, accessFlags := 25, slot := 0, constantValue := 0 }, { name := "LEAF_PREFIX", type := .byte, accessFlags := 26, slot := 1, constantValue := 0 }, { name := "NODE_PREFIX", type := .byte, accessFlags := 26, slot := 2, constantValue := 0 }]
  methods := #[k12m0, k12m1]
  instanceTypes := #[]
  staticTypes := #[.int, .byte, .byte]
  resolved := Array.replicate 99 none
  statics := none }

def pool13 : Array CpInfo := pool [(1, u "java/lang/Cloneable"), (0, .class_ 1), (0, u "java/lang/Object"), (0, .class_ 3)] 3

/-- java/lang/Cloneable -/
def k13 : Class := { plain "java/lang/Cloneable" (some 0) with
  accessFlags := 1537
  interfaces := #[]
  cf := some (fileOf pool13 2 #[] #[] 1537 4 #[] #[])
  fields := #[]
  methods := #[]
  instanceTypes := #[]
  staticTypes := #[]
  resolved := Array.replicate 8 none
  statics := none }

/-- the primitive byte -/
def k14 : Class := { plain "byte" none with kind := .primitive 'B', accessFlags := 0x411 }
/-- [B -/
def k15 : Class := { plain "[B" (some 0) with kind := .array 14 .byte, interfaces := #[13, 5], accessFlags := 1041 }

/-- the primitive int -/
def k16 : Class := { plain "int" none with kind := .primitive 'I', accessFlags := 0x411 }
/-- [I -/
def k17 : Class := { plain "[I" (some 0) with kind := .array 16 .int, interfaces := #[13, 5], accessFlags := 1041 }

def heap : Heap := #[]
def classes : Array Class := #[k0, k1, k2, k3, k4, k5, k6, k7, k8, k9, k10, k11, k12, k13, k14, k15, k16, k17]
def interned : List (Array UInt16 × Addr) := []
def slotsUsed : Nat := 0
def theMethod : MethodId := ⟨1, 1⟩
def args0 : Array Value := #[.long 5, .int 3, .long 7]
def aboutOver (below : List Frame) : State where
  vm := { classes := classes, interned := interned.toArray }
  heap := heap
  slotsUsed := slotsUsed
  threads := #[{ frames := .invoking theMethod args0 :: below }]
def below0 : List Frame := [.native { method := ⟨0, 0⟩, args := #[] }]
def about1 : State := aboutOver below0
def p0 : Program := .bare "" "" ""
def e0 : Env := launch0.env 0 0 0
theorem w_frames : about1.frames = Frame.invoking theMethod args0 :: below0 := rfl
set_option maxRecDepth 65536 in
theorem w_args : argsFit about1.vm theMethod args0 = true := by decide +kernel
set_option maxRecDepth 65536 in
theorem w_heap : heapFits about1 = true := by decide +kernel
set_option maxRecDepth 65536 in
theorem w_runnable : about1.curStatus? = some .runnable := by decide +kernel
set_option maxRecDepth 65536 in
theorem w_alone : about1.alone = true := by decide +kernel
set_option maxRecDepth 65536 in
theorem w_named : about1.methodNamed? x = some theMethod := by decide +kernel
set_option maxRecDepth 65536 in
theorem w_hears : about1.hears theMethod below0 = true := by decide +kernel
set_option maxRecDepth 65536 in
theorem w_ripe : about1.ripe theMethod args0 below0 = true := by decide +kernel
theorem w_running : about1.status = .running := rfl
set_option maxRecDepth 65536 in
theorem w_room : about1.hasRoom e0.platform room_1 = true :=
  launch0.hasRoom_least _ room_1 (by decide +kernel) (by decide +kernel) (by decide +kernel) (by decide +kernel) (by decide +kernel) (by decide +kernel)
theorem allAtoms_all (ts : List Jvm.Cond) (a : Array Jvm.Value) (st : Jvm.State) : (allAtoms ts).before a st = ts.all (fun c => c.before a st) := by
  induction ts with
  | nil => rfl
  | cons c t ih =>
    show (Jvm.Cond.and c (allAtoms t)).before a st = _
    rw [Jvm.Cond.before_and, ih, List.all_cons]
def words1 : List Jvm.Cond := Jvm.Cond.code x code maxLocals ret :: tables_1
/-- a 'code' word, met by the world's own term for the bytes: nothing is compared byte by byte -/
theorem code_word {y : MethodName} {bytes : ByteArray} {mx : Nat} {rt : Option FieldType} {a : Array Value} {s : State} {m : MethodId} {meth : Method} {c : Code} (h1 : s.methodNamed? y = some m) (h2 : s.vm.method? m = some meth) (h3 : meth.code = some c) (h4 : c.code = bytes)
    (h5 : (c.maxLocals == mx && c.exceptionTable.isEmpty && decide (c.maxStack ≤ mostOperands) && decide (meth.sig.returnType = rt) && !meth.locks && decide (parseMethodDescriptor y.desc = some meth.sig)) = true) : (Jvm.Cond.code y bytes mx rt).before a s = true := by
  simp only [Bool.and_eq_true, beq_iff_eq, Bool.not_eq_true', decide_eq_true_eq] at h5
  obtain ⟨⟨⟨⟨⟨g1, g2⟩, g3⟩, g4⟩, g5⟩, g6⟩ := h5
  simp [Cond.before, Cond.holds, Cond.value, h1, h2, h3, h4, g1, g2, g3, g4, g5, g6]
def isCode : Jvm.Cond → Bool
  | .code _ _ _ _ => true
  | _ => false
theorem all_split {L : List Jvm.Cond} {P : Jvm.Cond → Bool} (h1 : L.all (fun c => isCode c || P c) = true) (h2 : ∀ c ∈ L.filter isCode, P c = true) : L.all P = true := by
  refine List.all_eq_true.mpr fun c hc => ?_
  have h := List.all_eq_true.mp h1 c hc
  rcases Bool.eq_false_or_eq_true (isCode c) with hi | hi
  · exact h2 c (List.mem_filter.mpr ⟨hc, hi⟩)
  · simpa [hi] using h
set_option maxRecDepth 65536 in
theorem w_c0 : (Jvm.Cond.code x code maxLocals ret).before args0 about1 = true := code_word (m := ⟨1, 1⟩) (meth := k1m1) (c := k1c1) (by decide +kernel) rfl rfl rfl (by decide +kernel)
set_option maxRecDepth 65536 in
theorem w_c1 : (Jvm.Cond.code ({ cls := "com/example/gapless_log/gaplesslog/tree/Subtree", name := "<init>", desc := "(JJ)V" } : Jvm.MethodName) prog_38_method_1_code (5 : Nat) (Option.none : Option Jvm.ClassFile.FieldType)).before args0 about1 = true := code_word (m := ⟨4, 0⟩) (meth := k4m0) (c := k4c0) (by decide +kernel) rfl rfl rfl (by decide +kernel)
set_option maxRecDepth 65536 in
theorem w_c2 : (Jvm.Cond.code ({ cls := "java/lang/Record", name := "<init>", desc := "()V" } : Jvm.MethodName) jdk_30_method_1_code (1 : Nat) (Option.none : Option Jvm.ClassFile.FieldType)).before args0 about1 = true := code_word (m := ⟨3, 0⟩) (meth := k3m0) (c := k3c0) (by decide +kernel) rfl rfl rfl (by decide +kernel)
set_option maxRecDepth 65536 in
theorem w_c3 : (Jvm.Cond.code ({ cls := "java/lang/Object", name := "<init>", desc := "()V" } : Jvm.MethodName) object_method_1_code (1 : Nat) (Option.none : Option Jvm.ClassFile.FieldType)).before args0 about1 = true := code_word (m := ⟨0, 0⟩) (meth := k0m0) (c := k0c0) (by decide +kernel) rfl rfl rfl (by decide +kernel)
set_option maxRecDepth 65536 in
theorem w_c4 : (Jvm.Cond.code ({ cls := "com/example/gapless_log/gaplesslog/tree/Ascent", name := "<init>", desc := "(Lcom/example/gapless_log/gaplesslog/tree/Subtree;J)V" } : Jvm.MethodName) prog_33_method_1_code (5 : Nat) (Option.none : Option Jvm.ClassFile.FieldType)).before args0 about1 = true := code_word (m := ⟨2, 0⟩) (meth := k2m0) (c := k2c0) (by decide +kernel) rfl rfl rfl (by decide +kernel)
set_option maxRecDepth 65536 in
theorem w_c5 : (Jvm.Cond.code ({ cls := "com/example/gapless_log/gaplesslog/tree/Subtree", name := "end", desc := "()J" } : Jvm.MethodName) prog_38_method_8_code (1 : Nat) (Option.some Jvm.ClassFile.FieldType.long)).before args0 about1 = true := code_word (m := ⟨4, 2⟩) (meth := k4m2) (c := k4c2) (by decide +kernel) rfl rfl rfl (by decide +kernel)
set_option maxRecDepth 65536 in
theorem w_c6 : (Jvm.Cond.code ({ cls := "com/example/gapless_log/gaplesslog/tree/Subtree", name := "start", desc := "()J" } : Jvm.MethodName) prog_38_method_7_code (1 : Nat) (Option.some Jvm.ClassFile.FieldType.long)).before args0 about1 = true := code_word (m := ⟨4, 1⟩) (meth := k4m1) (c := k4c1) (by decide +kernel) rfl rfl rfl (by decide +kernel)
set_option maxRecDepth 65536 in
theorem w_c7 : (Jvm.Cond.code ({ cls := "java/lang/Long", name := "numberOfTrailingZeros", desc := "(J)I" } : Jvm.MethodName) jdk_35_method_49_code (3 : Nat) (Option.some Jvm.ClassFile.FieldType.int)).before args0 about1 = true := code_word (m := ⟨10, 2⟩) (meth := k10m2) (c := k10c2) (by decide +kernel) rfl rfl rfl (by decide +kernel)
set_option maxRecDepth 65536 in
theorem w_c8 : (Jvm.Cond.code ({ cls := "java/lang/Integer", name := "numberOfTrailingZeros", desc := "(I)I" } : Jvm.MethodName) jdk_33_method_48_code (2 : Nat) (Option.some Jvm.ClassFile.FieldType.int)).before args0 about1 = true := code_word (m := ⟨11, 1⟩) (meth := k11m1) (c := k11c1) (by decide +kernel) rfl rfl rfl (by decide +kernel)
set_option maxRecDepth 65536 in
theorem w_c9 : (Jvm.Cond.code ({ cls := "com/example/gapless_log/gaplesslog/tree/Ascent", name := "atRoot", desc := "()Z" } : Jvm.MethodName) prog_33_method_2_code (1 : Nat) (Option.some Jvm.ClassFile.FieldType.boolean)).before args0 about1 = true := code_word (m := ⟨2, 1⟩) (meth := k2m1) (c := k2c1) (by decide +kernel) rfl rfl rfl (by decide +kernel)
set_option maxRecDepth 65536 in
theorem w_c10 : (Jvm.Cond.code ({ cls := "com/example/gapless_log/gaplesslog/tree/Ascent", name := "climb", desc := "()V" } : Jvm.MethodName) prog_33_method_4_code (1 : Nat) (Option.none : Option Jvm.ClassFile.FieldType)).before args0 about1 = true := code_word (m := ⟨2, 3⟩) (meth := k2m3) (c := k2c3) (by decide +kernel) rfl rfl rfl (by decide +kernel)
set_option maxRecDepth 65536 in
theorem w_c11 : (Jvm.Cond.code ({ cls := "com/example/gapless_log/gaplesslog/tree/Ascent", name := "siblingOnLeft", desc := "()Z" } : Jvm.MethodName) prog_33_method_3_code (1 : Nat) (Option.some Jvm.ClassFile.FieldType.boolean)).before args0 about1 = true := code_word (m := ⟨2, 2⟩) (meth := k2m2) (c := k2c2) (by decide +kernel) rfl rfl rfl (by decide +kernel)
set_option maxRecDepth 65536 in
theorem w_c12 : (Jvm.Cond.code ({ cls := "com/example/gapless_log/gaplesslog/tree/TreeHash", name := "split", desc := "(J)J" } : Jvm.MethodName) prog_39_method_6_code (2 : Nat) (Option.some Jvm.ClassFile.FieldType.long)).before args0 about1 = true := code_word (m := ⟨12, 1⟩) (meth := k12m1) (c := k12c1) (by decide +kernel) rfl rfl rfl (by decide +kernel)
set_option maxRecDepth 65536 in
theorem w_c13 : (Jvm.Cond.code ({ cls := "java/lang/Long", name := "highestOneBit", desc := "(J)J" } : Jvm.MethodName) jdk_35_method_46_code (2 : Nat) (Option.some Jvm.ClassFile.FieldType.long)).before args0 about1 = true := code_word (m := ⟨10, 0⟩) (meth := k10m0) (c := k10c0) (by decide +kernel) rfl rfl rfl (by decide +kernel)
set_option maxRecDepth 65536 in
theorem w_c14 : (Jvm.Cond.code ({ cls := "java/lang/Long", name := "numberOfLeadingZeros", desc := "(J)I" } : Jvm.MethodName) jdk_35_method_48_code (3 : Nat) (Option.some Jvm.ClassFile.FieldType.int)).before args0 about1 = true := code_word (m := ⟨10, 1⟩) (meth := k10m1) (c := k10c1) (by decide +kernel) rfl rfl rfl (by decide +kernel)
set_option maxRecDepth 65536 in
theorem w_c15 : (Jvm.Cond.code ({ cls := "java/lang/Integer", name := "numberOfLeadingZeros", desc := "(I)I" } : Jvm.MethodName) jdk_33_method_47_code (2 : Nat) (Option.some Jvm.ClassFile.FieldType.int)).before args0 about1 = true := code_word (m := ⟨11, 0⟩) (meth := k11m0) (c := k11c0) (by decide +kernel) rfl rfl rfl (by decide +kernel)
def codes1 : List Jvm.Cond := [Jvm.Cond.code x code maxLocals ret, Jvm.Cond.code ({ cls := "com/example/gapless_log/gaplesslog/tree/Subtree", name := "<init>", desc := "(JJ)V" } : Jvm.MethodName) prog_38_method_1_code (5 : Nat) (Option.none : Option Jvm.ClassFile.FieldType), Jvm.Cond.code ({ cls := "java/lang/Record", name := "<init>", desc := "()V" } : Jvm.MethodName) jdk_30_method_1_code (1 : Nat) (Option.none : Option Jvm.ClassFile.FieldType), Jvm.Cond.code ({ cls := "java/lang/Object", name := "<init>", desc := "()V" } : Jvm.MethodName) object_method_1_code (1 : Nat) (Option.none : Option Jvm.ClassFile.FieldType), Jvm.Cond.code ({ cls := "com/example/gapless_log/gaplesslog/tree/Ascent", name := "<init>", desc := "(Lcom/example/gapless_log/gaplesslog/tree/Subtree;J)V" } : Jvm.MethodName) prog_33_method_1_code (5 : Nat) (Option.none : Option Jvm.ClassFile.FieldType), Jvm.Cond.code ({ cls := "com/example/gapless_log/gaplesslog/tree/Subtree", name := "end", desc := "()J" } : Jvm.MethodName) prog_38_method_8_code (1 : Nat) (Option.some Jvm.ClassFile.FieldType.long), Jvm.Cond.code ({ cls := "com/example/gapless_log/gaplesslog/tree/Subtree", name := "start", desc := "()J" } : Jvm.MethodName) prog_38_method_7_code (1 : Nat) (Option.some Jvm.ClassFile.FieldType.long), Jvm.Cond.code ({ cls := "java/lang/Long", name := "numberOfTrailingZeros", desc := "(J)I" } : Jvm.MethodName) jdk_35_method_49_code (3 : Nat) (Option.some Jvm.ClassFile.FieldType.int), Jvm.Cond.code ({ cls := "java/lang/Integer", name := "numberOfTrailingZeros", desc := "(I)I" } : Jvm.MethodName) jdk_33_method_48_code (2 : Nat) (Option.some Jvm.ClassFile.FieldType.int), Jvm.Cond.code ({ cls := "com/example/gapless_log/gaplesslog/tree/Ascent", name := "atRoot", desc := "()Z" } : Jvm.MethodName) prog_33_method_2_code (1 : Nat) (Option.some Jvm.ClassFile.FieldType.boolean), Jvm.Cond.code ({ cls := "com/example/gapless_log/gaplesslog/tree/Ascent", name := "climb", desc := "()V" } : Jvm.MethodName) prog_33_method_4_code (1 : Nat) (Option.none : Option Jvm.ClassFile.FieldType), Jvm.Cond.code ({ cls := "com/example/gapless_log/gaplesslog/tree/Ascent", name := "siblingOnLeft", desc := "()Z" } : Jvm.MethodName) prog_33_method_3_code (1 : Nat) (Option.some Jvm.ClassFile.FieldType.boolean), Jvm.Cond.code ({ cls := "com/example/gapless_log/gaplesslog/tree/TreeHash", name := "split", desc := "(J)J" } : Jvm.MethodName) prog_39_method_6_code (2 : Nat) (Option.some Jvm.ClassFile.FieldType.long), Jvm.Cond.code ({ cls := "java/lang/Long", name := "highestOneBit", desc := "(J)J" } : Jvm.MethodName) jdk_35_method_46_code (2 : Nat) (Option.some Jvm.ClassFile.FieldType.long), Jvm.Cond.code ({ cls := "java/lang/Long", name := "numberOfLeadingZeros", desc := "(J)I" } : Jvm.MethodName) jdk_35_method_48_code (3 : Nat) (Option.some Jvm.ClassFile.FieldType.int), Jvm.Cond.code ({ cls := "java/lang/Integer", name := "numberOfLeadingZeros", desc := "(I)I" } : Jvm.MethodName) jdk_33_method_47_code (2 : Nat) (Option.some Jvm.ClassFile.FieldType.int)]
set_option maxRecDepth 65536 in
theorem codes_eq : words1.filter isCode = codes1 := rfl
theorem w_codes : ∀ c ∈ words1.filter isCode, c.before args0 about1 = true := by
  rw [codes_eq]
  intro c hc
  simp only [codes1, List.mem_cons, List.not_mem_nil, or_false] at hc
  rcases hc with rfl | rfl | rfl | rfl | rfl | rfl | rfl | rfl | rfl | rfl | rfl | rfl | rfl | rfl | rfl | rfl
  · exact w_c0
  · exact w_c1
  · exact w_c2
  · exact w_c3
  · exact w_c4
  · exact w_c5
  · exact w_c6
  · exact w_c7
  · exact w_c8
  · exact w_c9
  · exact w_c10
  · exact w_c11
  · exact w_c12
  · exact w_c13
  · exact w_c14
  · exact w_c15
set_option maxRecDepth 65536 in
theorem w_t1 : (words1.take 24).all (fun c => isCode c || c.before args0 about1) = true := by decide +kernel
set_option maxRecDepth 65536 in
theorem w_t2 : ((words1.drop 24).take 24).all (fun c => isCode c || c.before args0 about1) = true := by decide +kernel
set_option maxRecDepth 65536 in
theorem w_t3 : (((words1.drop 24).drop 24).take 24).all (fun c => isCode c || c.before args0 about1) = true := by decide +kernel
set_option maxRecDepth 65536 in
theorem w_t4 : (((words1.drop 24).drop 24).drop 24).all (fun c => isCode c || c.before args0 about1) = true := by decide +kernel
theorem w_tables : (allAtoms (Jvm.Cond.code x code maxLocals ret :: tables_1)).before args0 about1 = true := by
  rw [allAtoms_all]
  show words1.all (fun c => c.before args0 about1) = true
  refine all_split ?_ w_codes
  rw [← List.take_append_drop 24 words1, List.all_append, w_t1, ← List.take_append_drop 24 (words1.drop 24), List.all_append, w_t2, ← List.take_append_drop 24 ((words1.drop 24).drop 24), List.all_append, w_t3, w_t4]
  rfl
set_option maxRecDepth 65536 in
theorem w_case : (Jvm.Cond.and given_1 narrow_1).before args0 about1 = true := by decide +kernel
theorem w_applies : (headSpec (Jvm.Cond.code x code maxLocals ret :: tables_1) room_1).applies x e0.platform about1 = true :=
  (Spec.applies_iff w_frames).mpr ⟨w_running, w_runnable, w_alone, w_named, w_hears, w_ripe, w_room, w_tables⟩
theorem atStart : AtStart classFile x code maxLocals ret World_1 tables_1 room_1 Calls_1 rest_1 Pre_1 launch0 p0 e0 about1 theMethod args0 below0 :=
  ⟨lists_1, trivial, launch0.admits_env _ _ _, launch0.least_env, fairChoices_fair.cas, fairChoices_fair.clock, w_frames, w_args, w_heap, w_applies, trivial, trivial, w_case⟩
end start1
theorem witness_1 : WitnessClaimed_1 := ⟨start1.p0, start1.e0, start1.about1, start1.theMethod, start1.args0, start1.below0, start1.atStart⟩
end Jvm.Pilot.@@N@@
