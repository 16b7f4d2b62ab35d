import JvmDerived
import JvmDerived.Pilot.@@N@@Statement
import JvmDerived.Pilot.@@N@@Code
set_option linter.unusedVariables false
set_option linter.unusedSimpArgs false
namespace Jvm.Pilot.@@N@@
open Jvm Jvm.ClassFile Sem Op Lib Jvm.Free Jvm.Stand Jvm.LawKit Jvm.RoadKit Bundle Jvm.Pilot.@@N@@.Jvm.D
abbrev Cx : Type := Program × Launch × Env × Room × State × MethodId × Array Value × List Frame × Method × Code
abbrev Cx.p (K : Cx) : Program := K.1
abbrev Cx.l (K : Cx) : Launch := K.2.1
abbrev Cx.e (K : Cx) : Env := K.2.2.1
abbrev Cx.R (K : Cx) : Room := K.2.2.2.1
abbrev Cx.s (K : Cx) : State := K.2.2.2.2.1
abbrev Cx.m (K : Cx) : MethodId := K.2.2.2.2.2.1
abbrev Cx.args (K : Cx) : Array Value := K.2.2.2.2.2.2.1
abbrev Cx.below (K : Cx) : List Frame := K.2.2.2.2.2.2.2.1
abbrev Cx.meth (K : Cx) : Method := K.2.2.2.2.2.2.2.2.1
abbrev Cx.c (K : Cx) : Code := K.2.2.2.2.2.2.2.2.2
/-- from T at this frame the body ends within the room, and what it leaves is Q's -/
def Go (K : Cx) (n0 kc kj : Nat) (Q : Option Value → Heap → Prop) (T : State) (pc : Nat) (Ls : Array Slot) (st : List Value) : Prop :=
  ∃ t o, Steps K.p.tables K.e K.below (T.setTop (mkF K.m pc Ls st)) t ∧ t.status = .running ∧ Ended t K.below o ∧ ∃ v L, o = .returned v ∧ (Q v t.heap ∧ Fr n0 L) ∧ FrameEnd K.s o t L kc kj
/-- where the walk stands: the body's own facts, the heap, how many cells and slots have been made -/
def St (K : Cx) (Z : State) (own : String) (b : ByteArray) (mx : Nat) (ret : Option FieldType) (rm : Room) (n0 k j : Nat) (T : State) (h : Heap) : Prop :=
  K.p.tables.exec = Jvm.exec ∧ Z.Warmed39 K.s.vm ∧ K.s.vm.findClass own = some K.m.cls ∧ K.c.code = b ∧ K.c.maxLocals = mx ∧ K.meth.sig.returnType = ret ∧ K.meth.locks = false ∧ K.R = rm ∧ T.heap = h ∧
    ∃ locs, Stand K.p K.l K.e K.R K.s K.m K.args K.below K.meth K.c T locs k j ∧ Fr n0 locs
def Isn (b : ByteArray) (pc : Nat) (i : Instr) (n pc' : Nat) : Prop := decode b pc = .ok (i, n) ∧ pc + n = pc'
def Brn (b : ByteArray) (pc : Nat) (i : Instr) (o : Int) (pc' tg : Nat) : Prop := decode b pc = .ok (i, 3) ∧ pc + 3 = pc' ∧ 0 ≤ (pc : Int) + o ∧ ((pc : Int) + o).toNat = tg
/-- a body's contract, at its arguments and heap -/
def CtrW (l : Launch) (Z : State) (y : MethodName) (b : ByteArray) (mx : Nat) (ret : Option FieldType) (ws : List Jvm.Cond) (rm : Room) (kc kj : Nat) (as' : List Value) (h : Heap) (n0 : Nat) (Q : Option Value → Heap → Prop) : Prop :=
  MetFree l y (head1 (Jvm.Cond.code y b mx ret :: ws) rm) (fun a U => a = as'.toArray ∧ Z.Warmed39 U.vm ∧ U.heap = h) (fun _ _ _ _ _ => True) (fun _ U o U' => ∃ v L, o = .returned v ∧ (Q v U'.heap ∧ Fr n0 L) ∧ FrameEnd U o U' L kc kj)
abbrev Ctr (l : Launch) (Z : State) (y : MethodName) (b : ByteArray) (mx : Nat) (ret : Option FieldType) (rm : Room) (as' : List Value) (h : Heap) (n0 : Nat) (Q : Option Value → Heap → Prop) : Prop :=
  CtrW l Z y b mx ret [] rm rm.cells rm.slots as' h n0 Q
section OwnKit
variable {K : Cx} {Z : State} {own : String} {b : ByteArray} {mx : Nat} {ret : Option FieldType} {rm : Room} {n0 k j kc kj : Nat} {T : State} {h : Heap} {Q : Option Value → Heap → Prop} {pc pc' tg : Nat} {Ls Ls' : Array Slot} {st rest : List Value} {a0 : Array Value}
theorem St.ex (X : St K Z own b mx ret rm n0 k j T h) : K.p.tables.exec = Jvm.exec := X.1
theorem St.wZ (X : St K Z own b mx ret rm n0 k j T h) : Z.Warmed39 K.s.vm := X.2.1
theorem St.ow (X : St K Z own b mx ret rm n0 k j T h) : K.s.vm.findClass own = some K.m.cls := X.2.2.1
theorem St.dec (X : St K Z own b mx ret rm n0 k j T h) {r : Except DecodeError (Instr × Nat)} (d : decode b pc = r) : decode K.c.code pc = r := hb X.2.2.2.1 d
theorem St.ml (X : St K Z own b mx ret rm n0 k j T h) : K.c.maxLocals = mx := X.2.2.2.2.1
theorem St.rt (X : St K Z own b mx ret rm n0 k j T h) : K.meth.sig.returnType = ret := X.2.2.2.2.2.1
theorem St.nl (X : St K Z own b mx ret rm n0 k j T h) : K.meth.locks = false := X.2.2.2.2.2.2.1
theorem St.rmE (X : St K Z own b mx ret rm n0 k j T h) : K.R = rm := X.2.2.2.2.2.2.2.1
theorem St.hp (X : St K Z own b mx ret rm n0 k j T h) : T.heap = h := X.2.2.2.2.2.2.2.2.1
theorem St.sd (X : St K Z own b mx ret rm n0 k j T h) : ∃ locs, Stand K.p K.l K.e K.R K.s K.m K.args K.below K.meth K.c T locs k j ∧ Fr n0 locs := X.2.2.2.2.2.2.2.2.2
theorem St.here (X : St K Z own b mx ret rm n0 k j T h) : At T K.m K.c K.below := by obtain ⟨_, S, _⟩ := X.sd; exact S.here
theorem St.mk' (X : St K Z own b mx ret rm n0 k j T h) {T' : State} {h' : Heap} {k' j' : Nat} {locs : List Loc} (S : Stand K.p K.l K.e K.R K.s K.m K.args K.below K.meth K.c T' locs k' j') (N : Fr n0 locs) (q : T'.heap = h') : St K Z own b mx ret rm n0 k' j' T' h' :=
  ⟨X.1, X.2.1, X.2.2.1, X.2.2.2.1, X.2.2.2.2.1, X.2.2.2.2.2.1, X.2.2.2.2.2.2.1, X.2.2.2.2.2.2.2.1, q, _, S, N⟩
theorem St.more (X : St K Z own b mx ret rm n0 k j T h) {k' j' : Nat} (hk : k ≤ k') (hj : j ≤ j') : St K Z own b mx ret rm n0 k' j' T h := by
  obtain ⟨_, S, N⟩ := X.sd; exact X.mk' (S.more hk hj) N X.hp
theorem St.eqh (X : St K Z own b mx ret rm n0 k j T h) {h' : Heap} (q : h = h') : St K Z own b mx ret rm n0 k j T h' := q ▸ X
theorem o_go {T' : State} {st' : List Value} (f : ∀ t, Steps K.p.tables K.e K.below (T'.setTop (mkF K.m pc' Ls' st')) t → Steps K.p.tables K.e K.below (T.setTop (mkF K.m pc Ls st)) t) (g : Go K n0 kc kj Q T' pc' Ls' st') : Go K n0 kc kj Q T pc Ls st := by
  obtain ⟨t, o, h1, h2⟩ := g; exact ⟨t, o, f t h1, h2⟩
theorem Go.imp {Q' : Option Value → Heap → Prop} (g : Go K n0 kc kj Q T pc Ls st) (f : ∀ v h, Q v h → Q' v h) : Go K n0 kc kj Q' T pc Ls st := by
  obtain ⟨t, o, h1, h2, h3, v, L, h4, ⟨h5, h6⟩, h7⟩ := g; exact ⟨t, o, h1, h2, h3, v, L, h4, ⟨f _ _ h5, h6⟩, h7⟩
theorem o_v1 {v : Value} (g : Go K n0 kc kj Q T pc Ls (v :: rest)) : Go K n0 kc kj Q T pc Ls ((some v).toList ++ rest) := g
theorem o_v0 (g : Go K n0 kc kj Q T pc Ls rest) : Go K n0 kc kj Q T pc Ls ((none : Option Value).toList ++ rest) := g
theorem o_st {st' : List Value} (q : st = st') (g : Go K n0 kc kj Q T pc Ls st') : Go K n0 kc kj Q T pc Ls st := q ▸ g
theorem o_gen {x : Int32} (g : ∀ z, z = x → Go K n0 kc kj Q T pc Ls (.int z :: rest)) : Go K n0 kc kj Q T pc Ls (.int x :: rest) := g x rfl
theorem o_genL {x : Int64} (g : ∀ z, z = x → Go K n0 kc kj Q T pc Ls (.long z :: rest)) : Go K n0 kc kj Q T pc Ls (.long x :: rest) := g x rfl
theorem o_cutL (pj : Nat) (z : Int64) {x : Int32} (B : Go K n0 kc kj Q T pj Ls (.long z :: rest) → Go K n0 kc kj Q T pc Ls (.int x :: rest)) (J : Go K n0 kc kj Q T pj Ls (.long z :: rest)) : Go K n0 kc kj Q T pc Ls (.int x :: rest) := B J
theorem o_cutI (pj : Nat) (z : Int32) {x : Int32} (B : Go K n0 kc kj Q T pj Ls (.int z :: rest) → Go K n0 kc kj Q T pc Ls (.int x :: rest)) (J : Go K n0 kc kj Q T pj Ls (.int z :: rest)) : Go K n0 kc kj Q T pc Ls (.int x :: rest) := B J
theorem o_cutI2 (pj : Nat) (z : Int32) {x y : Int32} (B : Go K n0 kc kj Q T pj Ls (.int z :: rest) → Go K n0 kc kj Q T pc Ls (.int y :: .int x :: rest)) (J : Go K n0 kc kj Q T pj Ls (.int z :: rest)) : Go K n0 kc kj Q T pc Ls (.int y :: .int x :: rest) := B J
theorem o_cutS (pj : Nat) {x : Int32} (X : St K Z own b mx ret rm n0 k j T h) (B : (∀ T' z, St K Z own b mx ret rm n0 k j T' h → Go K n0 kc kj Q T' pj Ls (.int z :: rest)) → Go K n0 kc kj Q T pc Ls (.int x :: rest)) (J : ∀ T' z, St K Z own b mx ret rm n0 k j T' h → Go K n0 kc kj Q T' pj Ls (.int z :: rest)) : Go K n0 kc kj Q T pc Ls (.int x :: rest) := B J
theorem o_cutI2L (pj : Nat) (z : Int64) {x y : Int32} (B : Go K n0 kc kj Q T pj Ls (.long z :: rest) → Go K n0 kc kj Q T pc Ls (.int y :: .int x :: rest)) (J : Go K n0 kc kj Q T pj Ls (.long z :: rest)) : Go K n0 kc kj Q T pc Ls (.int y :: .int x :: rest) := B J
theorem o_ls (q : Ls = Ls') (g : Go K n0 kc kj Q T pc Ls' st) : Go K n0 kc kj Q T pc Ls st := q ▸ g
theorem o_iadd (X : St K Z own b mx ret rm n0 k j T h) {x y : Int32} (d : Isn b pc (.iadd) 1 pc') (g : Go K n0 kc kj Q T pc' Ls (.int (x + y) :: rest)) : Go K n0 kc kj Q T pc Ls (.int y :: .int x :: rest) := by
  obtain ⟨d, rfl⟩ := d; exact o_go (fun t k => XS.iadd X.here X.ex rfl (X.dec d) rfl k) g
theorem o_isub (X : St K Z own b mx ret rm n0 k j T h) {x y : Int32} (d : Isn b pc (.isub) 1 pc') (g : Go K n0 kc kj Q T pc' Ls (.int (x - y) :: rest)) : Go K n0 kc kj Q T pc Ls (.int y :: .int x :: rest) := by
  obtain ⟨d, rfl⟩ := d; exact o_go (fun t k => XS.isub X.here X.ex rfl (X.dec d) rfl k) g
theorem o_imul (X : St K Z own b mx ret rm n0 k j T h) {x y : Int32} (d : Isn b pc (.imul) 1 pc') (g : Go K n0 kc kj Q T pc' Ls (.int (x * y) :: rest)) : Go K n0 kc kj Q T pc Ls (.int y :: .int x :: rest) := by
  obtain ⟨d, rfl⟩ := d; exact o_go (fun t k => XS.imul X.here X.ex rfl (X.dec d) rfl k) g
theorem o_iand (X : St K Z own b mx ret rm n0 k j T h) {x y : Int32} (d : Isn b pc (.iand) 1 pc') (g : Go K n0 kc kj Q T pc' Ls (.int (x &&& y) :: rest)) : Go K n0 kc kj Q T pc Ls (.int y :: .int x :: rest) := by
  obtain ⟨d, rfl⟩ := d; exact o_go (fun t k => XS.iand X.here X.ex rfl (X.dec d) rfl k) g
theorem o_ixor (X : St K Z own b mx ret rm n0 k j T h) {x y : Int32} (d : Isn b pc (.ixor) 1 pc') (g : Go K n0 kc kj Q T pc' Ls (.int (x ^^^ y) :: rest)) : Go K n0 kc kj Q T pc Ls (.int y :: .int x :: rest) := by
  obtain ⟨d, rfl⟩ := d; exact o_go (fun t k => XT.ixor X.here X.ex rfl (X.dec d) rfl k) g
theorem o_ior (X : St K Z own b mx ret rm n0 k j T h) {x y : Int32} (d : Isn b pc (.ior) 1 pc') (g : Go K n0 kc kj Q T pc' Ls (.int (x ||| y) :: rest)) : Go K n0 kc kj Q T pc Ls (.int y :: .int x :: rest) := by
  obtain ⟨d, rfl⟩ := d; exact o_go (fun t k => XT.ior X.here X.ex rfl (X.dec d) rfl k) g
theorem o_ishl (X : St K Z own b mx ret rm n0 k j T h) {x y : Int32} (d : Isn b pc (.ishl) 1 pc') (g : Go K n0 kc kj Q T pc' Ls (.int (x <<< (y &&& 31)) :: rest)) : Go K n0 kc kj Q T pc Ls (.int y :: .int x :: rest) := by
  obtain ⟨d, rfl⟩ := d; exact o_go (fun t k => XT.ishl X.here X.ex rfl (X.dec d) rfl k) g
theorem o_ishr (X : St K Z own b mx ret rm n0 k j T h) {x y : Int32} (d : Isn b pc (.ishr) 1 pc') (g : Go K n0 kc kj Q T pc' Ls (.int (x >>> (y &&& 31)) :: rest)) : Go K n0 kc kj Q T pc Ls (.int y :: .int x :: rest) := by
  obtain ⟨d, rfl⟩ := d; exact o_go (fun t k => XT.ishr X.here X.ex rfl (X.dec d) rfl k) g
theorem o_iushr (X : St K Z own b mx ret rm n0 k j T h) {x y : Int32} (d : Isn b pc (.iushr) 1 pc') (g : Go K n0 kc kj Q T pc' Ls (.int (XT.ushr x y) :: rest)) : Go K n0 kc kj Q T pc Ls (.int y :: .int x :: rest) := by
  obtain ⟨d, rfl⟩ := d; exact o_go (fun t k => XT.iushr X.here X.ex rfl (X.dec d) rfl k) g
theorem o_ladd (X : St K Z own b mx ret rm n0 k j T h) {x y : Int64} (d : Isn b pc (.ladd) 1 pc') (g : Go K n0 kc kj Q T pc' Ls (.long (x + y) :: rest)) : Go K n0 kc kj Q T pc Ls (.long y :: .long x :: rest) := by
  obtain ⟨d, rfl⟩ := d; exact o_go (fun t k => XT.ladd X.here X.ex rfl (X.dec d) rfl k) g
theorem o_lsub (X : St K Z own b mx ret rm n0 k j T h) {x y : Int64} (d : Isn b pc (.lsub) 1 pc') (g : Go K n0 kc kj Q T pc' Ls (.long (x - y) :: rest)) : Go K n0 kc kj Q T pc Ls (.long y :: .long x :: rest) := by
  obtain ⟨d, rfl⟩ := d; exact o_go (fun t k => XT.lsub X.here X.ex rfl (X.dec d) rfl k) g
theorem o_lmul (X : St K Z own b mx ret rm n0 k j T h) {x y : Int64} (d : Isn b pc (.lmul) 1 pc') (g : Go K n0 kc kj Q T pc' Ls (.long (x * y) :: rest)) : Go K n0 kc kj Q T pc Ls (.long y :: .long x :: rest) := by
  obtain ⟨d, rfl⟩ := d; exact o_go (fun t k => XT.lmul X.here X.ex rfl (X.dec d) rfl k) g
theorem o_land (X : St K Z own b mx ret rm n0 k j T h) {x y : Int64} (d : Isn b pc (.land) 1 pc') (g : Go K n0 kc kj Q T pc' Ls (.long (x &&& y) :: rest)) : Go K n0 kc kj Q T pc Ls (.long y :: .long x :: rest) := by
  obtain ⟨d, rfl⟩ := d; exact o_go (fun t k => XT.land X.here X.ex rfl (X.dec d) rfl k) g
theorem o_lor (X : St K Z own b mx ret rm n0 k j T h) {x y : Int64} (d : Isn b pc (.lor) 1 pc') (g : Go K n0 kc kj Q T pc' Ls (.long (x ||| y) :: rest)) : Go K n0 kc kj Q T pc Ls (.long y :: .long x :: rest) := by
  obtain ⟨d, rfl⟩ := d; exact o_go (fun t k => XT.lor X.here X.ex rfl (X.dec d) rfl k) g
theorem o_lxor (X : St K Z own b mx ret rm n0 k j T h) {x y : Int64} (d : Isn b pc (.lxor) 1 pc') (g : Go K n0 kc kj Q T pc' Ls (.long (x ^^^ y) :: rest)) : Go K n0 kc kj Q T pc Ls (.long y :: .long x :: rest) := by
  obtain ⟨d, rfl⟩ := d; exact o_go (fun t k => XT.lxor X.here X.ex rfl (X.dec d) rfl k) g
theorem o_lshl (X : St K Z own b mx ret rm n0 k j T h) {x : Int64} {y : Int32} (d : Isn b pc (.lshl) 1 pc') (g : Go K n0 kc kj Q T pc' Ls (.long (x <<< (y.toInt64 &&& 63)) :: rest)) : Go K n0 kc kj Q T pc Ls (.int y :: .long x :: rest) := by
  obtain ⟨d, rfl⟩ := d; exact o_go (fun t k => XT.lshl X.here X.ex rfl (X.dec d) rfl k) g
theorem o_lshr (X : St K Z own b mx ret rm n0 k j T h) {x : Int64} {y : Int32} (d : Isn b pc (.lshr) 1 pc') (g : Go K n0 kc kj Q T pc' Ls (.long (x >>> (y.toInt64 &&& 63)) :: rest)) : Go K n0 kc kj Q T pc Ls (.int y :: .long x :: rest) := by
  obtain ⟨d, rfl⟩ := d; exact o_go (fun t k => XT.lshr X.here X.ex rfl (X.dec d) rfl k) g
theorem o_lushr (X : St K Z own b mx ret rm n0 k j T h) {x : Int64} {y : Int32} (d : Isn b pc (.lushr) 1 pc') (g : Go K n0 kc kj Q T pc' Ls (.long (XT.ushrL x y) :: rest)) : Go K n0 kc kj Q T pc Ls (.int y :: .long x :: rest) := by
  obtain ⟨d, rfl⟩ := d; exact o_go (fun t k => XT.lushr X.here X.ex rfl (X.dec d) rfl k) g
theorem o_lcmp (X : St K Z own b mx ret rm n0 k j T h) {x y : Int64} (d : Isn b pc (.lcmp) 1 pc') (g : Go K n0 kc kj Q T pc' Ls (.int (XT.cmpL x y) :: rest)) : Go K n0 kc kj Q T pc Ls (.long y :: .long x :: rest) := by
  obtain ⟨d, rfl⟩ := d; exact o_go (fun t k => XT.lcmp X.here X.ex rfl (X.dec d) rfl k) g
theorem o_idiv (X : St K Z own b mx ret rm n0 k j T h) {x y : Int32} (d : Isn b pc (.idiv) 1 pc') (hy : y ≠ 0) (g : Go K n0 kc kj Q T pc' Ls (.int (x / y) :: rest)) : Go K n0 kc kj Q T pc Ls (.int y :: .int x :: rest) := by
  obtain ⟨d, rfl⟩ := d; exact o_go (fun t k => XS.idiv X.here X.ex rfl (X.dec d) rfl hy k) g
theorem o_ldiv (X : St K Z own b mx ret rm n0 k j T h) {x y : Int64} (d : Isn b pc (.ldiv) 1 pc') (hy : y ≠ 0) (g : Go K n0 kc kj Q T pc' Ls (.long (x / y) :: rest)) : Go K n0 kc kj Q T pc Ls (.long y :: .long x :: rest) := by
  obtain ⟨d, rfl⟩ := d; exact o_go (fun t k => XT.ldiv X.here X.ex rfl (X.dec d) rfl hy k) g
theorem o_irem (X : St K Z own b mx ret rm n0 k j T h) {x y : Int32} (d : Isn b pc .irem 1 pc') (hy : y ≠ 0) (g : Go K n0 kc kj Q T pc' Ls (.int (x % y) :: rest)) : Go K n0 kc kj Q T pc Ls (.int y :: .int x :: rest) := by
  obtain ⟨d, rfl⟩ := d; obtain ⟨_, S, _⟩ := X.sd; exact o_go (fun t k => iremM S X.ex rfl (X.dec d) rfl hy k) g
theorem o_lrem (X : St K Z own b mx ret rm n0 k j T h) {x y : Int64} (d : Isn b pc .lrem 1 pc') (hy : y ≠ 0) (g : Go K n0 kc kj Q T pc' Ls (.long (x % y) :: rest)) : Go K n0 kc kj Q T pc Ls (.long y :: .long x :: rest) := by
  obtain ⟨d, rfl⟩ := d; rw [← lrem_mod] at g; exact o_go (fun t k => XT.lrem X.here X.ex rfl (X.dec d) rfl hy k) g
theorem o_i2l (X : St K Z own b mx ret rm n0 k j T h) {x : Int32} (d : Isn b pc (.i2l) 1 pc') (g : Go K n0 kc kj Q T pc' Ls (.long (x.toInt64) :: rest)) : Go K n0 kc kj Q T pc Ls (.int x :: rest) := by
  obtain ⟨d, rfl⟩ := d; exact o_go (fun t k => XT.i2l X.here X.ex rfl (X.dec d) rfl k) g
theorem o_l2i (X : St K Z own b mx ret rm n0 k j T h) {x : Int64} (d : Isn b pc (.l2i) 1 pc') (g : Go K n0 kc kj Q T pc' Ls (.int (x.toInt32) :: rest)) : Go K n0 kc kj Q T pc Ls (.long x :: rest) := by
  obtain ⟨d, rfl⟩ := d; exact o_go (fun t k => XT.l2i X.here X.ex rfl (X.dec d) rfl k) g
theorem o_i2b (X : St K Z own b mx ret rm n0 k j T h) {x : Int32} (d : Isn b pc (.i2b) 1 pc') (g : Go K n0 kc kj Q T pc' Ls (.int (x.toInt8.toInt32) :: rest)) : Go K n0 kc kj Q T pc Ls (.int x :: rest) := by
  obtain ⟨d, rfl⟩ := d; exact o_go (fun t k => XT.i2b X.here X.ex rfl (X.dec d) rfl k) g
theorem o_i2c (X : St K Z own b mx ret rm n0 k j T h) {x : Int32} (d : Isn b pc (.i2c) 1 pc') (g : Go K n0 kc kj Q T pc' Ls (.int (x.toUInt32.toUInt16.toUInt32.toInt32) :: rest)) : Go K n0 kc kj Q T pc Ls (.int x :: rest) := by
  obtain ⟨d, rfl⟩ := d; exact o_go (fun t k => XT.i2c X.here X.ex rfl (X.dec d) rfl k) g
theorem o_i2s (X : St K Z own b mx ret rm n0 k j T h) {x : Int32} (d : Isn b pc (.i2s) 1 pc') (g : Go K n0 kc kj Q T pc' Ls (.int (x.toInt16.toInt32) :: rest)) : Go K n0 kc kj Q T pc Ls (.int x :: rest) := by
  obtain ⟨d, rfl⟩ := d; exact o_go (fun t k => XT.i2s X.here X.ex rfl (X.dec d) rfl k) g
theorem o_ineg (X : St K Z own b mx ret rm n0 k j T h) {x : Int32} (d : Isn b pc (.ineg) 1 pc') (g : Go K n0 kc kj Q T pc' Ls (.int (-x) :: rest)) : Go K n0 kc kj Q T pc Ls (.int x :: rest) := by
  obtain ⟨d, rfl⟩ := d; exact o_go (fun t k => XS.ineg X.here X.ex rfl (X.dec d) rfl k) g
theorem o_lneg (X : St K Z own b mx ret rm n0 k j T h) {x : Int64} (d : Isn b pc (.lneg) 1 pc') (g : Go K n0 kc kj Q T pc' Ls (.long (-x) :: rest)) : Go K n0 kc kj Q T pc Ls (.long x :: rest) := by
  obtain ⟨d, rfl⟩ := d; exact o_go (fun t k => XT.lneg X.here X.ex rfl (X.dec d) rfl k) g
theorem o_iload_n (X : St K Z own b mx ret rm n0 k j T h) {i : Fin 4} {v : Int32} (d : Isn b pc (.iload_n i) 1 pc') (hl : Ls[i.val]? = some (.val (.int v))) (g : Go K n0 kc kj Q T pc' Ls (.int v :: st)) : Go K n0 kc kj Q T pc Ls (st) := by
  obtain ⟨d, rfl⟩ := d; exact o_go (fun t k => XS.iloadN X.here X.ex rfl (X.dec d) hl k) g
theorem o_iload (X : St K Z own b mx ret rm n0 k j T h) {i : Nat} {v : Int32} (d : Isn b pc (.iload i) 2 pc') (hl : Ls[i]? = some (.val (.int v))) (g : Go K n0 kc kj Q T pc' Ls (.int v :: st)) : Go K n0 kc kj Q T pc Ls (st) := by
  obtain ⟨d, rfl⟩ := d; exact o_go (fun t k => XS.iload X.here X.ex rfl (X.dec d) hl k) g
theorem o_lload_n (X : St K Z own b mx ret rm n0 k j T h) {i : Fin 4} {v : Int64} (d : Isn b pc (.lload_n i) 1 pc') (hl : Ls[i.val]? = some (.val (.long v))) (g : Go K n0 kc kj Q T pc' Ls (.long v :: st)) : Go K n0 kc kj Q T pc Ls (st) := by
  obtain ⟨d, rfl⟩ := d; exact o_go (fun t k => XT.lloadN X.here X.ex rfl (X.dec d) hl k) g
theorem o_lload (X : St K Z own b mx ret rm n0 k j T h) {i : Nat} {v : Int64} (d : Isn b pc (.lload i) 2 pc') (hl : Ls[i]? = some (.val (.long v))) (g : Go K n0 kc kj Q T pc' Ls (.long v :: st)) : Go K n0 kc kj Q T pc Ls (st) := by
  obtain ⟨d, rfl⟩ := d; exact o_go (fun t k => XT.lload X.here X.ex rfl (X.dec d) hl k) g
theorem o_aload_n (X : St K Z own b mx ret rm n0 k j T h) {i : Fin 4} {v : Value} (d : Isn b pc (.aload_n i) 1 pc') (hl : Ls[i.val]? = some (.val v)) (hv : v.isRef = true) (g : Go K n0 kc kj Q T pc' Ls (v :: st)) : Go K n0 kc kj Q T pc Ls (st) := by
  obtain ⟨d, rfl⟩ := d; exact o_go (fun t k => XS.aloadN X.here X.ex rfl (X.dec d) hl hv k) g
theorem o_aload (X : St K Z own b mx ret rm n0 k j T h) {i : Nat} {v : Value} (d : Isn b pc (.aload i) 2 pc') (hl : Ls[i]? = some (.val v)) (hv : v.isRef = true) (g : Go K n0 kc kj Q T pc' Ls (v :: st)) : Go K n0 kc kj Q T pc Ls (st) := by
  obtain ⟨d, rfl⟩ := d; exact o_go (fun t k => XS.aload X.here X.ex rfl (X.dec d) hl hv k) g
theorem o_istore_n (X : St K Z own b mx ret rm n0 k j T h) {i : Fin 4} {x : Int32} (d : Isn b pc (.istore_n i) 1 pc') (hl : storeLocals Ls i.val (.int x) = some Ls') (g : Go K n0 kc kj Q T pc' Ls' (rest)) : Go K n0 kc kj Q T pc Ls (.int x :: rest) := by
  obtain ⟨d, rfl⟩ := d; exact o_go (fun t k => XS.istoreN X.here X.ex rfl (X.dec d) rfl hl k) g
theorem o_istore (X : St K Z own b mx ret rm n0 k j T h) {i : Nat} {x : Int32} (d : Isn b pc (.istore i) 2 pc') (hl : storeLocals Ls i (.int x) = some Ls') (g : Go K n0 kc kj Q T pc' Ls' (rest)) : Go K n0 kc kj Q T pc Ls (.int x :: rest) := by
  obtain ⟨d, rfl⟩ := d; exact o_go (fun t k => XS.istore X.here X.ex rfl (X.dec d) rfl hl k) g
theorem o_lstore_n (X : St K Z own b mx ret rm n0 k j T h) {i : Fin 4} {x : Int64} (d : Isn b pc (.lstore_n i) 1 pc') (hl : storeLocals Ls i.val (.long x) = some Ls') (g : Go K n0 kc kj Q T pc' Ls' (rest)) : Go K n0 kc kj Q T pc Ls (.long x :: rest) := by
  obtain ⟨d, rfl⟩ := d; exact o_go (fun t k => XT.lstoreN X.here X.ex rfl (X.dec d) rfl hl k) g
theorem o_lstore (X : St K Z own b mx ret rm n0 k j T h) {i : Nat} {x : Int64} (d : Isn b pc (.lstore i) 2 pc') (hl : storeLocals Ls i (.long x) = some Ls') (g : Go K n0 kc kj Q T pc' Ls' (rest)) : Go K n0 kc kj Q T pc Ls (.long x :: rest) := by
  obtain ⟨d, rfl⟩ := d; exact o_go (fun t k => XT.lstore X.here X.ex rfl (X.dec d) rfl hl k) g
theorem o_astore_n (X : St K Z own b mx ret rm n0 k j T h) {i : Fin 4} {x : Value} (d : Isn b pc (.astore_n i) 1 pc') (hv : x.isRef = true) (hl : storeLocals Ls i.val x = some Ls') (g : Go K n0 kc kj Q T pc' Ls' (rest)) : Go K n0 kc kj Q T pc Ls (x :: rest) := by
  obtain ⟨d, rfl⟩ := d; exact o_go (fun t k => XS.astoreN X.here X.ex rfl (X.dec d) rfl hv hl k) g
theorem o_astore (X : St K Z own b mx ret rm n0 k j T h) {i : Nat} {x : Value} (d : Isn b pc (.astore i) 2 pc') (hv : x.isRef = true) (hl : storeLocals Ls i x = some Ls') (g : Go K n0 kc kj Q T pc' Ls' (rest)) : Go K n0 kc kj Q T pc Ls (x :: rest) := by
  obtain ⟨d, rfl⟩ := d; exact o_go (fun t k => XS.astore X.here X.ex rfl (X.dec d) rfl hv hl k) g
theorem o_iconst (v : Int32) (X : St K Z own b mx ret rm n0 k j T h) {i : Int} (d : Isn b pc (.iconst i) 1 pc') (hv : Int32.ofInt i = v) (g : Go K n0 kc kj Q T pc' Ls (.int v :: st)) : Go K n0 kc kj Q T pc Ls (st) := by
  obtain ⟨d, rfl⟩ := d; exact o_go (fun t k => XT.iconstV X.here X.ex rfl v (X.dec d) hv k) g
theorem o_bipush (v : Int32) (X : St K Z own b mx ret rm n0 k j T h) {i : Int} (d : Isn b pc (.bipush i) 2 pc') (hv : (Int8.ofInt i).toInt32 = v) (g : Go K n0 kc kj Q T pc' Ls (.int v :: st)) : Go K n0 kc kj Q T pc Ls (st) := by
  obtain ⟨d, rfl⟩ := d; exact o_go (fun t k => XT.bipushV X.here X.ex rfl v (X.dec d) hv k) g
theorem o_sipush (v : Int32) (X : St K Z own b mx ret rm n0 k j T h) {i : Int} (d : Isn b pc (.sipush i) 3 pc') (hv : (Int16.ofInt i).toInt32 = v) (g : Go K n0 kc kj Q T pc' Ls (.int v :: st)) : Go K n0 kc kj Q T pc Ls (st) := by
  obtain ⟨d, rfl⟩ := d; exact o_go (fun t k => XT.sipushV X.here X.ex rfl v (X.dec d) hv k) g
theorem o_lconst (v : Int64) (X : St K Z own b mx ret rm n0 k j T h) {i : Fin 2} (d : Isn b pc (.lconst i) 1 pc') (hv : Int64.ofNat i = v) (g : Go K n0 kc kj Q T pc' Ls (.long v :: st)) : Go K n0 kc kj Q T pc Ls (st) := by
  obtain ⟨d, rfl⟩ := d; exact o_go (fun t k => XT.lconstV X.here X.ex rfl v (X.dec d) hv k) g
theorem o_aconst_null (X : St K Z own b mx ret rm n0 k j T h)  (d : Isn b pc (.aconst_null) 1 pc') (g : Go K n0 kc kj Q T pc' Ls (.null :: st)) : Go K n0 kc kj Q T pc Ls (st) := by
  obtain ⟨d, rfl⟩ := d; exact o_go (fun t k => XS.aconstNull X.here X.ex rfl (X.dec d)  k) g
theorem o_iinc (v : Int32) (X : St K Z own b mx ret rm n0 k j T h) {i : Nat} {cst : Int} {x : Int32} (d : Isn b pc (.iinc i cst) 3 pc') (hv : Int32.ofInt cst = v) (hl : Ls[i]? = some (.val (.int x))) (hl' : storeLocals Ls i (.int (x + v)) = some Ls') (g : Go K n0 kc kj Q T pc' Ls' (st)) : Go K n0 kc kj Q T pc Ls (st) := by
  obtain ⟨d, rfl⟩ := d; exact o_go (fun t k => XT.iincV X.here X.ex rfl v (X.dec d) hv hl hl' k) g
theorem o_ldc (X : St K Z own b mx ret rm n0 k j T h) {i : Nat} {v : Int32} (d : Isn b pc (.ldc i) 2 pc') (wd : (Jvm.Cond.constant own i v).before a0 Z = true) (g : Go K n0 kc kj Q T pc' Ls (.int v :: st)) : Go K n0 kc kj Q T pc Ls (st) := by
  obtain ⟨d, rfl⟩ := d; obtain ⟨_, S, _⟩ := X.sd; exact o_go (fun t k => S.ldcI X.ex X.ow (mvT X.wZ wd) rfl (X.dec d) k) g
theorem o_ldc2 (X : St K Z own b mx ret rm n0 k j T h) {i : Nat} {v : Int64} (d : Isn b pc (.ldc2_w i) 3 pc') (wd : (Jvm.Cond.constantLong own i v).before a0 Z = true) (g : Go K n0 kc kj Q T pc' Ls (.long v :: st)) : Go K n0 kc kj Q T pc Ls (st) := by
  obtain ⟨d, rfl⟩ := d; obtain ⟨_, S, _⟩ := X.sd; exact o_go (fun t k => S.ldc2J X.ex X.ow (mvT X.wZ wd) rfl (X.dec d) k) g
theorem o_dup (X : St K Z own b mx ret rm n0 k j T h) {x : Value} (d : Isn b pc (.dup) 1 pc') (hc : x.category = 1) (g : Go K n0 kc kj Q T pc' Ls (x :: x :: rest)) : Go K n0 kc kj Q T pc Ls (x :: rest) := by
  obtain ⟨d, rfl⟩ := d; exact o_go (fun t k => XS.dup X.here X.ex rfl (X.dec d) rfl hc k) g
theorem o_pop (X : St K Z own b mx ret rm n0 k j T h) {x : Value} (d : Isn b pc (.pop) 1 pc') (hc : x.category = 1) (g : Go K n0 kc kj Q T pc' Ls (rest)) : Go K n0 kc kj Q T pc Ls (x :: rest) := by
  obtain ⟨d, rfl⟩ := d; exact o_go (fun t k => XT.pop X.here X.ex rfl (X.dec d) rfl hc k) g
theorem o_dup2 (X : St K Z own b mx ret rm n0 k j T h) {x y : Value} (d : Isn b pc (.dup2) 1 pc') (hc : x.category = 1) (hc' : y.category = 1) (g : Go K n0 kc kj Q T pc' Ls (x :: y :: x :: y :: rest)) : Go K n0 kc kj Q T pc Ls (x :: y :: rest) := by
  obtain ⟨d, rfl⟩ := d; exact o_go (fun t k => XT.dup2 X.here X.ex rfl (X.dec d) rfl hc hc' k) g
theorem o_dup_x1 (X : St K Z own b mx ret rm n0 k j T h) {x y : Value} (d : Isn b pc (.dup_x1) 1 pc') (hc : x.category = 1) (hc' : y.category = 1) (g : Go K n0 kc kj Q T pc' Ls (x :: y :: x :: rest)) : Go K n0 kc kj Q T pc Ls (x :: y :: rest) := by
  obtain ⟨d, rfl⟩ := d; exact o_go (fun t k => XT.dupX1 X.here X.ex rfl (X.dec d) rfl hc hc' k) g
theorem o_dup2L (X : St K Z own b mx ret rm n0 k j T h) {x : Int64} (d : Isn b pc (.dup2) 1 pc') (g : Go K n0 kc kj Q T pc' Ls (.long x :: .long x :: rest)) : Go K n0 kc kj Q T pc Ls (.long x :: rest) := by
  obtain ⟨d, rfl⟩ := d; exact o_go (fun t k => XT.dup2L X.here X.ex rfl (X.dec d) rfl k) g
theorem o_goto (X : St K Z own b mx ret rm n0 k j T h) {o : Int} (d : Brn b pc (.goto o) o pc' tg) (g : Go K n0 kc kj Q T tg Ls (st)) : Go K n0 kc kj Q T pc Ls (st) := by
  obtain ⟨d, rfl, h1, h2⟩ := d; exact o_go (fun t k => XS.goto X.here X.ex rfl rfl (X.dec d) h1 h2 k) g
theorem o_icmp_eq_t (X : St K Z own b mx ret rm n0 k j T h) {x y : Int32} {o : Int} (d : Brn b pc (.if_icmp .eq o) o pc' tg) (q : x = y) (g : Go K n0 kc kj Q T tg Ls (rest)) : Go K n0 kc kj Q T pc Ls (.int y :: .int x :: rest) := by
  obtain ⟨d, rfl, h1, h2⟩ := d; exact o_go (fun t k => XS.icmpYes X.here X.ex rfl rfl (X.dec d) rfl (XT.ii_eq_t q) h1 h2 k) g
theorem o_icmp_eq_f (X : St K Z own b mx ret rm n0 k j T h) {x y : Int32} {o : Int} (d : Brn b pc (.if_icmp .eq o) o pc' tg) (q : ¬ x = y) (g : Go K n0 kc kj Q T pc' Ls (rest)) : Go K n0 kc kj Q T pc Ls (.int y :: .int x :: rest) := by
  obtain ⟨d, rfl, h1, h2⟩ := d; exact o_go (fun t k => XS.icmpNo X.here X.ex rfl (X.dec d) rfl (XT.ii_eq_f q) k) g
theorem o_icmp_eq (X : St K Z own b mx ret rm n0 k j T h) {x y : Int32} {o : Int} (d : Brn b pc (.if_icmp .eq o) o pc' tg) (gt : x = y → Go K n0 kc kj Q T tg Ls (rest)) (gf : ¬ x = y → Go K n0 kc kj Q T pc' Ls (rest)) : Go K n0 kc kj Q T pc Ls (.int y :: .int x :: rest) := by
  by_cases q : x = y
  · exact o_icmp_eq_t X d q (gt q)
  · exact o_icmp_eq_f X d q (gf q)
theorem o_if_eq_t (X : St K Z own b mx ret rm n0 k j T h) {x : Int32} {o : Int} (d : Brn b pc (.ifCond .eq o) o pc' tg) (q : x = 0) (g : Go K n0 kc kj Q T tg Ls (rest)) : Go K n0 kc kj Q T pc Ls (.int x :: rest) := by
  obtain ⟨d, rfl, h1, h2⟩ := d; exact o_go (fun t k => XS.ifYes X.here X.ex rfl rfl (X.dec d) rfl (XT.i0_eq_t q) h1 h2 k) g
theorem o_if_eq_f (X : St K Z own b mx ret rm n0 k j T h) {x : Int32} {o : Int} (d : Brn b pc (.ifCond .eq o) o pc' tg) (q : ¬ x = 0) (g : Go K n0 kc kj Q T pc' Ls (rest)) : Go K n0 kc kj Q T pc Ls (.int x :: rest) := by
  obtain ⟨d, rfl, h1, h2⟩ := d; exact o_go (fun t k => XS.ifNo X.here X.ex rfl (X.dec d) rfl (XT.i0_eq_f q) k) g
theorem o_if_eq (X : St K Z own b mx ret rm n0 k j T h) {x : Int32} {o : Int} (d : Brn b pc (.ifCond .eq o) o pc' tg) (gt : x = 0 → Go K n0 kc kj Q T tg Ls (rest)) (gf : ¬ x = 0 → Go K n0 kc kj Q T pc' Ls (rest)) : Go K n0 kc kj Q T pc Ls (.int x :: rest) := by
  by_cases q : x = 0
  · exact o_if_eq_t X d q (gt q)
  · exact o_if_eq_f X d q (gf q)
theorem o_lif_eq_t (X : St K Z own b mx ret rm n0 k j T h) {x y : Int64} {o : Int} (d : Brn b pc (.ifCond .eq o) o pc' tg) (q : x = y) (g : Go K n0 kc kj Q T tg Ls (rest)) : Go K n0 kc kj Q T pc Ls (.int (XT.cmpL x y) :: rest) := by
  obtain ⟨d, rfl, h1, h2⟩ := d; exact o_go (fun t k => XS.ifYes X.here X.ex rfl rfl (X.dec d) rfl (XT.ll_eq_t q) h1 h2 k) g
theorem o_lif_eq_f (X : St K Z own b mx ret rm n0 k j T h) {x y : Int64} {o : Int} (d : Brn b pc (.ifCond .eq o) o pc' tg) (q : ¬ x = y) (g : Go K n0 kc kj Q T pc' Ls (rest)) : Go K n0 kc kj Q T pc Ls (.int (XT.cmpL x y) :: rest) := by
  obtain ⟨d, rfl, h1, h2⟩ := d; exact o_go (fun t k => XS.ifNo X.here X.ex rfl (X.dec d) rfl (XT.ll_eq_f q) k) g
theorem o_lif_eq (X : St K Z own b mx ret rm n0 k j T h) {x y : Int64} {o : Int} (d : Brn b pc (.ifCond .eq o) o pc' tg) (gt : x = y → Go K n0 kc kj Q T tg Ls (rest)) (gf : ¬ x = y → Go K n0 kc kj Q T pc' Ls (rest)) : Go K n0 kc kj Q T pc Ls (.int (XT.cmpL x y) :: rest) := by
  by_cases q : x = y
  · exact o_lif_eq_t X d q (gt q)
  · exact o_lif_eq_f X d q (gf q)
theorem o_icmp_ne_t (X : St K Z own b mx ret rm n0 k j T h) {x y : Int32} {o : Int} (d : Brn b pc (.if_icmp .ne o) o pc' tg) (q : ¬ x = y) (g : Go K n0 kc kj Q T tg Ls (rest)) : Go K n0 kc kj Q T pc Ls (.int y :: .int x :: rest) := by
  obtain ⟨d, rfl, h1, h2⟩ := d; exact o_go (fun t k => XS.icmpYes X.here X.ex rfl rfl (X.dec d) rfl (XT.ii_ne_t q) h1 h2 k) g
theorem o_icmp_ne_f (X : St K Z own b mx ret rm n0 k j T h) {x y : Int32} {o : Int} (d : Brn b pc (.if_icmp .ne o) o pc' tg) (q : x = y) (g : Go K n0 kc kj Q T pc' Ls (rest)) : Go K n0 kc kj Q T pc Ls (.int y :: .int x :: rest) := by
  obtain ⟨d, rfl, h1, h2⟩ := d; exact o_go (fun t k => XS.icmpNo X.here X.ex rfl (X.dec d) rfl (XT.ii_ne_f q) k) g
theorem o_icmp_ne (X : St K Z own b mx ret rm n0 k j T h) {x y : Int32} {o : Int} (d : Brn b pc (.if_icmp .ne o) o pc' tg) (gt : ¬ x = y → Go K n0 kc kj Q T tg Ls (rest)) (gf : x = y → Go K n0 kc kj Q T pc' Ls (rest)) : Go K n0 kc kj Q T pc Ls (.int y :: .int x :: rest) := by
  by_cases q : x = y
  · exact o_icmp_ne_f X d q (gf q)
  · exact o_icmp_ne_t X d q (gt q)
theorem o_if_ne_t (X : St K Z own b mx ret rm n0 k j T h) {x : Int32} {o : Int} (d : Brn b pc (.ifCond .ne o) o pc' tg) (q : ¬ x = 0) (g : Go K n0 kc kj Q T tg Ls (rest)) : Go K n0 kc kj Q T pc Ls (.int x :: rest) := by
  obtain ⟨d, rfl, h1, h2⟩ := d; exact o_go (fun t k => XS.ifYes X.here X.ex rfl rfl (X.dec d) rfl (XT.i0_ne_t q) h1 h2 k) g
theorem o_if_ne_f (X : St K Z own b mx ret rm n0 k j T h) {x : Int32} {o : Int} (d : Brn b pc (.ifCond .ne o) o pc' tg) (q : x = 0) (g : Go K n0 kc kj Q T pc' Ls (rest)) : Go K n0 kc kj Q T pc Ls (.int x :: rest) := by
  obtain ⟨d, rfl, h1, h2⟩ := d; exact o_go (fun t k => XS.ifNo X.here X.ex rfl (X.dec d) rfl (XT.i0_ne_f q) k) g
theorem o_if_ne (X : St K Z own b mx ret rm n0 k j T h) {x : Int32} {o : Int} (d : Brn b pc (.ifCond .ne o) o pc' tg) (gt : ¬ x = 0 → Go K n0 kc kj Q T tg Ls (rest)) (gf : x = 0 → Go K n0 kc kj Q T pc' Ls (rest)) : Go K n0 kc kj Q T pc Ls (.int x :: rest) := by
  by_cases q : x = 0
  · exact o_if_ne_f X d q (gf q)
  · exact o_if_ne_t X d q (gt q)
theorem o_lif_ne_t (X : St K Z own b mx ret rm n0 k j T h) {x y : Int64} {o : Int} (d : Brn b pc (.ifCond .ne o) o pc' tg) (q : ¬ x = y) (g : Go K n0 kc kj Q T tg Ls (rest)) : Go K n0 kc kj Q T pc Ls (.int (XT.cmpL x y) :: rest) := by
  obtain ⟨d, rfl, h1, h2⟩ := d; exact o_go (fun t k => XS.ifYes X.here X.ex rfl rfl (X.dec d) rfl (XT.ll_ne_t q) h1 h2 k) g
theorem o_lif_ne_f (X : St K Z own b mx ret rm n0 k j T h) {x y : Int64} {o : Int} (d : Brn b pc (.ifCond .ne o) o pc' tg) (q : x = y) (g : Go K n0 kc kj Q T pc' Ls (rest)) : Go K n0 kc kj Q T pc Ls (.int (XT.cmpL x y) :: rest) := by
  obtain ⟨d, rfl, h1, h2⟩ := d; exact o_go (fun t k => XS.ifNo X.here X.ex rfl (X.dec d) rfl (XT.ll_ne_f q) k) g
theorem o_lif_ne (X : St K Z own b mx ret rm n0 k j T h) {x y : Int64} {o : Int} (d : Brn b pc (.ifCond .ne o) o pc' tg) (gt : ¬ x = y → Go K n0 kc kj Q T tg Ls (rest)) (gf : x = y → Go K n0 kc kj Q T pc' Ls (rest)) : Go K n0 kc kj Q T pc Ls (.int (XT.cmpL x y) :: rest) := by
  by_cases q : x = y
  · exact o_lif_ne_f X d q (gf q)
  · exact o_lif_ne_t X d q (gt q)
theorem o_icmp_lt_t (X : St K Z own b mx ret rm n0 k j T h) {x y : Int32} {o : Int} (d : Brn b pc (.if_icmp .lt o) o pc' tg) (q : x < y) (g : Go K n0 kc kj Q T tg Ls (rest)) : Go K n0 kc kj Q T pc Ls (.int y :: .int x :: rest) := by
  obtain ⟨d, rfl, h1, h2⟩ := d; exact o_go (fun t k => XS.icmpYes X.here X.ex rfl rfl (X.dec d) rfl (XT.ii_lt_t q) h1 h2 k) g
theorem o_icmp_lt_f (X : St K Z own b mx ret rm n0 k j T h) {x y : Int32} {o : Int} (d : Brn b pc (.if_icmp .lt o) o pc' tg) (q : ¬ x < y) (g : Go K n0 kc kj Q T pc' Ls (rest)) : Go K n0 kc kj Q T pc Ls (.int y :: .int x :: rest) := by
  obtain ⟨d, rfl, h1, h2⟩ := d; exact o_go (fun t k => XS.icmpNo X.here X.ex rfl (X.dec d) rfl (XT.ii_lt_f q) k) g
theorem o_icmp_lt (X : St K Z own b mx ret rm n0 k j T h) {x y : Int32} {o : Int} (d : Brn b pc (.if_icmp .lt o) o pc' tg) (gt : x < y → Go K n0 kc kj Q T tg Ls (rest)) (gf : ¬ x < y → Go K n0 kc kj Q T pc' Ls (rest)) : Go K n0 kc kj Q T pc Ls (.int y :: .int x :: rest) := by
  by_cases q : x < y
  · exact o_icmp_lt_t X d q (gt q)
  · exact o_icmp_lt_f X d q (gf q)
theorem o_if_lt_t (X : St K Z own b mx ret rm n0 k j T h) {x : Int32} {o : Int} (d : Brn b pc (.ifCond .lt o) o pc' tg) (q : x < 0) (g : Go K n0 kc kj Q T tg Ls (rest)) : Go K n0 kc kj Q T pc Ls (.int x :: rest) := by
  obtain ⟨d, rfl, h1, h2⟩ := d; exact o_go (fun t k => XS.ifYes X.here X.ex rfl rfl (X.dec d) rfl (XT.i0_lt_t q) h1 h2 k) g
theorem o_if_lt_f (X : St K Z own b mx ret rm n0 k j T h) {x : Int32} {o : Int} (d : Brn b pc (.ifCond .lt o) o pc' tg) (q : ¬ x < 0) (g : Go K n0 kc kj Q T pc' Ls (rest)) : Go K n0 kc kj Q T pc Ls (.int x :: rest) := by
  obtain ⟨d, rfl, h1, h2⟩ := d; exact o_go (fun t k => XS.ifNo X.here X.ex rfl (X.dec d) rfl (XT.i0_lt_f q) k) g
theorem o_if_lt (X : St K Z own b mx ret rm n0 k j T h) {x : Int32} {o : Int} (d : Brn b pc (.ifCond .lt o) o pc' tg) (gt : x < 0 → Go K n0 kc kj Q T tg Ls (rest)) (gf : ¬ x < 0 → Go K n0 kc kj Q T pc' Ls (rest)) : Go K n0 kc kj Q T pc Ls (.int x :: rest) := by
  by_cases q : x < 0
  · exact o_if_lt_t X d q (gt q)
  · exact o_if_lt_f X d q (gf q)
theorem o_lif_lt_t (X : St K Z own b mx ret rm n0 k j T h) {x y : Int64} {o : Int} (d : Brn b pc (.ifCond .lt o) o pc' tg) (q : x < y) (g : Go K n0 kc kj Q T tg Ls (rest)) : Go K n0 kc kj Q T pc Ls (.int (XT.cmpL x y) :: rest) := by
  obtain ⟨d, rfl, h1, h2⟩ := d; exact o_go (fun t k => XS.ifYes X.here X.ex rfl rfl (X.dec d) rfl (XT.ll_lt_t q) h1 h2 k) g
theorem o_lif_lt_f (X : St K Z own b mx ret rm n0 k j T h) {x y : Int64} {o : Int} (d : Brn b pc (.ifCond .lt o) o pc' tg) (q : ¬ x < y) (g : Go K n0 kc kj Q T pc' Ls (rest)) : Go K n0 kc kj Q T pc Ls (.int (XT.cmpL x y) :: rest) := by
  obtain ⟨d, rfl, h1, h2⟩ := d; exact o_go (fun t k => XS.ifNo X.here X.ex rfl (X.dec d) rfl (XT.ll_lt_f q) k) g
theorem o_lif_lt (X : St K Z own b mx ret rm n0 k j T h) {x y : Int64} {o : Int} (d : Brn b pc (.ifCond .lt o) o pc' tg) (gt : x < y → Go K n0 kc kj Q T tg Ls (rest)) (gf : ¬ x < y → Go K n0 kc kj Q T pc' Ls (rest)) : Go K n0 kc kj Q T pc Ls (.int (XT.cmpL x y) :: rest) := by
  by_cases q : x < y
  · exact o_lif_lt_t X d q (gt q)
  · exact o_lif_lt_f X d q (gf q)
theorem o_icmp_ge_t (X : St K Z own b mx ret rm n0 k j T h) {x y : Int32} {o : Int} (d : Brn b pc (.if_icmp .ge o) o pc' tg) (q : ¬ x < y) (g : Go K n0 kc kj Q T tg Ls (rest)) : Go K n0 kc kj Q T pc Ls (.int y :: .int x :: rest) := by
  obtain ⟨d, rfl, h1, h2⟩ := d; exact o_go (fun t k => XS.icmpYes X.here X.ex rfl rfl (X.dec d) rfl (XT.ii_ge_t q) h1 h2 k) g
theorem o_icmp_ge_f (X : St K Z own b mx ret rm n0 k j T h) {x y : Int32} {o : Int} (d : Brn b pc (.if_icmp .ge o) o pc' tg) (q : x < y) (g : Go K n0 kc kj Q T pc' Ls (rest)) : Go K n0 kc kj Q T pc Ls (.int y :: .int x :: rest) := by
  obtain ⟨d, rfl, h1, h2⟩ := d; exact o_go (fun t k => XS.icmpNo X.here X.ex rfl (X.dec d) rfl (XT.ii_ge_f q) k) g
theorem o_icmp_ge (X : St K Z own b mx ret rm n0 k j T h) {x y : Int32} {o : Int} (d : Brn b pc (.if_icmp .ge o) o pc' tg) (gt : ¬ x < y → Go K n0 kc kj Q T tg Ls (rest)) (gf : x < y → Go K n0 kc kj Q T pc' Ls (rest)) : Go K n0 kc kj Q T pc Ls (.int y :: .int x :: rest) := by
  by_cases q : x < y
  · exact o_icmp_ge_f X d q (gf q)
  · exact o_icmp_ge_t X d q (gt q)
theorem o_if_ge_t (X : St K Z own b mx ret rm n0 k j T h) {x : Int32} {o : Int} (d : Brn b pc (.ifCond .ge o) o pc' tg) (q : ¬ x < 0) (g : Go K n0 kc kj Q T tg Ls (rest)) : Go K n0 kc kj Q T pc Ls (.int x :: rest) := by
  obtain ⟨d, rfl, h1, h2⟩ := d; exact o_go (fun t k => XS.ifYes X.here X.ex rfl rfl (X.dec d) rfl (XT.i0_ge_t q) h1 h2 k) g
theorem o_if_ge_f (X : St K Z own b mx ret rm n0 k j T h) {x : Int32} {o : Int} (d : Brn b pc (.ifCond .ge o) o pc' tg) (q : x < 0) (g : Go K n0 kc kj Q T pc' Ls (rest)) : Go K n0 kc kj Q T pc Ls (.int x :: rest) := by
  obtain ⟨d, rfl, h1, h2⟩ := d; exact o_go (fun t k => XS.ifNo X.here X.ex rfl (X.dec d) rfl (XT.i0_ge_f q) k) g
theorem o_if_ge (X : St K Z own b mx ret rm n0 k j T h) {x : Int32} {o : Int} (d : Brn b pc (.ifCond .ge o) o pc' tg) (gt : ¬ x < 0 → Go K n0 kc kj Q T tg Ls (rest)) (gf : x < 0 → Go K n0 kc kj Q T pc' Ls (rest)) : Go K n0 kc kj Q T pc Ls (.int x :: rest) := by
  by_cases q : x < 0
  · exact o_if_ge_f X d q (gf q)
  · exact o_if_ge_t X d q (gt q)
theorem o_lif_ge_t (X : St K Z own b mx ret rm n0 k j T h) {x y : Int64} {o : Int} (d : Brn b pc (.ifCond .ge o) o pc' tg) (q : ¬ x < y) (g : Go K n0 kc kj Q T tg Ls (rest)) : Go K n0 kc kj Q T pc Ls (.int (XT.cmpL x y) :: rest) := by
  obtain ⟨d, rfl, h1, h2⟩ := d; exact o_go (fun t k => XS.ifYes X.here X.ex rfl rfl (X.dec d) rfl (XT.ll_ge_t q) h1 h2 k) g
theorem o_lif_ge_f (X : St K Z own b mx ret rm n0 k j T h) {x y : Int64} {o : Int} (d : Brn b pc (.ifCond .ge o) o pc' tg) (q : x < y) (g : Go K n0 kc kj Q T pc' Ls (rest)) : Go K n0 kc kj Q T pc Ls (.int (XT.cmpL x y) :: rest) := by
  obtain ⟨d, rfl, h1, h2⟩ := d; exact o_go (fun t k => XS.ifNo X.here X.ex rfl (X.dec d) rfl (XT.ll_ge_f q) k) g
theorem o_lif_ge (X : St K Z own b mx ret rm n0 k j T h) {x y : Int64} {o : Int} (d : Brn b pc (.ifCond .ge o) o pc' tg) (gt : ¬ x < y → Go K n0 kc kj Q T tg Ls (rest)) (gf : x < y → Go K n0 kc kj Q T pc' Ls (rest)) : Go K n0 kc kj Q T pc Ls (.int (XT.cmpL x y) :: rest) := by
  by_cases q : x < y
  · exact o_lif_ge_f X d q (gf q)
  · exact o_lif_ge_t X d q (gt q)
theorem o_icmp_gt_t (X : St K Z own b mx ret rm n0 k j T h) {x y : Int32} {o : Int} (d : Brn b pc (.if_icmp .gt o) o pc' tg) (q : y < x) (g : Go K n0 kc kj Q T tg Ls (rest)) : Go K n0 kc kj Q T pc Ls (.int y :: .int x :: rest) := by
  obtain ⟨d, rfl, h1, h2⟩ := d; exact o_go (fun t k => XS.icmpYes X.here X.ex rfl rfl (X.dec d) rfl (XT.ii_gt_t q) h1 h2 k) g
theorem o_icmp_gt_f (X : St K Z own b mx ret rm n0 k j T h) {x y : Int32} {o : Int} (d : Brn b pc (.if_icmp .gt o) o pc' tg) (q : ¬ y < x) (g : Go K n0 kc kj Q T pc' Ls (rest)) : Go K n0 kc kj Q T pc Ls (.int y :: .int x :: rest) := by
  obtain ⟨d, rfl, h1, h2⟩ := d; exact o_go (fun t k => XS.icmpNo X.here X.ex rfl (X.dec d) rfl (XT.ii_gt_f q) k) g
theorem o_icmp_gt (X : St K Z own b mx ret rm n0 k j T h) {x y : Int32} {o : Int} (d : Brn b pc (.if_icmp .gt o) o pc' tg) (gt : y < x → Go K n0 kc kj Q T tg Ls (rest)) (gf : ¬ y < x → Go K n0 kc kj Q T pc' Ls (rest)) : Go K n0 kc kj Q T pc Ls (.int y :: .int x :: rest) := by
  by_cases q : y < x
  · exact o_icmp_gt_t X d q (gt q)
  · exact o_icmp_gt_f X d q (gf q)
theorem o_if_gt_t (X : St K Z own b mx ret rm n0 k j T h) {x : Int32} {o : Int} (d : Brn b pc (.ifCond .gt o) o pc' tg) (q : 0 < x) (g : Go K n0 kc kj Q T tg Ls (rest)) : Go K n0 kc kj Q T pc Ls (.int x :: rest) := by
  obtain ⟨d, rfl, h1, h2⟩ := d; exact o_go (fun t k => XS.ifYes X.here X.ex rfl rfl (X.dec d) rfl (XT.i0_gt_t q) h1 h2 k) g
theorem o_if_gt_f (X : St K Z own b mx ret rm n0 k j T h) {x : Int32} {o : Int} (d : Brn b pc (.ifCond .gt o) o pc' tg) (q : ¬ 0 < x) (g : Go K n0 kc kj Q T pc' Ls (rest)) : Go K n0 kc kj Q T pc Ls (.int x :: rest) := by
  obtain ⟨d, rfl, h1, h2⟩ := d; exact o_go (fun t k => XS.ifNo X.here X.ex rfl (X.dec d) rfl (XT.i0_gt_f q) k) g
theorem o_if_gt (X : St K Z own b mx ret rm n0 k j T h) {x : Int32} {o : Int} (d : Brn b pc (.ifCond .gt o) o pc' tg) (gt : 0 < x → Go K n0 kc kj Q T tg Ls (rest)) (gf : ¬ 0 < x → Go K n0 kc kj Q T pc' Ls (rest)) : Go K n0 kc kj Q T pc Ls (.int x :: rest) := by
  by_cases q : 0 < x
  · exact o_if_gt_t X d q (gt q)
  · exact o_if_gt_f X d q (gf q)
theorem o_lif_gt_t (X : St K Z own b mx ret rm n0 k j T h) {x y : Int64} {o : Int} (d : Brn b pc (.ifCond .gt o) o pc' tg) (q : y < x) (g : Go K n0 kc kj Q T tg Ls (rest)) : Go K n0 kc kj Q T pc Ls (.int (XT.cmpL x y) :: rest) := by
  obtain ⟨d, rfl, h1, h2⟩ := d; exact o_go (fun t k => XS.ifYes X.here X.ex rfl rfl (X.dec d) rfl (XT.ll_gt_t q) h1 h2 k) g
theorem o_lif_gt_f (X : St K Z own b mx ret rm n0 k j T h) {x y : Int64} {o : Int} (d : Brn b pc (.ifCond .gt o) o pc' tg) (q : ¬ y < x) (g : Go K n0 kc kj Q T pc' Ls (rest)) : Go K n0 kc kj Q T pc Ls (.int (XT.cmpL x y) :: rest) := by
  obtain ⟨d, rfl, h1, h2⟩ := d; exact o_go (fun t k => XS.ifNo X.here X.ex rfl (X.dec d) rfl (XT.ll_gt_f q) k) g
theorem o_lif_gt (X : St K Z own b mx ret rm n0 k j T h) {x y : Int64} {o : Int} (d : Brn b pc (.ifCond .gt o) o pc' tg) (gt : y < x → Go K n0 kc kj Q T tg Ls (rest)) (gf : ¬ y < x → Go K n0 kc kj Q T pc' Ls (rest)) : Go K n0 kc kj Q T pc Ls (.int (XT.cmpL x y) :: rest) := by
  by_cases q : y < x
  · exact o_lif_gt_t X d q (gt q)
  · exact o_lif_gt_f X d q (gf q)
theorem o_icmp_le_t (X : St K Z own b mx ret rm n0 k j T h) {x y : Int32} {o : Int} (d : Brn b pc (.if_icmp .le o) o pc' tg) (q : ¬ y < x) (g : Go K n0 kc kj Q T tg Ls (rest)) : Go K n0 kc kj Q T pc Ls (.int y :: .int x :: rest) := by
  obtain ⟨d, rfl, h1, h2⟩ := d; exact o_go (fun t k => XS.icmpYes X.here X.ex rfl rfl (X.dec d) rfl (XT.ii_le_t q) h1 h2 k) g
theorem o_icmp_le_f (X : St K Z own b mx ret rm n0 k j T h) {x y : Int32} {o : Int} (d : Brn b pc (.if_icmp .le o) o pc' tg) (q : y < x) (g : Go K n0 kc kj Q T pc' Ls (rest)) : Go K n0 kc kj Q T pc Ls (.int y :: .int x :: rest) := by
  obtain ⟨d, rfl, h1, h2⟩ := d; exact o_go (fun t k => XS.icmpNo X.here X.ex rfl (X.dec d) rfl (XT.ii_le_f q) k) g
theorem o_icmp_le (X : St K Z own b mx ret rm n0 k j T h) {x y : Int32} {o : Int} (d : Brn b pc (.if_icmp .le o) o pc' tg) (gt : ¬ y < x → Go K n0 kc kj Q T tg Ls (rest)) (gf : y < x → Go K n0 kc kj Q T pc' Ls (rest)) : Go K n0 kc kj Q T pc Ls (.int y :: .int x :: rest) := by
  by_cases q : y < x
  · exact o_icmp_le_f X d q (gf q)
  · exact o_icmp_le_t X d q (gt q)
theorem o_if_le_t (X : St K Z own b mx ret rm n0 k j T h) {x : Int32} {o : Int} (d : Brn b pc (.ifCond .le o) o pc' tg) (q : ¬ 0 < x) (g : Go K n0 kc kj Q T tg Ls (rest)) : Go K n0 kc kj Q T pc Ls (.int x :: rest) := by
  obtain ⟨d, rfl, h1, h2⟩ := d; exact o_go (fun t k => XS.ifYes X.here X.ex rfl rfl (X.dec d) rfl (XT.i0_le_t q) h1 h2 k) g
theorem o_if_le_f (X : St K Z own b mx ret rm n0 k j T h) {x : Int32} {o : Int} (d : Brn b pc (.ifCond .le o) o pc' tg) (q : 0 < x) (g : Go K n0 kc kj Q T pc' Ls (rest)) : Go K n0 kc kj Q T pc Ls (.int x :: rest) := by
  obtain ⟨d, rfl, h1, h2⟩ := d; exact o_go (fun t k => XS.ifNo X.here X.ex rfl (X.dec d) rfl (XT.i0_le_f q) k) g
theorem o_if_le (X : St K Z own b mx ret rm n0 k j T h) {x : Int32} {o : Int} (d : Brn b pc (.ifCond .le o) o pc' tg) (gt : ¬ 0 < x → Go K n0 kc kj Q T tg Ls (rest)) (gf : 0 < x → Go K n0 kc kj Q T pc' Ls (rest)) : Go K n0 kc kj Q T pc Ls (.int x :: rest) := by
  by_cases q : 0 < x
  · exact o_if_le_f X d q (gf q)
  · exact o_if_le_t X d q (gt q)
theorem o_lif_le_t (X : St K Z own b mx ret rm n0 k j T h) {x y : Int64} {o : Int} (d : Brn b pc (.ifCond .le o) o pc' tg) (q : ¬ y < x) (g : Go K n0 kc kj Q T tg Ls (rest)) : Go K n0 kc kj Q T pc Ls (.int (XT.cmpL x y) :: rest) := by
  obtain ⟨d, rfl, h1, h2⟩ := d; exact o_go (fun t k => XS.ifYes X.here X.ex rfl rfl (X.dec d) rfl (XT.ll_le_t q) h1 h2 k) g
theorem o_lif_le_f (X : St K Z own b mx ret rm n0 k j T h) {x y : Int64} {o : Int} (d : Brn b pc (.ifCond .le o) o pc' tg) (q : y < x) (g : Go K n0 kc kj Q T pc' Ls (rest)) : Go K n0 kc kj Q T pc Ls (.int (XT.cmpL x y) :: rest) := by
  obtain ⟨d, rfl, h1, h2⟩ := d; exact o_go (fun t k => XS.ifNo X.here X.ex rfl (X.dec d) rfl (XT.ll_le_f q) k) g
theorem o_lif_le (X : St K Z own b mx ret rm n0 k j T h) {x y : Int64} {o : Int} (d : Brn b pc (.ifCond .le o) o pc' tg) (gt : ¬ y < x → Go K n0 kc kj Q T tg Ls (rest)) (gf : y < x → Go K n0 kc kj Q T pc' Ls (rest)) : Go K n0 kc kj Q T pc Ls (.int (XT.cmpL x y) :: rest) := by
  by_cases q : y < x
  · exact o_lif_le_f X d q (gf q)
  · exact o_lif_le_t X d q (gt q)
theorem o_bool_icmp_eq (X : St K Z own b mx ret rm n0 k j T h) {x y : Int32} {o o2 : Int} {pc2 pc3 pj : Nat} (d : Brn b pc (.if_icmp .eq o) o pc' tg) (d1 : Isn b pc' (.iconst 1) 1 pc2) (d2 : Brn b pc2 (.goto o2) o2 pc3 pj) (d3 : Isn b tg (.iconst 0) 1 pj) (g : Go K n0 kc kj Q T pj Ls (.int (if x = y then 0 else 1) :: rest)) : Go K n0 kc kj Q T pc Ls (.int y :: .int x :: rest) := by
  refine o_icmp_eq X d (fun q => o_iconst 0 X d3 rfl ?_) (fun q => o_iconst 1 X d1 rfl (o_goto X d2 ?_))
  · simpa only [q, if_true, if_false] using g
  · simpa only [q, if_true, if_false] using g
theorem o_bool_if_eq (X : St K Z own b mx ret rm n0 k j T h) {x : Int32} {o o2 : Int} {pc2 pc3 pj : Nat} (d : Brn b pc (.ifCond .eq o) o pc' tg) (d1 : Isn b pc' (.iconst 1) 1 pc2) (d2 : Brn b pc2 (.goto o2) o2 pc3 pj) (d3 : Isn b tg (.iconst 0) 1 pj) (g : Go K n0 kc kj Q T pj Ls (.int (if x = 0 then 0 else 1) :: rest)) : Go K n0 kc kj Q T pc Ls (.int x :: rest) := by
  refine o_if_eq X d (fun q => o_iconst 0 X d3 rfl ?_) (fun q => o_iconst 1 X d1 rfl (o_goto X d2 ?_))
  · simpa only [q, if_true, if_false] using g
  · simpa only [q, if_true, if_false] using g
theorem o_bool_lif_eq (X : St K Z own b mx ret rm n0 k j T h) {x y : Int64} {o o2 : Int} {pc2 pc3 pj : Nat} (d : Brn b pc (.ifCond .eq o) o pc' tg) (d1 : Isn b pc' (.iconst 1) 1 pc2) (d2 : Brn b pc2 (.goto o2) o2 pc3 pj) (d3 : Isn b tg (.iconst 0) 1 pj) (g : Go K n0 kc kj Q T pj Ls (.int (if x = y then 0 else 1) :: rest)) : Go K n0 kc kj Q T pc Ls (.int (XT.cmpL x y) :: rest) := by
  refine o_lif_eq X d (fun q => o_iconst 0 X d3 rfl ?_) (fun q => o_iconst 1 X d1 rfl (o_goto X d2 ?_))
  · simpa only [q, if_true, if_false] using g
  · simpa only [q, if_true, if_false] using g
theorem o_bool_icmp_ne (X : St K Z own b mx ret rm n0 k j T h) {x y : Int32} {o o2 : Int} {pc2 pc3 pj : Nat} (d : Brn b pc (.if_icmp .ne o) o pc' tg) (d1 : Isn b pc' (.iconst 1) 1 pc2) (d2 : Brn b pc2 (.goto o2) o2 pc3 pj) (d3 : Isn b tg (.iconst 0) 1 pj) (g : Go K n0 kc kj Q T pj Ls (.int (if x = y then 1 else 0) :: rest)) : Go K n0 kc kj Q T pc Ls (.int y :: .int x :: rest) := by
  refine o_icmp_ne X d (fun q => o_iconst 0 X d3 rfl ?_) (fun q => o_iconst 1 X d1 rfl (o_goto X d2 ?_))
  · simpa only [q, if_true, if_false] using g
  · simpa only [q, if_true, if_false] using g
theorem o_bool_if_ne (X : St K Z own b mx ret rm n0 k j T h) {x : Int32} {o o2 : Int} {pc2 pc3 pj : Nat} (d : Brn b pc (.ifCond .ne o) o pc' tg) (d1 : Isn b pc' (.iconst 1) 1 pc2) (d2 : Brn b pc2 (.goto o2) o2 pc3 pj) (d3 : Isn b tg (.iconst 0) 1 pj) (g : Go K n0 kc kj Q T pj Ls (.int (if x = 0 then 1 else 0) :: rest)) : Go K n0 kc kj Q T pc Ls (.int x :: rest) := by
  refine o_if_ne X d (fun q => o_iconst 0 X d3 rfl ?_) (fun q => o_iconst 1 X d1 rfl (o_goto X d2 ?_))
  · simpa only [q, if_true, if_false] using g
  · simpa only [q, if_true, if_false] using g
theorem o_bool_lif_ne (X : St K Z own b mx ret rm n0 k j T h) {x y : Int64} {o o2 : Int} {pc2 pc3 pj : Nat} (d : Brn b pc (.ifCond .ne o) o pc' tg) (d1 : Isn b pc' (.iconst 1) 1 pc2) (d2 : Brn b pc2 (.goto o2) o2 pc3 pj) (d3 : Isn b tg (.iconst 0) 1 pj) (g : Go K n0 kc kj Q T pj Ls (.int (if x = y then 1 else 0) :: rest)) : Go K n0 kc kj Q T pc Ls (.int (XT.cmpL x y) :: rest) := by
  refine o_lif_ne X d (fun q => o_iconst 0 X d3 rfl ?_) (fun q => o_iconst 1 X d1 rfl (o_goto X d2 ?_))
  · simpa only [q, if_true, if_false] using g
  · simpa only [q, if_true, if_false] using g
theorem o_bool_icmp_lt (X : St K Z own b mx ret rm n0 k j T h) {x y : Int32} {o o2 : Int} {pc2 pc3 pj : Nat} (d : Brn b pc (.if_icmp .lt o) o pc' tg) (d1 : Isn b pc' (.iconst 1) 1 pc2) (d2 : Brn b pc2 (.goto o2) o2 pc3 pj) (d3 : Isn b tg (.iconst 0) 1 pj) (g : Go K n0 kc kj Q T pj Ls (.int (if x < y then 0 else 1) :: rest)) : Go K n0 kc kj Q T pc Ls (.int y :: .int x :: rest) := by
  refine o_icmp_lt X d (fun q => o_iconst 0 X d3 rfl ?_) (fun q => o_iconst 1 X d1 rfl (o_goto X d2 ?_))
  · simpa only [q, if_true, if_false] using g
  · simpa only [q, if_true, if_false] using g
theorem o_bool_if_lt (X : St K Z own b mx ret rm n0 k j T h) {x : Int32} {o o2 : Int} {pc2 pc3 pj : Nat} (d : Brn b pc (.ifCond .lt o) o pc' tg) (d1 : Isn b pc' (.iconst 1) 1 pc2) (d2 : Brn b pc2 (.goto o2) o2 pc3 pj) (d3 : Isn b tg (.iconst 0) 1 pj) (g : Go K n0 kc kj Q T pj Ls (.int (if x < 0 then 0 else 1) :: rest)) : Go K n0 kc kj Q T pc Ls (.int x :: rest) := by
  refine o_if_lt X d (fun q => o_iconst 0 X d3 rfl ?_) (fun q => o_iconst 1 X d1 rfl (o_goto X d2 ?_))
  · simpa only [q, if_true, if_false] using g
  · simpa only [q, if_true, if_false] using g
theorem o_bool_lif_lt (X : St K Z own b mx ret rm n0 k j T h) {x y : Int64} {o o2 : Int} {pc2 pc3 pj : Nat} (d : Brn b pc (.ifCond .lt o) o pc' tg) (d1 : Isn b pc' (.iconst 1) 1 pc2) (d2 : Brn b pc2 (.goto o2) o2 pc3 pj) (d3 : Isn b tg (.iconst 0) 1 pj) (g : Go K n0 kc kj Q T pj Ls (.int (if x < y then 0 else 1) :: rest)) : Go K n0 kc kj Q T pc Ls (.int (XT.cmpL x y) :: rest) := by
  refine o_lif_lt X d (fun q => o_iconst 0 X d3 rfl ?_) (fun q => o_iconst 1 X d1 rfl (o_goto X d2 ?_))
  · simpa only [q, if_true, if_false] using g
  · simpa only [q, if_true, if_false] using g
theorem o_bool_icmp_ge (X : St K Z own b mx ret rm n0 k j T h) {x y : Int32} {o o2 : Int} {pc2 pc3 pj : Nat} (d : Brn b pc (.if_icmp .ge o) o pc' tg) (d1 : Isn b pc' (.iconst 1) 1 pc2) (d2 : Brn b pc2 (.goto o2) o2 pc3 pj) (d3 : Isn b tg (.iconst 0) 1 pj) (g : Go K n0 kc kj Q T pj Ls (.int (if x < y then 1 else 0) :: rest)) : Go K n0 kc kj Q T pc Ls (.int y :: .int x :: rest) := by
  refine o_icmp_ge X d (fun q => o_iconst 0 X d3 rfl ?_) (fun q => o_iconst 1 X d1 rfl (o_goto X d2 ?_))
  · simpa only [q, if_true, if_false] using g
  · simpa only [q, if_true, if_false] using g
theorem o_bool_if_ge (X : St K Z own b mx ret rm n0 k j T h) {x : Int32} {o o2 : Int} {pc2 pc3 pj : Nat} (d : Brn b pc (.ifCond .ge o) o pc' tg) (d1 : Isn b pc' (.iconst 1) 1 pc2) (d2 : Brn b pc2 (.goto o2) o2 pc3 pj) (d3 : Isn b tg (.iconst 0) 1 pj) (g : Go K n0 kc kj Q T pj Ls (.int (if x < 0 then 1 else 0) :: rest)) : Go K n0 kc kj Q T pc Ls (.int x :: rest) := by
  refine o_if_ge X d (fun q => o_iconst 0 X d3 rfl ?_) (fun q => o_iconst 1 X d1 rfl (o_goto X d2 ?_))
  · simpa only [q, if_true, if_false] using g
  · simpa only [q, if_true, if_false] using g
theorem o_bool_lif_ge (X : St K Z own b mx ret rm n0 k j T h) {x y : Int64} {o o2 : Int} {pc2 pc3 pj : Nat} (d : Brn b pc (.ifCond .ge o) o pc' tg) (d1 : Isn b pc' (.iconst 1) 1 pc2) (d2 : Brn b pc2 (.goto o2) o2 pc3 pj) (d3 : Isn b tg (.iconst 0) 1 pj) (g : Go K n0 kc kj Q T pj Ls (.int (if x < y then 1 else 0) :: rest)) : Go K n0 kc kj Q T pc Ls (.int (XT.cmpL x y) :: rest) := by
  refine o_lif_ge X d (fun q => o_iconst 0 X d3 rfl ?_) (fun q => o_iconst 1 X d1 rfl (o_goto X d2 ?_))
  · simpa only [q, if_true, if_false] using g
  · simpa only [q, if_true, if_false] using g
theorem o_bool_icmp_gt (X : St K Z own b mx ret rm n0 k j T h) {x y : Int32} {o o2 : Int} {pc2 pc3 pj : Nat} (d : Brn b pc (.if_icmp .gt o) o pc' tg) (d1 : Isn b pc' (.iconst 1) 1 pc2) (d2 : Brn b pc2 (.goto o2) o2 pc3 pj) (d3 : Isn b tg (.iconst 0) 1 pj) (g : Go K n0 kc kj Q T pj Ls (.int (if y < x then 0 else 1) :: rest)) : Go K n0 kc kj Q T pc Ls (.int y :: .int x :: rest) := by
  refine o_icmp_gt X d (fun q => o_iconst 0 X d3 rfl ?_) (fun q => o_iconst 1 X d1 rfl (o_goto X d2 ?_))
  · simpa only [q, if_true, if_false] using g
  · simpa only [q, if_true, if_false] using g
theorem o_bool_if_gt (X : St K Z own b mx ret rm n0 k j T h) {x : Int32} {o o2 : Int} {pc2 pc3 pj : Nat} (d : Brn b pc (.ifCond .gt o) o pc' tg) (d1 : Isn b pc' (.iconst 1) 1 pc2) (d2 : Brn b pc2 (.goto o2) o2 pc3 pj) (d3 : Isn b tg (.iconst 0) 1 pj) (g : Go K n0 kc kj Q T pj Ls (.int (if 0 < x then 0 else 1) :: rest)) : Go K n0 kc kj Q T pc Ls (.int x :: rest) := by
  refine o_if_gt X d (fun q => o_iconst 0 X d3 rfl ?_) (fun q => o_iconst 1 X d1 rfl (o_goto X d2 ?_))
  · simpa only [q, if_true, if_false] using g
  · simpa only [q, if_true, if_false] using g
theorem o_bool_lif_gt (X : St K Z own b mx ret rm n0 k j T h) {x y : Int64} {o o2 : Int} {pc2 pc3 pj : Nat} (d : Brn b pc (.ifCond .gt o) o pc' tg) (d1 : Isn b pc' (.iconst 1) 1 pc2) (d2 : Brn b pc2 (.goto o2) o2 pc3 pj) (d3 : Isn b tg (.iconst 0) 1 pj) (g : Go K n0 kc kj Q T pj Ls (.int (if y < x then 0 else 1) :: rest)) : Go K n0 kc kj Q T pc Ls (.int (XT.cmpL x y) :: rest) := by
  refine o_lif_gt X d (fun q => o_iconst 0 X d3 rfl ?_) (fun q => o_iconst 1 X d1 rfl (o_goto X d2 ?_))
  · simpa only [q, if_true, if_false] using g
  · simpa only [q, if_true, if_false] using g
theorem o_bool_icmp_le (X : St K Z own b mx ret rm n0 k j T h) {x y : Int32} {o o2 : Int} {pc2 pc3 pj : Nat} (d : Brn b pc (.if_icmp .le o) o pc' tg) (d1 : Isn b pc' (.iconst 1) 1 pc2) (d2 : Brn b pc2 (.goto o2) o2 pc3 pj) (d3 : Isn b tg (.iconst 0) 1 pj) (g : Go K n0 kc kj Q T pj Ls (.int (if y < x then 1 else 0) :: rest)) : Go K n0 kc kj Q T pc Ls (.int y :: .int x :: rest) := by
  refine o_icmp_le X d (fun q => o_iconst 0 X d3 rfl ?_) (fun q => o_iconst 1 X d1 rfl (o_goto X d2 ?_))
  · simpa only [q, if_true, if_false] using g
  · simpa only [q, if_true, if_false] using g
theorem o_bool_if_le (X : St K Z own b mx ret rm n0 k j T h) {x : Int32} {o o2 : Int} {pc2 pc3 pj : Nat} (d : Brn b pc (.ifCond .le o) o pc' tg) (d1 : Isn b pc' (.iconst 1) 1 pc2) (d2 : Brn b pc2 (.goto o2) o2 pc3 pj) (d3 : Isn b tg (.iconst 0) 1 pj) (g : Go K n0 kc kj Q T pj Ls (.int (if 0 < x then 1 else 0) :: rest)) : Go K n0 kc kj Q T pc Ls (.int x :: rest) := by
  refine o_if_le X d (fun q => o_iconst 0 X d3 rfl ?_) (fun q => o_iconst 1 X d1 rfl (o_goto X d2 ?_))
  · simpa only [q, if_true, if_false] using g
  · simpa only [q, if_true, if_false] using g
theorem o_bool_lif_le (X : St K Z own b mx ret rm n0 k j T h) {x y : Int64} {o o2 : Int} {pc2 pc3 pj : Nat} (d : Brn b pc (.ifCond .le o) o pc' tg) (d1 : Isn b pc' (.iconst 1) 1 pc2) (d2 : Brn b pc2 (.goto o2) o2 pc3 pj) (d3 : Isn b tg (.iconst 0) 1 pj) (g : Go K n0 kc kj Q T pj Ls (.int (if y < x then 1 else 0) :: rest)) : Go K n0 kc kj Q T pc Ls (.int (XT.cmpL x y) :: rest) := by
  refine o_lif_le X d (fun q => o_iconst 0 X d3 rfl ?_) (fun q => o_iconst 1 X d1 rfl (o_goto X d2 ?_))
  · simpa only [q, if_true, if_false] using g
  · simpa only [q, if_true, if_false] using g
theorem o_ifnonnull_r (X : St K Z own b mx ret rm n0 k j T h) {a : Addr} {o : Int} (d : Brn b pc (.ifnonnull o) o pc' tg) (g : Go K n0 kc kj Q T tg Ls (rest)) : Go K n0 kc kj Q T pc Ls (.ref a :: rest) := by
  obtain ⟨d, rfl, h1, h2⟩ := d; exact o_go (fun t k => XT.ifnonnullYes X.here X.ex rfl rfl (X.dec d) rfl h1 h2 k) g
theorem o_ifnonnull_0 (X : St K Z own b mx ret rm n0 k j T h) {o : Int} (d : Brn b pc (.ifnonnull o) o pc' tg) (g : Go K n0 kc kj Q T pc' Ls (rest)) : Go K n0 kc kj Q T pc Ls (.null :: rest) := by
  obtain ⟨d, rfl, h1, h2⟩ := d; exact o_go (fun t k => XT.ifnonnullNo X.here X.ex rfl (X.dec d) rfl k) g
theorem o_ifnull_r (X : St K Z own b mx ret rm n0 k j T h) {a : Addr} {o : Int} (d : Brn b pc (.ifnull o) o pc' tg) (g : Go K n0 kc kj Q T pc' Ls (rest)) : Go K n0 kc kj Q T pc Ls (.ref a :: rest) := by
  obtain ⟨d, rfl, h1, h2⟩ := d; exact o_go (fun t k => XS.ifnullNo X.here X.ex rfl (X.dec d) rfl k) g
theorem o_ifnull_0 (X : St K Z own b mx ret rm n0 k j T h) {o : Int} (d : Brn b pc (.ifnull o) o pc' tg) (g : Go K n0 kc kj Q T tg Ls (rest)) : Go K n0 kc kj Q T pc Ls (.null :: rest) := by
  obtain ⟨d, rfl, h1, h2⟩ := d; exact o_go (fun t k => XS.ifnullYes X.here X.ex rfl rfl (X.dec d) rfl h1 h2 k) g
theorem o_leave (X : St K Z own b mx ret rm n0 k j T h) {v : Option Value} (hv : ret = none → v = none) (hk : k ≤ kc) (hj : j ≤ kj) (q : Q v h)
    (f : ∀ fs, (∀ (f : JFrame) (acts : List Action), f.method = K.m → f.locked = none → f.entered = [] → (doReturn K.e (T.setTop f) acts v).1 = T.setFrames fs) → Steps K.p.tables K.e K.below (T.setTop (mkF K.m pc Ls st)) (T.setFrames fs)) : Go K n0 kc kj Q T pc Ls (st) := by
  obtain ⟨locs, S, N⟩ := X.sd
  obtain ⟨fs, hr, hrun, hended, hW, hsame⟩ := S.leave (v := v) (fun q => hv (X.rt.symm.trans q)) X.nl
  have e : (T.setFrames fs).heap = h := X.hp
  exact ⟨_, _, f fs hr, hrun, hended, v, locs, rfl, ⟨e ▸ q, N⟩, ⟨v, rfl⟩, hW, hsame.mono hk hj⟩
theorem o_retI (X : St K Z own b mx (some .int) rm n0 k j T h) {z : Int32} (d : Isn b pc .ireturn 1 pc') (hk : k ≤ kc) (hj : j ≤ kj) (q : Q (some (.int z)) h) : Go K n0 kc kj Q T pc Ls (.int z :: rest) := by
  obtain ⟨_, S, _⟩ := X.sd
  exact o_leave X (fun q => nomatch q) hk hj q fun fs hr => retOut S X.ex X.rt rfl (Or.inl ⟨rfl, Or.inl rfl, z, rfl⟩) (X.dec d.1) hr
theorem o_retL (X : St K Z own b mx (some .long) rm n0 k j T h) {z : Int64} (d : Isn b pc .lreturn 1 pc') (hk : k ≤ kc) (hj : j ≤ kj) (q : Q (some (.long z)) h) : Go K n0 kc kj Q T pc Ls (.long z :: rest) := by
  obtain ⟨_, S, _⟩ := X.sd
  exact o_leave X (fun q => nomatch q) hk hj q fun fs hr => retOut S X.ex X.rt rfl (Or.inr (Or.inl ⟨rfl, rfl, z, rfl⟩)) (X.dec d.1) hr
theorem o_retA {t : FieldType} (X : St K Z own b mx (some t) rm n0 k j T h) {z : Value} (ht : t.isReference = true) (hn : narrow t z = z) (hz : z.isRef = true) (d : Isn b pc .areturn 1 pc') (hk : k ≤ kc) (hj : j ≤ kj) (q : Q (some z) h) : Go K n0 kc kj Q T pc Ls (z :: rest) := by
  obtain ⟨_, S, _⟩ := X.sd
  exact o_leave X (fun q => nomatch q) hk hj q fun fs hr => retOut S X.ex X.rt hn (Or.inr (Or.inr (Or.inr (Or.inr ⟨rfl, ht, hz⟩)))) (X.dec d.1) hr
theorem o_retN {t : FieldType} (X : St K Z own b mx (some t) rm n0 k j T h) {z : Int32} (ht : t = .boolean ∨ t = .byte ∨ t = .char ∨ t = .short) (d : Isn b pc .ireturn 1 pc') (hk : k ≤ kc) (hj : j ≤ kj) (q : Q (some (.int (nar t z))) h) : Go K n0 kc kj Q T pc Ls (.int z :: rest) := by
  obtain ⟨_, S, _⟩ := X.sd
  exact o_leave X (fun q => nomatch q) hk hj q fun fs hr => retN S X.ex X.rt ht (X.dec d.1) hr
theorem o_retZ (X : St K Z own b mx (some .boolean) rm n0 k j T h) {z : Int32} (d : Isn b pc .ireturn 1 pc') (hk : k ≤ kc) (hj : j ≤ kj) (q : Q (some (.int (z &&& 1))) h) : Go K n0 kc kj Q T pc Ls (.int z :: rest) := o_retN X (Or.inl rfl) d hk hj q
theorem o_ret0 (X : St K Z own b mx none rm n0 k j T h) (d : Isn b pc .return_ 1 pc') (hk : k ≤ kc) (hj : j ≤ kj) (q : Q none h) : Go K n0 kc kj Q T pc Ls ([]) := by
  obtain ⟨_, S, _⟩ := X.sd
  exact o_leave X (fun _ => rfl) hk hj q fun fs hr => S.returnOut X.ex X.rt (X.dec d.1) hr
theorem CtrW.intro {l : Launch} {y : MethodName} {ws : List Jvm.Cond} {as' : List Value} (pn : plainFor y = true) (ho : y.cls = own) (Ls : Array Slot) (hE : Jvm.Sym.laidSlots as' ++ List.replicate (mx - (Jvm.Sym.laidSlots as').length) .unset = Ls.toList)
    (body : ∀ (K : Cx) (T : State), K.meth.name = y.name → K.l = l → St K Z own b mx ret rm n0 0 0 T h → Go K n0 kc kj Q T 0 Ls []) : CtrW l Z y b mx ret ws rm kc kj as' h n0 Q := by
  refine MetFree.of_bodySF pn hisR ?_
  intro p e s m args below meth c s₁ Bd hml0 hP hK
  obtain ⟨rfl, hZ, hh⟩ := hP
  subst ho
  have X0 : Stand p l e rm s m as'.toArray below meth c s₁ [] 0 0 := Stand.of_body Bd
  have e0 : s₁.heap = h := by rw [← hh, Bd.state]; rfl
  obtain ⟨t, o, h1, h2, h3, h4⟩ := body (p, l, e, rm, s, m, as'.toArray, below, meth, c) s₁ (name_of_methodNamed Bd.named Bd.method).1 rfl ⟨Bd.exec, hZ, findClass_of_methodNamed Bd.named, Bd.bytes, hml0, Bd.returns, Bd.notSynchronized, rfl, e0, [], X0, Fr.nil n0⟩
  exact ⟨t, o, (XT.entry hE).trans h1, h2, h3, h4⟩
theorem o_callS (X : St K Z own b mx ret rm n0 k j T h) (W : Nat) {i : Nat} {y : MethodName} {by' : ByteArray} {my : Nat} {ry : Option FieldType} {rmy : Room} {as' : List Value} {Qy : Option Value → Heap → Prop} (d : Isn b pc (.invokestatic i) 3 pc')
    (w1 : (Jvm.Cond.methodLink own i y).before a0 Z = true) (w2 : (Jvm.Cond.static y).before a0 Z = true) (w3 : (Jvm.Cond.initialized y.cls).before a0 Z = true) (w4 : (Jvm.Cond.code y by' my ry).before a0 Z = true)
    (hy : y.cls ≠ "java/lang/invoke/MethodHandle" ∧ y.cls ≠ "java/lang/invoke/VarHandle") (C : Ctr K.l Z y by' my ry rmy as' h n0 Qy) (hn : ∀ sig, parseMethodDescriptor y.desc = some sig → as'.length = sig.parameters.length)
    (hs : st = as'.reverse ++ rest) (hsz : Ls.size = mx) (hW : (rest.map fun v => v.category).sum ≤ W) (hr : rmy.frames + 1 ≤ rm.frames ∧ W + (my + 11) + rmy.locals ≤ rm.locals ∧ k + rmy.cells ≤ rm.cells ∧ j + rmy.slots ≤ rm.slots)
    (g : ∀ T' h' v, Qy v h' → St K Z own b mx ret rm n0 (k + rmy.cells) (j + rmy.slots) T' h' → Go K n0 kc kj Q T' pc' Ls (v.toList ++ rest)) : Go K n0 kc kj Q T pc Ls (st) := by
  obtain ⟨d, rfl⟩ := d; obtain ⟨locs, S, N⟩ := X.sd; have hR := X.rmE
  obtain ⟨v, _, ⟨T', L', k', j'⟩, -, S', ⟨Lc, ⟨hQ, NL⟩, l1, l2, l3⟩, st'⟩ := Jvm.LawKit.callS S X.ex (y := y) X.ow (mvT X.wZ w1) (mvT X.wZ w2) (mvT X.wZ w3) (mvT X.wZ w4) hy (backOf (W := W) (Q := fun v h L => Qy v h ∧ Fr n0 L) C X.wZ w4 w3 (by rw [hR]; exact hr.1) (by rw [hR]; exact hr.2.1)) (g := mkF K.m pc Ls st) rfl (hsz.trans X.ml.symm) (argsL := as') (rest := rest) hn hs (by show 2 * 0 + _ ≤ _; omega) (X.dec d) (fun _ _ => ⟨rfl, X.hp, by rw [hR]; exact hr.2.2.1, by rw [hR]; exact hr.2.2.2⟩)
  dsimp only [Pt.U, Pt.locs, Pt.cells, Pt.slots] at S' l1 l2 l3 st' hQ
  subst l1 l2 l3
  exact o_go (fun t k => st' t k) (g T' T'.heap v hQ (X.mk' S' (Fr.app N NL) rfl))
theorem o_callV (X : St K Z own b mx ret rm n0 k j T h) (W : Nat) {i : Nat} {y z : MethodName} {C' : String} {by' : ByteArray} {my : Nat} {ry : Option FieldType} {rmy : Room} {a : Addr} {as' : List Value} {Qy : Option Value → Heap → Prop} (d : Isn b pc (.invokevirtual i) 3 pc')
    (w1 : (Jvm.Cond.methodLink own i y).before a0 Z = true) (w2 : (Jvm.Cond.declares y).before a0 Z = true) (w3 : (Jvm.Cond.selects y.cls y y).before a0 Z = true) (w5 : (Jvm.Cond.selects C' y z).before a0 Z = true) (w6 : (Jvm.Cond.instanceMethod z).before a0 Z = true)
    (hy : y.cls ≠ "java/lang/invoke/MethodHandle" ∧ y.cls ≠ "java/lang/invoke/VarHandle") (w4 : (Jvm.Cond.code z by' my ry).before a0 Z = true) (w7 : (Jvm.Cond.initialized z.cls).before a0 Z = true) (C : Ctr K.l Z z by' my ry rmy (.ref a :: as') h n0 Qy) (E : Exa Z h a C') (hn : ∀ sig, parseMethodDescriptor y.desc = some sig → as'.length = sig.parameters.length)
    (hs : st = as'.reverse ++ .ref a :: rest) (hsz : Ls.size = mx) (hW : (rest.map fun v => v.category).sum ≤ W) (hr : rmy.frames + 1 ≤ rm.frames ∧ W + (my + 11) + rmy.locals ≤ rm.locals ∧ k + rmy.cells ≤ rm.cells ∧ j + rmy.slots ≤ rm.slots)
    (g : ∀ T' h' v, Qy v h' → St K Z own b mx ret rm n0 (k + rmy.cells) (j + rmy.slots) T' h' → Go K n0 kc kj Q T' pc' Ls (v.toList ++ rest)) : Go K n0 kc kj Q T pc Ls (st) := by
  obtain ⟨d, rfl⟩ := d; obtain ⟨locs, S, N⟩ := X.sd; have hR := X.rmE
  obtain ⟨cq, kq, q1, q2, q3⟩ := isOf (s := K.s) X.wZ X.hp E
  obtain ⟨v, _, ⟨T', L', k', j'⟩, -, S', ⟨Lc, ⟨hQ, NL⟩, l1, l2, l3⟩, st'⟩ := S.virtualBack X.ex (y := y) (z := z) X.ow (mvT X.wZ w1) (mvT X.wZ w2) (notFace_of_selects (args := #[]) (mvT X.wZ w3)) (mvT X.wZ w5) (mvT X.wZ w6) hy (backOf (W := W) (Q := fun v h L => Qy v h ∧ Fr n0 L) C X.wZ w4 w7 (by rw [hR]; exact hr.1) (by rw [hR]; exact hr.2.1)) q1 q3 (g := mkF K.m pc Ls st) rfl (hsz.trans X.ml.symm) (Steps.refl _) (argsL := as') (rest := rest) hn hs (by show 2 * 0 + _ ≤ _; omega) (X.dec d) (fun _ _ => ⟨rfl, X.hp, by rw [hR]; exact hr.2.2.1, by rw [hR]; exact hr.2.2.2⟩)
  dsimp only [Pt.U, Pt.locs, Pt.cells, Pt.slots] at S' l1 l2 l3 st' hQ
  subst l1 l2 l3
  exact o_go (fun t k => st'.trans k) (g T' T'.heap v hQ (X.mk' S' (Fr.app N NL) rfl))
theorem o_callN (X : St K Z own b mx ret rm n0 k j T h) (W : Nat) {i : Nat} {y : MethodName} {by' : ByteArray} {my : Nat} {rmy : Room} {a : Addr} {as' : List Value} {Qy : Option Value → Heap → Prop} (d : Isn b pc (.invokespecial i) 3 pc') (hy1 : y.name = "<init>")
    (w1 : (Jvm.Cond.methodLink own i y).before a0 Z = true) (w2 : (Jvm.Cond.instanceMethod y).before a0 Z = true) (w4 : (Jvm.Cond.code y by' my none).before a0 Z = true) (w3 : (Jvm.Cond.initialized y.cls).before a0 Z = true)
    (hy : y.cls ≠ "java/lang/invoke/MethodHandle" ∧ y.cls ≠ "java/lang/invoke/VarHandle") (C : Ctr K.l Z y by' my none rmy (.ref a :: as') h n0 Qy) (hn : ∀ sig, parseMethodDescriptor y.desc = some sig → as'.length = sig.parameters.length)
    (hs : st = as'.reverse ++ .ref a :: rest) (hsz : Ls.size = mx) (hW : (rest.map fun v => v.category).sum ≤ W) (hr : rmy.frames + 1 ≤ rm.frames ∧ W + (my + 11) + rmy.locals ≤ rm.locals ∧ k + rmy.cells ≤ rm.cells ∧ j + rmy.slots ≤ rm.slots)
    (g : ∀ T' h' v, Qy v h' → St K Z own b mx ret rm n0 (k + rmy.cells) (j + rmy.slots) T' h' → Go K n0 kc kj Q T' pc' Ls (v.toList ++ rest)) : Go K n0 kc kj Q T pc Ls (st) := by
  obtain ⟨d, rfl⟩ := d; obtain ⟨locs, S, N⟩ := X.sd; have hR := X.rmE
  obtain ⟨v, _, ⟨T', L', k', j'⟩, -, S', ⟨Lc, ⟨hQ, NL⟩, l1, l2, l3⟩, st'⟩ := S.specialBack X.ex (y := y) hy1 X.ow (mvT X.wZ w1) (mvT X.wZ w2) (mvT X.wZ w4) hy (backOf (W := W) (Q := fun v h L => Qy v h ∧ Fr n0 L) C X.wZ w4 w3 (by rw [hR]; exact hr.1) (by rw [hR]; exact hr.2.1)) (g := mkF K.m pc Ls st) rfl (hsz.trans X.ml.symm) (Steps.refl _) (a := a) (argsL := as') (rest := rest) hn hs (by show 2 * 0 + _ ≤ _; omega) (X.dec d) (fun _ _ => ⟨rfl, X.hp, by rw [hR]; exact hr.2.2.1, by rw [hR]; exact hr.2.2.2⟩)
  dsimp only [Pt.U, Pt.locs, Pt.cells, Pt.slots] at S' l1 l2 l3 st' hQ
  subst l1 l2 l3
  exact o_go (fun t k => st'.trans k) (g T' T'.heap v hQ (X.mk' S' (Fr.app N NL) rfl))
theorem o_initO (X : St K Z own b mx ret rm n0 k j T h) (W : Nat) {i : Nat} {a : Addr} (d : Isn b pc (.invokespecial i) 3 pc') (w1 : (Jvm.Cond.methodLink own i Lib.objectInit).before a0 Z = true) (w2 : (Jvm.Cond.instanceMethod Lib.objectInit).before a0 Z = true) (w3 : (Jvm.Cond.code Lib.objectInit ⟨#[0xb1]⟩ 1 none).before a0 Z = true)
    (hsz : Ls.size = mx) (hW : (rest.map fun v => v.category).sum ≤ W) (hr : 1 ≤ rm.frames ∧ W + 12 ≤ rm.locals) (g : ∀ T', St K Z own b mx ret rm n0 k j T' h → Go K n0 kc kj Q T' pc' Ls (rest)) : Go K n0 kc kj Q T pc Ls (.ref a :: rest) := by
  obtain ⟨d, rfl⟩ := d; obtain ⟨locs, S, N⟩ := X.sd; have hR := X.rmE
  obtain ⟨T', S', e', st'⟩ := initO S X.ex X.wZ X.ow w1 w2 w3 X.hp (g := mkF K.m pc Ls (.ref a :: rest)) rfl (hsz.trans X.ml.symm) rfl (X.dec d) (by rw [hR]; exact hr.1) (W := W) (by show 2 * 0 + _ ≤ _; omega) (by rw [hR]; exact hr.2)
  exact o_go (fun t k => st' t k) (g T' (X.mk' S' N e'))
theorem o_getF (X : St K Z own b mx ret rm n0 k j T h) {i : Nat} {O n dd : String} {a : Addr} {v : Value} (d : Isn b pc (.getfield i) 3 pc') (wd : (Jvm.Cond.fieldLink own i O n dd).before a0 Z = true) (F : Fld Z h a O n dd v)
    (g : ∀ T', St K Z own b mx ret rm n0 k j T' h → Go K n0 kc kj Q T' pc' Ls (v :: rest)) : Go K n0 kc kj Q T pc Ls (.ref a :: rest) := by
  obtain ⟨d, rfl⟩ := d; obtain ⟨locs, S, N⟩ := X.sd
  obtain ⟨T', S', e', st'⟩ := getF S X.ex X.wZ X.ow (host := "") (Or.inl wd) Via.refl X.hp F (g := mkF K.m pc Ls (.ref a :: rest)) rfl rfl (X.dec d)
  exact o_go (fun t k => st' t k) (g T' (X.mk' S' N e'))
theorem o_putF (X : St K Z own b mx ret rm n0 k j T h) {i kk : Nat} {O n dd C' : String} {ty : FieldType} {a : Addr} {v ov : Value} (d : Isn b pc (.putfield i) 3 pc') (wd : (Jvm.Cond.fieldLink own i O n dd).before a0 Z = true) (F : Fld Z h a O n dd ov) (E : Exa Z h a C')
    (Lf : (Jvm.Cond.lays C' O n dd).before a0 Z = true ∨ ((Jvm.Cond.laysFinal C' O n dd).before a0 Z = true ∧ own = O ∧ K.meth.name = "<init>")) (wi : (Jvm.Cond.instantiable C' kk).before a0 Z = true) (hty : parseFieldDescriptor dd = some ty) (hn : narrow ty v = v) (hf : fits ty v = true) (ha : n0 ≤ a)
    (g : ∀ T' h', St K Z own b mx ret rm n0 k j T' h' → Wr h h' a (Jvm.RoadKit.slotOf Z O n dd) v → Go K n0 kc kj Q T' pc' Ls (rest)) : Go K n0 kc kj Q T pc Ls (v :: .ref a :: rest) := by
  obtain ⟨d, rfl⟩ := d; obtain ⟨locs, S, N⟩ := X.sd
  obtain ⟨T', h', S', e', W', st'⟩ := putF S X.ex X.wZ X.ow (host := "") (Or.inl wd) Via.refl X.hp F E Lf wi hty hn hf (g := mkF K.m pc Ls (v :: .ref a :: rest)) rfl rfl (X.dec d)
  exact o_go (fun t k => st' t k) (g T' h' (X.mk' S' (Fr.snoc S' N ha) e') W')
theorem o_new (X : St K Z own b mx ret rm n0 k j T h) {i nn : Nat} {C' : String} (d : Isn b pc (.new i) 3 pc') (w1 : (Jvm.Cond.classLink own i C').before a0 Z = true) (w2 : (Jvm.Cond.instantiable C' nn).before a0 Z = true) (w3 : (Jvm.Cond.initialized C').before a0 Z = true) (hr : k + 1 ≤ rm.cells ∧ j + nn ≤ rm.slots)
    (g : ∀ T' h' a, a = h.size → St K Z own b mx ret rm n0 (k + 1) (j + nn) T' h' → Ext h h' → Exa Z h' a C' → (∀ {O nm dd : String} {ty : FieldType}, Laid Z a0 C' O nm dd → parseFieldDescriptor dd = some ty → Fld Z h' a O nm dd (defaultValue ty)) → Go K n0 kc kj Q T' pc' Ls (.ref a :: st)) : Go K n0 kc kj Q T pc Ls (st) := by
  obtain ⟨d, rfl⟩ := d; obtain ⟨locs, S, N⟩ := X.sd; have hR := X.rmE
  obtain ⟨T', h', S', e', E', A', D', -, st'⟩ := newO S X.ex X.wZ X.ow w1 w2 w3 X.hp (g := mkF K.m pc Ls st) rfl (X.dec d) (by rw [hR]; exact hr.1) (by rw [hR]; exact hr.2)
  exact o_go (fun t k => st' t k) (g T' h' h.size rfl (X.mk' S' N e') E' A' D')
/-- an array, by all its values -/
def AL (Z : State) (h : Heap) (a : Addr) (ty : FieldType) (vs : List Value) : Prop := ∃ c : Cell, Arr Z h a c ty ∧ c.slots = vs.toArray ∧ vs.length < 2 ^ 31
theorem AL.lt {a : Addr} {ty : FieldType} {vs : List Value} (A : AL Z h a ty vs) : a < h.size := by obtain ⟨c, q, -⟩ := A; exact q.lt
theorem AL.ext {h' : Heap} {a : Addr} {ty : FieldType} {vs : List Value} (A : AL Z h a ty vs) (E : Ext h h') : AL Z h' a ty vs := by obtain ⟨c, q, r⟩ := A; exact ⟨c, q.ext E, r⟩
theorem AL.other {h' : Heap} {a a' : Addr} {sl : Nat} {v : Value} {ty : FieldType} {vs : List Value} (A : AL Z h a ty vs) (W : Wr h h' a' sl v) (ne : a ≠ a') : AL Z h' a ty vs := by obtain ⟨c, q, r⟩ := A; exact ⟨c, q.other W ne, r⟩
theorem AL.keep {h' : Heap} {a : Addr} {ws : List Addr} {ty : FieldType} {vs : List Value} (A : AL Z h a ty vs) (Kp : Keep h h' ws) (q : a ∉ ws) : AL Z h' a ty vs := by obtain ⟨c, A1, r⟩ := A; exact ⟨c, ⟨Kp.2.1 a c A1.1 q, A1.2⟩, r⟩
theorem AL.set {h' : Heap} {a : Addr} {sl : Nat} {v : Value} {ty : FieldType} {vs : List Value} (A : AL Z h a ty vs) (W : Wr h h' a sl v) : AL Z h' a ty (vs.set sl v) := by
  obtain ⟨c, q, r, s⟩ := A
  exact ⟨_, q.same W, by simp [Cell.setSlot, r], by simpa using s⟩
theorem AL.inb {a : Addr} {ty : FieldType} {vs : List Value} {i : Int32} {c : Cell} (r : c.slots = vs.toArray) (hi : ¬ i < 0) (hl : i.toNatClampNeg < vs.length) : ¬ (i < 0 ∨ c.slots.size ≤ i.toNatClampNeg) := by
  rw [r]; rintro (q | q)
  · exact hi q
  · simp at q; omega
theorem o_arraylength (X : St K Z own b mx ret rm n0 k j T h) {a : Addr} {ty : FieldType} {vs : List Value} (n : Int32) (d : Isn b pc .arraylength 1 pc') (A : AL Z h a ty vs) (hn : vs.length.toInt32 = n) (g : Go K n0 kc kj Q T pc' Ls (.int n :: rest)) : Go K n0 kc kj Q T pc Ls (.ref a :: rest) := by
  obtain ⟨d, rfl⟩ := d; obtain ⟨locs, S, N⟩ := X.sd; obtain ⟨c, q, r, s⟩ := A
  have e : c.slots.size.toInt32 = n := by rw [r, ← hn]; simp
  exact o_go (fun t k => S.arraylength X.ex (cell := c) (by rw [X.hp]; exact q.1) (State.isArrayOf_alike X.wZ.alike q.2.1) (g := mkF K.m pc Ls (.ref a :: rest)) rfl (rest := rest) rfl (X.dec d) t (by rw [e]; exact k)) g
theorem o_iaload (X : St K Z own b mx ret rm n0 k j T h) {a : Addr} {vs : List Value} {i : Int32} {v : Int32} (d : Isn b pc .iaload 1 pc') (A : AL Z h a .int vs) (hi : ¬ i < 0) (hv : vs[i.toNatClampNeg]? = some (.int v)) (g : Go K n0 kc kj Q T pc' Ls (.int v :: rest)) : Go K n0 kc kj Q T pc Ls (.int i :: .ref a :: rest) := by
  obtain ⟨d, rfl⟩ := d; obtain ⟨locs, S, N⟩ := X.sd; obtain ⟨c, q, r, s⟩ := A
  have hl : i.toNatClampNeg < vs.length := (List.getElem?_eq_some_iff.mp hv).1
  exact o_go (fun t k => S.iaload X.ex (j := i) (v := .int v) (by rw [X.hp]; exact q.1) (State.isArrayOf_alike X.wZ.alike q.2.1) q.2.2 (AL.inb (a := a) (ty := .int) r hi hl) (by rw [r]; simpa using hv) (g := mkF K.m pc Ls (.int i :: .ref a :: rest)) rfl rfl (X.dec d) t k) g
theorem o_laload (X : St K Z own b mx ret rm n0 k j T h) {a : Addr} {vs : List Value} {i : Int32} {v : Int64} (d : Isn b pc .laload 1 pc') (A : AL Z h a .long vs) (hi : ¬ i < 0) (hv : vs[i.toNatClampNeg]? = some (.long v)) (g : Go K n0 kc kj Q T pc' Ls (.long v :: rest)) : Go K n0 kc kj Q T pc Ls (.int i :: .ref a :: rest) := by
  obtain ⟨d, rfl⟩ := d; obtain ⟨locs, S, N⟩ := X.sd; obtain ⟨c, q, r, s⟩ := A
  have hl : i.toNatClampNeg < vs.length := (List.getElem?_eq_some_iff.mp hv).1
  exact o_go (fun t k => S.laload X.ex (j := i) (v := .long v) (by rw [X.hp]; exact q.1) (State.isArrayOf_alike X.wZ.alike q.2.1) q.2.2 (AL.inb (a := a) (ty := .long) r hi hl) (by rw [r]; simpa using hv) (g := mkF K.m pc Ls (.int i :: .ref a :: rest)) rfl rfl (X.dec d) t k) g
theorem o_caload (X : St K Z own b mx ret rm n0 k j T h) {a : Addr} {vs : List Value} {i : Int32} {v : Int32} (d : Isn b pc .caload 1 pc') (A : AL Z h a .char vs) (hi : ¬ i < 0) (hv : vs[i.toNatClampNeg]? = some (.int v)) (g : Go K n0 kc kj Q T pc' Ls (.int v :: rest)) : Go K n0 kc kj Q T pc Ls (.int i :: .ref a :: rest) := by
  obtain ⟨d, rfl⟩ := d; obtain ⟨locs, S, N⟩ := X.sd; obtain ⟨c, q, r, s⟩ := A
  have hl : i.toNatClampNeg < vs.length := (List.getElem?_eq_some_iff.mp hv).1
  exact o_go (fun t k => S.caload X.ex (j := i) (v := .int v) (by rw [X.hp]; exact q.1) (State.isArrayOf_alike X.wZ.alike q.2.1) q.2.2 (AL.inb (a := a) (ty := .char) r hi hl) (by rw [r]; simpa using hv) (g := mkF K.m pc Ls (.int i :: .ref a :: rest)) rfl rfl (X.dec d) t k) g
theorem o_baload (X : St K Z own b mx ret rm n0 k j T h) {a : Addr} {vs : List Value} {i : Int32} {v : Int32} (d : Isn b pc .baload 1 pc') (A : AL Z h a .byte vs) (hi : ¬ i < 0) (hv : vs[i.toNatClampNeg]? = some (.int v)) (g : Go K n0 kc kj Q T pc' Ls (.int v :: rest)) : Go K n0 kc kj Q T pc Ls (.int i :: .ref a :: rest) := by
  obtain ⟨d, rfl⟩ := d; obtain ⟨locs, S, N⟩ := X.sd; obtain ⟨c, q, r, s⟩ := A
  have hl : i.toNatClampNeg < vs.length := (List.getElem?_eq_some_iff.mp hv).1
  exact o_go (fun t k => S.baloadBytes X.ex (j := i) (v := .int v) (by rw [X.hp]; exact q.1) (State.isArrayOf_alike X.wZ.alike q.2.1) q.2.2 (AL.inb (a := a) (ty := .byte) r hi hl) (by rw [r]; simpa using hv) (g := mkF K.m pc Ls (.int i :: .ref a :: rest)) rfl rfl (X.dec d) t k) g
theorem o_iastore (X : St K Z own b mx ret rm n0 k j T h) {a : Addr} {vs vs' : List Value} {i : Int32} {v : Int32} (d : Isn b pc .iastore 1 pc') (A : AL Z h a .int vs) (hi : ¬ i < 0) (hl : i.toNatClampNeg < vs.length) (ha : n0 ≤ a) (hv : vs.set i.toNatClampNeg (.int v) = vs')
    (g : ∀ T' h', St K Z own b mx ret rm n0 k j T' h' → Wr h h' a i.toNatClampNeg (.int v) → AL Z h' a .int vs' → Go K n0 kc kj Q T' pc' Ls (rest)) : Go K n0 kc kj Q T pc Ls (.int v :: .int i :: .ref a :: rest) := by
  obtain ⟨d, rfl⟩ := d; obtain ⟨locs, S, N⟩ := X.sd; obtain ⟨c, q, r, s⟩ := A
  obtain ⟨T', h', S', e', W', st'⟩ := stI S X.ex X.wZ X.hp q (j := i) (x := v) (AL.inb (a := a) (ty := .int) r hi hl) (g := mkF K.m pc Ls (.int v :: .int i :: .ref a :: rest)) rfl rfl (X.dec d)
  exact o_go (fun t k => st' t k) (g T' h' (X.mk' S' (Fr.snoc S' N ha) e') W' (hv ▸ AL.set ⟨c, q, r, s⟩ W'))
theorem o_lastore (X : St K Z own b mx ret rm n0 k j T h) {a : Addr} {vs vs' : List Value} {i : Int32} {v : Int64} (d : Isn b pc .lastore 1 pc') (A : AL Z h a .long vs) (hi : ¬ i < 0) (hl : i.toNatClampNeg < vs.length) (ha : n0 ≤ a) (hv : vs.set i.toNatClampNeg (.long v) = vs')
    (g : ∀ T' h', St K Z own b mx ret rm n0 k j T' h' → Wr h h' a i.toNatClampNeg (.long v) → AL Z h' a .long vs' → Go K n0 kc kj Q T' pc' Ls (rest)) : Go K n0 kc kj Q T pc Ls (.long v :: .int i :: .ref a :: rest) := by
  obtain ⟨d, rfl⟩ := d; obtain ⟨locs, S, N⟩ := X.sd; obtain ⟨c, q, r, s⟩ := A
  obtain ⟨T', h', S', e', W', st'⟩ := stJ S X.ex X.wZ X.hp q (j := i) (x := v) (AL.inb (a := a) (ty := .long) r hi hl) (g := mkF K.m pc Ls (.long v :: .int i :: .ref a :: rest)) rfl rfl (X.dec d)
  exact o_go (fun t k => st' t k) (g T' h' (X.mk' S' (Fr.snoc S' N ha) e') W' (hv ▸ AL.set ⟨c, q, r, s⟩ W'))
theorem o_castore (X : St K Z own b mx ret rm n0 k j T h) {a : Addr} {vs vs' : List Value} {i : Int32} {v : Int32} (d : Isn b pc .castore 1 pc') (A : AL Z h a .char vs) (hi : ¬ i < 0) (hl : i.toNatClampNeg < vs.length) (ha : n0 ≤ a) (hv : vs.set i.toNatClampNeg (.int (nar .char v)) = vs')
    (g : ∀ T' h', St K Z own b mx ret rm n0 k j T' h' → Wr h h' a i.toNatClampNeg (.int (nar .char v)) → AL Z h' a .char vs' → Go K n0 kc kj Q T' pc' Ls (rest)) : Go K n0 kc kj Q T pc Ls (.int v :: .int i :: .ref a :: rest) := by
  obtain ⟨d, rfl⟩ := d; obtain ⟨locs, S, N⟩ := X.sd; obtain ⟨c, q, r, s⟩ := A
  obtain ⟨T', h', S', e', W', st'⟩ := stC S X.ex X.wZ X.hp q (j := i) (x := v) (AL.inb (a := a) (ty := .char) r hi hl) (g := mkF K.m pc Ls (.int v :: .int i :: .ref a :: rest)) rfl rfl (X.dec d)
  exact o_go (fun t k => st' t k) (g T' h' (X.mk' S' (Fr.snoc S' N ha) e') W' (hv ▸ AL.set ⟨c, q, r, s⟩ W'))
theorem o_bastore (X : St K Z own b mx ret rm n0 k j T h) {a : Addr} {vs vs' : List Value} {i : Int32} {v : Int32} (d : Isn b pc .bastore 1 pc') (A : AL Z h a .byte vs) (hi : ¬ i < 0) (hl : i.toNatClampNeg < vs.length) (ha : n0 ≤ a) (hv : vs.set i.toNatClampNeg (.int (nar .byte v)) = vs')
    (g : ∀ T' h', St K Z own b mx ret rm n0 k j T' h' → Wr h h' a i.toNatClampNeg (.int (nar .byte v)) → AL Z h' a .byte vs' → Go K n0 kc kj Q T' pc' Ls (rest)) : Go K n0 kc kj Q T pc Ls (.int v :: .int i :: .ref a :: rest) := by
  obtain ⟨d, rfl⟩ := d; obtain ⟨locs, S, N⟩ := X.sd; obtain ⟨c, q, r, s⟩ := A
  obtain ⟨T', h', S', e', W', st'⟩ := stB S X.ex X.wZ X.hp q (j := i) (x := v) (AL.inb (a := a) (ty := .byte) r hi hl) (g := mkF K.m pc Ls (.int v :: .int i :: .ref a :: rest)) rfl rfl (X.dec d)
  exact o_go (fun t k => st' t k) (g T' h' (X.mk' S' (Fr.snoc S' N ha) e') W' (hv ▸ AL.set ⟨c, q, r, s⟩ W'))
theorem o_newarray (X : St K Z own b mx ret rm n0 k j T h) (cap : Nat) {aty : ArrayType} {n : Int32} {vs : List Value} (d : Isn b pc (.newarray aty) 2 pc') (wd : (Jvm.Cond.arrayClass (newarray.typeOf aty)).before a0 Z = true) (hn : ¬ n < 0) (hcap : n.toNatClampNeg ≤ cap) (hvs : List.replicate n.toNatClampNeg (defaultValue (newarray.typeOf aty)) = vs) (hr : cap * 8 ≤ 536870912 ∧ k + 1 ≤ rm.cells ∧ j + cap ≤ rm.slots)
    (g : ∀ T' h' a, a = h.size → St K Z own b mx ret rm n0 (k + 1) (j + cap) T' h' → Ext h h' → AL Z h' a (newarray.typeOf aty) vs → Go K n0 kc kj Q T' pc' Ls (.ref a :: rest)) : Go K n0 kc kj Q T pc Ls (.int n :: rest) := by
  obtain ⟨d, rfl⟩ := d; obtain ⟨locs, S, N⟩ := X.sd; have hR := X.rmE
  obtain ⟨T', h', cA, S', e', E', A', st'⟩ := newP S X.ex X.wZ wd X.hp (g := mkF K.m pc Ls (.int n :: rest)) rfl (X.dec d) rfl hn hcap hr.1 (by rw [hR]; exact hr.2.1) (by rw [hR]; exact hr.2.2)
  refine o_go (fun t k => st' t k) (g T' h' h.size rfl (X.mk' S' N e') E' ⟨_, A', ?_, ?_⟩)
  · rw [← hvs]; simp [newA]
  · rw [← hvs]; simp; have := (back32 hn).2; omega
/-- the array at a takes objects of class C -/
def AO (Z : State) (h : Heap) (a : Addr) (C : String) : Prop := ∃ c : Cell, h[a]? = some c ∧ Ovr Z c.cls C
theorem AO.ext {h' : Heap} {a : Addr} {C : String} (A : AO Z h a C) (E : Ext h h') : AO Z h' a C := by obtain ⟨c, q, r⟩ := A; exact ⟨c, E.2 _ _ q, r⟩
theorem AO.wr {h' : Heap} {a a' : Addr} {C : String} {sl : Nat} {v : Value} (A : AO Z h a C) (W : Wr h h' a' sl v) : AO Z h' a C := by
  obtain ⟨c, q, r⟩ := A; obtain ⟨c', q1, q2, -⟩ := wr_at W q; exact ⟨c', q1, by rw [q2]; exact r⟩
theorem o_anewarray (X : St K Z own b mx ret rm n0 k j T h) (cap : Nat) {i : Nat} {C' : String} {n : Int32} {vs : List Value} (d : Isn b pc (.anewarray i) 3 pc') (w1 : (Jvm.Cond.classLink own i C').before a0 Z = true) (w2 : (Jvm.Cond.arrayOver (.object C')).before a0 Z = true) (hn : ¬ n < 0) (hcap : n.toNatClampNeg ≤ cap) (hvs : List.replicate n.toNatClampNeg Value.null = vs) (hr : cap * 8 ≤ 536870912 ∧ k + 1 ≤ rm.cells ∧ j + cap ≤ rm.slots)
    (g : ∀ T' h' a, a = h.size → St K Z own b mx ret rm n0 (k + 1) (j + cap) T' h' → Ext h h' → AL Z h' a (.object C') vs → AO Z h' a C' → Go K n0 kc kj Q T' pc' Ls (.ref a :: rest)) : Go K n0 kc kj Q T pc Ls (.int n :: rest) := by
  obtain ⟨d, rfl⟩ := d; obtain ⟨locs, S, N⟩ := X.sd; have hR := X.rmE
  obtain ⟨T', h', cA, S', e', E', A', O', st'⟩ := newR S X.ex X.wZ X.ow w1 w2 X.hp (g := mkF K.m pc Ls (.int n :: rest)) rfl (X.dec d) rfl hn hcap hr.1 (by rw [hR]; exact hr.2.1) (by rw [hR]; exact hr.2.2)
  refine o_go (fun t k => st' t k) (g T' h' h.size rfl (X.mk' S' N e') E' ⟨_, A', ?_, ?_⟩ ⟨_, A'.1, O'⟩)
  · rw [← hvs]; simp [newA, defaultValue]
  · rw [← hvs]; simp; have := (back32 hn).2; omega
theorem o_aaload (X : St K Z own b mx ret rm n0 k j T h) {a : Addr} {ty : FieldType} {vs : List Value} {i : Int32} {v : Value} (hty : ty.isReference = true) (d : Isn b pc .aaload 1 pc') (A : AL Z h a ty vs) (hi : ¬ i < 0) (hv : vs[i.toNatClampNeg]? = some v) (g : Go K n0 kc kj Q T pc' Ls (v :: rest)) : Go K n0 kc kj Q T pc Ls (.int i :: .ref a :: rest) := by
  obtain ⟨d, rfl⟩ := d; obtain ⟨locs, S, N⟩ := X.sd; obtain ⟨c, q, r, s⟩ := A
  have hl : i.toNatClampNeg < vs.length := (List.getElem?_eq_some_iff.mp hv).1
  exact o_go (fun t k => S.aaload X.ex (j := i) (v := v) (by rw [X.hp]; exact q.1) (State.isArrayOf_alike X.wZ.alike q.2.1) hty q.2.2 (AL.inb (a := a) (ty := ty) r hi hl) (by rw [r]; simpa using hv) (g := mkF K.m pc Ls (.int i :: .ref a :: rest)) rfl rfl (X.dec d) t k) g
theorem o_aastore (X : St K Z own b mx ret rm n0 k j T h) {a y : Addr} {C' : String} {vs vs' : List Value} {i : Int32} (d : Isn b pc .aastore 1 pc') (A : AL Z h a (.object C') vs) (O : AO Z h a C') (I : Jvm.RoadKit.Ins Z h y C' true) (hi : ¬ i < 0) (hl : i.toNatClampNeg < vs.length) (ha : n0 ≤ a) (hv : vs.set i.toNatClampNeg (.ref y) = vs')
    (g : ∀ T' h', St K Z own b mx ret rm n0 k j T' h' → Wr h h' a i.toNatClampNeg (.ref y) → AL Z h' a (.object C') vs' → Go K n0 kc kj Q T' pc' Ls (rest)) : Go K n0 kc kj Q T pc Ls (.ref y :: .int i :: .ref a :: rest) := by
  obtain ⟨d, rfl⟩ := d; obtain ⟨locs, S, N⟩ := X.sd; obtain ⟨c, q, r, s⟩ := A
  obtain ⟨c2, q2, r2⟩ := O
  have hO : Ovr Z c.cls C' := by cases q.1.symm.trans q2; exact r2
  obtain ⟨T', h', S', e', W', st'⟩ := stR S X.ex X.wZ X.hp q (j := i) (v := .ref y) (AL.inb (a := a) (ty := .object C') r hi hl) rfl (Sto.of q hO I) (g := mkF K.m pc Ls (.ref y :: .int i :: .ref a :: rest)) rfl rfl (X.dec d)
  exact o_go (fun t k => st' t k) (g T' h' (X.mk' S' (Fr.snoc S' N ha) e') W' (hv ▸ AL.set ⟨c, q, r, s⟩ W'))
/-- an array of ints, booleans, bytes or chars, by a function of the place -/
def AN (Z : State) (h : Heap) (a : Addr) (ty : FieldType) (n : Nat) (f : Nat → Int32) : Prop := ∃ c : Cell, Arr Z h a c ty ∧ c.slots.size = n ∧ n < 2 ^ 31 ∧ ∀ i, i < n → c.slots[i]? = some (.int (f i))
theorem AN.lt {a : Addr} {ty : FieldType} {n : Nat} {f : Nat → Int32} (A : AN Z h a ty n f) : a < h.size := by obtain ⟨c, q, -⟩ := A; exact q.lt
theorem AN.ext {h' : Heap} {a : Addr} {ty : FieldType} {n : Nat} {f : Nat → Int32} (A : AN Z h a ty n f) (E : Ext h h') : AN Z h' a ty n f := by obtain ⟨c, q, r⟩ := A; exact ⟨c, q.ext E, r⟩
theorem AN.other {h' : Heap} {a a' : Addr} {sl : Nat} {v : Value} {ty : FieldType} {n : Nat} {f : Nat → Int32} (A : AN Z h a ty n f) (W : Wr h h' a' sl v) (ne : a ≠ a') : AN Z h' a ty n f := by obtain ⟨c, q, r⟩ := A; exact ⟨c, q.other W ne, r⟩
theorem AN.keep {h' : Heap} {a : Addr} {ws : List Addr} {ty : FieldType} {n : Nat} {f : Nat → Int32} (A : AN Z h a ty n f) (Kp : Keep h h' ws) (q : a ∉ ws) : AN Z h' a ty n f := by obtain ⟨c, A1, r⟩ := A; exact ⟨c, ⟨Kp.2.1 a c A1.1 q, A1.2⟩, r⟩
theorem AN.set {h' : Heap} {a : Addr} {sl : Nat} {v : Int32} {ty : FieldType} {n : Nat} {f : Nat → Int32} (A : AN Z h a ty n f) (W : Wr h h' a sl (.int v)) : AN Z h' a ty n (fun i => if i = sl then v else f i) := by
  obtain ⟨c, q, r, s, t⟩ := A
  refine ⟨_, q.same W, by simpa [Cell.setSlot] using r, s, fun i hi => ?_⟩
  have e := t i hi
  by_cases p : i = sl
  · subst p; have : i < c.slots.size := r ▸ hi
    simp [Cell.setSlot, this]
  · have p' : ¬ sl = i := fun q => p q.symm
    simp [Cell.setSlot, Array.getElem?_setIfInBounds, p, p', e]
theorem AN.inb {n : Nat} {i : Int32} {c : Cell} (r : c.slots.size = n) (hi : ¬ i < 0) (hl : i.toNatClampNeg < n) : ¬ (i < 0 ∨ c.slots.size ≤ i.toNatClampNeg) := by
  rw [r]; rintro (q | q)
  · exact hi q
  · omega
theorem o_alenN (X : St K Z own b mx ret rm n0 k j T h) {a : Addr} {ty : FieldType} {n : Nat} {f : Nat → Int32} (z : Int32) (d : Isn b pc .arraylength 1 pc') (A : AN Z h a ty n f) (hn : n.toInt32 = z) (g : Go K n0 kc kj Q T pc' Ls (.int z :: rest)) : Go K n0 kc kj Q T pc Ls (.ref a :: rest) := by
  obtain ⟨d, rfl⟩ := d; obtain ⟨locs, S, N⟩ := X.sd; obtain ⟨c, q, r, s⟩ := A
  have e : c.slots.size.toInt32 = z := by rw [r, ← hn]
  exact o_go (fun t k => S.arraylength X.ex (cell := c) (by rw [X.hp]; exact q.1) (State.isArrayOf_alike X.wZ.alike q.2.1) (g := mkF K.m pc Ls (.ref a :: rest)) rfl (rest := rest) rfl (X.dec d) t (by rw [e]; exact k)) g

theorem o_ialoadN (X : St K Z own b mx ret rm n0 k j T h) {a : Addr} {n : Nat} {f : Nat → Int32} {i : Int32} (d : Isn b pc .iaload 1 pc') (A : AN Z h a .int n f) (hi : ¬ i < 0) (hl : i.toNatClampNeg < n) (g : Go K n0 kc kj Q T pc' Ls (.int (f i.toNatClampNeg) :: rest)) : Go K n0 kc kj Q T pc Ls (.int i :: .ref a :: rest) := by
  obtain ⟨d, rfl⟩ := d; obtain ⟨locs, S, N⟩ := X.sd; obtain ⟨c, q, r, s, t⟩ := A
  exact o_go (fun t' k => S.iaload X.ex (j := i) (v := .int (f i.toNatClampNeg)) (by rw [X.hp]; exact q.1) (State.isArrayOf_alike X.wZ.alike q.2.1) q.2.2 (AN.inb r hi hl) (t _ hl) (g := mkF K.m pc Ls (.int i :: .ref a :: rest)) rfl rfl (X.dec d) t' k) g
theorem o_caloadN (X : St K Z own b mx ret rm n0 k j T h) {a : Addr} {n : Nat} {f : Nat → Int32} {i : Int32} (d : Isn b pc .caload 1 pc') (A : AN Z h a .char n f) (hi : ¬ i < 0) (hl : i.toNatClampNeg < n) (g : Go K n0 kc kj Q T pc' Ls (.int (f i.toNatClampNeg) :: rest)) : Go K n0 kc kj Q T pc Ls (.int i :: .ref a :: rest) := by
  obtain ⟨d, rfl⟩ := d; obtain ⟨locs, S, N⟩ := X.sd; obtain ⟨c, q, r, s, t⟩ := A
  exact o_go (fun t' k => S.caload X.ex (j := i) (v := .int (f i.toNatClampNeg)) (by rw [X.hp]; exact q.1) (State.isArrayOf_alike X.wZ.alike q.2.1) q.2.2 (AN.inb r hi hl) (t _ hl) (g := mkF K.m pc Ls (.int i :: .ref a :: rest)) rfl rfl (X.dec d) t' k) g
theorem o_baloadN (X : St K Z own b mx ret rm n0 k j T h) {a : Addr} {n : Nat} {f : Nat → Int32} {i : Int32} (d : Isn b pc .baload 1 pc') (A : AN Z h a .byte n f) (hi : ¬ i < 0) (hl : i.toNatClampNeg < n) (g : Go K n0 kc kj Q T pc' Ls (.int (f i.toNatClampNeg) :: rest)) : Go K n0 kc kj Q T pc Ls (.int i :: .ref a :: rest) := by
  obtain ⟨d, rfl⟩ := d; obtain ⟨locs, S, N⟩ := X.sd; obtain ⟨c, q, r, s, t⟩ := A
  exact o_go (fun t' k => S.baloadBytes X.ex (j := i) (v := .int (f i.toNatClampNeg)) (by rw [X.hp]; exact q.1) (State.isArrayOf_alike X.wZ.alike q.2.1) q.2.2 (AN.inb r hi hl) (t _ hl) (g := mkF K.m pc Ls (.int i :: .ref a :: rest)) rfl rfl (X.dec d) t' k) g
theorem o_zaloadN (X : St K Z own b mx ret rm n0 k j T h) {a : Addr} {n : Nat} {f : Nat → Int32} {i : Int32} (d : Isn b pc .baload 1 pc') (A : AN Z h a .boolean n f) (hi : ¬ i < 0) (hl : i.toNatClampNeg < n) (g : Go K n0 kc kj Q T pc' Ls (.int (f i.toNatClampNeg) :: rest)) : Go K n0 kc kj Q T pc Ls (.int i :: .ref a :: rest) := by
  obtain ⟨d, rfl⟩ := d; obtain ⟨locs, S, N⟩ := X.sd; obtain ⟨c, q, r, s, t⟩ := A
  exact o_go (fun t' k => S.baloadBooleans X.ex (j := i) (v := .int (f i.toNatClampNeg)) (by rw [X.hp]; exact q.1) (State.isArrayOf_alike X.wZ.alike q.2.1) q.2.2 (AN.inb r hi hl) (t _ hl) (g := mkF K.m pc Ls (.int i :: .ref a :: rest)) rfl rfl (X.dec d) t' k) g
theorem o_iastoreN (X : St K Z own b mx ret rm n0 k j T h) {a : Addr} {n : Nat} {f : Nat → Int32} {i v : Int32} (d : Isn b pc .iastore 1 pc') (A : AN Z h a .int n f) (hi : ¬ i < 0) (hl : i.toNatClampNeg < n) (ha : n0 ≤ a)
    (g : ∀ T' h', St K Z own b mx ret rm n0 k j T' h' → Wr h h' a i.toNatClampNeg (.int (v)) → AN Z h' a .int n (fun q => if q = i.toNatClampNeg then v else f q) → Go K n0 kc kj Q T' pc' Ls (rest)) : Go K n0 kc kj Q T pc Ls (.int v :: .int i :: .ref a :: rest) := by
  obtain ⟨d, rfl⟩ := d; obtain ⟨locs, S, N⟩ := X.sd; have A0 := A; obtain ⟨c, q, r, s⟩ := A
  obtain ⟨T', h', S', e', W', st'⟩ := stI S X.ex X.wZ X.hp q (j := i) (x := v) (AN.inb r hi hl) (g := mkF K.m pc Ls (.int v :: .int i :: .ref a :: rest)) rfl rfl (X.dec d)
  exact o_go (fun t k => st' t k) (g T' h' (X.mk' S' (Fr.snoc S' N ha) e') W' (A0.set W'))
theorem o_castoreN (X : St K Z own b mx ret rm n0 k j T h) {a : Addr} {n : Nat} {f : Nat → Int32} {i v : Int32} (d : Isn b pc .castore 1 pc') (A : AN Z h a .char n f) (hi : ¬ i < 0) (hl : i.toNatClampNeg < n) (ha : n0 ≤ a)
    (g : ∀ T' h', St K Z own b mx ret rm n0 k j T' h' → Wr h h' a i.toNatClampNeg (.int (nar .char v)) → AN Z h' a .char n (fun q => if q = i.toNatClampNeg then nar .char v else f q) → Go K n0 kc kj Q T' pc' Ls (rest)) : Go K n0 kc kj Q T pc Ls (.int v :: .int i :: .ref a :: rest) := by
  obtain ⟨d, rfl⟩ := d; obtain ⟨locs, S, N⟩ := X.sd; have A0 := A; obtain ⟨c, q, r, s⟩ := A
  obtain ⟨T', h', S', e', W', st'⟩ := stC S X.ex X.wZ X.hp q (j := i) (x := v) (AN.inb r hi hl) (g := mkF K.m pc Ls (.int v :: .int i :: .ref a :: rest)) rfl rfl (X.dec d)
  exact o_go (fun t k => st' t k) (g T' h' (X.mk' S' (Fr.snoc S' N ha) e') W' (A0.set W'))
theorem o_bastoreN (X : St K Z own b mx ret rm n0 k j T h) {a : Addr} {n : Nat} {f : Nat → Int32} {i v : Int32} (d : Isn b pc .bastore 1 pc') (A : AN Z h a .byte n f) (hi : ¬ i < 0) (hl : i.toNatClampNeg < n) (ha : n0 ≤ a)
    (g : ∀ T' h', St K Z own b mx ret rm n0 k j T' h' → Wr h h' a i.toNatClampNeg (.int (nar .byte v)) → AN Z h' a .byte n (fun q => if q = i.toNatClampNeg then nar .byte v else f q) → Go K n0 kc kj Q T' pc' Ls (rest)) : Go K n0 kc kj Q T pc Ls (.int v :: .int i :: .ref a :: rest) := by
  obtain ⟨d, rfl⟩ := d; obtain ⟨locs, S, N⟩ := X.sd; have A0 := A; obtain ⟨c, q, r, s⟩ := A
  obtain ⟨T', h', S', e', W', st'⟩ := stB S X.ex X.wZ X.hp q (j := i) (x := v) (AN.inb r hi hl) (g := mkF K.m pc Ls (.int v :: .int i :: .ref a :: rest)) rfl rfl (X.dec d)
  exact o_go (fun t k => st' t k) (g T' h' (X.mk' S' (Fr.snoc S' N ha) e') W' (A0.set W'))
theorem o_zastoreN (X : St K Z own b mx ret rm n0 k j T h) {a : Addr} {n : Nat} {f : Nat → Int32} {i v : Int32} (d : Isn b pc .bastore 1 pc') (A : AN Z h a .boolean n f) (hi : ¬ i < 0) (hl : i.toNatClampNeg < n) (ha : n0 ≤ a)
    (g : ∀ T' h', St K Z own b mx ret rm n0 k j T' h' → Wr h h' a i.toNatClampNeg (.int (nar .boolean v)) → AN Z h' a .boolean n (fun q => if q = i.toNatClampNeg then nar .boolean v else f q) → Go K n0 kc kj Q T' pc' Ls (rest)) : Go K n0 kc kj Q T pc Ls (.int v :: .int i :: .ref a :: rest) := by
  obtain ⟨d, rfl⟩ := d; obtain ⟨locs, S, N⟩ := X.sd; have A0 := A; obtain ⟨c, q, r, s⟩ := A
  obtain ⟨T', h', S', e', W', st'⟩ := stZ S X.ex X.wZ X.hp q (j := i) (x := v) (AN.inb r hi hl) (g := mkF K.m pc Ls (.int v :: .int i :: .ref a :: rest)) rfl rfl (X.dec d)
  exact o_go (fun t k => st' t k) (g T' h' (X.mk' S' (Fr.snoc S' N ha) e') W' (A0.set W'))
theorem o_newarrayN (X : St K Z own b mx ret rm n0 k j T h) (cap : Nat) {aty : ArrayType} {n : Int32} (m : Nat) (d : Isn b pc (.newarray aty) 2 pc') (wd : (Jvm.Cond.arrayClass (newarray.typeOf aty)).before a0 Z = true) (hn : ¬ n < 0) (hm : n.toNatClampNeg = m) (hcap : m ≤ cap) (hdv : defaultValue (newarray.typeOf aty) = .int 0) (hr : cap * 8 ≤ 536870912 ∧ k + 1 ≤ rm.cells ∧ j + cap ≤ rm.slots)
    (g : ∀ T' h' a, a = h.size → St K Z own b mx ret rm n0 (k + 1) (j + cap) T' h' → Ext h h' → AN Z h' a (newarray.typeOf aty) m (fun _ => 0) → Go K n0 kc kj Q T' pc' Ls (.ref a :: rest)) : Go K n0 kc kj Q T pc Ls (.int n :: rest) := by
  obtain ⟨d, rfl⟩ := d; obtain ⟨locs, S, N⟩ := X.sd; have hR := X.rmE
  obtain ⟨T', h', cA, S', e', E', A', st'⟩ := newP S X.ex X.wZ wd X.hp (g := mkF K.m pc Ls (.int n :: rest)) rfl (X.dec d) rfl hn (hm ▸ hcap) hr.1 (by rw [hR]; exact hr.2.1) (by rw [hR]; exact hr.2.2)
  refine o_go (fun t k => st' t k) (g T' h' h.size rfl (X.mk' S' N e') E' ⟨_, A', ?_, ?_, fun i hi => ?_⟩)
  · simpa [newA] using hm
  · have := (back32 hn).2; omega
  · simp [newA, hm, hi, hdv]
/-- a long array, by a function of the place -/
def LN (Z : State) (h : Heap) (a : Addr) (n : Nat) (f : Nat → Int64) : Prop := ∃ c : Cell, Arr Z h a c .long ∧ c.slots.size = n ∧ n < 2 ^ 31 ∧ ∀ i, i < n → c.slots[i]? = some (.long (f i))
theorem LN.lt {a : Addr} {n : Nat} {f : Nat → Int64} (A : LN Z h a n f) : a < h.size := by obtain ⟨c, q, -⟩ := A; exact q.lt
theorem LN.ext {h' : Heap} {a : Addr} {n : Nat} {f : Nat → Int64} (A : LN Z h a n f) (E : Ext h h') : LN Z h' a n f := by obtain ⟨c, q, r⟩ := A; exact ⟨c, q.ext E, r⟩
theorem LN.other {h' : Heap} {a a' : Addr} {sl : Nat} {v : Value} {n : Nat} {f : Nat → Int64} (A : LN Z h a n f) (W : Wr h h' a' sl v) (ne : a ≠ a') : LN Z h' a n f := by obtain ⟨c, q, r⟩ := A; exact ⟨c, q.other W ne, r⟩
theorem LN.set {h' : Heap} {a : Addr} {sl : Nat} {v : Int64} {n : Nat} {f : Nat → Int64} (A : LN Z h a n f) (W : Wr h h' a sl (.long v)) : LN Z h' a n (fun i => if i = sl then v else f i) := by
  obtain ⟨c, q, r, s, t⟩ := A
  refine ⟨_, q.same W, by simpa [Cell.setSlot] using r, s, fun i hi => ?_⟩
  have e := t i hi
  by_cases p : i = sl
  · subst p; have : i < c.slots.size := r ▸ hi
    simp [Cell.setSlot, this]
  · have p' : ¬ sl = i := fun q => p q.symm
    simp [Cell.setSlot, Array.getElem?_setIfInBounds, p, p', e]
theorem o_alenL (X : St K Z own b mx ret rm n0 k j T h) {a : Addr} {n : Nat} {f : Nat → Int64} (z : Int32) (d : Isn b pc .arraylength 1 pc') (A : LN Z h a n f) (hn : n.toInt32 = z) (g : Go K n0 kc kj Q T pc' Ls (.int z :: rest)) : Go K n0 kc kj Q T pc Ls (.ref a :: rest) := by
  obtain ⟨d, rfl⟩ := d; obtain ⟨locs, S, N⟩ := X.sd; obtain ⟨c, q, r, s⟩ := A
  have e : c.slots.size.toInt32 = z := by rw [r, ← hn]
  exact o_go (fun t k => S.arraylength X.ex (cell := c) (by rw [X.hp]; exact q.1) (State.isArrayOf_alike X.wZ.alike q.2.1) (g := mkF K.m pc Ls (.ref a :: rest)) rfl (rest := rest) rfl (X.dec d) t (by rw [e]; exact k)) g
theorem o_laloadN (X : St K Z own b mx ret rm n0 k j T h) {a : Addr} {n : Nat} {f : Nat → Int64} {i : Int32} (d : Isn b pc .laload 1 pc') (A : LN Z h a n f) (hi : ¬ i < 0) (hl : i.toNatClampNeg < n) (g : Go K n0 kc kj Q T pc' Ls (.long (f i.toNatClampNeg) :: rest)) : Go K n0 kc kj Q T pc Ls (.int i :: .ref a :: rest) := by
  obtain ⟨d, rfl⟩ := d; obtain ⟨locs, S, N⟩ := X.sd; obtain ⟨c, q, r, s, t⟩ := A
  exact o_go (fun t' k => S.laload X.ex (j := i) (v := .long (f i.toNatClampNeg)) (by rw [X.hp]; exact q.1) (State.isArrayOf_alike X.wZ.alike q.2.1) q.2.2 (AN.inb r hi hl) (t _ hl) (g := mkF K.m pc Ls (.int i :: .ref a :: rest)) rfl rfl (X.dec d) t' k) g
theorem o_lastoreN (X : St K Z own b mx ret rm n0 k j T h) {a : Addr} {n : Nat} {f : Nat → Int64} {i : Int32} {v : Int64} (d : Isn b pc .lastore 1 pc') (A : LN Z h a n f) (hi : ¬ i < 0) (hl : i.toNatClampNeg < n) (ha : n0 ≤ a)
    (g : ∀ T' h', St K Z own b mx ret rm n0 k j T' h' → Wr h h' a i.toNatClampNeg (.long v) → LN Z h' a n (fun q => if q = i.toNatClampNeg then v else f q) → Go K n0 kc kj Q T' pc' Ls (rest)) : Go K n0 kc kj Q T pc Ls (.long v :: .int i :: .ref a :: rest) := by
  obtain ⟨d, rfl⟩ := d; obtain ⟨locs, S, N⟩ := X.sd; have A0 := A; obtain ⟨c, q, r, s⟩ := A
  obtain ⟨T', h', S', e', W', st'⟩ := stJ S X.ex X.wZ X.hp q (j := i) (x := v) (AN.inb r hi hl) (g := mkF K.m pc Ls (.long v :: .int i :: .ref a :: rest)) rfl rfl (X.dec d)
  exact o_go (fun t k => st' t k) (g T' h' (X.mk' S' (Fr.snoc S' N ha) e') W' (A0.set W'))
theorem o_newarrayL (X : St K Z own b mx ret rm n0 k j T h) (cap : Nat) {n : Int32} (m : Nat) (d : Isn b pc (.newarray .long) 2 pc') (wd : (Jvm.Cond.arrayClass .long).before a0 Z = true) (hn : ¬ n < 0) (hm : n.toNatClampNeg = m) (hcap : m ≤ cap) (hr : cap * 8 ≤ 536870912 ∧ k + 1 ≤ rm.cells ∧ j + cap ≤ rm.slots)
    (g : ∀ T' h' a, a = h.size → St K Z own b mx ret rm n0 (k + 1) (j + cap) T' h' → Ext h h' → LN Z h' a m (fun _ => 0) → Go K n0 kc kj Q T' pc' Ls (.ref a :: rest)) : Go K n0 kc kj Q T pc Ls (.int n :: rest) := by
  obtain ⟨d, rfl⟩ := d; obtain ⟨locs, S, N⟩ := X.sd; have hR := X.rmE
  obtain ⟨T', h', cA, S', e', E', A', st'⟩ := newP S X.ex X.wZ (aty := .long) wd X.hp (g := mkF K.m pc Ls (.int n :: rest)) rfl (X.dec d) rfl hn (hm ▸ hcap) hr.1 (by rw [hR]; exact hr.2.1) (by rw [hR]; exact hr.2.2)
  refine o_go (fun t k => st' t k) (g T' h' h.size rfl (X.mk' S' N e') E' ⟨_, A', ?_, ?_, fun i hi => ?_⟩)
  · simpa [newA] using hm
  · have := (back32 hn).2; omega
  · have e : defaultValue (newarray.typeOf .long) = .long 0 := rfl
    simp [newA, hm, hi, e]
/-- an object, by all the values of these fields of its class -/
def Obj (Z : State) (h : Heap) (a : Addr) (C : String) (ns : List (String × String)) (vs : List Value) : Prop := Exa Z h a C ∧ ns.length = vs.length ∧ ∀ (i : Nat) (n d : String) (v : Value), ns[i]? = some (n, d) → vs[i]? = some v → Fld Z h a C n d v
def LdAll (Z : State) (a0 : Array Value) (C : String) (ns : List (String × String)) : Prop := (ns.map Prod.fst).Nodup ∧ ∀ q ∈ ns, Laid Z a0 C C q.1 q.2 ∧ ∃ t, parseFieldDescriptor q.2 = some t
variable {h' : Heap} {a a' : Addr} {C : String} {ns : List (String × String)} {vs : List Value} {sl : Nat} {v : Value}
theorem Obj.lt (O : Obj Z h a C ns vs) : a < h.size := O.1.lt
theorem Obj.exa (O : Obj Z h a C ns vs) : Exa Z h a C := O.1
theorem Obj.ext (O : Obj Z h a C ns vs) (E : Ext h h') : Obj Z h' a C ns vs := ⟨O.1.ext E, O.2.1, fun i n d v q r => (O.2.2 i n d v q r).ext E⟩
theorem Obj.other (O : Obj Z h a C ns vs) (W : Wr h h' a' sl v) (ne : a ≠ a') : Obj Z h' a C ns vs := ⟨O.1.wr W, O.2.1, fun i n d v q r => (O.2.2 i n d v q r).other W (Or.inl ne)⟩
theorem Obj.keep {ws : List Addr} (O : Obj Z h a C ns vs) (Kp : Keep h h' ws) (ne : a ∉ ws) : Obj Z h' a C ns vs := ⟨O.1.keep Kp, O.2.1, fun i n d v q r => (O.2.2 i n d v q r).keep Kp ne⟩
theorem Obj.new (E : Exa Z h a C) (D : ∀ {O nm dd : String} {ty : FieldType}, Laid Z a0 C O nm dd → parseFieldDescriptor dd = some ty → Fld Z h a O nm dd (defaultValue ty)) (LA : LdAll Z a0 C ns) (ts : List FieldType) (ht : ns.map (fun q => parseFieldDescriptor q.2) = ts.map some) (hv : ts.map defaultValue = vs) : Obj Z h a C ns vs := by
  refine ⟨E, by rw [← hv]; simpa using congrArg List.length ht, fun i n d v q r => ?_⟩
  subst hv
  obtain ⟨t, ht1, rfl⟩ : ∃ t, ts[i]? = some t ∧ defaultValue t = v := by simpa using r
  have q2 := congrArg (fun L => L[i]?) ht
  simp [q, ht1] at q2
  exact D (LA.2 (n, d) (List.mem_of_getElem? q)).1 q2
theorem Obj.set (O : Obj Z h a C ns vs) (LA : LdAll Z a0 C ns) {n d : String} (W : Wr h h' a (Jvm.RoadKit.slotOf Z C n d) v) (i : Nat) (hi : ns[i]? = some (n, d)) : Obj Z h' a C ns (vs.set i v) := by
  refine ⟨O.1.wr W, by simpa using O.2.1, fun j n' d' v' q r => ?_⟩
  have hil : i < ns.length := (List.getElem?_eq_some_iff.mp hi).1
  by_cases e : i = j
  · subst e
    cases hi.symm.trans q
    have hiv : i < vs.length := O.2.1 ▸ hil
    obtain ⟨w, hw⟩ : ∃ w, vs[i]? = some w := ⟨_, List.getElem?_eq_getElem hiv⟩
    have : v = v' := by simpa [List.getElem?_set, hiv] using r
    subst this
    exact (O.2.2 i n d w hi hw).same W
  · have r' : vs[j]? = some v' := by rw [List.getElem?_set_ne e] at r; exact r
    refine (O.2.2 j n' d' v' q r').other W (Or.inr ?_)
    obtain ⟨l1, t1, p1⟩ := LA.2 _ (List.mem_of_getElem? q)
    obtain ⟨l2, t2, p2⟩ := LA.2 _ (List.mem_of_getElem? hi)
    refine slot_ne l1 l2 (fun eq => e ?_) p1 p2
    have hjl : j < ns.length := (List.getElem?_eq_some_iff.mp q).1
    have e1 : (ns.map Prod.fst)[i]? = some n := by simp [hi]
    have e2 : (ns.map Prod.fst)[j]? = some n' := by simp [q]
    have eq' : n' = n := eq
    subst eq'
    obtain ⟨x1, y1⟩ := List.getElem?_eq_some_iff.mp e1
    obtain ⟨x2, y2⟩ := List.getElem?_eq_some_iff.mp e2
    have P := List.pairwise_iff_getElem.mp LA.1
    rcases Nat.lt_trichotomy i j with z | z | z
    · exact absurd (y1.trans y2.symm) (P i j x1 x2 z)
    · exact z
    · exact absurd (y2.trans y1.symm) (P j i x2 x1 z)
theorem o_getO (X : St K Z own b mx ret rm n0 k j T h) {q : Nat} {n dd : String} (i : Nat) (d : Isn b pc (.getfield q) 3 pc') (wd : (Jvm.Cond.fieldLink own q C n dd).before a0 Z = true) (O : Obj Z h a C ns vs) (hi : ns[i]? = some (n, dd)) (hv : vs[i]? = some v)
    (g : ∀ T', St K Z own b mx ret rm n0 k j T' h → Go K n0 kc kj Q T' pc' Ls (v :: rest)) : Go K n0 kc kj Q T pc Ls (.ref a :: rest) := o_getF X d wd (O.2.2 i n dd v hi hv) g
theorem o_putO (X : St K Z own b mx ret rm n0 k j T h) {q kk : Nat} {n dd : String} {ty : FieldType} {vs' : List Value} (i : Nat) (d : Isn b pc (.putfield q) 3 pc') (wd : (Jvm.Cond.fieldLink own q C n dd).before a0 Z = true) (O : Obj Z h a C ns vs) (LA : LdAll Z a0 C ns) (hi : ns[i]? = some (n, dd))
    (Lf : (Jvm.Cond.lays C C n dd).before a0 Z = true ∨ ((Jvm.Cond.laysFinal C C n dd).before a0 Z = true ∧ own = C ∧ K.meth.name = "<init>")) (wi : (Jvm.Cond.instantiable C kk).before a0 Z = true) (hty : parseFieldDescriptor dd = some ty) (hn : narrow ty v = v) (hf : fits ty v = true) (ha : n0 ≤ a) (hv : vs.set i v = vs')
    (g : ∀ T' h', St K Z own b mx ret rm n0 k j T' h' → Wr h h' a (Jvm.RoadKit.slotOf Z C n dd) v → Obj Z h' a C ns vs' → Go K n0 kc kj Q T' pc' Ls (rest)) : Go K n0 kc kj Q T pc Ls (v :: .ref a :: rest) := by
  have hil : i < vs.length := O.2.1 ▸ (List.getElem?_eq_some_iff.mp hi).1
  exact o_putF X d wd (O.2.2 i n dd _ hi (List.getElem?_eq_getElem hil)) O.1 Lf wi hty hn hf ha fun T' h' X' W => g T' h' X' W (hv ▸ O.set LA W i hi)
end OwnKit
theorem pd0 : parseMethodDescriptor "(J)V" = some ⟨[.long], none⟩ := by decide +kernel
theorem pd1 : parseMethodDescriptor "()J" = some ⟨[], some .long⟩ := by decide +kernel
theorem pn0 : plainName "com/example/underboss/underboss/SeededRandom" = true := by first | (simp [plainName, overriddenIn]; done) | decide +kernel
theorem pn1 : plainName "com/example/underboss/underboss/SeededRandomNextLongPinLaw" = true := by first | (simp [plainName, overriddenIn]; done) | decide +kernel
theorem own_u30 (x : Int64) : (XT.ushrL x 30).toBitVec = x.toBitVec >>> 30 := rfl
theorem own_u60 (x : Int64) : (XT.ushrL x 60).toBitVec = x.toBitVec >>> 60 := rfl
theorem own_x30 (x : Int64) : (x ^^^ XT.ushrL x 30) ^^^ (XT.ushrL (x ^^^ XT.ushrL x 30) 30 ^^^ XT.ushrL (x ^^^ XT.ushrL x 30) 60) = x := by
  apply Int64.toBitVec_inj.mp
  simp only [Int64.toBitVec_xor, own_u30, own_u60]
  apply BitVec.eq_of_getLsbD_eq; intro i hi
  have h0 : x.toBitVec.getLsbD (30 + (60 + i)) = false := BitVec.getLsbD_of_ge _ _ (by omega)
  have h1 : 30 + (30 + i) = 60 + i := by omega
  simp only [BitVec.getLsbD_xor, BitVec.getLsbD_ushiftRight, h0, h1]
  cases x.toBitVec.getLsbD i <;> cases x.toBitVec.getLsbD (30 + i) <;> cases x.toBitVec.getLsbD (60 + i) <;> rfl
theorem own_u27 (x : Int64) : (XT.ushrL x 27).toBitVec = x.toBitVec >>> 27 := rfl
theorem own_u54 (x : Int64) : (XT.ushrL x 54).toBitVec = x.toBitVec >>> 54 := rfl
theorem own_x27 (x : Int64) : (x ^^^ XT.ushrL x 27) ^^^ (XT.ushrL (x ^^^ XT.ushrL x 27) 27 ^^^ XT.ushrL (x ^^^ XT.ushrL x 27) 54) = x := by
  apply Int64.toBitVec_inj.mp
  simp only [Int64.toBitVec_xor, own_u27, own_u54]
  apply BitVec.eq_of_getLsbD_eq; intro i hi
  have h0 : x.toBitVec.getLsbD (27 + (54 + i)) = false := BitVec.getLsbD_of_ge _ _ (by omega)
  have h1 : 27 + (27 + i) = 54 + i := by omega
  simp only [BitVec.getLsbD_xor, BitVec.getLsbD_ushiftRight, h0, h1]
  cases x.toBitVec.getLsbD i <;> cases x.toBitVec.getLsbD (27 + i) <;> cases x.toBitVec.getLsbD (54 + i) <;> rfl
theorem own_u31 (x : Int64) : (XT.ushrL x 31).toBitVec = x.toBitVec >>> 31 := rfl
theorem own_u62 (x : Int64) : (XT.ushrL x 62).toBitVec = x.toBitVec >>> 62 := rfl
theorem own_x31 (x : Int64) : (x ^^^ XT.ushrL x 31) ^^^ (XT.ushrL (x ^^^ XT.ushrL x 31) 31 ^^^ XT.ushrL (x ^^^ XT.ushrL x 31) 62) = x := by
  apply Int64.toBitVec_inj.mp
  simp only [Int64.toBitVec_xor, own_u31, own_u62]
  apply BitVec.eq_of_getLsbD_eq; intro i hi
  have h0 : x.toBitVec.getLsbD (31 + (62 + i)) = false := BitVec.getLsbD_of_ge _ _ (by omega)
  have h1 : 31 + (31 + i) = 62 + i := by omega
  simp only [BitVec.getLsbD_xor, BitVec.getLsbD_ushiftRight, h0, h1]
  cases x.toBitVec.getLsbD i <;> cases x.toBitVec.getLsbD (31 + i) <;> cases x.toBitVec.getLsbD (62 + i) <;> rfl
theorem own_m1 (x : Int64) : x * (-4658895280553007687) * (-7575587736534282103) = x := by
  rw [Int64.mul_assoc, show ((-4658895280553007687 : Int64) * (-7575587736534282103)) = 1 from by decide, Int64.mul_one]
theorem own_m2 (x : Int64) : x * (-7723592293110705685) * (3573116690164977347) = x := by
  rw [Int64.mul_assoc, show ((-7723592293110705685 : Int64) * (3573116690164977347)) = 1 from by decide, Int64.mul_one]
def own_mix (x : Int64) : Int64 :=
  let a := (x ^^^ XT.ushrL x 30) * (-4658895280553007687)
  let b := (a ^^^ XT.ushrL a 27) * (-7723592293110705685)
  b ^^^ XT.ushrL b 31
def own_un (x : Int64) : Int64 :=
  let b := (x ^^^ (XT.ushrL x 31 ^^^ XT.ushrL x 62)) * (3573116690164977347)
  let a := (b ^^^ (XT.ushrL b 27 ^^^ XT.ushrL b 54)) * (-7575587736534282103)
  a ^^^ (XT.ushrL a 30 ^^^ XT.ushrL a 60)
theorem own_inv (x : Int64) : own_un (own_mix x) = x := by
  simp only [own_un, own_mix, own_x31, own_m2, own_x27, own_m1, own_x30]
theorem own_inj (x y : Int64) : own_mix x = own_mix y ↔ x = y := ⟨fun q => by rw [← own_inv x, q, own_inv], fun q => by rw [q]⟩
theorem own_mix0 : own_mix 0 = 0 := by decide
theorem own_a (s t g : Int64) : (if s = t then (1 : Int32) else 0) = (if own_mix (s + g) = own_mix (t + g) then 1 else 0) := by
  have : s = t ↔ own_mix (s + g) = own_mix (t + g) := by
    rw [own_inj]; exact ⟨fun q => by rw [q], fun q => by have := congrArg (· - g) q; simpa using this⟩
  simp only [this]
theorem own_b (s : Int64) : (if own_mix (s + (-7046029254386353131)) = 0 then (1 : Int32) else 0) = (if s = 7046029254386353131 then 1 else 0) := by
  have : own_mix (s + (-7046029254386353131)) = 0 ↔ s = 7046029254386353131 := by
    rw [← own_mix0, own_inj]
    constructor
    · intro q
      have h := congrArg (· - (-7046029254386353131 : Int64)) q
      simp only [Int64.add_sub_cancel] at h
      rw [h]; decide
    · intro q; rw [q]; decide
  simp only [this]
theorem own_v1 : own_mix (0 + (-7046029254386353131)) = -2152535657050944081 := by decide
theorem own_v2 : own_mix (0 + (-7046029254386353131) + (-7046029254386353131)) = 7960286522194355700 := by decide

def own_nsR : List (String × String) := [("state", "J")]
theorem own_ldR (Z : State) (a0 : Array Value) (hw : ∀ d ∈ tables_1, d.before a0 Z = true) : LdAll Z a0 "com/example/underboss/underboss/SeededRandom" own_nsR := by
  refine ⟨by decide, fun q hq => ?_⟩
  simp only [own_nsR, List.mem_cons, List.not_mem_nil, or_false] at hq
  subst hq
  · exact ⟨Or.inl (hw _ (List.mem_of_getElem? (i := 10) rfl)), ⟨_, (by decide : parseFieldDescriptor "J" = some .long)⟩⟩
theorem f1_0 : Isn prog_5_method_1_code 0 (.aload_n 0) 1 1 := ⟨by decide +kernel, rfl⟩
theorem f1_1 : Isn prog_5_method_1_code 1 (.invokespecial 1) 3 4 := ⟨by decide +kernel, rfl⟩
theorem f1_4 : Isn prog_5_method_1_code 4 (.aload_n 0) 1 5 := ⟨by decide +kernel, rfl⟩
theorem f1_5 : Isn prog_5_method_1_code 5 (.lload_n 1) 1 6 := ⟨by decide +kernel, rfl⟩
theorem f1_6 : Isn prog_5_method_1_code 6 (.putfield 7) 3 9 := ⟨by decide +kernel, rfl⟩
theorem f1_9 : Isn prog_5_method_1_code 9 (.return_) 1 10 := ⟨by decide +kernel, rfl⟩
theorem f3_0 : Isn prog_5_method_2_code 0 (.aload_n 0) 1 1 := ⟨by decide +kernel, rfl⟩
theorem f3_1 : Isn prog_5_method_2_code 1 (.dup) 1 2 := ⟨by decide +kernel, rfl⟩
theorem f3_2 : Isn prog_5_method_2_code 2 (.getfield 7) 3 5 := ⟨by decide +kernel, rfl⟩
theorem f3_5 : Isn prog_5_method_2_code 5 (.ldc2_w 13) 3 8 := ⟨by decide +kernel, rfl⟩
theorem f3_8 : Isn prog_5_method_2_code 8 (.ladd) 1 9 := ⟨by decide +kernel, rfl⟩
theorem f3_9 : Isn prog_5_method_2_code 9 (.putfield 7) 3 12 := ⟨by decide +kernel, rfl⟩
theorem f3_12 : Isn prog_5_method_2_code 12 (.aload_n 0) 1 13 := ⟨by decide +kernel, rfl⟩
theorem f3_13 : Isn prog_5_method_2_code 13 (.getfield 7) 3 16 := ⟨by decide +kernel, rfl⟩
theorem f3_16 : Isn prog_5_method_2_code 16 (.lstore_n 1) 1 17 := ⟨by decide +kernel, rfl⟩
theorem f3_17 : Isn prog_5_method_2_code 17 (.lload_n 1) 1 18 := ⟨by decide +kernel, rfl⟩
theorem f3_18 : Isn prog_5_method_2_code 18 (.lload_n 1) 1 19 := ⟨by decide +kernel, rfl⟩
theorem f3_19 : Isn prog_5_method_2_code 19 (.bipush 30) 2 21 := ⟨by decide +kernel, rfl⟩
theorem f3_21 : Isn prog_5_method_2_code 21 (.lushr) 1 22 := ⟨by decide +kernel, rfl⟩
theorem f3_22 : Isn prog_5_method_2_code 22 (.lxor) 1 23 := ⟨by decide +kernel, rfl⟩
theorem f3_23 : Isn prog_5_method_2_code 23 (.ldc2_w 15) 3 26 := ⟨by decide +kernel, rfl⟩
theorem f3_26 : Isn prog_5_method_2_code 26 (.lmul) 1 27 := ⟨by decide +kernel, rfl⟩
theorem f3_27 : Isn prog_5_method_2_code 27 (.lstore_n 1) 1 28 := ⟨by decide +kernel, rfl⟩
theorem f3_28 : Isn prog_5_method_2_code 28 (.lload_n 1) 1 29 := ⟨by decide +kernel, rfl⟩
theorem f3_29 : Isn prog_5_method_2_code 29 (.lload_n 1) 1 30 := ⟨by decide +kernel, rfl⟩
theorem f3_30 : Isn prog_5_method_2_code 30 (.bipush 27) 2 32 := ⟨by decide +kernel, rfl⟩
theorem f3_32 : Isn prog_5_method_2_code 32 (.lushr) 1 33 := ⟨by decide +kernel, rfl⟩
theorem f3_33 : Isn prog_5_method_2_code 33 (.lxor) 1 34 := ⟨by decide +kernel, rfl⟩
theorem f3_34 : Isn prog_5_method_2_code 34 (.ldc2_w 17) 3 37 := ⟨by decide +kernel, rfl⟩
theorem f3_37 : Isn prog_5_method_2_code 37 (.lmul) 1 38 := ⟨by decide +kernel, rfl⟩
theorem f3_38 : Isn prog_5_method_2_code 38 (.lstore_n 1) 1 39 := ⟨by decide +kernel, rfl⟩
theorem f3_39 : Isn prog_5_method_2_code 39 (.lload_n 1) 1 40 := ⟨by decide +kernel, rfl⟩
theorem f3_40 : Isn prog_5_method_2_code 40 (.lload_n 1) 1 41 := ⟨by decide +kernel, rfl⟩
theorem f3_41 : Isn prog_5_method_2_code 41 (.bipush 31) 2 43 := ⟨by decide +kernel, rfl⟩
theorem f3_43 : Isn prog_5_method_2_code 43 (.lushr) 1 44 := ⟨by decide +kernel, rfl⟩
theorem f3_44 : Isn prog_5_method_2_code 44 (.lxor) 1 45 := ⟨by decide +kernel, rfl⟩
theorem f3_45 : Isn prog_5_method_2_code 45 (.lreturn) 1 46 := ⟨by decide +kernel, rfl⟩
theorem f0_0 : Isn code 0 (.iload 4) 2 2 := ⟨at_0, rfl⟩
theorem f0_2 : Isn code 2 (.iconst 1) 1 3 := ⟨at_2, rfl⟩
theorem f0_3 : Isn code 3 (.iand) 1 4 := ⟨at_3, rfl⟩
theorem f0_4 : Brn code 4 (.ifCond .eq 7) 7 7 11 := ⟨at_4, rfl, by decide, by decide⟩
theorem f0_7 : Isn code 7 (.lload_n 0) 1 8 := ⟨at_7, rfl⟩
theorem f0_8 : Brn code 8 (.goto 4) 4 11 12 := ⟨at_8, rfl, by decide, by decide⟩
theorem f0_11 : Isn code 11 (.lload_n 2) 1 12 := ⟨at_11, rfl⟩
theorem f0_12 : Isn code 12 (.lstore 5) 2 14 := ⟨at_12, rfl⟩
theorem f0_14 : Isn code 14 (.new 7) 3 17 := ⟨at_14, rfl⟩
theorem f0_17 : Isn code 17 (.dup) 1 18 := ⟨at_17, rfl⟩
theorem f0_18 : Isn code 18 (.lload_n 0) 1 19 := ⟨at_18, rfl⟩
theorem f0_19 : Isn code 19 (.invokespecial 9) 3 22 := ⟨at_19, rfl⟩
theorem f0_22 : Isn code 22 (.astore 7) 2 24 := ⟨at_22, rfl⟩
theorem f0_24 : Isn code 24 (.new 7) 3 27 := ⟨at_24, rfl⟩
theorem f0_27 : Isn code 27 (.dup) 1 28 := ⟨at_27, rfl⟩
theorem f0_28 : Isn code 28 (.lload_n 0) 1 29 := ⟨at_28, rfl⟩
theorem f0_29 : Isn code 29 (.ldc2_w 12) 3 32 := ⟨at_29, rfl⟩
theorem f0_32 : Isn code 32 (.ladd) 1 33 := ⟨at_32, rfl⟩
theorem f0_33 : Isn code 33 (.invokespecial 9) 3 36 := ⟨at_33, rfl⟩
theorem f0_36 : Isn code 36 (.astore 8) 2 38 := ⟨at_36, rfl⟩
theorem f0_38 : Isn code 38 (.new 7) 3 41 := ⟨at_38, rfl⟩
theorem f0_41 : Isn code 41 (.dup) 1 42 := ⟨at_41, rfl⟩
theorem f0_42 : Isn code 42 (.lload 5) 2 44 := ⟨at_42, rfl⟩
theorem f0_44 : Isn code 44 (.invokespecial 9) 3 47 := ⟨at_44, rfl⟩
theorem f0_47 : Isn code 47 (.astore 9) 2 49 := ⟨at_47, rfl⟩
theorem f0_49 : Isn code 49 (.new 7) 3 52 := ⟨at_49, rfl⟩
theorem f0_52 : Isn code 52 (.dup) 1 53 := ⟨at_52, rfl⟩
theorem f0_53 : Isn code 53 (.lconst 0) 1 54 := ⟨at_53, rfl⟩
theorem f0_54 : Isn code 54 (.invokespecial 9) 3 57 := ⟨at_54, rfl⟩
theorem f0_57 : Isn code 57 (.astore 10) 2 59 := ⟨at_57, rfl⟩
theorem f0_59 : Isn code 59 (.aload 7) 2 61 := ⟨at_59, rfl⟩
theorem f0_61 : Isn code 61 (.invokevirtual 14) 3 64 := ⟨at_61, rfl⟩
theorem f0_64 : Isn code 64 (.lstore 11) 2 66 := ⟨at_64, rfl⟩
theorem f0_66 : Isn code 66 (.aload 7) 2 68 := ⟨at_66, rfl⟩
theorem f0_68 : Isn code 68 (.invokevirtual 14) 3 71 := ⟨at_68, rfl⟩
theorem f0_71 : Isn code 71 (.lstore 13) 2 73 := ⟨at_71, rfl⟩
theorem f0_73 : Isn code 73 (.aload 8) 2 75 := ⟨at_73, rfl⟩
theorem f0_75 : Isn code 75 (.invokevirtual 14) 3 78 := ⟨at_75, rfl⟩
theorem f0_78 : Isn code 78 (.lstore 15) 2 80 := ⟨at_78, rfl⟩
theorem f0_80 : Isn code 80 (.aload 9) 2 82 := ⟨at_80, rfl⟩
theorem f0_82 : Isn code 82 (.invokevirtual 14) 3 85 := ⟨at_82, rfl⟩
theorem f0_85 : Isn code 85 (.lstore 17) 2 87 := ⟨at_85, rfl⟩
theorem f0_87 : Isn code 87 (.aload 10) 2 89 := ⟨at_87, rfl⟩
theorem f0_89 : Isn code 89 (.invokevirtual 14) 3 92 := ⟨at_89, rfl⟩
theorem f0_92 : Isn code 92 (.lstore 19) 2 94 := ⟨at_92, rfl⟩
theorem f0_94 : Isn code 94 (.aload 10) 2 96 := ⟨at_94, rfl⟩
theorem f0_96 : Isn code 96 (.invokevirtual 14) 3 99 := ⟨at_96, rfl⟩
theorem f0_99 : Isn code 99 (.lstore 21) 2 101 := ⟨at_99, rfl⟩
theorem f0_101 : Isn code 101 (.lload 13) 2 103 := ⟨at_101, rfl⟩
theorem f0_103 : Isn code 103 (.lload 15) 2 105 := ⟨at_103, rfl⟩
theorem f0_105 : Isn code 105 (.lcmp) 1 106 := ⟨at_105, rfl⟩
theorem f0_106 : Brn code 106 (.ifCond .ne 7) 7 109 113 := ⟨at_106, rfl, by decide, by decide⟩
theorem f0_109 : Isn code 109 (.iconst 1) 1 110 := ⟨at_109, rfl⟩
theorem f0_110 : Brn code 110 (.goto 4) 4 113 114 := ⟨at_110, rfl, by decide, by decide⟩
theorem f0_113 : Isn code 113 (.iconst 0) 1 114 := ⟨at_113, rfl⟩
theorem f0_114 : Isn code 114 (.istore 23) 2 116 := ⟨at_114, rfl⟩
theorem f0_116 : Isn code 116 (.lload_n 0) 1 117 := ⟨at_116, rfl⟩
theorem f0_117 : Isn code 117 (.lload 5) 2 119 := ⟨at_117, rfl⟩
theorem f0_119 : Isn code 119 (.lcmp) 1 120 := ⟨at_119, rfl⟩
theorem f0_120 : Brn code 120 (.ifCond .ne 7) 7 123 127 := ⟨at_120, rfl, by decide, by decide⟩
theorem f0_123 : Isn code 123 (.iconst 1) 1 124 := ⟨at_123, rfl⟩
theorem f0_124 : Brn code 124 (.goto 4) 4 127 128 := ⟨at_124, rfl, by decide, by decide⟩
theorem f0_127 : Isn code 127 (.iconst 0) 1 128 := ⟨at_127, rfl⟩
theorem f0_128 : Isn code 128 (.lload 11) 2 130 := ⟨at_128, rfl⟩
theorem f0_130 : Isn code 130 (.lload 17) 2 132 := ⟨at_130, rfl⟩
theorem f0_132 : Isn code 132 (.lcmp) 1 133 := ⟨at_132, rfl⟩
theorem f0_133 : Brn code 133 (.ifCond .ne 7) 7 136 140 := ⟨at_133, rfl, by decide, by decide⟩
theorem f0_136 : Isn code 136 (.iconst 1) 1 137 := ⟨at_136, rfl⟩
theorem f0_137 : Brn code 137 (.goto 4) 4 140 141 := ⟨at_137, rfl, by decide, by decide⟩
theorem f0_140 : Isn code 140 (.iconst 0) 1 141 := ⟨at_140, rfl⟩
theorem f0_141 : Brn code 141 (.if_icmp .ne 7) 7 144 148 := ⟨at_141, rfl, by decide, by decide⟩
theorem f0_144 : Isn code 144 (.iconst 1) 1 145 := ⟨at_144, rfl⟩
theorem f0_145 : Brn code 145 (.goto 4) 4 148 149 := ⟨at_145, rfl, by decide, by decide⟩
theorem f0_148 : Isn code 148 (.iconst 0) 1 149 := ⟨at_148, rfl⟩
theorem f0_149 : Isn code 149 (.istore 24) 2 151 := ⟨at_149, rfl⟩
theorem f0_151 : Isn code 151 (.lload 11) 2 153 := ⟨at_151, rfl⟩
theorem f0_153 : Isn code 153 (.lconst 0) 1 154 := ⟨at_153, rfl⟩
theorem f0_154 : Isn code 154 (.lcmp) 1 155 := ⟨at_154, rfl⟩
theorem f0_155 : Brn code 155 (.ifCond .ne 7) 7 158 162 := ⟨at_155, rfl, by decide, by decide⟩
theorem f0_158 : Isn code 158 (.iconst 1) 1 159 := ⟨at_158, rfl⟩
theorem f0_159 : Brn code 159 (.goto 4) 4 162 163 := ⟨at_159, rfl, by decide, by decide⟩
theorem f0_162 : Isn code 162 (.iconst 0) 1 163 := ⟨at_162, rfl⟩
theorem f0_163 : Isn code 163 (.lload_n 0) 1 164 := ⟨at_163, rfl⟩
theorem f0_164 : Isn code 164 (.ldc2_w 18) 3 167 := ⟨at_164, rfl⟩
theorem f0_167 : Isn code 167 (.lcmp) 1 168 := ⟨at_167, rfl⟩
theorem f0_168 : Brn code 168 (.ifCond .ne 7) 7 171 175 := ⟨at_168, rfl, by decide, by decide⟩
theorem f0_171 : Isn code 171 (.iconst 1) 1 172 := ⟨at_171, rfl⟩
theorem f0_172 : Brn code 172 (.goto 4) 4 175 176 := ⟨at_172, rfl, by decide, by decide⟩
theorem f0_175 : Isn code 175 (.iconst 0) 1 176 := ⟨at_175, rfl⟩
theorem f0_176 : Brn code 176 (.if_icmp .ne 7) 7 179 183 := ⟨at_176, rfl, by decide, by decide⟩
theorem f0_179 : Isn code 179 (.iconst 1) 1 180 := ⟨at_179, rfl⟩
theorem f0_180 : Brn code 180 (.goto 4) 4 183 184 := ⟨at_180, rfl, by decide, by decide⟩
theorem f0_183 : Isn code 183 (.iconst 0) 1 184 := ⟨at_183, rfl⟩
theorem f0_184 : Isn code 184 (.istore 25) 2 186 := ⟨at_184, rfl⟩
theorem f0_186 : Isn code 186 (.lload 19) 2 188 := ⟨at_186, rfl⟩
theorem f0_188 : Isn code 188 (.ldc2_w 20) 3 191 := ⟨at_188, rfl⟩
theorem f0_191 : Isn code 191 (.lcmp) 1 192 := ⟨at_191, rfl⟩
theorem f0_192 : Brn code 192 (.ifCond .ne 16) 16 195 208 := ⟨at_192, rfl, by decide, by decide⟩
theorem f0_195 : Isn code 195 (.lload 21) 2 197 := ⟨at_195, rfl⟩
theorem f0_197 : Isn code 197 (.ldc2_w 22) 3 200 := ⟨at_197, rfl⟩
theorem f0_200 : Isn code 200 (.lcmp) 1 201 := ⟨at_200, rfl⟩
theorem f0_201 : Brn code 201 (.ifCond .ne 7) 7 204 208 := ⟨at_201, rfl, by decide, by decide⟩
theorem f0_204 : Isn code 204 (.iconst 1) 1 205 := ⟨at_204, rfl⟩
theorem f0_205 : Brn code 205 (.goto 4) 4 208 209 := ⟨at_205, rfl, by decide, by decide⟩
theorem f0_208 : Isn code 208 (.iconst 0) 1 209 := ⟨at_208, rfl⟩
theorem f0_209 : Isn code 209 (.istore 26) 2 211 := ⟨at_209, rfl⟩
theorem f0_211 : Isn code 211 (.iload 23) 2 213 := ⟨at_211, rfl⟩
theorem f0_213 : Brn code 213 (.ifCond .eq 22) 22 216 235 := ⟨at_213, rfl, by decide, by decide⟩
theorem f0_216 : Isn code 216 (.iload 24) 2 218 := ⟨at_216, rfl⟩
theorem f0_218 : Brn code 218 (.ifCond .eq 17) 17 221 235 := ⟨at_218, rfl, by decide, by decide⟩
theorem f0_221 : Isn code 221 (.iload 25) 2 223 := ⟨at_221, rfl⟩
theorem f0_223 : Brn code 223 (.ifCond .eq 12) 12 226 235 := ⟨at_223, rfl, by decide, by decide⟩
theorem f0_226 : Isn code 226 (.iload 26) 2 228 := ⟨at_226, rfl⟩
theorem f0_228 : Brn code 228 (.ifCond .eq 7) 7 231 235 := ⟨at_228, rfl, by decide, by decide⟩
theorem f0_231 : Isn code 231 (.iconst 1) 1 232 := ⟨at_231, rfl⟩
theorem f0_232 : Brn code 232 (.goto 4) 4 235 236 := ⟨at_232, rfl, by decide, by decide⟩
theorem f0_235 : Isn code 235 (.iconst 0) 1 236 := ⟨at_235, rfl⟩
theorem f0_236 : Isn code 236 (.ireturn) 1 237 := ⟨at_236, rfl⟩
set_option maxRecDepth 65536 in
set_option maxHeartbeats 40000000 in
theorem rm1 (l : Launch) (Z : State) (a0 : Array Value) (hw : ∀ d ∈ tables_1, d.before a0 Z = true) (a : Addr) (x0 : Int64) (h : Heap) (n0 : Nat) (ha : n0 ≤ a) (O : Obj Z h a "com/example/underboss/underboss/SeededRandom" own_nsR [.long 0]) :
    Ctr l Z (⟨"com/example/underboss/underboss/SeededRandom", "<init>", "(J)V"⟩ : MethodName) prog_5_method_1_code 3 (none) ({ frames := 1, cells := 0, slots := 0, locals := 18 } : Room) [.ref a, .long x0] h n0 (fun v h' => v = none ∧ Keep h h' [a] ∧ Obj Z h' a "com/example/underboss/underboss/SeededRandom" own_nsR [.long x0]) := by
  refine CtrW.intro (plainFor_of_name pn0) rfl #[.val (.ref a), .val (.long x0), .second] rfl ?_
  intro K T hnm hl X
  subst hl
  have Kp := Keep.refl h [a]
  refine o_aload_n X f1_0 rfl rfl ?_
  refine o_initO X 6 f1_1 (hw _ (List.mem_of_getElem? (i := 6) rfl)) (hw _ (List.mem_of_getElem? (i := 7) rfl)) (hw _ (List.mem_of_getElem? (i := 8) rfl)) rfl (by first | exact Nat.zero_le _ | simp [Value.category]) (by decide) ?_
  intro T1 X1
  refine o_aload_n X1 f1_4 rfl rfl ?_
  refine o_lload_n X1 f1_5 rfl ?_
  refine o_putO X1 0 f1_6 (hw _ (List.mem_of_getElem? (i := 9) rfl)) O (own_ldR Z a0 hw) rfl (Or.inl (hw _ (List.mem_of_getElem? (i := 10) rfl))) (hw _ (List.mem_of_getElem? (i := 1) rfl)) (ty := .long) (by decide) rfl rfl ha (vs' := [_]) rfl ?_
  intro T2 h2 X2 W2 O2
  have Kp2 := Kp.wr W2 (Or.inl (List.mem_singleton.mpr rfl))
  refine o_ret0 X2 f1_9 (by decide) (by decide) ?_
  exact ⟨rfl, Kp2, O2⟩
set_option maxRecDepth 65536 in
set_option maxHeartbeats 40000000 in
theorem rm3 (l : Launch) (Z : State) (a0 : Array Value) (hw : ∀ d ∈ tables_1, d.before a0 Z = true) (a : Addr) (h : Heap) (n0 : Nat) (ha : n0 ≤ a) (s0 : Int64) (O : Obj Z h a "com/example/underboss/underboss/SeededRandom" own_nsR [.long s0]) :
    Ctr l Z (⟨"com/example/underboss/underboss/SeededRandom", "nextLong", "()J"⟩ : MethodName) prog_5_method_2_code 3 (some (.long)) ({ frames := 0, cells := 0, slots := 0, locals := 0 } : Room) [.ref a] h n0 (fun v h' => v = some (.long (own_mix (s0 + (-7046029254386353131)))) ∧ Keep h h' [a] ∧ Obj Z h' a "com/example/underboss/underboss/SeededRandom" own_nsR [.long (s0 + (-7046029254386353131))]) := by
  refine CtrW.intro (plainFor_of_name pn0) rfl #[.val (.ref a), .unset, .unset] rfl ?_
  intro K T hnm hl X
  subst hl
  have Kp := Keep.refl h [a]
  refine o_aload_n X f3_0 rfl rfl ?_
  refine o_dup X f3_1 rfl ?_
  refine o_getO X 0 f3_2 (hw _ (List.mem_of_getElem? (i := 9) rfl)) O rfl rfl ?_
  intro T1 X1
  refine o_ldc2 X1 f3_5 (hw _ (List.mem_of_getElem? (i := 17) rfl)) ?_
  refine o_ladd X1 f3_8 ?_
  refine o_putO X1 0 f3_9 (hw _ (List.mem_of_getElem? (i := 9) rfl)) O (own_ldR Z a0 hw) rfl (Or.inl (hw _ (List.mem_of_getElem? (i := 10) rfl))) (hw _ (List.mem_of_getElem? (i := 1) rfl)) (ty := .long) (by decide) rfl rfl ha (vs' := [_]) rfl ?_
  intro T2 h2 X2 W2 O2
  have Kp2 := Kp.wr W2 (Or.inl (List.mem_singleton.mpr rfl))
  refine o_aload_n X2 f3_12 rfl rfl ?_
  refine o_getO X2 0 f3_13 (hw _ (List.mem_of_getElem? (i := 9) rfl)) O2 rfl rfl ?_
  intro T3 X3
  refine o_lstore_n X3 f3_16 (Ls' := #[_, _, _]) rfl ?_
  refine o_lload_n X3 f3_17 rfl ?_
  refine o_lload_n X3 f3_18 rfl ?_
  refine o_bipush 30 X3 f3_19 rfl ?_
  refine o_lushr X3 f3_21 ?_
  refine o_lxor X3 f3_22 ?_
  refine o_ldc2 X3 f3_23 (hw _ (List.mem_of_getElem? (i := 18) rfl)) ?_
  refine o_lmul X3 f3_26 ?_
  refine o_lstore_n X3 f3_27 (Ls' := #[_, _, _]) rfl ?_
  refine o_lload_n X3 f3_28 rfl ?_
  refine o_lload_n X3 f3_29 rfl ?_
  refine o_bipush 27 X3 f3_30 rfl ?_
  refine o_lushr X3 f3_32 ?_
  refine o_lxor X3 f3_33 ?_
  refine o_ldc2 X3 f3_34 (hw _ (List.mem_of_getElem? (i := 19) rfl)) ?_
  refine o_lmul X3 f3_37 ?_
  refine o_lstore_n X3 f3_38 (Ls' := #[_, _, _]) rfl ?_
  refine o_lload_n X3 f3_39 rfl ?_
  refine o_lload_n X3 f3_40 rfl ?_
  refine o_bipush 31 X3 f3_41 rfl ?_
  refine o_lushr X3 f3_43 ?_
  refine o_lxor X3 f3_44 ?_
  refine o_retL X3 f3_45 (by decide) (by decide) ?_
  exact ⟨rfl, Kp2, O2⟩
set_option maxRecDepth 65536 in
set_option maxHeartbeats 40000000 in
theorem rm0 (l : Launch) (Z : State) (a0 : Array Value) (hw : ∀ d ∈ tables_1, d.before a0 Z = true) (x0 : Int64) (x1 : Int64) (x2 : Int32) (h : Heap) (n0 : Nat) (hn0 : n0 ≤ h.size) :
    CtrW l Z x code 27 (some .boolean) tables_1 room_1 16 128 [.long x0, .long x1, .int x2] h n0 (fun v _ => v = some (.int 1)) := by
  refine CtrW.intro (plainFor_of_name pn1) rfl #[.val (.long x0), .second, .val (.long x1), .second, .val (.int x2), .unset, .unset, .unset, .unset, .unset, .unset, .unset, .unset, .unset, .unset, .unset, .unset, .unset, .unset, .unset, .unset, .unset, .unset, .unset, .unset, .unset, .unset] rfl ?_
  intro K T hnm hl X
  subst hl
  refine o_iload X f0_0 rfl ?_
  refine o_iconst 1 X f0_2 rfl ?_
  refine o_iand X f0_3 ?_
  refine o_if_eq X f0_4 (fun q4 => ?_) (fun q4 => ?_)
  · refine o_lload_n X f0_11 rfl ?_
    refine o_lstore X f0_12 (Ls' := #[_, _, _, _, _, _, _, _, _, _, _, _, _, _, _, _, _, _, _, _, _, _, _, _, _, _, _]) rfl ?_
    refine o_new X f0_14 (hw _ (List.mem_of_getElem? (i := 0) rfl)) (hw _ (List.mem_of_getElem? (i := 1) rfl)) (hw _ (List.mem_of_getElem? (i := 2) rfl)) (by decide) ?_
    intro T1 h1 oa e1 X1 E1 A1 D1
    have oaF1 := Obj.new (ns := own_nsR) (vs := [.long 0]) A1 D1 (own_ldR Z a0 hw) [.long] (by decide) rfl
    have ha_oa : n0 ≤ oa := e1 ▸ hn0
    have z1 := Nat.le_trans hn0 E1.1
    refine o_dup X1 f0_17 rfl ?_
    refine o_lload_n X1 f0_18 rfl ?_
    refine o_callN X1 8 f0_19 rfl (hw _ (List.mem_of_getElem? (i := 3) rfl)) (hw _ (List.mem_of_getElem? (i := 4) rfl)) (hw _ (List.mem_of_getElem? (i := 5) rfl)) (hw _ (List.mem_of_getElem? (i := 2) rfl)) (by decide) (rm1 K.l Z a0 hw oa _ _ n0 ha_oa oaF1) (lenOf pd0 rfl) rfl rfl (by first | exact Nat.zero_le _ | simp [Value.category]) (by decide) ?_
    rintro T2 h2 v2 ⟨rfl, Kp2, oaF2⟩ X2
    refine o_v0 ?_
    have z2 := Nat.le_trans z1 Kp2.1
    refine o_astore X2 f0_22 rfl (Ls' := #[_, _, _, _, _, _, _, _, _, _, _, _, _, _, _, _, _, _, _, _, _, _, _, _, _, _, _]) rfl ?_
    refine o_new X2 f0_24 (hw _ (List.mem_of_getElem? (i := 0) rfl)) (hw _ (List.mem_of_getElem? (i := 1) rfl)) (hw _ (List.mem_of_getElem? (i := 2) rfl)) (by decide) ?_
    intro T3 h3 ob e3 X3 E3 A3 D3
    have obF3 := Obj.new (ns := own_nsR) (vs := [.long 0]) A3 D3 (own_ldR Z a0 hw) [.long] (by decide) rfl
    have n_oa_ob : oa ≠ ob := Nat.ne_of_lt (e3 ▸ oaF2.lt)
    have n_ob_oa := n_oa_ob.symm
    have ha_ob : n0 ≤ ob := e3 ▸ z2
    have oaF3 := oaF2.ext E3
    have z3 := Nat.le_trans z2 E3.1
    refine o_dup X3 f0_27 rfl ?_
    refine o_lload_n X3 f0_28 rfl ?_
    refine o_ldc2 X3 f0_29 (hw _ (List.mem_of_getElem? (i := 11) rfl)) ?_
    refine o_ladd X3 f0_32 ?_
    refine o_callN X3 8 f0_33 rfl (hw _ (List.mem_of_getElem? (i := 3) rfl)) (hw _ (List.mem_of_getElem? (i := 4) rfl)) (hw _ (List.mem_of_getElem? (i := 5) rfl)) (hw _ (List.mem_of_getElem? (i := 2) rfl)) (by decide) (rm1 K.l Z a0 hw ob _ _ n0 ha_ob obF3) (lenOf pd0 rfl) rfl rfl (by first | exact Nat.zero_le _ | simp [Value.category]) (by decide) ?_
    rintro T4 h4 v4 ⟨rfl, Kp4, obF4⟩ X4
    refine o_v0 ?_
    have oaF4 := oaF3.keep Kp4 (ninS n_oa_ob nin0)
    have z4 := Nat.le_trans z3 Kp4.1
    refine o_astore X4 f0_36 rfl (Ls' := #[_, _, _, _, _, _, _, _, _, _, _, _, _, _, _, _, _, _, _, _, _, _, _, _, _, _, _]) rfl ?_
    refine o_new X4 f0_38 (hw _ (List.mem_of_getElem? (i := 0) rfl)) (hw _ (List.mem_of_getElem? (i := 1) rfl)) (hw _ (List.mem_of_getElem? (i := 2) rfl)) (by decide) ?_
    intro T5 h5 oc e5 X5 E5 A5 D5
    have ocF5 := Obj.new (ns := own_nsR) (vs := [.long 0]) A5 D5 (own_ldR Z a0 hw) [.long] (by decide) rfl
    have n_oa_oc : oa ≠ oc := Nat.ne_of_lt (e5 ▸ oaF4.lt)
    have n_oc_oa := n_oa_oc.symm
    have n_ob_oc : ob ≠ oc := Nat.ne_of_lt (e5 ▸ obF4.lt)
    have n_oc_ob := n_ob_oc.symm
    have ha_oc : n0 ≤ oc := e5 ▸ z4
    have oaF5 := oaF4.ext E5
    have obF5 := obF4.ext E5
    have z5 := Nat.le_trans z4 E5.1
    refine o_dup X5 f0_41 rfl ?_
    refine o_lload X5 f0_42 rfl ?_
    refine o_callN X5 8 f0_44 rfl (hw _ (List.mem_of_getElem? (i := 3) rfl)) (hw _ (List.mem_of_getElem? (i := 4) rfl)) (hw _ (List.mem_of_getElem? (i := 5) rfl)) (hw _ (List.mem_of_getElem? (i := 2) rfl)) (by decide) (rm1 K.l Z a0 hw oc _ _ n0 ha_oc ocF5) (lenOf pd0 rfl) rfl rfl (by first | exact Nat.zero_le _ | simp [Value.category]) (by decide) ?_
    rintro T6 h6 v6 ⟨rfl, Kp6, ocF6⟩ X6
    refine o_v0 ?_
    have oaF6 := oaF5.keep Kp6 (ninS n_oa_oc nin0)
    have obF6 := obF5.keep Kp6 (ninS n_ob_oc nin0)
    have z6 := Nat.le_trans z5 Kp6.1
    refine o_astore X6 f0_47 rfl (Ls' := #[_, _, _, _, _, _, _, _, _, _, _, _, _, _, _, _, _, _, _, _, _, _, _, _, _, _, _]) rfl ?_
    refine o_new X6 f0_49 (hw _ (List.mem_of_getElem? (i := 0) rfl)) (hw _ (List.mem_of_getElem? (i := 1) rfl)) (hw _ (List.mem_of_getElem? (i := 2) rfl)) (by decide) ?_
    intro T7 h7 oe e7 X7 E7 A7 D7
    have oeF7 := Obj.new (ns := own_nsR) (vs := [.long 0]) A7 D7 (own_ldR Z a0 hw) [.long] (by decide) rfl
    have n_oa_oe : oa ≠ oe := Nat.ne_of_lt (e7 ▸ oaF6.lt)
    have n_oe_oa := n_oa_oe.symm
    have n_ob_oe : ob ≠ oe := Nat.ne_of_lt (e7 ▸ obF6.lt)
    have n_oe_ob := n_ob_oe.symm
    have n_oc_oe : oc ≠ oe := Nat.ne_of_lt (e7 ▸ ocF6.lt)
    have n_oe_oc := n_oc_oe.symm
    have ha_oe : n0 ≤ oe := e7 ▸ z6
    have oaF7 := oaF6.ext E7
    have obF7 := obF6.ext E7
    have ocF7 := ocF6.ext E7
    have z7 := Nat.le_trans z6 E7.1
    refine o_dup X7 f0_52 rfl ?_
    refine o_lconst 0 X7 f0_53 rfl ?_
    refine o_callN X7 8 f0_54 rfl (hw _ (List.mem_of_getElem? (i := 3) rfl)) (hw _ (List.mem_of_getElem? (i := 4) rfl)) (hw _ (List.mem_of_getElem? (i := 5) rfl)) (hw _ (List.mem_of_getElem? (i := 2) rfl)) (by decide) (rm1 K.l Z a0 hw oe _ _ n0 ha_oe oeF7) (lenOf pd0 rfl) rfl rfl (by first | exact Nat.zero_le _ | simp [Value.category]) (by decide) ?_
    rintro T8 h8 v8 ⟨rfl, Kp8, oeF8⟩ X8
    refine o_v0 ?_
    have oaF8 := oaF7.keep Kp8 (ninS n_oa_oe nin0)
    have obF8 := obF7.keep Kp8 (ninS n_ob_oe nin0)
    have ocF8 := ocF7.keep Kp8 (ninS n_oc_oe nin0)
    have z8 := Nat.le_trans z7 Kp8.1
    refine o_astore X8 f0_57 rfl (Ls' := #[_, _, _, _, _, _, _, _, _, _, _, _, _, _, _, _, _, _, _, _, _, _, _, _, _, _, _]) rfl ?_
    refine o_aload X8 f0_59 rfl rfl ?_
    refine o_callV X8 8 f0_61 (hw _ (List.mem_of_getElem? (i := 12) rfl)) (hw _ (List.mem_of_getElem? (i := 13) rfl)) (hw _ (List.mem_of_getElem? (i := 15) rfl)) (hw _ (List.mem_of_getElem? (i := 15) rfl)) (hw _ (List.mem_of_getElem? (i := 14) rfl)) (by decide) (hw _ (List.mem_of_getElem? (i := 16) rfl)) (hw _ (List.mem_of_getElem? (i := 2) rfl)) (rm3 K.l Z a0 hw oa _ n0 ha_oa _ oaF8) oaF8.1 (lenOf pd1 rfl) rfl rfl (by first | exact Nat.zero_le _ | simp [Value.category]) (by decide) ?_
    rintro T9 h9 v9 ⟨rfl, Kp9, oaF9⟩ X9
    refine o_v1 ?_
    have obF9 := obF8.keep Kp9 (ninS n_ob_oa nin0)
    have ocF9 := ocF8.keep Kp9 (ninS n_oc_oa nin0)
    have oeF9 := oeF8.keep Kp9 (ninS n_oe_oa nin0)
    have z9 := Nat.le_trans z8 Kp9.1
    refine o_lstore X9 f0_64 (Ls' := #[_, _, _, _, _, _, _, _, _, _, _, _, _, _, _, _, _, _, _, _, _, _, _, _, _, _, _]) rfl ?_
    refine o_aload X9 f0_66 rfl rfl ?_
    refine o_callV X9 8 f0_68 (hw _ (List.mem_of_getElem? (i := 12) rfl)) (hw _ (List.mem_of_getElem? (i := 13) rfl)) (hw _ (List.mem_of_getElem? (i := 15) rfl)) (hw _ (List.mem_of_getElem? (i := 15) rfl)) (hw _ (List.mem_of_getElem? (i := 14) rfl)) (by decide) (hw _ (List.mem_of_getElem? (i := 16) rfl)) (hw _ (List.mem_of_getElem? (i := 2) rfl)) (rm3 K.l Z a0 hw oa _ n0 ha_oa _ oaF9) oaF9.1 (lenOf pd1 rfl) rfl rfl (by first | exact Nat.zero_le _ | simp [Value.category]) (by decide) ?_
    rintro T10 h10 v10 ⟨rfl, Kp10, oaF10⟩ X10
    refine o_v1 ?_
    have obF10 := obF9.keep Kp10 (ninS n_ob_oa nin0)
    have ocF10 := ocF9.keep Kp10 (ninS n_oc_oa nin0)
    have oeF10 := oeF9.keep Kp10 (ninS n_oe_oa nin0)
    have z10 := Nat.le_trans z9 Kp10.1
    refine o_lstore X10 f0_71 (Ls' := #[_, _, _, _, _, _, _, _, _, _, _, _, _, _, _, _, _, _, _, _, _, _, _, _, _, _, _]) rfl ?_
    refine o_aload X10 f0_73 rfl rfl ?_
    refine o_callV X10 8 f0_75 (hw _ (List.mem_of_getElem? (i := 12) rfl)) (hw _ (List.mem_of_getElem? (i := 13) rfl)) (hw _ (List.mem_of_getElem? (i := 15) rfl)) (hw _ (List.mem_of_getElem? (i := 15) rfl)) (hw _ (List.mem_of_getElem? (i := 14) rfl)) (by decide) (hw _ (List.mem_of_getElem? (i := 16) rfl)) (hw _ (List.mem_of_getElem? (i := 2) rfl)) (rm3 K.l Z a0 hw ob _ n0 ha_ob _ obF10) obF10.1 (lenOf pd1 rfl) rfl rfl (by first | exact Nat.zero_le _ | simp [Value.category]) (by decide) ?_
    rintro T11 h11 v11 ⟨rfl, Kp11, obF11⟩ X11
    refine o_v1 ?_
    have oaF11 := oaF10.keep Kp11 (ninS n_oa_ob nin0)
    have ocF11 := ocF10.keep Kp11 (ninS n_oc_ob nin0)
    have oeF11 := oeF10.keep Kp11 (ninS n_oe_ob nin0)
    have z11 := Nat.le_trans z10 Kp11.1
    refine o_lstore X11 f0_78 (Ls' := #[_, _, _, _, _, _, _, _, _, _, _, _, _, _, _, _, _, _, _, _, _, _, _, _, _, _, _]) rfl ?_
    refine o_aload X11 f0_80 rfl rfl ?_
    refine o_callV X11 8 f0_82 (hw _ (List.mem_of_getElem? (i := 12) rfl)) (hw _ (List.mem_of_getElem? (i := 13) rfl)) (hw _ (List.mem_of_getElem? (i := 15) rfl)) (hw _ (List.mem_of_getElem? (i := 15) rfl)) (hw _ (List.mem_of_getElem? (i := 14) rfl)) (by decide) (hw _ (List.mem_of_getElem? (i := 16) rfl)) (hw _ (List.mem_of_getElem? (i := 2) rfl)) (rm3 K.l Z a0 hw oc _ n0 ha_oc _ ocF11) ocF11.1 (lenOf pd1 rfl) rfl rfl (by first | exact Nat.zero_le _ | simp [Value.category]) (by decide) ?_
    rintro T12 h12 v12 ⟨rfl, Kp12, ocF12⟩ X12
    refine o_v1 ?_
    have oaF12 := oaF11.keep Kp12 (ninS n_oa_oc nin0)
    have obF12 := obF11.keep Kp12 (ninS n_ob_oc nin0)
    have oeF12 := oeF11.keep Kp12 (ninS n_oe_oc nin0)
    have z12 := Nat.le_trans z11 Kp12.1
    refine o_lstore X12 f0_85 (Ls' := #[_, _, _, _, _, _, _, _, _, _, _, _, _, _, _, _, _, _, _, _, _, _, _, _, _, _, _]) rfl ?_
    refine o_aload X12 f0_87 rfl rfl ?_
    refine o_callV X12 8 f0_89 (hw _ (List.mem_of_getElem? (i := 12) rfl)) (hw _ (List.mem_of_getElem? (i := 13) rfl)) (hw _ (List.mem_of_getElem? (i := 15) rfl)) (hw _ (List.mem_of_getElem? (i := 15) rfl)) (hw _ (List.mem_of_getElem? (i := 14) rfl)) (by decide) (hw _ (List.mem_of_getElem? (i := 16) rfl)) (hw _ (List.mem_of_getElem? (i := 2) rfl)) (rm3 K.l Z a0 hw oe _ n0 ha_oe _ oeF12) oeF12.1 (lenOf pd1 rfl) rfl rfl (by first | exact Nat.zero_le _ | simp [Value.category]) (by decide) ?_
    rintro T13 h13 v13 ⟨rfl, Kp13, oeF13⟩ X13
    refine o_v1 ?_
    have oaF13 := oaF12.keep Kp13 (ninS n_oa_oe nin0)
    have obF13 := obF12.keep Kp13 (ninS n_ob_oe nin0)
    have ocF13 := ocF12.keep Kp13 (ninS n_oc_oe nin0)
    have z13 := Nat.le_trans z12 Kp13.1
    refine o_lstore X13 f0_92 (Ls' := #[_, _, _, _, _, _, _, _, _, _, _, _, _, _, _, _, _, _, _, _, _, _, _, _, _, _, _]) rfl ?_
    refine o_aload X13 f0_94 rfl rfl ?_
    refine o_callV X13 8 f0_96 (hw _ (List.mem_of_getElem? (i := 12) rfl)) (hw _ (List.mem_of_getElem? (i := 13) rfl)) (hw _ (List.mem_of_getElem? (i := 15) rfl)) (hw _ (List.mem_of_getElem? (i := 15) rfl)) (hw _ (List.mem_of_getElem? (i := 14) rfl)) (by decide) (hw _ (List.mem_of_getElem? (i := 16) rfl)) (hw _ (List.mem_of_getElem? (i := 2) rfl)) (rm3 K.l Z a0 hw oe _ n0 ha_oe _ oeF13) oeF13.1 (lenOf pd1 rfl) rfl rfl (by first | exact Nat.zero_le _ | simp [Value.category]) (by decide) ?_
    rintro T14 h14 v14 ⟨rfl, Kp14, oeF14⟩ X14
    refine o_v1 ?_
    have oaF14 := oaF13.keep Kp14 (ninS n_oa_oe nin0)
    have obF14 := obF13.keep Kp14 (ninS n_ob_oe nin0)
    have ocF14 := ocF13.keep Kp14 (ninS n_oc_oe nin0)
    have z14 := Nat.le_trans z13 Kp14.1
    refine o_lstore X14 f0_99 (Ls' := #[_, _, _, _, _, _, _, _, _, _, _, _, _, _, _, _, _, _, _, _, _, _, _, _, _, _, _]) rfl ?_
    refine o_lload X14 f0_101 rfl ?_
    refine o_lload X14 f0_103 rfl ?_
    refine o_lcmp X14 f0_105 ?_
    refine o_lif_ne_f X14 f0_106 (rfl) ?_
    refine o_iconst 1 X14 f0_109 rfl ?_
    refine o_goto X14 f0_110 ?_
    refine o_istore X14 f0_114 (Ls' := #[_, _, _, _, _, _, _, _, _, _, _, _, _, _, _, _, _, _, _, _, _, _, _, _, _, _, _]) rfl ?_
    refine o_lload_n X14 f0_116 rfl ?_
    refine o_lload X14 f0_117 rfl ?_
    refine o_lcmp X14 f0_119 ?_
    refine o_bool_lif_ne X14 f0_120 f0_123 f0_124 f0_127 ?_
    refine o_lload X14 f0_128 rfl ?_
    refine o_lload X14 f0_130 rfl ?_
    refine o_lcmp X14 f0_132 ?_
    refine o_bool_lif_ne X14 f0_133 f0_136 f0_137 f0_140 ?_
    refine o_icmp_ne_f X14 f0_141 (own_a _ _ _) ?_
    refine o_iconst 1 X14 f0_144 rfl ?_
    refine o_goto X14 f0_145 ?_
    refine o_istore X14 f0_149 (Ls' := #[_, _, _, _, _, _, _, _, _, _, _, _, _, _, _, _, _, _, _, _, _, _, _, _, _, _, _]) rfl ?_
    refine o_lload X14 f0_151 rfl ?_
    refine o_lconst 0 X14 f0_153 rfl ?_
    refine o_lcmp X14 f0_154 ?_
    refine o_bool_lif_ne X14 f0_155 f0_158 f0_159 f0_162 ?_
    refine o_lload_n X14 f0_163 rfl ?_
    refine o_ldc2 X14 f0_164 (hw _ (List.mem_of_getElem? (i := 20) rfl)) ?_
    refine o_lcmp X14 f0_167 ?_
    refine o_bool_lif_ne X14 f0_168 f0_171 f0_172 f0_175 ?_
    refine o_icmp_ne_f X14 f0_176 (own_b _) ?_
    refine o_iconst 1 X14 f0_179 rfl ?_
    refine o_goto X14 f0_180 ?_
    refine o_istore X14 f0_184 (Ls' := #[_, _, _, _, _, _, _, _, _, _, _, _, _, _, _, _, _, _, _, _, _, _, _, _, _, _, _]) rfl ?_
    refine o_lload X14 f0_186 rfl ?_
    refine o_ldc2 X14 f0_188 (hw _ (List.mem_of_getElem? (i := 21) rfl)) ?_
    refine o_lcmp X14 f0_191 ?_
    refine o_lif_ne_f X14 f0_192 (own_v1) ?_
    refine o_lload X14 f0_195 rfl ?_
    refine o_ldc2 X14 f0_197 (hw _ (List.mem_of_getElem? (i := 22) rfl)) ?_
    refine o_lcmp X14 f0_200 ?_
    refine o_lif_ne_f X14 f0_201 (own_v2) ?_
    refine o_iconst 1 X14 f0_204 rfl ?_
    refine o_goto X14 f0_205 ?_
    refine o_istore X14 f0_209 (Ls' := #[_, _, _, _, _, _, _, _, _, _, _, _, _, _, _, _, _, _, _, _, _, _, _, _, _, _, _]) rfl ?_
    refine o_iload X14 f0_211 rfl ?_
    refine o_if_eq_f X14 f0_213 (by decide) ?_
    refine o_iload X14 f0_216 rfl ?_
    refine o_if_eq_f X14 f0_218 (by decide) ?_
    refine o_iload X14 f0_221 rfl ?_
    refine o_if_eq_f X14 f0_223 (by decide) ?_
    refine o_iload X14 f0_226 rfl ?_
    refine o_if_eq_f X14 f0_228 (by decide) ?_
    refine o_iconst 1 X14 f0_231 rfl ?_
    refine o_goto X14 f0_232 ?_
    refine o_retZ X14 f0_236 (by decide) (by decide) ?_
    rfl
  · refine o_lload_n X f0_7 rfl ?_
    refine o_goto X f0_8 ?_
    refine o_lstore X f0_12 (Ls' := #[_, _, _, _, _, _, _, _, _, _, _, _, _, _, _, _, _, _, _, _, _, _, _, _, _, _, _]) rfl ?_
    refine o_new X f0_14 (hw _ (List.mem_of_getElem? (i := 0) rfl)) (hw _ (List.mem_of_getElem? (i := 1) rfl)) (hw _ (List.mem_of_getElem? (i := 2) rfl)) (by decide) ?_
    intro T15 h15 oa e15 X15 E15 A15 D15
    have oaF15 := Obj.new (ns := own_nsR) (vs := [.long 0]) A15 D15 (own_ldR Z a0 hw) [.long] (by decide) rfl
    have ha_oa : n0 ≤ oa := e15 ▸ hn0
    have z15 := Nat.le_trans hn0 E15.1
    refine o_dup X15 f0_17 rfl ?_
    refine o_lload_n X15 f0_18 rfl ?_
    refine o_callN X15 8 f0_19 rfl (hw _ (List.mem_of_getElem? (i := 3) rfl)) (hw _ (List.mem_of_getElem? (i := 4) rfl)) (hw _ (List.mem_of_getElem? (i := 5) rfl)) (hw _ (List.mem_of_getElem? (i := 2) rfl)) (by decide) (rm1 K.l Z a0 hw oa _ _ n0 ha_oa oaF15) (lenOf pd0 rfl) rfl rfl (by first | exact Nat.zero_le _ | simp [Value.category]) (by decide) ?_
    rintro T16 h16 v16 ⟨rfl, Kp16, oaF16⟩ X16
    refine o_v0 ?_
    have z16 := Nat.le_trans z15 Kp16.1
    refine o_astore X16 f0_22 rfl (Ls' := #[_, _, _, _, _, _, _, _, _, _, _, _, _, _, _, _, _, _, _, _, _, _, _, _, _, _, _]) rfl ?_
    refine o_new X16 f0_24 (hw _ (List.mem_of_getElem? (i := 0) rfl)) (hw _ (List.mem_of_getElem? (i := 1) rfl)) (hw _ (List.mem_of_getElem? (i := 2) rfl)) (by decide) ?_
    intro T17 h17 ob e17 X17 E17 A17 D17
    have obF17 := Obj.new (ns := own_nsR) (vs := [.long 0]) A17 D17 (own_ldR Z a0 hw) [.long] (by decide) rfl
    have n_oa_ob : oa ≠ ob := Nat.ne_of_lt (e17 ▸ oaF16.lt)
    have n_ob_oa := n_oa_ob.symm
    have ha_ob : n0 ≤ ob := e17 ▸ z16
    have oaF17 := oaF16.ext E17
    have z17 := Nat.le_trans z16 E17.1
    refine o_dup X17 f0_27 rfl ?_
    refine o_lload_n X17 f0_28 rfl ?_
    refine o_ldc2 X17 f0_29 (hw _ (List.mem_of_getElem? (i := 11) rfl)) ?_
    refine o_ladd X17 f0_32 ?_
    refine o_callN X17 8 f0_33 rfl (hw _ (List.mem_of_getElem? (i := 3) rfl)) (hw _ (List.mem_of_getElem? (i := 4) rfl)) (hw _ (List.mem_of_getElem? (i := 5) rfl)) (hw _ (List.mem_of_getElem? (i := 2) rfl)) (by decide) (rm1 K.l Z a0 hw ob _ _ n0 ha_ob obF17) (lenOf pd0 rfl) rfl rfl (by first | exact Nat.zero_le _ | simp [Value.category]) (by decide) ?_
    rintro T18 h18 v18 ⟨rfl, Kp18, obF18⟩ X18
    refine o_v0 ?_
    have oaF18 := oaF17.keep Kp18 (ninS n_oa_ob nin0)
    have z18 := Nat.le_trans z17 Kp18.1
    refine o_astore X18 f0_36 rfl (Ls' := #[_, _, _, _, _, _, _, _, _, _, _, _, _, _, _, _, _, _, _, _, _, _, _, _, _, _, _]) rfl ?_
    refine o_new X18 f0_38 (hw _ (List.mem_of_getElem? (i := 0) rfl)) (hw _ (List.mem_of_getElem? (i := 1) rfl)) (hw _ (List.mem_of_getElem? (i := 2) rfl)) (by decide) ?_
    intro T19 h19 oc e19 X19 E19 A19 D19
    have ocF19 := Obj.new (ns := own_nsR) (vs := [.long 0]) A19 D19 (own_ldR Z a0 hw) [.long] (by decide) rfl
    have n_oa_oc : oa ≠ oc := Nat.ne_of_lt (e19 ▸ oaF18.lt)
    have n_oc_oa := n_oa_oc.symm
    have n_ob_oc : ob ≠ oc := Nat.ne_of_lt (e19 ▸ obF18.lt)
    have n_oc_ob := n_ob_oc.symm
    have ha_oc : n0 ≤ oc := e19 ▸ z18
    have oaF19 := oaF18.ext E19
    have obF19 := obF18.ext E19
    have z19 := Nat.le_trans z18 E19.1
    refine o_dup X19 f0_41 rfl ?_
    refine o_lload X19 f0_42 rfl ?_
    refine o_callN X19 8 f0_44 rfl (hw _ (List.mem_of_getElem? (i := 3) rfl)) (hw _ (List.mem_of_getElem? (i := 4) rfl)) (hw _ (List.mem_of_getElem? (i := 5) rfl)) (hw _ (List.mem_of_getElem? (i := 2) rfl)) (by decide) (rm1 K.l Z a0 hw oc _ _ n0 ha_oc ocF19) (lenOf pd0 rfl) rfl rfl (by first | exact Nat.zero_le _ | simp [Value.category]) (by decide) ?_
    rintro T20 h20 v20 ⟨rfl, Kp20, ocF20⟩ X20
    refine o_v0 ?_
    have oaF20 := oaF19.keep Kp20 (ninS n_oa_oc nin0)
    have obF20 := obF19.keep Kp20 (ninS n_ob_oc nin0)
    have z20 := Nat.le_trans z19 Kp20.1
    refine o_astore X20 f0_47 rfl (Ls' := #[_, _, _, _, _, _, _, _, _, _, _, _, _, _, _, _, _, _, _, _, _, _, _, _, _, _, _]) rfl ?_
    refine o_new X20 f0_49 (hw _ (List.mem_of_getElem? (i := 0) rfl)) (hw _ (List.mem_of_getElem? (i := 1) rfl)) (hw _ (List.mem_of_getElem? (i := 2) rfl)) (by decide) ?_
    intro T21 h21 oe e21 X21 E21 A21 D21
    have oeF21 := Obj.new (ns := own_nsR) (vs := [.long 0]) A21 D21 (own_ldR Z a0 hw) [.long] (by decide) rfl
    have n_oa_oe : oa ≠ oe := Nat.ne_of_lt (e21 ▸ oaF20.lt)
    have n_oe_oa := n_oa_oe.symm
    have n_ob_oe : ob ≠ oe := Nat.ne_of_lt (e21 ▸ obF20.lt)
    have n_oe_ob := n_ob_oe.symm
    have n_oc_oe : oc ≠ oe := Nat.ne_of_lt (e21 ▸ ocF20.lt)
    have n_oe_oc := n_oc_oe.symm
    have ha_oe : n0 ≤ oe := e21 ▸ z20
    have oaF21 := oaF20.ext E21
    have obF21 := obF20.ext E21
    have ocF21 := ocF20.ext E21
    have z21 := Nat.le_trans z20 E21.1
    refine o_dup X21 f0_52 rfl ?_
    refine o_lconst 0 X21 f0_53 rfl ?_
    refine o_callN X21 8 f0_54 rfl (hw _ (List.mem_of_getElem? (i := 3) rfl)) (hw _ (List.mem_of_getElem? (i := 4) rfl)) (hw _ (List.mem_of_getElem? (i := 5) rfl)) (hw _ (List.mem_of_getElem? (i := 2) rfl)) (by decide) (rm1 K.l Z a0 hw oe _ _ n0 ha_oe oeF21) (lenOf pd0 rfl) rfl rfl (by first | exact Nat.zero_le _ | simp [Value.category]) (by decide) ?_
    rintro T22 h22 v22 ⟨rfl, Kp22, oeF22⟩ X22
    refine o_v0 ?_
    have oaF22 := oaF21.keep Kp22 (ninS n_oa_oe nin0)
    have obF22 := obF21.keep Kp22 (ninS n_ob_oe nin0)
    have ocF22 := ocF21.keep Kp22 (ninS n_oc_oe nin0)
    have z22 := Nat.le_trans z21 Kp22.1
    refine o_astore X22 f0_57 rfl (Ls' := #[_, _, _, _, _, _, _, _, _, _, _, _, _, _, _, _, _, _, _, _, _, _, _, _, _, _, _]) rfl ?_
    refine o_aload X22 f0_59 rfl rfl ?_
    refine o_callV X22 8 f0_61 (hw _ (List.mem_of_getElem? (i := 12) rfl)) (hw _ (List.mem_of_getElem? (i := 13) rfl)) (hw _ (List.mem_of_getElem? (i := 15) rfl)) (hw _ (List.mem_of_getElem? (i := 15) rfl)) (hw _ (List.mem_of_getElem? (i := 14) rfl)) (by decide) (hw _ (List.mem_of_getElem? (i := 16) rfl)) (hw _ (List.mem_of_getElem? (i := 2) rfl)) (rm3 K.l Z a0 hw oa _ n0 ha_oa _ oaF22) oaF22.1 (lenOf pd1 rfl) rfl rfl (by first | exact Nat.zero_le _ | simp [Value.category]) (by decide) ?_
    rintro T23 h23 v23 ⟨rfl, Kp23, oaF23⟩ X23
    refine o_v1 ?_
    have obF23 := obF22.keep Kp23 (ninS n_ob_oa nin0)
    have ocF23 := ocF22.keep Kp23 (ninS n_oc_oa nin0)
    have oeF23 := oeF22.keep Kp23 (ninS n_oe_oa nin0)
    have z23 := Nat.le_trans z22 Kp23.1
    refine o_lstore X23 f0_64 (Ls' := #[_, _, _, _, _, _, _, _, _, _, _, _, _, _, _, _, _, _, _, _, _, _, _, _, _, _, _]) rfl ?_
    refine o_aload X23 f0_66 rfl rfl ?_
    refine o_callV X23 8 f0_68 (hw _ (List.mem_of_getElem? (i := 12) rfl)) (hw _ (List.mem_of_getElem? (i := 13) rfl)) (hw _ (List.mem_of_getElem? (i := 15) rfl)) (hw _ (List.mem_of_getElem? (i := 15) rfl)) (hw _ (List.mem_of_getElem? (i := 14) rfl)) (by decide) (hw _ (List.mem_of_getElem? (i := 16) rfl)) (hw _ (List.mem_of_getElem? (i := 2) rfl)) (rm3 K.l Z a0 hw oa _ n0 ha_oa _ oaF23) oaF23.1 (lenOf pd1 rfl) rfl rfl (by first | exact Nat.zero_le _ | simp [Value.category]) (by decide) ?_
    rintro T24 h24 v24 ⟨rfl, Kp24, oaF24⟩ X24
    refine o_v1 ?_
    have obF24 := obF23.keep Kp24 (ninS n_ob_oa nin0)
    have ocF24 := ocF23.keep Kp24 (ninS n_oc_oa nin0)
    have oeF24 := oeF23.keep Kp24 (ninS n_oe_oa nin0)
    have z24 := Nat.le_trans z23 Kp24.1
    refine o_lstore X24 f0_71 (Ls' := #[_, _, _, _, _, _, _, _, _, _, _, _, _, _, _, _, _, _, _, _, _, _, _, _, _, _, _]) rfl ?_
    refine o_aload X24 f0_73 rfl rfl ?_
    refine o_callV X24 8 f0_75 (hw _ (List.mem_of_getElem? (i := 12) rfl)) (hw _ (List.mem_of_getElem? (i := 13) rfl)) (hw _ (List.mem_of_getElem? (i := 15) rfl)) (hw _ (List.mem_of_getElem? (i := 15) rfl)) (hw _ (List.mem_of_getElem? (i := 14) rfl)) (by decide) (hw _ (List.mem_of_getElem? (i := 16) rfl)) (hw _ (List.mem_of_getElem? (i := 2) rfl)) (rm3 K.l Z a0 hw ob _ n0 ha_ob _ obF24) obF24.1 (lenOf pd1 rfl) rfl rfl (by first | exact Nat.zero_le _ | simp [Value.category]) (by decide) ?_
    rintro T25 h25 v25 ⟨rfl, Kp25, obF25⟩ X25
    refine o_v1 ?_
    have oaF25 := oaF24.keep Kp25 (ninS n_oa_ob nin0)
    have ocF25 := ocF24.keep Kp25 (ninS n_oc_ob nin0)
    have oeF25 := oeF24.keep Kp25 (ninS n_oe_ob nin0)
    have z25 := Nat.le_trans z24 Kp25.1
    refine o_lstore X25 f0_78 (Ls' := #[_, _, _, _, _, _, _, _, _, _, _, _, _, _, _, _, _, _, _, _, _, _, _, _, _, _, _]) rfl ?_
    refine o_aload X25 f0_80 rfl rfl ?_
    refine o_callV X25 8 f0_82 (hw _ (List.mem_of_getElem? (i := 12) rfl)) (hw _ (List.mem_of_getElem? (i := 13) rfl)) (hw _ (List.mem_of_getElem? (i := 15) rfl)) (hw _ (List.mem_of_getElem? (i := 15) rfl)) (hw _ (List.mem_of_getElem? (i := 14) rfl)) (by decide) (hw _ (List.mem_of_getElem? (i := 16) rfl)) (hw _ (List.mem_of_getElem? (i := 2) rfl)) (rm3 K.l Z a0 hw oc _ n0 ha_oc _ ocF25) ocF25.1 (lenOf pd1 rfl) rfl rfl (by first | exact Nat.zero_le _ | simp [Value.category]) (by decide) ?_
    rintro T26 h26 v26 ⟨rfl, Kp26, ocF26⟩ X26
    refine o_v1 ?_
    have oaF26 := oaF25.keep Kp26 (ninS n_oa_oc nin0)
    have obF26 := obF25.keep Kp26 (ninS n_ob_oc nin0)
    have oeF26 := oeF25.keep Kp26 (ninS n_oe_oc nin0)
    have z26 := Nat.le_trans z25 Kp26.1
    refine o_lstore X26 f0_85 (Ls' := #[_, _, _, _, _, _, _, _, _, _, _, _, _, _, _, _, _, _, _, _, _, _, _, _, _, _, _]) rfl ?_
    refine o_aload X26 f0_87 rfl rfl ?_
    refine o_callV X26 8 f0_89 (hw _ (List.mem_of_getElem? (i := 12) rfl)) (hw _ (List.mem_of_getElem? (i := 13) rfl)) (hw _ (List.mem_of_getElem? (i := 15) rfl)) (hw _ (List.mem_of_getElem? (i := 15) rfl)) (hw _ (List.mem_of_getElem? (i := 14) rfl)) (by decide) (hw _ (List.mem_of_getElem? (i := 16) rfl)) (hw _ (List.mem_of_getElem? (i := 2) rfl)) (rm3 K.l Z a0 hw oe _ n0 ha_oe _ oeF26) oeF26.1 (lenOf pd1 rfl) rfl rfl (by first | exact Nat.zero_le _ | simp [Value.category]) (by decide) ?_
    rintro T27 h27 v27 ⟨rfl, Kp27, oeF27⟩ X27
    refine o_v1 ?_
    have oaF27 := oaF26.keep Kp27 (ninS n_oa_oe nin0)
    have obF27 := obF26.keep Kp27 (ninS n_ob_oe nin0)
    have ocF27 := ocF26.keep Kp27 (ninS n_oc_oe nin0)
    have z27 := Nat.le_trans z26 Kp27.1
    refine o_lstore X27 f0_92 (Ls' := #[_, _, _, _, _, _, _, _, _, _, _, _, _, _, _, _, _, _, _, _, _, _, _, _, _, _, _]) rfl ?_
    refine o_aload X27 f0_94 rfl rfl ?_
    refine o_callV X27 8 f0_96 (hw _ (List.mem_of_getElem? (i := 12) rfl)) (hw _ (List.mem_of_getElem? (i := 13) rfl)) (hw _ (List.mem_of_getElem? (i := 15) rfl)) (hw _ (List.mem_of_getElem? (i := 15) rfl)) (hw _ (List.mem_of_getElem? (i := 14) rfl)) (by decide) (hw _ (List.mem_of_getElem? (i := 16) rfl)) (hw _ (List.mem_of_getElem? (i := 2) rfl)) (rm3 K.l Z a0 hw oe _ n0 ha_oe _ oeF27) oeF27.1 (lenOf pd1 rfl) rfl rfl (by first | exact Nat.zero_le _ | simp [Value.category]) (by decide) ?_
    rintro T28 h28 v28 ⟨rfl, Kp28, oeF28⟩ X28
    refine o_v1 ?_
    have oaF28 := oaF27.keep Kp28 (ninS n_oa_oe nin0)
    have obF28 := obF27.keep Kp28 (ninS n_ob_oe nin0)
    have ocF28 := ocF27.keep Kp28 (ninS n_oc_oe nin0)
    have z28 := Nat.le_trans z27 Kp28.1
    refine o_lstore X28 f0_99 (Ls' := #[_, _, _, _, _, _, _, _, _, _, _, _, _, _, _, _, _, _, _, _, _, _, _, _, _, _, _]) rfl ?_
    refine o_lload X28 f0_101 rfl ?_
    refine o_lload X28 f0_103 rfl ?_
    refine o_lcmp X28 f0_105 ?_
    refine o_lif_ne_f X28 f0_106 (rfl) ?_
    refine o_iconst 1 X28 f0_109 rfl ?_
    refine o_goto X28 f0_110 ?_
    refine o_istore X28 f0_114 (Ls' := #[_, _, _, _, _, _, _, _, _, _, _, _, _, _, _, _, _, _, _, _, _, _, _, _, _, _, _]) rfl ?_
    refine o_lload_n X28 f0_116 rfl ?_
    refine o_lload X28 f0_117 rfl ?_
    refine o_lcmp X28 f0_119 ?_
    refine o_bool_lif_ne X28 f0_120 f0_123 f0_124 f0_127 ?_
    refine o_lload X28 f0_128 rfl ?_
    refine o_lload X28 f0_130 rfl ?_
    refine o_lcmp X28 f0_132 ?_
    refine o_bool_lif_ne X28 f0_133 f0_136 f0_137 f0_140 ?_
    refine o_icmp_ne_f X28 f0_141 (own_a _ _ _) ?_
    refine o_iconst 1 X28 f0_144 rfl ?_
    refine o_goto X28 f0_145 ?_
    refine o_istore X28 f0_149 (Ls' := #[_, _, _, _, _, _, _, _, _, _, _, _, _, _, _, _, _, _, _, _, _, _, _, _, _, _, _]) rfl ?_
    refine o_lload X28 f0_151 rfl ?_
    refine o_lconst 0 X28 f0_153 rfl ?_
    refine o_lcmp X28 f0_154 ?_
    refine o_bool_lif_ne X28 f0_155 f0_158 f0_159 f0_162 ?_
    refine o_lload_n X28 f0_163 rfl ?_
    refine o_ldc2 X28 f0_164 (hw _ (List.mem_of_getElem? (i := 20) rfl)) ?_
    refine o_lcmp X28 f0_167 ?_
    refine o_bool_lif_ne X28 f0_168 f0_171 f0_172 f0_175 ?_
    refine o_icmp_ne_f X28 f0_176 (own_b _) ?_
    refine o_iconst 1 X28 f0_179 rfl ?_
    refine o_goto X28 f0_180 ?_
    refine o_istore X28 f0_184 (Ls' := #[_, _, _, _, _, _, _, _, _, _, _, _, _, _, _, _, _, _, _, _, _, _, _, _, _, _, _]) rfl ?_
    refine o_lload X28 f0_186 rfl ?_
    refine o_ldc2 X28 f0_188 (hw _ (List.mem_of_getElem? (i := 21) rfl)) ?_
    refine o_lcmp X28 f0_191 ?_
    refine o_lif_ne_f X28 f0_192 (own_v1) ?_
    refine o_lload X28 f0_195 rfl ?_
    refine o_ldc2 X28 f0_197 (hw _ (List.mem_of_getElem? (i := 22) rfl)) ?_
    refine o_lcmp X28 f0_200 ?_
    refine o_lif_ne_f X28 f0_201 (own_v2) ?_
    refine o_iconst 1 X28 f0_204 rfl ?_
    refine o_goto X28 f0_205 ?_
    refine o_istore X28 f0_209 (Ls' := #[_, _, _, _, _, _, _, _, _, _, _, _, _, _, _, _, _, _, _, _, _, _, _, _, _, _, _]) rfl ?_
    refine o_iload X28 f0_211 rfl ?_
    refine o_if_eq_f X28 f0_213 (by decide) ?_
    refine o_iload X28 f0_216 rfl ?_
    refine o_if_eq_f X28 f0_218 (by decide) ?_
    refine o_iload X28 f0_221 rfl ?_
    refine o_if_eq_f X28 f0_223 (by decide) ?_
    refine o_iload X28 f0_226 rfl ?_
    refine o_if_eq_f X28 f0_228 (by decide) ?_
    refine o_iconst 1 X28 f0_231 rfl ?_
    refine o_goto X28 f0_232 ?_
    refine o_retZ X28 f0_236 (by decide) (by decide) ?_
    rfl
set_option maxRecDepth 65536 in
set_option maxHeartbeats 40000000 in
theorem comes_1 {Post : Tables → Env → Array Value → State → Outcome → State → Prop} (hpost : ∀ tb e args s v u, (limb_1_1.after args s (.returned v) u = true ∧ limb_1_2.after args s (.returned v) u = true ∧ True) → FrameEnd s (.returned v) u (Jvm.fieldLocs frame_1_writes args s ++ Jvm.arrayLocs frame_1_arrays args s ++ Jvm.staticLocs frame_1_statics s) 16 128 → Post tb e args s (.returned v) u) :
    ArmFor flags0 classFile x code maxLocals ret World_1 tables_1 room_1 Calls_1 rest_1 Pre_1 Post := by
  intro l hfl _ _ p e ha hc hk s m args below hf hA hF happ hP
  obtain ⟨hcalls, hrest, hpre⟩ := hP
  obtain ⟨-, -, -, hnamed, -, -, -, hat⟩ := (Spec.applies_iff hf).mp happ
  obtain ⟨hg, hn⟩ := and_e (Cond.before_iff.mp (show (Jvm.Cond.and given_1 narrow_1).before args s = true from hpre))
  obtain ⟨g0, r0⟩ := and_e hg
  obtain ⟨p0, r1⟩ := and_e r0
  obtain ⟨p1, r2⟩ := and_e r1
  obtain ⟨w0, w1, w2, rfl⟩ : ∃ w0 w1 w2 : Value, args = #[w0, w1, w2] := by
    have hs : args.size = 3 := by simpa [Cond.value, given_1] using g0
    obtain ⟨L⟩ := args
    match L, hs with
    | [w0, w1, w2], _ => exact ⟨w0, w1, w2, rfl⟩
  have hw := fun d (hd : d ∈ tables_1) => atoms_spec (ws := Jvm.Cond.code x code maxLocals ret :: tables_1) hat d (List.mem_cons_of_mem _ hd)
  obtain ⟨i0, e0⟩ := isL_v p0
  obtain rfl : w0 = (.long i0) := Option.some.inj e0
  obtain ⟨i1, e1⟩ := isL_v p1
  obtain rfl : w1 = (.long i1) := Option.some.inj e1
  obtain ⟨i2, e2⟩ := is_v r2
  obtain rfl : w2 = (.int i2) := Option.some.inj e2
  obtain ⟨n, o, h1, h2, h3, _, L, rfl, ⟨rfl, N⟩, hq⟩ := rm0 l s _ hw i0 i1 i2 s.heap s.heap.size (Nat.le_refl _) p e ha hc hk s m _ below hf ((Spec.applies_iff_loose hf).mp happ).1 ⟨rfl, State.Warmed39.refl s, rfl⟩ trivial
  refine ⟨n, _, h1, h2, h3, hpost _ _ _ _ _ _ ⟨Cond.after_iff.mpr rfl, Cond.after_iff.mpr (eq_i res_at (Term.int_eval (1)) rfl), trivial⟩ ⟨hq.1, hq.2.1, (hq.2.2.sift fun y hy => Or.inr (N y hy)).mono (by decide) (by decide)⟩⟩
theorem main_1_1 : Claimed_1_1 := comes_1 fun _ _ _ _ _ _ h hF => ⟨h.1, hF⟩
theorem main_1_2 : Claimed_1_2 := comes_1 fun _ _ _ _ _ _ h hF => ⟨h.2.1, hF⟩
end Jvm.Pilot.@@N@@
namespace Jvm.Pilot.@@N@@
open Jvm Jvm.ClassFile Sem Op Lib Jvm.Free Jvm.Stand Jvm.Pilot.@@N@@.Jvm.D
/-! MADE BY PROGRAM (witnessworld.py) out of the Statement's table words and the real class files: 9 classes; the members and pool entries that the words name. The judged class is class 1, her method 1. -/
namespace start1
open Jvm.ClassFile
def u (s : String) : CpInfo := .utf8 (stringToUtf16 s)
/-- a pool by its gaps: so many unusable entries, then the entry; so many at the end -/
def gap : Nat → List CpInfo → List CpInfo
  | 0, r => r
  | n + 1, r => .unusable :: gap n r
def poolList (es : List (Nat × CpInfo)) (last : Nat) : List CpInfo := es.foldr (fun e r => gap e.1 (e.2 :: r)) (gap last [])
def pool (es : List (Nat × CpInfo)) (last : Nat) : Array CpInfo := ⟨poolList es last⟩
def fileOf (pool : Array CpInfo) (this : Nat) (attrs : Array Attribute := #[]) (ms : Array MethodInfo := #[]) (fl : Nat := 33) (sup : Nat := 0) (ifs : Array Nat := #[]) (fds : Array FieldInfo := #[]) : ClassFile where
  minorVersion := 0
  majorVersion := 65
  constantPool := pool
  accessFlags := fl
  thisClass := this
  superClass := sup
  interfaces := ifs
  fields := fds
  methods := ms
  attributes := attrs
def plain (name : String) (sup : Option ClassId) : Class where
  name := name
  kind := .ordinary
  loader := none
  accessFlags := 33
  super := sup
  interfaces := #[]
  cf := none
  fields := #[]
  methods := #[]
  instanceTypes := #[]
  staticTypes := #[]
  resolved := #[]
  callSites := []
  init := .initialized
  statics := none
  mirror := none

def pool0 : Array CpInfo := pool [(5, u "<init>"), (0, u "()V"), (1, .class_ 10), (1, u "java/lang/Object")] 113

def k0c0 : Code := { maxStack := 0, maxLocals := 1, code := object_method_1_code, exceptionTable := #[], attributes := #[] }
def k0m0 : Method := { name := "<init>", desc := "()V", sig := { parameters := [], returnType := none }, accessFlags := 1, code := some k0c0 }
/-- java/lang/Object -/
def k0 : Class := { plain "java/lang/Object" none with
  accessFlags := 33
  interfaces := #[]
  cf := some (fileOf pool0 8 #[] #[{ accessFlags := 1, nameIndex := 5, descriptorIndex := 6, attributes := #[] }] 33 0 #[] #[])
  fields := #[]
  methods := #[k0m0]
  instanceTypes := #[]
  staticTypes := #[]
  resolved := Array.replicate 124 none
  statics := none }

def pool1 : Array CpInfo := pool [(2, .class_ 4), (1, u "java/lang/Object"), (0, u "<init>"), (0, u "()V"), (0, .class_ 8), (0, u "com/example/underboss/underboss/SeededRandom"), (0, .methodref 7 10), (0, .nameAndType 5 11), (0, u "(J)V"), (0, .long 11400714819323198485), (1, .methodref 7 15), (0, .nameAndType 16 17), (0, u "nextLong"), (0, u "()J"), (0, .long 7046029254386353131), (1, .long 16294208416658607535), (1, .long 7960286522194355700), (1, .class_ 25), (0, u "com/example/underboss/underboss/SeededRandomNextLongPinLaw"), (2, u "law"), (0, u "(JJI)Z")] 3

def k1m0 : Method := { name := "<init>", desc := "()V", sig := { parameters := [], returnType := none }, accessFlags := 2, code := none }
def k1c1 : Code := { maxStack := 6, maxLocals := 27, code := code, exceptionTable := #[], attributes := #[] }
def k1m1 : Method := { name := "law", desc := "(JJI)Z", sig := { parameters := [.long, .long, .int], returnType := some .boolean }, accessFlags := 9, code := some k1c1 }
/-- com/example/underboss/underboss/SeededRandomNextLongPinLaw -/
def k1 : Class := { plain "com/example/underboss/underboss/SeededRandomNextLongPinLaw" (some 0) with
  accessFlags := 49
  interfaces := #[]
  cf := some (fileOf pool1 24 #[] #[{ accessFlags := 2, nameIndex := 5, descriptorIndex := 6, attributes := #[] }, { accessFlags := 9, nameIndex := 28, descriptorIndex := 29, attributes := #[] }] 49 2 #[] #[])
  fields := #[]
  methods := #[k1m0, k1m1]
  instanceTypes := #[]
  staticTypes := #[]
  resolved := Array.replicate 33 none
  statics := none }

def pool2 : Array CpInfo := pool [(1, .methodref 2 3), (0, .class_ 4), (0, .nameAndType 5 6), (0, u "java/lang/Object"), (0, u "<init>"), (0, u "()V"), (0, .fieldref 8 9), (0, .class_ 10), (0, .nameAndType 11 12), (0, u "com/example/underboss/underboss/SeededRandom"), (0, u "state"), (0, u "J"), (0, .long 11400714819323198485), (1, .long 13787848793156543929), (1, .long 10723151780598845931), (5, u "nextLong"), (0, u "()J"), (0, u "GAMMA"), (1, u "RANGE"), (0, u "(J)V")] 7

def k2c0 : Code := { maxStack := 3, maxLocals := 3, code := prog_5_method_1_code, exceptionTable := #[], attributes := #[] }
def k2m0 : Method := { name := "<init>", desc := "(J)V", sig := { parameters := [.long], returnType := none }, accessFlags := 0, code := some k2c0 }
def k2c1 : Code := { maxStack := 5, maxLocals := 3, code := prog_5_method_2_code, exceptionTable := #[], attributes := #[] }
def k2m1 : Method := { name := "nextLong", desc := "()J", sig := { parameters := [], returnType := some .long }, accessFlags := 0, code := some k2c1 }
/-- com/example/underboss/underboss/SeededRandom -/
def k2 : Class := { plain "com/example/underboss/underboss/SeededRandom" (some 0) with
  accessFlags := 48
  interfaces := #[]
  cf := some (fileOf pool2 8 #[] #[{ accessFlags := 0, nameIndex := 5, descriptorIndex := 28, attributes := #[] }, { accessFlags := 0, nameIndex := 23, descriptorIndex := 24, attributes := #[] }] 48 2 #[] #[{ accessFlags := 26, nameIndex := 25, descriptorIndex := 12, attributes := #[] }, { accessFlags := 26, nameIndex := 27, descriptorIndex := 12, attributes := #[] }, { accessFlags := 2, nameIndex := 11, descriptorIndex := 12, attributes := #[] }])
  fields := #[{ name := "GAMMA", type := .long, accessFlags := 26, slot := 0, constantValue := 0 }, { name := "RANGE", type := .long, accessFlags := 26, slot := 1, constantValue := 0 }, { name := "state", type := .long, accessFlags := 2, slot := 0, constantValue := 0 }]
  methods := #[k2m0, k2m1]
  instanceTypes := #[.long]
  staticTypes := #[.long, .long]
  resolved := Array.replicate 36 none
  statics := none }

def pool3 : Array CpInfo := pool [(1, u "java/lang/Cloneable"), (0, .class_ 1), (0, u "java/lang/Object"), (0, .class_ 3)] 3

/-- java/lang/Cloneable -/
def k3 : Class := { plain "java/lang/Cloneable" (some 0) with
  accessFlags := 1537
  interfaces := #[]
  cf := some (fileOf pool3 2 #[] #[] 1537 4 #[] #[])
  fields := #[]
  methods := #[]
  instanceTypes := #[]
  staticTypes := #[]
  resolved := Array.replicate 8 none
  statics := none }

def pool4 : Array CpInfo := pool [(1, u "java/io/Serializable"), (0, .class_ 1), (0, u "java/lang/Object"), (0, .class_ 3)] 3

/-- java/io/Serializable -/
def k4 : Class := { plain "java/io/Serializable" (some 0) with
  accessFlags := 1537
  interfaces := #[]
  cf := some (fileOf pool4 2 #[] #[] 1537 4 #[] #[])
  fields := #[]
  methods := #[]
  instanceTypes := #[]
  staticTypes := #[]
  resolved := Array.replicate 8 none
  statics := none }

/-- the primitive byte -/
def k5 : Class := { plain "byte" none with kind := .primitive 'B', accessFlags := 0x411 }
/-- [B -/
def k6 : Class := { plain "[B" (some 0) with kind := .array 5 .byte, interfaces := #[3, 4], accessFlags := 1041 }

/-- the primitive int -/
def k7 : Class := { plain "int" none with kind := .primitive 'I', accessFlags := 0x411 }
/-- [I -/
def k8 : Class := { plain "[I" (some 0) with kind := .array 7 .int, interfaces := #[3, 4], accessFlags := 1041 }

def heap : Heap := #[]
def classes : Array Class := #[k0, k1, k2, k3, k4, k5, k6, k7, k8]
def interned : List (Array UInt16 × Addr) := []
def slotsUsed : Nat := 0
def theMethod : MethodId := ⟨1, 1⟩
def args0 : Array Value := #[.long 5, .long 6, .int 7]
def aboutOver (below : List Frame) : State where
  vm := { classes := classes, interned := interned.toArray }
  heap := heap
  slotsUsed := slotsUsed
  threads := #[{ frames := .invoking theMethod args0 :: below }]
def below0 : List Frame := [.native { method := ⟨0, 0⟩, args := #[] }]
def about1 : State := aboutOver below0
def p0 : Program := .bare "" "" ""
def e0 : Env := launch0.env 0 0 0
theorem w_frames : about1.frames = Frame.invoking theMethod args0 :: below0 := rfl
set_option maxRecDepth 65536 in
theorem w_args : argsFit about1.vm theMethod args0 = true := by decide +kernel
set_option maxRecDepth 65536 in
theorem w_heap : heapFits about1 = true := by decide +kernel
set_option maxRecDepth 65536 in
theorem w_runnable : about1.curStatus? = some .runnable := by decide +kernel
set_option maxRecDepth 65536 in
theorem w_alone : about1.alone = true := by decide +kernel
set_option maxRecDepth 65536 in
theorem w_named : about1.methodNamed? x = some theMethod := by decide +kernel
set_option maxRecDepth 65536 in
theorem w_hears : about1.hears theMethod below0 = true := by decide +kernel
set_option maxRecDepth 65536 in
theorem w_ripe : about1.ripe theMethod args0 below0 = true := by decide +kernel
theorem w_running : about1.status = .running := rfl
set_option maxRecDepth 65536 in
theorem w_room : about1.hasRoom e0.platform room_1 = true :=
  launch0.hasRoom_least _ room_1 (by decide +kernel) (by decide +kernel) (by decide +kernel) (by decide +kernel) (by decide +kernel) (by decide +kernel)
theorem allAtoms_all (ts : List Jvm.Cond) (a : Array Jvm.Value) (st : Jvm.State) : (allAtoms ts).before a st = ts.all (fun c => c.before a st) := by
  induction ts with
  | nil => rfl
  | cons c t ih =>
    show (Jvm.Cond.and c (allAtoms t)).before a st = _
    rw [Jvm.Cond.before_and, ih, List.all_cons]
def words1 : List Jvm.Cond := Jvm.Cond.code x code maxLocals ret :: tables_1
/-- a 'code' word, met by the world's own term for the bytes: nothing is compared byte by byte -/
theorem code_word {y : MethodName} {bytes : ByteArray} {mx : Nat} {rt : Option FieldType} {a : Array Value} {s : State} {m : MethodId} {meth : Method} {c : Code} (h1 : s.methodNamed? y = some m) (h2 : s.vm.method? m = some meth) (h3 : meth.code = some c) (h4 : c.code = bytes)
    (h5 : (c.maxLocals == mx && c.exceptionTable.isEmpty && decide (c.maxStack ≤ mostOperands) && decide (meth.sig.returnType = rt) && !meth.locks && decide (parseMethodDescriptor y.desc = some meth.sig)) = true) : (Jvm.Cond.code y bytes mx rt).before a s = true := by
  simp only [Bool.and_eq_true, beq_iff_eq, Bool.not_eq_true', decide_eq_true_eq] at h5
  obtain ⟨⟨⟨⟨⟨g1, g2⟩, g3⟩, g4⟩, g5⟩, g6⟩ := h5
  simp [Cond.before, Cond.holds, Cond.value, h1, h2, h3, h4, g1, g2, g3, g4, g5, g6]
def isCode : Jvm.Cond → Bool
  | .code _ _ _ _ => true
  | _ => false
theorem all_split {L : List Jvm.Cond} {P : Jvm.Cond → Bool} (h1 : L.all (fun c => isCode c || P c) = true) (h2 : ∀ c ∈ L.filter isCode, P c = true) : L.all P = true := by
  refine List.all_eq_true.mpr fun c hc => ?_
  have h := List.all_eq_true.mp h1 c hc
  rcases Bool.eq_false_or_eq_true (isCode c) with hi | hi
  · exact h2 c (List.mem_filter.mpr ⟨hc, hi⟩)
  · simpa [hi] using h
set_option maxRecDepth 65536 in
theorem w_c0 : (Jvm.Cond.code x code maxLocals ret).before args0 about1 = true := code_word (m := ⟨1, 1⟩) (meth := k1m1) (c := k1c1) (by decide +kernel) rfl rfl rfl (by decide +kernel)
set_option maxRecDepth 65536 in
theorem w_c1 : (Jvm.Cond.code ({ cls := "com/example/underboss/underboss/SeededRandom", name := "<init>", desc := "(J)V" } : Jvm.MethodName) prog_5_method_1_code (3 : Nat) (Option.none : Option Jvm.ClassFile.FieldType)).before args0 about1 = true := code_word (m := ⟨2, 0⟩) (meth := k2m0) (c := k2c0) (by decide +kernel) rfl rfl rfl (by decide +kernel)
set_option maxRecDepth 65536 in
theorem w_c2 : (Jvm.Cond.code ({ cls := "java/lang/Object", name := "<init>", desc := "()V" } : Jvm.MethodName) object_method_1_code (1 : Nat) (Option.none : Option Jvm.ClassFile.FieldType)).before args0 about1 = true := code_word (m := ⟨0, 0⟩) (meth := k0m0) (c := k0c0) (by decide +kernel) rfl rfl rfl (by decide +kernel)
set_option maxRecDepth 65536 in
theorem w_c3 : (Jvm.Cond.code ({ cls := "com/example/underboss/underboss/SeededRandom", name := "nextLong", desc := "()J" } : Jvm.MethodName) prog_5_method_2_code (3 : Nat) (Option.some Jvm.ClassFile.FieldType.long)).before args0 about1 = true := code_word (m := ⟨2, 1⟩) (meth := k2m1) (c := k2c1) (by decide +kernel) rfl rfl rfl (by decide +kernel)
def codes1 : List Jvm.Cond := [Jvm.Cond.code x code maxLocals ret, Jvm.Cond.code ({ cls := "com/example/underboss/underboss/SeededRandom", name := "<init>", desc := "(J)V" } : Jvm.MethodName) prog_5_method_1_code (3 : Nat) (Option.none : Option Jvm.ClassFile.FieldType), Jvm.Cond.code ({ cls := "java/lang/Object", name := "<init>", desc := "()V" } : Jvm.MethodName) object_method_1_code (1 : Nat) (Option.none : Option Jvm.ClassFile.FieldType), Jvm.Cond.code ({ cls := "com/example/underboss/underboss/SeededRandom", name := "nextLong", desc := "()J" } : Jvm.MethodName) prog_5_method_2_code (3 : Nat) (Option.some Jvm.ClassFile.FieldType.long)]
set_option maxRecDepth 65536 in
theorem codes_eq : words1.filter isCode = codes1 := rfl
theorem w_codes : ∀ c ∈ words1.filter isCode, c.before args0 about1 = true := by
  rw [codes_eq]
  intro c hc
  simp only [codes1, List.mem_cons, List.not_mem_nil, or_false] at hc
  rcases hc with rfl | rfl | rfl | rfl
  · exact w_c0
  · exact w_c1
  · exact w_c2
  · exact w_c3
set_option maxRecDepth 65536 in
theorem w_t1 : words1.all (fun c => isCode c || c.before args0 about1) = true := by decide +kernel
theorem w_tables : (allAtoms (Jvm.Cond.code x code maxLocals ret :: tables_1)).before args0 about1 = true := by
  rw [allAtoms_all]
  show words1.all (fun c => c.before args0 about1) = true
  refine all_split ?_ w_codes
  rw [w_t1]
set_option maxRecDepth 65536 in
theorem w_case : (Jvm.Cond.and given_1 narrow_1).before args0 about1 = true := by decide +kernel
theorem w_applies : (headSpec (Jvm.Cond.code x code maxLocals ret :: tables_1) room_1).applies x e0.platform about1 = true :=
  (Spec.applies_iff w_frames).mpr ⟨w_running, w_runnable, w_alone, w_named, w_hears, w_ripe, w_room, w_tables⟩
theorem atStart : AtStart classFile x code maxLocals ret World_1 tables_1 room_1 Calls_1 rest_1 Pre_1 launch0 p0 e0 about1 theMethod args0 below0 :=
  ⟨lists_1, trivial, launch0.admits_env _ _ _, launch0.least_env, fairChoices_fair.cas, fairChoices_fair.clock, w_frames, w_args, w_heap, w_applies, trivial, trivial, w_case⟩
end start1
theorem witness_1 : WitnessClaimed_1 := ⟨start1.p0, start1.e0, start1.about1, start1.theMethod, start1.args0, start1.below0, start1.atStart⟩
end Jvm.Pilot.@@N@@
